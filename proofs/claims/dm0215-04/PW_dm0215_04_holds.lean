import PyProof.Rows.All
import Wide.All
import OpenK.AllK
import Wide.FinOn
import PySem.Challenge.RW_dm0215_04
set_option Elab.async false
set_option maxRecDepth 100000
set_option maxHeartbeats 8000000
set_option autoImplicit false
set_option linter.all false
set_option genInjectivity false
set_option genSizeOf false
set_option genSizeOfSpec false

namespace Mine
open PySem PySem.W PySem.Calls PyProof.Rows
inductive V where
  | none
  | bool (b : Bool)
  | int (i : Int)
  | str (cs : List Nat)
  | ref (i : Nat)
  | stat (v : Value)
inductive At where
  | lineno | instream | whitespace | pushback | read
  deriving DecidableEq
noncomputable def At.name : At → Str
  | .lineno => "lineno"
  | .instream => "instream"
  | .whitespace => "whitespace"
  | .pushback => "pushback"
  | .read => "read"
inductive Mt where
  | init | readChar | getToken | pushToken
noncomputable def Mt.name : Mt → Str
  | .init => "__init__"
  | .readChar => "_read_char"
  | .getToken => "get_token"
  | .pushToken => "push_token"
inductive O where
  | list (xs : List V)
  | tup (xs : List V)
  | inst (d : Nat)
  | dct (fs : List (At × V))
  | cell (v : Option V)
  | meth (f self : V)
  | citer (f s : V) (done : Bool)
  | fn (fid : Nat) (cs : List (Str × Nat)) (c : Nat)
  | code (q : Str)
  | tab (P : Addr) (e : Option (Pos × Nat))
  | rng (lo hi : Int)
  | any
structure FnI where
  name : Str
  qual : Str
  params : Arguments
  body : List Stmt
  scope : Scope
structure Stat where
  prog : Program
  w : World
  K : Frag
  p : Program
  loose : List Str
  mean : ExcName → Option Value
  mg : Str → Option Value
  mb : Str → Option Value
  tabs : List (Addr × Addr)
  codes : List (List (Str × NameKind) × Addr × Str)
  C : Addr
  mf : Mt → Addr
  fn : Nat → FnI
  scr : Addr
  ns : List Int
inductive All2 {α β : Type} (P : α → β → Prop) : List α → List β → Prop
  | nil : All2 P [] []
  | cons {a b as bs} : P a b → All2 P as bs → All2 P (a :: as) (b :: bs)
namespace All2
variable {α β : Type} {P Q : α → β → Prop}
theorem length {as : List α} {bs : List β} (h : All2 P as bs) : as.length = bs.length := by
  induction h with
  | nil => rfl
  | cons _ _ ih => simp [ih]
theorem imp {as : List α} {bs : List β} (h : All2 P as bs) (f : ∀ a b, P a b → Q a b) : All2 Q as bs := by
  induction h with
  | nil => exact .nil
  | cons h _ ih => exact .cons (f _ _ h) ih
theorem get {as : List α} {bs : List β} (h : All2 P as bs) : ∀ {i : Nat} {a : α}, as[i]? = some a → ∃ b, bs[i]? = some b ∧ P a b := by
  induction h with
  | nil => intro i a e; simp at e
  | cons h _ ih =>
    intro i a e
    cases i with
    | zero => simp at e; subst e; exact ⟨_, rfl, h⟩
    | succ i => simp at e; simpa using ih e
theorem get' {as : List α} {bs : List β} (h : All2 P as bs) : ∀ {i : Nat} {b : β}, bs[i]? = some b → ∃ a, as[i]? = some a ∧ P a b := by
  induction h with
  | nil => intro i a e; simp at e
  | cons h _ ih =>
    intro i a e
    cases i with
    | zero => simp at e; subst e; exact ⟨_, rfl, h⟩
    | succ i => simp at e; simpa using ih e
theorem append {as as' : List α} {bs bs' : List β} (h : All2 P as bs) (h' : All2 P as' bs') : All2 P (as ++ as') (bs ++ bs') := by
  induction h with
  | nil => exact h'
  | cons h _ ih => exact .cons h ih
theorem set {as : List α} {bs : List β} (h : All2 P as bs) {a b} (hab : P a b) : ∀ i, All2 P (as.set i a) (bs.set i b) := by
  induction h with
  | nil => intro i; exact .nil
  | cons h h' ih =>
    intro i
    cases i with
    | zero => exact .cons hab h'
    | succ i => exact .cons h (ih i)
theorem take {as : List α} {bs : List β} (h : All2 P as bs) : ∀ i, All2 P (as.take i) (bs.take i) := by
  induction h with
  | nil => intro i; simpa using All2.nil
  | cons h h' ih =>
    intro i
    cases i with
    | zero => simpa using All2.nil
    | succ i => simpa using All2.cons h (ih i)
theorem drop {as : List α} {bs : List β} (h : All2 P as bs) : ∀ i, All2 P (as.drop i) (bs.drop i) := by
  induction h with
  | nil => intro i; simpa using All2.nil
  | cons h h' ih =>
    intro i
    cases i with
    | zero => simpa using All2.cons h h'
    | succ i => simpa using ih i
end All2
noncomputable def VR (ρ : List Addr) : V → Value → Prop
  | .none, v => v = .none
  | .bool b, v => v = .bool b
  | .int i, v => ∃ t, v = .int i t
  | .str cs, v => ∃ t, v = .str ⟨cs.toArray⟩ t
  | .ref i, v => ∃ a, ρ[i]? = some a ∧ v = .ref a
  | .stat x, v => v = x
theorem VR.i {ρ : List Addr} {i : Int} {t : Tok} : VR ρ (.int i) (.int i t) := ⟨t, rfl⟩
theorem VR.s {ρ : List Addr} {cs : List Nat} {t : Tok} : VR ρ (.str cs) (.str ⟨cs.toArray⟩ t) := ⟨t, rfl⟩
theorem VR.b {ρ : List Addr} {b : Bool} : VR ρ (.bool b) (.bool b) := rfl
theorem VR.n {ρ : List Addr} : VR ρ .none .none := rfl
theorem VR.st {ρ : List Addr} {v : Value} : VR ρ (.stat v) v := rfl
noncomputable abbrev VRs (ρ : List Addr) : List V → List Value → Prop := All2 (VR ρ)
noncomputable def FR (ρ : List Addr) (f : At × V) (e : DictEntry) : Prop := ∃ h t v', e = ⟨h, .str f.1.name t, v'⟩ ∧ VR ρ f.2 v'
noncomputable def OR (G : Stat) (ρ : List Addr) (at_ : Addr) : O → Obj → Prop
  | .list xs, o => ∃ vs n, o = listOf (List.toArray vs) n ∧ VRs ρ xs vs
  | .tup xs, o => ∃ vs n, o = ({ cls := .type "tuple", data := .seq (List.toArray vs) n } : Obj) ∧ VRs ρ xs vs
  | .inst d, o => ∃ dx, o = instObj G.C dx ∧ ρ[d]? = some dx
  | .dct fs, o => ∃ es n, o = dictOf es n ∧ All2 (FR ρ) fs es
  | .cell v, o => (match v with
      | none => o.data = .cell none
      | some v => ∃ v', o.data = .cell (some v') ∧ VR ρ v v')
  | .meth f x, o => ∃ f' x', o = methodObj f' x' ∧ VR ρ f f' ∧ VR ρ x x'
  | .citer f x d, o => if d then o = ({ cls := .type "callable_iterator", data := .fields #[.none, .none, .bool true] } : Obj)
      else ∃ f' x', o = ({ cls := .type "callable_iterator", data := .fields #[f', x', .bool false] } : Obj) ∧ VR ρ f f' ∧ VR ρ x x'
  | .fn fid cs c, o => ∃ clos doc pm cv ctv, o = fnMade (G.fn fid).name (G.fn fid).qual (G.fn fid).params (G.fn fid).body (G.fn fid).scope clos doc pm cv ctv ∧
      ρ[c]? = some cv ∧ All2 (fun (p : Str × Nat) (q : Str × Addr) => p.1 = q.1 ∧ ρ[p.2]? = some q.2) cs clos
  | .code q, o => ∃ vs t, o.data = .fields vs ∧ vs[1]? = some (.str q t)
  | .tab P e, o => at_ = P ∧ (match e with
      | none => o = tabObj #[]
      | some (p, c) => ∃ cv, o = tabObj #[rawInt p.line, rawInt p.col, .ref cv] ∧ ρ[c]? = some cv)
  | .any, _ => True
  | .rng lo hi, o => ∃ t u v, o = ({ cls := .type "range", data := .fields #[.int lo t, .int hi u, .int 1 v] } : Obj)
theorem pre_get {ρ ρ' : List Addr} (h : ρ <+: ρ') {i : Nat} {a : Addr} (e : ρ[i]? = some a) : ρ'[i]? = some a := by
  obtain ⟨t, rfl⟩ := h
  have hi : i < ρ.length := (List.getElem?_eq_some_iff.mp e).1
  rw [List.getElem?_append_left hi]; exact e
theorem VR.mono {ρ ρ' : List Addr} (h : ρ <+: ρ') {v : V} {v' : Value} (e : VR ρ v v') : VR ρ' v v' := by
  cases v <;> try exact e
  obtain ⟨a, h1, h2⟩ := e
  exact ⟨a, pre_get h h1, h2⟩
theorem VRs.mono {ρ ρ' : List Addr} (h : ρ <+: ρ') {v : List V} {v' : List Value} (e : VRs ρ v v') : VRs ρ' v v' := e.imp fun _ _ => VR.mono h
theorem OR.mono {G : Stat} {ρ ρ' : List Addr} (h : ρ <+: ρ') {a : Addr} {v : O} {o : Obj} (e : OR G ρ a v o) : OR G ρ' a v o := by
  cases v with
  | list xs => obtain ⟨vs, n, h1, h2⟩ := e; exact ⟨vs, n, h1, h2.mono h⟩
  | tup xs => obtain ⟨vs, n, h1, h2⟩ := e; exact ⟨vs, n, h1, h2.mono h⟩
  | inst d => obtain ⟨dx, h1, h2⟩ := e; exact ⟨dx, h1, pre_get h h2⟩
  | dct fs => obtain ⟨es, n, h1, h2⟩ := e; exact ⟨es, n, h1, h2.imp fun _ _ ⟨a, b, c, e1, e2⟩ => ⟨a, b, c, e1, e2.mono h⟩⟩
  | cell v => cases v with
    | none => exact e
    | some v => obtain ⟨v', h1, h2⟩ := e; exact ⟨v', h1, h2.mono h⟩
  | meth f x => obtain ⟨f', x', h1, h2, h3⟩ := e; exact ⟨f', x', h1, h2.mono h, h3.mono h⟩
  | citer f x d => cases d with
    | true => exact e
    | false => obtain ⟨f', x', h1, h2, h3⟩ := e; exact ⟨f', x', h1, h2.mono h, h3.mono h⟩
  | fn fid cs c => obtain ⟨a1, a2, a3, a4, a5, h1, h2, h3⟩ := e; exact ⟨a1, a2, a3, a4, a5, h1, pre_get h h2, h3.imp fun _ _ ⟨u, v⟩ => ⟨u, pre_get h v⟩⟩
  | code q => exact e
  | tab P e' => cases e' with
    | none => exact e
    | some p => obtain ⟨h0, cv, h1, h2⟩ := e; exact ⟨h0, cv, h1, pre_get h h2⟩
  | rng lo hi => exact e
  | any => exact trivial
structure St where
  loc : List (Option V)
  hp : List O
structure Cx where
  env : Env
  A : Around
  h₀ : Heap
  pin : List (Addr × Obj) := []
noncomputable def LocR (ρ : List Addr) (names : List (Str × NameKind)) (loc : List (Option V)) (m : Str → Option Value) : Prop :=
  ∀ (i : Nat) (x : Str) (v : V), names[i]? = some (x, NameKind.local) → loc[i]? = some (some v) → ∃ v', m x = some v' ∧ VR ρ v v'
structure R (G : Stat) (cx : Cx) (ρ : List Addr) (σ : St) (h : Heap) : Prop where
  fr : ∃ m, Fr cx.h₀ cx.env.locals h m ∧ LocR ρ cx.env.scope.names σ.loc m
  nd : ρ.Nodup
  len : ρ.length = σ.hp.length
  own : ∀ (i : Nat) (a : Addr) (ao : O), ρ[i]? = some a → σ.hp[i]? = some ao → a ≠ cx.env.locals ∧ cx.h₀.get? a = none ∧ ∃ o, h.get? a = some o ∧ OR G ρ a ao o
  pin : ∀ p ∈ cx.pin, h.get? p.1 = some p.2 ∧ p.1 ∉ ρ ∧ p.1 ≠ cx.env.locals ∧ cx.h₀.get? p.1 = none
structure Stat.Ok (G : Stat) (h : Heap) : Prop where
  X : G.K.In h
  T : Top G.p G.loose G.mean G.mg G.mb h
  C : CodeAll G.tabs h
  S : ∃ vs, h.IsList G.scr (List.toArray vs) ∧ IntsAre vs G.ns
theorem CodeAll.keeps {h h' : Heap} (k : ∀ b o, h.get? b = some o → h'.get? b = some o) : ∀ {tabs : List (Addr × Addr)}, CodeAll tabs h → CodeAll tabs h'
  | [], _ => trivial
  | _ :: _, ⟨a, b⟩ => ⟨a.keeps k, CodeAll.keeps k b⟩
theorem Stat.Ok.keeps {G : Stat} {h h' : Heap} (x : G.Ok h) (k : ∀ b o, h.get? b = some o → h'.get? b = some o) : G.Ok h' where
  X := x.X.keeps k
  T := x.T.keeps k
  C := CodeAll.keeps k x.C
  S := let ⟨vs, a, b⟩ := x.S; ⟨vs, a.at fun o e => k _ o e, b⟩
structure CxOk (G : Stat) (cx : Cx) (n : Nat) (names : List (Str × NameKind)) : Prop where
  ok : G.Ok cx.h₀
  names : cx.env.scope.names = names
  kind : cx.env.scope.kind = .function
  glob : cx.env.globals = mainGlobals
  bi : cx.env.builtins = builtinsNs
  cq : ∀ t ∈ G.codes, t.1 = cx.env.scope.names → cx.env.code = .ref t.2.1 ∧ cx.env.qual = t.2.2
  hd : cx.A.handled = none
  dep : cx.A.depth + 4 * n ≤ 990
  uni : cx.A.units + 20 * n ≤ 9000
noncomputable def Stp (s s' : Shared) : Prop := ∃ h tk, s' = { s with heap := h, toks := tk }
theorem Stp.refl (s : Shared) : Stp s s := ⟨s.heap, s.toks, rfl⟩
theorem Stp.trans {a b c : Shared} (x : Stp a b) (y : Stp b c) : Stp a c := by
  obtain ⟨h, t, rfl⟩ := x
  obtain ⟨h', t', rfl⟩ := y
  exact ⟨h', t', rfl⟩
theorem Stp.of {s : Shared} {h : Heap} {t : Nat} : Stp s { s with heap := h, toks := t } := ⟨h, t, rfl⟩
section
variable {G : Stat} {cx : Cx} {ρ : List Addr} {σ : St} {h h' : Heap}
theorem R.keep (r : R G cx ρ σ h) : ∀ b o, cx.h₀.get? b = some o → h.get? b = some o := let ⟨_, F, _⟩ := r.fr; F.keep
theorem R.at {i : Nat} {ao : O} (r : R G cx ρ σ h) (e : σ.hp[i]? = some ao) : ∃ a o, ρ[i]? = some a ∧ h.get? a = some o ∧ OR G ρ a ao o ∧ a ≠ cx.env.locals ∧ cx.h₀.get? a = none := by
  have hi : i < ρ.length := by rw [r.len]; exact (List.getElem?_eq_some_iff.mp e).1
  obtain ⟨h1, h2, o, h3, h4⟩ := r.own i ρ[i] ao (List.getElem?_eq_getElem hi) e
  exact ⟨_, o, List.getElem?_eq_getElem hi, h3, h4, h1, h2⟩
theorem R.own' (r : R G cx ρ σ h) {i : Nat} {a : Addr} (e : ρ[i]? = some a) : ∃ ao o, σ.hp[i]? = some ao ∧ h.get? a = some o ∧ OR G ρ a ao o ∧ a ≠ cx.env.locals ∧ cx.h₀.get? a = none := by
  have hi : i < σ.hp.length := by rw [← r.len]; exact (List.getElem?_eq_some_iff.mp e).1
  obtain ⟨h1, h2, o, h3, h4⟩ := r.own i a _ e (List.getElem?_eq_getElem hi)
  exact ⟨_, o, List.getElem?_eq_getElem hi, h3, h4, h1, h2⟩
theorem R.lt (r : R G cx ρ σ h) {i : Nat} {a : Addr} (e : ρ[i]? = some a) : a < h.objs.size := by
  obtain ⟨_, o, _, ho, _⟩ := r.own' e
  exact Heap.lt_size ho
theorem R.llt (r : R G cx ρ σ h) : cx.env.locals < h.objs.size := let ⟨_, F, _⟩ := r.fr; F.ns.lt
theorem Fr.other {h₀ h h' : Heap} {L b : Addr} {m : Str → Option Value} (F : Fr h₀ L h m) (hb : b ≠ L) (hn : h₀.get? b = none) (hs : Heap.ExtBut b h h') : Fr h₀ L h' m := by
  refine ⟨F.ns.extBut hs (Ne.symm hb), fun c o e => hs c o (fun q => ?_) (F.keep c o e), F.above⟩
  rw [q, hn] at e; cases e
theorem R.ext {b : Addr} (r : R G cx ρ σ h) (hb : b ≠ cx.env.locals) (hn : cx.h₀.get? b = none) (hρ : b ∉ ρ) (hp : ∀ p ∈ cx.pin, p.1 ≠ b) (hs : Heap.ExtBut b h h') : R G cx ρ σ h' := by
  obtain ⟨m, F, hl⟩ := r.fr
  refine ⟨⟨m, Fr.other F hb hn hs, hl⟩, r.nd, r.len, fun i a ao e1 e2 => ?_, fun p h1 => ?_⟩
  · obtain ⟨h1, h2, o, h3, h4⟩ := r.own i a ao e1 e2
    exact ⟨h1, h2, o, hs a o (fun q => hρ (q ▸ List.mem_of_getElem? e1)) h3, h4⟩
  · exact ⟨hs _ _ (hp p h1) (r.pin p h1).1, (r.pin p h1).2⟩
theorem R.grow (r : R G cx ρ σ h) (hs : ∀ b o, h.get? b = some o → h'.get? b = some o) : R G cx ρ σ h' := by
  obtain ⟨m, F, hl⟩ := r.fr
  refine ⟨⟨m, ⟨F.ns.keeps hs, fun b o e => hs b o (F.keep b o e), F.above⟩, hl⟩, r.nd, r.len, fun i a ao e1 e2 => ?_, fun p h1 => ⟨hs _ _ (r.pin p h1).1, (r.pin p h1).2⟩⟩
  obtain ⟨h1, h2, o, h3, h4⟩ := r.own i a ao e1 e2
  exact ⟨h1, h2, o, hs a o h3, h4⟩
theorem R.push (r : R G cx ρ σ h) (o : Obj) : R G cx ρ σ (h.push o) := r.grow fun _ _ e => Heap.get?_push_of_some o e
theorem R.base_lt (r : R G cx ρ σ h) : cx.h₀.get? h.objs.size = none := by
  cases hq : cx.h₀.get? h.objs.size with
  | none => rfl
  | some o => exact absurd (Heap.lt_size (r.keep _ _ hq)) (Nat.lt_irrefl _)
theorem R.notin (r : R G cx ρ σ h) : h.objs.size ∉ ρ := fun q => by
  obtain ⟨i, e⟩ := List.getElem?_of_mem q
  exact absurd (r.lt e) (Nat.lt_irrefl _)
theorem LocR.mono {ρ ρ' : List Addr} {names loc m} (hp : ρ <+: ρ') (h : LocR ρ names loc m) : LocR ρ' names loc m :=
  fun i x v a b => let ⟨v', c, d⟩ := h i x v a b; ⟨v', c, d.mono hp⟩
theorem R.take {b : Addr} {o : Obj} {ao : O} (r : R G cx ρ σ h) (hb : b ≠ cx.env.locals) (hn : cx.h₀.get? b = none) (hρ : b ∉ ρ) (hpin : ∀ p ∈ cx.pin, p.1 ≠ b) (ho : h.get? b = some o) (hO : OR G (ρ ++ [b]) b ao o) :
    R G cx (ρ ++ [b]) { σ with hp := σ.hp ++ [ao] } h := by
  have hp : ρ <+: ρ ++ [b] := ⟨_, rfl⟩
  obtain ⟨m, F, hl⟩ := r.fr
  refine ⟨⟨m, F, hl.mono hp⟩, ?_, by simp [r.len], fun i a ao' e1 e2 => ?_, fun p h1 => ?_⟩
  · rw [List.nodup_append]
    exact ⟨r.nd, by simp, fun a ha c hc => by simp at hc; subst hc; exact fun q => hρ (q ▸ ha)⟩
  · by_cases hi : i < ρ.length
    · rw [List.getElem?_append_left hi] at e1
      rw [List.getElem?_append_left (by rw [← r.len]; exact hi)] at e2
      obtain ⟨h1, h2, o', h3, h4⟩ := r.own i a ao' e1 e2
      exact ⟨h1, h2, o', h3, h4.mono hp⟩
    · have : i = ρ.length := by
        have := (List.getElem?_eq_some_iff.mp e1).1
        simp at this; omega
      subst this
      simp at e1
      rw [r.len] at e2
      simp at e2
      subst e1; subst e2
      exact ⟨hb, hn, o, ho, hO⟩
  · have z := r.pin p h1
    exact ⟨z.1, by simp only [List.mem_append, List.mem_singleton, not_or]; exact ⟨z.2.1, hpin p h1⟩, z.2.2⟩
theorem R.pinlt (r : R G cx ρ σ h) : ∀ p ∈ cx.pin, p.1 ≠ h.objs.size := fun p hp => Nat.ne_of_lt (Heap.lt_size (r.pin p hp).1)
theorem R.alloc {o : Obj} {ao : O} (r : R G cx ρ σ h) (hO : OR G (ρ ++ [h.objs.size]) h.objs.size ao o) (hf : o.isFreed = false) :
    R G cx (ρ ++ [h.objs.size]) { σ with hp := σ.hp ++ [ao] } (h.push o) :=
  (r.push o).take (Nat.ne_of_gt r.llt) r.base_lt r.notin r.pinlt (Heap.get?_push_size _ hf) hO
theorem R.upd {i : Nat} {a : Addr} {o' : Obj} {ao' : O} (r : R G cx ρ σ h) (e : ρ[i]? = some a) (hs : Heap.ExtBut a h h') (ho : h'.get? a = some o') (hO : OR G ρ a ao' o') :
    R G cx ρ { σ with hp := σ.hp.set i ao' } h' := by
  have hi : i < ρ.length := (List.getElem?_eq_some_iff.mp e).1
  obtain ⟨_, _, _, _, _, h1, h2⟩ := r.own' e
  obtain ⟨m, F, hl⟩ := r.fr
  refine ⟨⟨m, Fr.other F h1 h2 hs, hl⟩, r.nd, by simp [r.len], fun j b ao e1 e2 => ?_, fun p hp => ?_⟩
  · by_cases hj : j = i
    · subst hj
      rw [e] at e1; cases e1
      rw [List.getElem?_set_self (by rw [← r.len]; exact hi)] at e2; cases e2
      exact ⟨h1, h2, o', ho, hO⟩
    · rw [List.getElem?_set_ne (Ne.symm hj)] at e2
      obtain ⟨g1, g2, o, g3, g4⟩ := r.own j b ao e1 e2
      refine ⟨g1, g2, o, hs b o (fun q => hj ?_) g3, g4⟩
      subst q
      have hj' : j < ρ.length := (List.getElem?_eq_some_iff.mp e1).1
      exact (List.getElem_inj (h₀ := hj') (h₁ := hi) r.nd).mp (by
        rw [(List.getElem?_eq_some_iff.mp e1).2, (List.getElem?_eq_some_iff.mp e).2])
  · have z := r.pin p hp
    exact ⟨hs _ _ (fun q => z.2.1 (q ▸ List.mem_of_getElem? e)) z.1, z.2⟩
theorem R.news (r : R G cx ρ σ h) : ∃ news, News cx.h₀ cx.env.locals h news ∧ (∀ (i : Nat) (a : Addr) (ao : O), ρ[i]? = some a → σ.hp[i]? = some ao → ∃ o, (a, o) ∈ news ∧ OR G ρ a ao o) ∧ ∀ p ∈ cx.pin, p ∈ news := by
  refine ⟨(ρ.filterMap fun a => (h.get? a).map fun o => (a, o)) ++ cx.pin, fun p hp => ?_, fun i a ao e1 e2 => ?_, fun p hp => List.mem_append_right _ hp⟩
  · rcases List.mem_append.mp hp with hp | hp
    · obtain ⟨a, ha, e⟩ := List.mem_filterMap.mp hp
      obtain ⟨i, hi⟩ := List.getElem?_of_mem ha
      obtain ⟨_, o, _, h3, _, h1, h2⟩ := r.own' hi
      rw [h3] at e; simp at e; subst e
      exact ⟨h3, h1, h2⟩
    · have z := r.pin p hp
      exact ⟨z.1, z.2.2⟩
  · obtain ⟨h1, h2, o, h3, h4⟩ := r.own i a ao e1 e2
    exact ⟨o, List.mem_append_left _ (List.mem_filterMap.mpr ⟨a, List.mem_of_getElem? e1, by rw [h3]; rfl⟩), h4⟩
theorem R.loc {m' : Str → Option Value} {loc' : List (Option V)} (r : R G cx ρ σ h) (hn : h'.Ns cx.env.locals m') (hs : Heap.SameBut cx.env.locals h h') (hl : LocR ρ cx.env.scope.names loc' m') :
    R G cx ρ { σ with loc := loc' } h' := by
  obtain ⟨m, F, _⟩ := r.fr
  refine ⟨⟨m', F.set hn hs, hl⟩, r.nd, r.len, fun i a ao e1 e2 => ?_, fun p hp => ?_⟩
  · obtain ⟨h1, h2, o, h3, h4⟩ := r.own i a ao e1 e2
    exact ⟨h1, h2, o, (hs.2 a h1).trans h3, h4⟩
  · have z := r.pin p hp
    exact ⟨(hs.2 _ z.2.2.1).trans z.1, z.2⟩
end
end Mine
namespace Mine
open PySem PySem.W PySem.Calls PyProof.Rows
inductive BF where
  | len | abs | str | min | sum | chr | iter | range | list | zip
inductive BM where
  | append | pop | remove | extend | count | replace | split | join
noncomputable def BM.name : BM → Str
  | .append => "append"
  | .pop => "pop"
  | .remove => "remove"
  | .extend => "extend"
  | .count => "count"
  | .replace => "replace"
  | .split => "split"
  | .join => "join"
inductive IE where
  | k (v : V)
  | loc (i : Nat)
  | cel (i : Nat)
  | stat (v : Value)
  | bin (op : Operator) (a b : IE)
  | cmp (op : CmpOp) (a b : IE)
  | ife (t a b : IE)
  | and (a b : IE)
  | or (a b : IE)
  | not (a : IE)
  | list (es : List IE)
  | tup (es : List IE)
  | attr (o : IE) (a : At)
  | mattr (o : IE) (m : Mt)
  | call (f : IE) (es : List IE)
  | new (es : List IE)
  | bf (f : BF) (es : List IE)
  | bm (m : BM) (o : IE) (es : List IE)
  | um (m : Mt) (o : IE) (es : List IE)
  | am (a : At) (o : IE) (es : List IE)
  | sub (o i : IE)
  | sli (o : IE) (lo hi : Option IE)
  | comp (W : Stat → Nat → List (Option Nat) → St → (V → St → Prop) → Prop)
inductive Tg where
  | loc (i : Nat)
  | cel (i : Nat)
  | attr (o : IE) (a : At)
  | sub (o i : IE)
  | tup (ts : List Tg)
inductive IS where
  | assign (t : Tg) (e : IE)
  | aug (t : Tg) (op : Operator) (e : IE)
  | expr (e : IE)
  | ite (t : IE) (a b : List IS)
  | whl (t : IE) (b : List IS)
  | for (t : Tg) (it : IE) (b : List IS)
  | ret (e : IE)
  | brk
  | cont
  | defn (i fid : Nat) (P : Addr) (pos : Pos) (fr : List (Str × Nat))
inductive Fl where
  | next | brk | cont
  | ret (v : V)
noncomputable def V.lt (n : Nat) : V → Prop
  | .ref i => i < n
  | _ => True
noncomputable def RetOk (_hp : List O) (K : V → List O → Prop) (fl : Fl) (σ' : St) : Prop :=
  match fl with
  | .ret v => K v σ'.hp
  | .next => K .none σ'.hp
  | _ => False
noncomputable def rds (f : V → Option PyData) : List V → Option (List PyData)
  | [] => some []
  | v :: r => match f v, rds f r with
    | some d, some ds => some (d :: ds)
    | _, _ => none
noncomputable def rd : Nat → List O → V → Option PyData
  | _, _, .none => some .none
  | _, _, .bool b => some (.bool b)
  | _, _, .int i => some (.int i)
  | _, _, .str cs => if cs.all (fun c => decide (c < 55296)) = true then some (.str ⟨cs.toArray⟩) else none
  | 0, _, .ref _ => none
  | n + 1, hp, .ref i => match hp[i]? with
    | some (.list xs) => (rds (rd n hp) xs).map .list
    | some (.tup xs) => (rds (rd n hp) xs).map .tuple
    | _ => none
  | _, _, .stat _ => none
structure ClOk (cx : Cx) (cl : List (Option Nat)) (ρ : List Addr) : Prop where
  at_ : ∀ (i : Nat) (x : Str) (k : NameKind) (j : Nat), cx.env.scope.names[i]? = some (x, k) → cl[i]? = some (some j) → ∃ a, ρ[j]? = some a ∧ cx.env.cells.lookup x = some a
theorem ClOk.mono {cx : Cx} {cl : List (Option Nat)} {ρ ρ' : List Addr} (h : ClOk cx cl ρ) (p : ρ <+: ρ') : ClOk cx cl ρ' :=
  ⟨fun i x k j a b => let ⟨c, d, e⟩ := h.at_ i x k j a b; ⟨c, pre_get p d, e⟩⟩
noncomputable def CallT (G : Stat) (n : Nat) (f : V) (args : List V) (hp : List O) (K : V → List O → Prop) : Prop :=
  ∀ (cx : Cx) (names : List (Str × NameKind)) (ρ : List Addr) (loc : List (Option V)) (s : Shared) (Rr : Result → Shared → Prop) (f' : Value) (args' : List Value),
    CxOk G cx (n + 1) names → R G cx ρ ⟨loc, hp⟩ s.heap → VR ρ f f' → VRs ρ args args' →
    (∀ v v' hp' ρ' s', ρ <+: ρ' → R G cx ρ' ⟨loc, hp'⟩ s'.heap → VR ρ' v v' → K v hp' → Stp s s' → Rr (.ok (.ret v')) s') →
    codeAny (model G.prog G.w) cx.A (.call f' ⟨args', []⟩) Rr s
noncomputable def lim : Int := 2 ^ 61
noncomputable def fits (i : Int) : Prop := -lim ≤ i ∧ i ≤ lim
noncomputable def big : Nat := 10000000
noncomputable def binI (op : Operator) (a b : Int) (σ : St) (K : V → St → Prop) : Prop := match op with
  | .Add => K (.int (a + b)) σ
  | .Sub => K (.int (a - b)) σ
  | .Mult => fits a ∧ fits b ∧ K (.int (a * b)) σ
  | .Mod => b ≠ 0 ∧ K (.int (a.fmod b)) σ
  | .FloorDiv => b ≠ 0 ∧ b.natAbs < 1073741824 ∧ K (.int (a.fdiv b)) σ
  | .Pow => 0 ≤ b ∧ b ≤ 64 ∧ 0 ≤ a ∧ a ≤ 1000 ∧ K (.int (a ^ b.toNat)) σ
  | _ => False
noncomputable def addS (op : Operator) (a b : List Nat) (σ : St) (K : V → St → Prop) : Prop := match op with
  | .Add => a.length + b.length ≤ big ∧ K (.str (a ++ b)) σ
  | _ => False
noncomputable def onL (hp : List O) (i : Nat) (k : List V → Prop) : Prop := match hp[i]? with
  | some (.list xs) => k xs
  | _ => False
theorem onL_sp {hp : List O} {i : Nat} {k : List V → Prop} (h : onL hp i k) : ∃ xs, hp[i]? = some (.list xs) ∧ k xs := by
  unfold onL at h
  revert h
  cases hp[i]? with
  | none => exact False.elim
  | some o => cases o with
    | list xs => exact fun h => ⟨xs, rfl, h⟩
    | _ => exact False.elim
theorem onL_is {hp : List O} {i : Nat} {k : List V → Prop} {xs : List V} (e : hp[i]? = some (.list xs)) : onL hp i k = k xs := by unfold onL; rw [e]
noncomputable def addL (op : Operator) (i j : Nat) (σ : St) (K : V → St → Prop) : Prop := match op with
  | .Add => onL σ.hp i fun xs => onL σ.hp j fun ys => xs.length + ys.length ≤ big ∧ K (.ref σ.hp.length) { σ with hp := σ.hp ++ [.list (xs ++ ys)] }
  | _ => False
noncomputable def wpBin (op : Operator) (x y : V) (σ : St) (K : V → St → Prop) : Prop :=
  match x with
  | .int a => (match y with
      | .int b => binI op a b σ K
      | _ => False)
  | .str a => (match y with
      | .str b => addS op a b σ K
      | _ => False)
  | .ref i => (match y with
      | .ref j => addL op i j σ K
      | _ => False)
  | _ => False
noncomputable def inpI (op : Operator) (a b : Int) (σ : St) (K : V → St → Prop) : Prop := match op with
  | .Add => K (.int (a + b)) σ
  | .Sub => K (.int (a - b)) σ
  | .FloorDiv => b ≠ 0 ∧ b.natAbs < 1073741824 ∧ K (.int (a.fdiv b)) σ
  | _ => False
noncomputable def inpL (op : Operator) (i j : Nat) (σ : St) (K : V → St → Prop) : Prop := match op with
  | .Add => onL σ.hp i fun xs => onL σ.hp j fun ys => xs.length + ys.length ≤ big ∧ K (.ref i) { σ with hp := σ.hp.set i (.list (xs ++ ys)) }
  | _ => False
noncomputable def wpInp (op : Operator) (x y : V) (σ : St) (K : V → St → Prop) : Prop :=
  match x with
  | .int a => (match y with
      | .int b => inpI op a b σ K
      | _ => False)
  | .str a => (match y with
      | .str b => addS op a b σ K
      | _ => False)
  | .ref i => (match y with
      | .ref j => inpL op i j σ K
      | _ => False)
  | _ => False
noncomputable def wpTruth (v : V) (σ : St) (K : Bool → St → Prop) : Prop :=
  match v with
  | .bool b => K b σ
  | .ref i => onL σ.hp i fun xs => xs.length ≤ big ∧ K (!xs.isEmpty) σ
  | _ => False
noncomputable def eqD (x y : V) (σ : St) (K : Bool → St → Prop) : Prop := ∃ dx dy, rd 4 σ.hp x = some dx ∧ rd 4 σ.hp y = some dy ∧ K (PyData.eqv dx dy) σ
noncomputable def wpEq (x y : V) (σ : St) (K : Bool → St → Prop) : Prop :=
  match x with
  | .int a => (match y with
      | .int b => K (a == b) σ
      | .str _ => K false σ
      | y => eqD (.int a) y σ K)
  | .str a => (match y with
      | .str b => K (a == b) σ
      | .int _ => K false σ
      | y => eqD (.str a) y σ K)
  | x => eqD x y σ K
noncomputable def inD (x : V) (j : Nat) (σ : St) (K : Bool → St → Prop) : Prop :=
  ∃ d xs, rd 4 σ.hp x = some d ∧ (rd 4 σ.hp (.ref j) = some (.tuple xs) ∨ rd 4 σ.hp (.ref j) = some (.list xs)) ∧ K (xs.any fun e => PyData.eqv e d) σ
noncomputable def inS (x : V) (b : List Nat) (σ : St) (K : Bool → St → Prop) : Prop := match x with
  | .str cs => (match cs with
      | [a] => K (decide (a ∈ b)) σ
      | _ => False)
  | _ => False
noncomputable def wpIn (x y : V) (σ : St) (K : Bool → St → Prop) : Prop :=
  match y with
  | .str b => inS x b σ K
  | .ref j => inD x j σ K
  | _ => False
noncomputable def ltI (x y : V) (f : Int → Int → Prop) : Prop := match x with
  | .int a => (match y with
      | .int b => f a b
      | _ => False)
  | _ => False
theorem ltI_sp {x y : V} {f : Int → Int → Prop} (h : ltI x y f) : ∃ a b, x = .int a ∧ y = .int b ∧ f a b := by
  cases x with
  | int a => cases y with
    | int b => exact ⟨a, b, rfl, rfl, h⟩
    | _ => exact False.elim h
  | _ => exact False.elim h
noncomputable def wpCmp (op : CmpOp) (x y : V) (σ : St) (K : Bool → St → Prop) : Prop :=
  match op with
  | .Eq => wpEq x y σ K
  | .NotEq => wpEq x y σ fun b σ => K (!b) σ
  | .Lt => ltI x y fun a b => K (decide (a < b)) σ
  | .LtE => ltI x y fun a b => K (decide (a ≤ b)) σ
  | .Gt => ltI x y fun a b => K (decide (b < a)) σ
  | .GtE => ltI x y fun a b => K (decide (b ≤ a)) σ
  | .In => wpIn x y σ K
  | .NotIn => wpIn x y σ fun b σ => K (!b) σ
  | _ => False
noncomputable def getA (a : At) : List (At × V) → Option V
  | [] => none
  | (b, v) :: r => if a = b then some v else getA a r
noncomputable def putA (a : At) (v : V) : List (At × V) → List (At × V)
  | [] => [(a, v)]
  | (b, x) :: r => if a = b then (b, v) :: r else (b, x) :: putA a v r
noncomputable def instAt (hp : List O) (v : V) : Option (Nat × List (At × V)) :=
  match v with
  | .ref i => (match hp[i]? with
      | some (.inst d) => (match hp[d]? with
          | some (.dct fs) => some (d, fs)
          | _ => none)
      | _ => none)
  | _ => none
noncomputable def hok : V → Bool
  | .stat _ => false
  | _ => true
theorem instAt_sp {hp : List O} {v : V} {d : Nat} {fs : List (At × V)} (h : instAt hp v = some (d, fs)) : ∃ i, v = .ref i ∧ hp[i]? = some (.inst d) ∧ hp[d]? = some (.dct fs) := by
  cases v with
  | ref i =>
    have h : (match hp[i]? with
      | some (.inst d) => (match hp[d]? with
          | some (.dct fs) => some (d, fs)
          | _ => none)
      | _ => none) = some (d, fs) := h
    revert h
    cases e : hp[i]? with
    | none => intro h; cases h
    | some o => cases o with
      | inst d' =>
        dsimp only
        cases e2 : hp[d']? with
        | none => intro h; cases h
        | some o => cases o with
          | dct fs' => intro h; cases h; exact ⟨i, rfl, e, e2⟩
          | _ => intro h; cases h
      | _ => intro h; cases h
  | _ => cases h
noncomputable def onI (hp : List O) (v : V) (k : Nat → List (At × V) → Prop) : Prop := match instAt hp v with
  | some p => k p.1 p.2
  | none => False
theorem onI_sp {hp : List O} {v : V} {k : Nat → List (At × V) → Prop} (h : onI hp v k) : ∃ d fs, instAt hp v = some (d, fs) ∧ k d fs := by
  unfold onI at h
  revert h
  cases instAt hp v with
  | none => exact False.elim
  | some p => exact fun h => ⟨p.1, p.2, rfl, h⟩
noncomputable def onA (fs : List (At × V)) (a : At) (k : V → Prop) : Prop := match getA a fs with
  | some x => hok x = true ∧ k x
  | none => False
theorem onA_sp {fs : List (At × V)} {a : At} {k : V → Prop} (h : onA fs a k) : ∃ x, getA a fs = some x ∧ hok x = true ∧ k x := by
  unfold onA at h
  revert h
  cases getA a fs with
  | none => exact False.elim
  | some p => exact fun h => ⟨p, rfl, h⟩
noncomputable def wpSetA (ov : V) (a : At) (v : V) (σ : St) (K : St → Prop) : Prop :=
  onI σ.hp ov fun d fs => fs.length ≤ 100 ∧ K { σ with hp := σ.hp.set d (.dct (putA a v fs)) }
noncomputable def wpGetA (v : V) (a : At) (σ : St) (K : V → St → Prop) : Prop := onI σ.hp v fun _ fs => onA fs a fun x => K x σ
noncomputable def idx (k : Int) (n : Nat) : Option Nat := if 0 ≤ k then (if k < n then some k.toNat else none) else (if -(n : Int) ≤ k then some (k + n).toNat else none)
noncomputable def subL (xs : List V) (k : Int) (K : V → Prop) : Prop := match idx k xs.length with
  | some m => (match xs[m]? with
      | some x => K x
      | none => False)
  | none => False
theorem subL_sp {xs : List V} {k : Int} {K : V → Prop} (h : subL xs k K) : ∃ m x, idx k xs.length = some m ∧ xs[m]? = some x ∧ K x := by
  unfold subL at h
  revert h
  cases idx k xs.length with
  | none => exact False.elim
  | some m =>
    dsimp only
    cases e : xs[m]? with
    | none => exact False.elim
    | some x => exact fun h => ⟨m, x, rfl, e, h⟩
noncomputable def onT (hp : List O) (i : Nat) (k : Bool → List V → Prop) : Prop := match hp[i]? with
  | some (.list xs) => k false xs
  | some (.tup xs) => k true xs
  | _ => False
theorem onT_sp {hp : List O} {i : Nat} {k : Bool → List V → Prop} (h : onT hp i k) : ∃ xs, (hp[i]? = some (.list xs) ∧ k false xs) ∨ (hp[i]? = some (.tup xs) ∧ k true xs) := by
  unfold onT at h
  revert h
  cases hp[i]? with
  | none => exact False.elim
  | some o => cases o with
    | list xs => exact fun h => ⟨xs, .inl ⟨rfl, h⟩⟩
    | tup xs => exact fun h => ⟨xs, .inr ⟨rfl, h⟩⟩
    | _ => exact False.elim
noncomputable def subS (cs : List Nat) (k : Int) (K : V → Prop) : Prop := match idx k cs.length with
  | some m => (match cs[m]? with
      | some c => K (.str [c])
      | none => False)
  | none => False
theorem subS_sp {cs : List Nat} {k : Int} {K : V → Prop} (h : subS cs k K) : ∃ m c, idx k cs.length = some m ∧ cs[m]? = some c ∧ K (.str [c]) := by
  unfold subS at h
  revert h
  cases idx k cs.length with
  | none => exact False.elim
  | some m =>
    dsimp only
    cases e : cs[m]? with
    | none => exact False.elim
    | some x => exact fun h => ⟨m, x, rfl, e, h⟩
noncomputable def wpSub (o i : V) (σ : St) (K : V → St → Prop) : Prop :=
  match i with
  | .int k => fits k ∧ (match o with
      | .ref j => onT σ.hp j fun _ xs => subL xs k fun x => K x σ
      | .str cs => subS cs k fun x => K x σ
      | _ => False)
  | _ => False
noncomputable def cutL {α : Type} (xs : List α) (lo hi : Option Int) : List α :=
  (xs.drop (lo.elim 0 (clipAt xs.length))).take (hi.elim xs.length (clipAt xs.length) - lo.elim 0 (clipAt xs.length))
noncomputable def optInt : Option V → Option (Option Int)
  | none => some none
  | some (.int k) => some (some k)
  | some _ => none
noncomputable def wpSli (o : V) (lo hi : Option V) (σ : St) (K : V → St → Prop) : Prop :=
  match optInt lo, optInt hi with
  | some l, some h => (∀ k, l = some k → fits k) ∧ (∀ k, h = some k → fits k) ∧ (match o with
      | .str cs => cs.length ≤ big ∧ K (.str (cutL cs l h)) σ
      | .ref j => onL σ.hp j fun xs => xs.length ≤ big ∧ K (.ref σ.hp.length) { σ with hp := σ.hp ++ [.list (cutL xs l h)] }
      | _ => False)
  | _, _ => False
noncomputable def wpSetI (ov iv v : V) (σ : St) (K : St → Prop) : Prop :=
  match ov with
  | .ref j => (match iv with
      | .int k => onL σ.hp j fun xs => fits k ∧ (match idx k xs.length with
          | some m => K { σ with hp := σ.hp.set j (.list (xs.set m v)) }
          | none => False)
      | _ => False)
  | _ => False
noncomputable def digits (i : Int) : List Nat := (Str.ofString (toString i)).cps.toList
noncomputable def one1 (vs : List V) (k : V → Prop) : Prop := match vs with
  | [x] => k x
  | _ => False
theorem one1_sp {vs : List V} {k : V → Prop} (h : one1 vs k) : ∃ x, vs = [x] ∧ k x := by
  cases vs with
  | nil => exact False.elim h
  | cons x r => cases r with
    | nil => exact ⟨x, rfl, h⟩
    | cons _ _ => exact False.elim h
noncomputable def two2 (vs : List V) (k : V → V → Prop) : Prop := match vs with
  | [x, y] => k x y
  | _ => False
theorem two2_sp {vs : List V} {k : V → V → Prop} (h : two2 vs k) : ∃ x y, vs = [x, y] ∧ k x y := by
  cases vs with
  | nil => exact False.elim h
  | cons x r => cases r with
    | nil => exact False.elim h
    | cons y r => cases r with
      | nil => exact ⟨x, y, rfl, h⟩
      | cons _ _ => exact False.elim h
noncomputable def isI (x : V) (k : Int → Prop) : Prop := match x with
  | .int i => k i
  | _ => False
theorem isI_sp {x : V} {k : Int → Prop} (h : isI x k) : ∃ i, x = .int i ∧ k i := by
  cases x with
  | int i => exact ⟨i, rfl, h⟩
  | _ => exact False.elim h
noncomputable def isS (x : V) (k : List Nat → Prop) : Prop := match x with
  | .str i => k i
  | _ => False
theorem isS_sp {x : V} {k : List Nat → Prop} (h : isS x k) : ∃ i, x = .str i ∧ k i := by
  cases x with
  | str i => exact ⟨i, rfl, h⟩
  | _ => exact False.elim h
noncomputable def isR (x : V) (k : Nat → Prop) : Prop := match x with
  | .ref i => k i
  | _ => False
theorem isR_sp {x : V} {k : Nat → Prop} (h : isR x k) : ∃ i, x = .ref i ∧ k i := by
  cases x with
  | ref i => exact ⟨i, rfl, h⟩
  | _ => exact False.elim h
noncomputable def wLen (v : V) (σ : St) (K : V → St → Prop) : Prop := match v with
  | .str cs => cs.length ≤ big ∧ K (.int cs.length) σ
  | .ref i => onL σ.hp i fun xs => xs.length ≤ big ∧ K (.int xs.length) σ
  | _ => False
noncomputable def wSum (x : V) (σ : St) (K : V → St → Prop) : Prop := isR x fun i => onL σ.hp i fun xs => ∃ ns : List Int, xs = ns.map V.int ∧ K (.int ns.sum) σ
noncomputable def rep (c : Nat) (z cs : List Nat) : List Nat := cs.flatMap fun d => if d = c then z else [d]
noncomputable def wRange (vs : List V) (σ : St) (K : V → St → Prop) : Prop := match vs with
  | [x] => isI x fun b => fits b ∧ K (.ref σ.hp.length) { σ with hp := σ.hp ++ [.rng 0 b] }
  | vs => two2 vs fun x y => isI x fun a => isI y fun b => fits a ∧ fits b ∧ K (.ref σ.hp.length) { σ with hp := σ.hp ++ [.rng a b] }
noncomputable def wIter (x y : V) (σ : St) (K : V → St → Prop) : Prop := isR x fun i => isS y fun cs => match σ.hp[i]? with
  | some (.meth _ _) => K (.ref σ.hp.length) { σ with hp := σ.hp ++ [.citer (.ref i) (.str cs) false] }
  | _ => False
noncomputable def wpBf (f : BF) (vs : List V) (σ : St) (K : V → St → Prop) : Prop :=
  match f with
  | .len => one1 vs fun x => wLen x σ K
  | .abs => one1 vs fun x => isI x fun i => K (.int i.natAbs) σ
  | .str => one1 vs fun x => isI x fun i => fits i ∧ K (.str (digits i)) σ
  | .min => two2 vs fun x y => isI x fun a => isI y fun b => K (.int (if b < a then b else a)) σ
  | .range => wRange vs σ K
  | .sum => one1 vs fun x => wSum x σ K
  | .iter => two2 vs fun x y => wIter x y σ K
  | _ => False
noncomputable def wPop (i : Nat) (k : Int) (σ : St) (K : V → St → Prop) : Prop := onL σ.hp i fun xs => 0 ≤ k ∧ k < xs.length ∧ xs.length ≤ big ∧ (match xs[k.toNat]? with
  | some x => K x { σ with hp := σ.hp.set i (.list (xs.eraseIdx k.toNat)) }
  | none => False)
noncomputable def wCount (cs : List Nat) (y : V) (σ : St) (K : V → St → Prop) : Prop := isS y fun ds => match ds with
  | [c] => K (.int (cs.count c)) σ
  | _ => False
noncomputable def joinS (sep : List Nat) : List (List Nat) → List Nat
  | [] => []
  | [x] => x
  | x :: y :: r => x ++ sep ++ joinS sep (y :: r)
noncomputable def wJoin (sep : List Nat) (y : V) (σ : St) (K : V → St → Prop) : Prop := isR y fun i => onL σ.hp i fun xs =>
  ∃ ts : List (List Nat), xs = ts.map V.str ∧ (ts.map List.length).sum + ts.length ≤ 1000000 ∧ sep.length ≤ 16 ∧ K (.str (joinS sep ts)) σ
noncomputable def wExt (i j : Nat) (σ : St) (K : V → St → Prop) : Prop := onL σ.hp i fun xs => onL σ.hp j fun ys => xs.length + ys.length ≤ big ∧ K .none { σ with hp := σ.hp.set i (.list (xs ++ ys)) }
noncomputable def splitL (sep cs : List Nat) : List (List Nat) := (Txt.split ⟨cs.toArray⟩ ⟨sep.toArray⟩).map fun p => p.cps.toList
noncomputable def wSplit (cs sep : List Nat) (σ : St) (K : V → St → Prop) : Prop := sep.length ≠ 0 ∧ cs.length ≤ 100000 ∧ K (.ref σ.hp.length) { σ with hp := σ.hp ++ [.list ((splitL sep cs).map V.str)] }
noncomputable def wpBm (m : BM) (o : V) (vs : List V) (σ : St) (K : V → St → Prop) : Prop :=
  match m with
  | .append => isR o fun i => one1 vs fun x => onL σ.hp i fun xs => xs.length ≤ big ∧ K .none { σ with hp := σ.hp.set i (.list (xs ++ [x])) }
  | .pop => isR o fun i => one1 vs fun x => isI x fun k => wPop i k σ K
  | .count => isS o fun cs => one1 vs fun y => wCount cs y σ K
  | .join => isS o fun cs => one1 vs fun y => wJoin cs y σ K
  | .extend => isR o fun i => one1 vs fun y => isR y fun j => wExt i j σ K
  | .split => isS o fun cs => one1 vs fun y => isS y fun sep => wSplit cs sep σ K
  | _ => False
noncomputable def BM.isList : BM → Bool
  | .append | .pop | .remove | .extend => true
  | _ => false
noncomputable def bmOk (m : BM) (hp : List O) (ov : V) : Prop :=
  match ov with
  | .ref i => m.isList = true ∧ ∃ xs, hp[i]? = some (.list xs)
  | .str _ => m.isList = false
  | _ => False
noncomputable def mapO {α β : Type} (c : α → Option β) : List α → Option (List β)
  | [] => some []
  | e :: r => (c e).bind fun a => (mapO c r).bind fun b => some (a :: b)
theorem bind_sp {α β : Type} {a : Option α} {k : α → Option β} {b : β} (h : a.bind k = some b) : ∃ x, a = some x ∧ k x = some b := by
  cases a with
  | none => cases h
  | some x => exact ⟨x, rfl, h⟩
theorem mapO_cons {α β : Type} {c : α → Option β} {e : α} {r : List α} {bs : List β} (h : mapO c (e :: r) = some bs) : ∃ a b, c e = some a ∧ mapO c r = some b ∧ bs = a :: b := by
  obtain ⟨a, e1, h⟩ := bind_sp (b := bs) h
  obtain ⟨b, e2, h⟩ := bind_sp h
  exact ⟨a, b, e1, e2, (Option.some.inj h).symm⟩
theorem nos {α : Type} {x : α} {P : Prop} (h : (none : Option α) = some x) : P := nomatch h
noncomputable def alt {α : Type} (a b : Option α) : Option α := match a with
  | some x => some x
  | none => b
theorem alt_sp {α : Type} {a b : Option α} {x : α} (h : alt a b = some x) : a = some x ∨ b = some x := by
  cases a with
  | none => exact .inr h
  | some y => exact .inl h
noncomputable def one {α : Type} : List α → Option α
  | [x] => some x
  | _ => none
theorem one_sp {α : Type} {l : List α} {x : α} (h : one l = some x) : l = [x] := by
  cases l with
  | nil => cases h
  | cons a r => cases r with
    | nil => cases h; rfl
    | cons b r => cases h
noncomputable def when {α : Type} (b : Bool) (x : Option α) : Option α := cond b x none
theorem when_sp {α : Type} {b : Bool} {x : Option α} {y : α} (h : when b x = some y) : b = true ∧ x = some y := by
  cases b with
  | false => cases h
  | true => exact ⟨rfl, h⟩
noncomputable def frJ (cl : List (Option Nat)) (fr : List (Str × Nat)) : Option (List (Str × Nat)) :=
  mapO (fun p => (cl[p.2]?).bind fun o => o.bind fun j => some (p.1, j)) fr
noncomputable def fnv (G : Stat) (hp : List O) : V → Prop
  | .stat v => keepIn G.K v = true
  | .ref i => ∃ fid cs c, hp[i]? = some (.fn fid cs c)
  | _ => False
noncomputable def aft (K : Fl → St → Prop) (J : St → Prop) (fl : Fl) (σ : St) : Prop := match fl with
  | .next => J σ
  | .cont => J σ
  | .brk => K .next σ
  | .ret v => K (.ret v) σ
noncomputable def whl (wt : St → (Bool → St → Prop) → Prop) (wb : St → (Fl → St → Prop) → Prop) (σ : St) (K : Fl → St → Prop) : Prop :=
  ∃ I : Nat → St → Prop, (∃ m, I m σ) ∧ ∀ m σ, I m σ → wt σ fun c σ => if c = true then wb σ (aft K fun σ => ∃ m', m' < m ∧ I m' σ) else K .next σ
section
variable (wt : V → St → (St → Prop) → Prop) (wb : Nat → St → (Fl → St → Prop) → Prop) (k : Nat)
noncomputable def forS (G : Stat) (σ : St) (K : Fl → St → Prop) : Prop :=
  ∃ I : Nat → St → Prop, I 0 σ ∧ ∀ (j : Nat) σ, I j σ → (∀ x, G.ns[j]? = some x → wt (.int x) σ fun σ => wb k σ (aft K (I (j + 1)))) ∧ (j = G.ns.length → K .next σ)
noncomputable def forR (lo hi : Int) (σ : St) (K : Fl → St → Prop) : Prop :=
  fits lo ∧ fits hi ∧ ∃ I : Nat → St → Prop, I 0 σ ∧ ∀ (j : Nat) σ, I j σ → (lo + j < hi → wt (.int (lo + j)) σ fun σ => wb k σ (aft K (I (j + 1)))) ∧ (j = (hi - lo).toNat → K .next σ)
noncomputable def forT (cs : List Nat) (σ : St) (K : Fl → St → Prop) : Prop :=
  cs.length ≤ big ∧ ∃ I : Nat → St → Prop, I 0 σ ∧ ∀ (j : Nat) σ, I j σ → (∀ x, cs[j]? = some x → wt (.str [x]) σ fun σ => wb k σ (aft K (I (j + 1)))) ∧ (j = cs.length → K .next σ)
noncomputable def forL (i : Nat) (xs : List V) (σ : St) (K : Fl → St → Prop) : Prop :=
  ∃ k' : Nat, ∃ I : Nat → St → Prop, k ≤ k' ∧ i < k' ∧ k' ≤ σ.hp.length ∧ (∀ x ∈ xs, V.lt k' x) ∧ I 0 σ ∧ ∀ (j : Nat) σ, I j σ → σ.hp[i]? = some (.list xs) ∧
    (∀ x, xs[j]? = some x → wt x σ fun σ => wb k' σ (aft K (I (j + 1)))) ∧ (j = xs.length → K .next σ)
noncomputable def callI (n i q : Nat) (x : List Nat) (G : Stat) (mt : Mt) (y : V) (k' : Nat) (J : St → Prop) (σ : St) (K : Fl → St → Prop) : Prop :=
  1 ≤ n ∧ CallT G (n - 1) (.ref q) [] σ.hp fun r hp => hp[i]? = some (.citer (.ref q) (.str x) false) ∧ hp[q]? = some (.meth (.stat (.ref (G.mf mt))) y) ∧ isS r fun c =>
    if x = c then K .next { σ with hp := hp.set i (.citer (.ref q) (.str x) true) } else wt r { σ with hp := hp } fun σ => wb k' σ (aft K J)
noncomputable def forC (G : Stat) (n i q : Nat) (x : List Nat) (σ : St) (K : Fl → St → Prop) : Prop :=
  ∃ k' : Nat, ∃ I : Nat → St → Prop, ∃ mt : Mt, ∃ y : V, k ≤ k' ∧ i < k' ∧ q < k' ∧ k' ≤ σ.hp.length ∧ (∃ m, I m σ) ∧ ∀ m σ, I m σ →
    σ.hp[q]? = some (.meth (.stat (.ref (G.mf mt))) y) ∧
    ((σ.hp[i]? = some (.citer (.ref q) (.str x) true) ∧ K .next σ) ∨ (σ.hp[i]? = some (.citer (.ref q) (.str x) false) ∧ callI wt wb n i q x G mt y k' (fun σ => ∃ m', m' < m ∧ I m' σ) σ K))
noncomputable def forO (G : Stat) (n i : Nat) (o : O) (σ : St) (K : Fl → St → Prop) : Prop := match o with
  | .rng lo hi => forR wt wb k lo hi σ K
  | .list xs => forL wt wb k i xs σ K
  | .citer f s _ => isR f fun q => isS s fun x => forC wt wb k G n i q x σ K
  | _ => False
noncomputable def forV (G : Stat) (n : Nat) (v : V) (σ : St) (K : Fl → St → Prop) : Prop := match v with
  | .stat v => v = .ref G.scr ∧ forS wt wb k G σ K
  | .str cs => forT wt wb k cs σ K
  | .ref i => (match σ.hp[i]? with
      | some o => forO wt wb k G n i o σ K
      | none => False)
  | _ => False
end
noncomputable def onLoc (loc : List (Option V)) (i : Nat) (k : V → Prop) : Prop := match loc[i]? with
  | some (some v) => k v
  | _ => False
theorem onLoc_sp {loc : List (Option V)} {i : Nat} {k : V → Prop} (h : onLoc loc i k) : ∃ v, loc[i]? = some (some v) ∧ k v := by
  unfold onLoc at h
  revert h
  cases loc[i]? with
  | none => exact False.elim
  | some o => cases o with
    | none => exact False.elim
    | some j => exact fun h => ⟨j, rfl, h⟩
noncomputable def onC (cl : List (Option Nat)) (hp : List O) (i : Nat) (k : Nat → Option V → Prop) : Prop := match cl[i]? with
  | some (some j) => (match hp[j]? with
      | some (.cell v) => k j v
      | _ => False)
  | _ => False
theorem onC_sp {cl : List (Option Nat)} {hp : List O} {i : Nat} {k : Nat → Option V → Prop} (h : onC cl hp i k) : ∃ j v, cl[i]? = some (some j) ∧ hp[j]? = some (.cell v) ∧ k j v := by
  unfold onC at h
  revert h
  cases cl[i]? with
  | none => exact False.elim
  | some o => cases o with
    | none => exact False.elim
    | some j =>
      dsimp only
      cases e : hp[j]? with
      | none => exact False.elim
      | some o => cases o with
        | cell v => exact fun h => ⟨j, v, rfl, e, h⟩
        | _ => exact False.elim
section
variable (G : Stat) (n : Nat) (cl : List (Option Nat))
mutual
noncomputable def wpE : IE → St → (V → St → Prop) → Prop
  | .k v, σ, K => K v σ
  | .loc i, σ, K => onLoc σ.loc i fun v => K v σ
  | .cel i, σ, K => onC cl σ.hp i fun _ o => (match o with
      | some v => K v σ
      | none => False)
  | .stat v, σ, K => K (.stat v) σ
  | .bin op a b, σ, K => wpE a σ fun x σ => wpE b σ fun y σ => wpBin op x y σ K
  | .cmp op a b, σ, K => wpE a σ fun x σ => wpE b σ fun y σ => wpCmp op x y σ fun r σ => K (.bool r) σ
  | .ife t a b, σ, K => wpT t σ fun c σ => if c = true then wpE a σ K else wpE b σ K
  | .and _ _, _, _ => False
  | .or _ _, _, _ => False
  | .not _, _, _ => False
  | .list es, σ, K => wpEs es σ fun vs σ => vs.length ≤ big ∧ K (.ref σ.hp.length) { σ with hp := σ.hp ++ [.list vs] }
  | .tup es, σ, K => wpEs es σ fun vs σ => vs.length ≤ big ∧ K (.ref σ.hp.length) { σ with hp := σ.hp ++ [.tup vs] }
  | .attr o a, σ, K => wpE o σ fun v σ => wpGetA v a σ K
  | .mattr o m, σ, K => wpE o σ fun v σ => onI σ.hp v fun _ _ => K (.ref σ.hp.length) { σ with hp := σ.hp ++ [.meth (.stat (.ref (G.mf m))) v] }
  | .call f es, σ, K => wpE f σ fun fv σ => wpEs es σ fun vs σ => fnv G σ.hp fv ∧ CallT G n fv vs σ.hp fun v hp => K v { σ with hp := hp }
  | .new es, σ, K => wpEs es σ fun vs σ => 1 ≤ n ∧ CallT G (n - 1) (.stat (.ref (G.mf .init))) (.ref (σ.hp.length + 1) :: vs) (σ.hp ++ [.dct [], .inst σ.hp.length]) fun v hp => v = .none ∧ K (.ref (σ.hp.length + 1)) { σ with hp := hp }
  | .bf f es, σ, K => wpEs es σ fun vs σ => wpBf f vs σ K
  | .bm m o es, σ, K => wpE o σ fun ov σ => bmOk m σ.hp ov ∧ wpEs es σ fun vs σ => wpBm m ov vs σ K
  | .um m o es, σ, K => wpE o σ fun ov σ => onI σ.hp ov fun _ _ => wpEs es σ fun vs σ => CallT G n (.stat (.ref (G.mf m))) (ov :: vs) σ.hp fun v hp => K v { σ with hp := hp }
  | .am a o es, σ, K => wpE o σ fun ov σ => onI σ.hp ov fun _ fs => onA fs a fun f => wpEs es σ fun vs σ => fnv G σ.hp f ∧ CallT G n f vs σ.hp fun v hp => K v { σ with hp := hp }
  | .sub o i, σ, K => wpE o σ fun ov σ => wpE i σ fun iv σ => wpSub ov iv σ K
  | .sli o lo hi, σ, K => wpE o σ fun ov σ => wpO lo σ fun l σ => wpO hi σ fun h σ => wpSli ov l h σ K
  | .comp W, σ, K => W G n cl σ K
noncomputable def wpO : Option IE → St → (Option V → St → Prop) → Prop
  | none, σ, K => K none σ
  | some e, σ, K => wpE e σ fun v σ => K (some v) σ
noncomputable def wpEs : List IE → St → (List V → St → Prop) → Prop
  | [], σ, K => K [] σ
  | e :: r, σ, K => wpE e σ fun v σ => wpEs r σ fun vs σ => K (v :: vs) σ
noncomputable def wpT : IE → St → (Bool → St → Prop) → Prop
  | .cmp op a b, σ, K => wpE a σ fun x σ => wpE b σ fun y σ => wpCmp op x y σ K
  | .and a b, σ, K => wpT a σ fun c σ => if c = true then wpT b σ K else K false σ
  | .or a b, σ, K => wpT a σ fun c σ => if c = true then K true σ else wpT b σ K
  | .not a, σ, K => wpT a σ fun c σ => K (!c) σ
  | .loc i, σ, K => onLoc σ.loc i fun v => wpTruth v σ K
  | .attr o a, σ, K => wpE o σ fun v σ => wpGetA v a σ fun v σ => wpTruth v σ K
  | _, _, _ => False
end
noncomputable def wpIfs : List IE → St → (Bool → St → Prop) → Prop
  | [], σ, K => K true σ
  | c :: r, σ, K => wpT G n cl c σ fun b σ => if b = true then wpIfs r σ K else K false σ
noncomputable def clIn (fr : List (Option Nat)) : List (Option Nat) := fr.map fun o => match o with
  | some i => (match cl[i]? with | some (some j) => some j | _ => none)
  | none => none
noncomputable def wpTurn (elt : IE) (i : Nat) (ifs : List IE) (a : Nat) (I : St → Prop) (x : V) (σ : St) : Prop :=
  wpIfs G n cl ifs ⟨σ.loc.set i (some x), σ.hp⟩ fun c σ => if c = true then wpE G n cl elt σ fun y σ => onL σ.hp a (fun ys => ys.length ≤ big ∧ I ⟨σ.loc, σ.hp.set a (.list (ys ++ [y]))⟩) else I σ
mutual
noncomputable def wpTg : Tg → V → St → (St → Prop) → Prop
  | .loc i, v, σ, K => i < σ.loc.length ∧ K { σ with loc := σ.loc.set i (some v) }
  | .cel i, v, σ, K => onC cl σ.hp i fun j _ => K { σ with hp := σ.hp.set j (.cell (some v)) }
  | .attr o a, v, σ, K => wpE G n cl o σ fun ov σ => wpSetA ov a v σ K
  | .sub o i, v, σ, K => wpE G n cl o σ fun ov σ => wpE G n cl i σ fun iv σ => wpSetI ov iv v σ K
  | .tup ts, v, σ, K => isR v fun j => onT σ.hp j fun _ vs => ts.length = vs.length ∧ wpTgs ts vs σ K
noncomputable def wpTgs : List Tg → List V → St → (St → Prop) → Prop
  | t :: ts, v :: vs, σ, K => wpTg t v σ fun σ => wpTgs ts vs σ K
  | _, _, σ, K => K σ
end
mutual
noncomputable def wpS (k : Nat) : IS → St → (Fl → St → Prop) → Prop
  | .assign t e, σ, K => wpE G n cl e σ fun v σ => wpTg G n cl t v σ fun σ => K .next σ
  | .aug t op e, σ, K => (match t with
      | .loc i => wpE G n cl (.loc i) σ fun x σ => wpE G n cl e σ fun y σ => wpInp op x y σ fun v σ => wpTg G n cl (.loc i) v σ fun σ => K .next σ
      | .attr o a => wpE G n cl o σ fun ov σ => wpGetA ov a σ fun x σ => wpE G n cl e σ fun y σ => wpInp op x y σ fun v σ => wpSetA ov a v σ fun σ => K .next σ
      | .sub o i => wpE G n cl o σ fun ov σ => wpE G n cl i σ fun iv σ => wpSub ov iv σ fun x σ => wpE G n cl e σ fun y σ => wpInp op x y σ fun v σ => wpSetI ov iv v σ fun σ => K .next σ
      | _ => False)
  | .expr e, σ, K => wpE G n cl e σ fun _ σ => K .next σ
  | .ite t a b, σ, K => wpT G n cl t σ fun c σ => if c = true then wpSs k a σ K else wpSs k b σ K
  | .whl t b, σ, K => whl (wpT G n cl t) (fun σ K => wpSs k b σ K) σ K
  | .for t it b, σ, K => wpE G n cl it σ fun v σ => forV (wpTg G n cl t) (fun k σ K => wpSs k b σ K) k G n v σ K
  | .ret e, σ, K => wpE G n cl e σ fun v σ => K (.ret v) σ
  | .brk, σ, K => K .brk σ
  | .cont, σ, K => K .cont σ
  | .defn i fid P pos fr, σ, K => ∃ (t : Nat) (js : List (Str × Nat)), frJ cl fr = some js ∧ i < σ.loc.length ∧
      ((σ.hp[t]? = some (.tab P none) ∧ K .next ⟨σ.loc.set i (some (.ref (σ.hp.length + 1))), (σ.hp.set t (.tab P (some (pos, σ.hp.length)))) ++ [.code (G.fn fid).qual, .fn fid js.reverse σ.hp.length]⟩) ∨
       (∃ c, σ.hp[t]? = some (.tab P (some (pos, c))) ∧ K .next ⟨σ.loc.set i (some (.ref σ.hp.length)), σ.hp ++ [.fn fid js.reverse c]⟩))
noncomputable def wpSs (k : Nat) : List IS → St → (Fl → St → Prop) → Prop
  | [], σ, K => K .next σ
  | s :: r, σ, K => wpS k s σ fun fl σ => (match fl with
      | .next => wpSs k r σ K
      | .brk => K .brk σ
      | .cont => K .cont σ
      | .ret v => K (.ret v) σ)
end
end
noncomputable def wpIterG (turn : Nat → (St → Prop) → V → St → Prop) (N : Nat) (v : V) (σ : St) (K : V → St → Prop) : Prop :=
  (match v with
    | .ref q => (match σ.hp[q]? with
        | some (.rng lo hi) => fits lo ∧ fits hi ∧ ∃ I : Nat → St → Prop, I 0 ⟨List.replicate N none, σ.hp ++ [.list []]⟩ ∧ ∀ (j : Nat) σ', I j σ' →
            (lo + j < hi → turn σ.hp.length (I (j + 1)) (.int (lo + j)) σ') ∧ (j = (hi - lo).toNat → K (.ref σ.hp.length) ⟨σ.loc, σ'.hp⟩)
        | some (.list xs) => ∃ I : Nat → St → Prop, I 0 ⟨List.replicate N none, σ.hp ++ [.list []]⟩ ∧ ∀ (j : Nat) σ', I j σ' → σ'.hp[q]? = some (.list xs) ∧
            (∀ x, xs[j]? = some x → turn σ.hp.length (I (j + 1)) x σ') ∧ (j = xs.length → K (.ref σ.hp.length) ⟨σ.loc, σ'.hp⟩)
        | _ => False)
    | _ => False)
noncomputable def wpCompG (turn : Stat → Nat → List (Option Nat) → Nat → (St → Prop) → V → St → Prop) (it : IE) (N : Nat) (fr : List (Option Nat)) (G : Stat) (n : Nat) (cl : List (Option Nat)) (σ : St) (K : V → St → Prop) : Prop :=
  (∀ q, some q ∈ fr → ∃ j, cl[q]? = some (some j)) ∧ wpE G n cl it σ fun v σ => wpIterG (turn G n (clIn cl fr)) N v σ K
noncomputable def turn1 (elt : IE) (i : Nat) (ifs : List IE) (G : Stat) (n : Nat) (cl : List (Option Nat)) (a : Nat) (I : St → Prop) (x : V) (σ : St) : Prop := wpTurn G n cl elt i ifs a I x σ
noncomputable def wpComp (elt : IE) (i : Nat) (it : IE) (ifs : List IE) (N : Nat) (fr : List (Option Nat)) : Stat → Nat → List (Option Nat) → St → (V → St → Prop) → Prop :=
  wpCompG (turn1 elt i ifs) it N fr
section
variable {G : Stat} {n : Nat} {cl : List (Option Nat)} {σ : St} {K : V → St → Prop} {KS : Fl → St → Prop} {KB : Bool → St → Prop} {KU : St → Prop} {k : Nat}
theorem eK {v : V} : wpE G n cl (.k v) σ K = K v σ := rfl
theorem eLoc {i : Nat} : wpE G n cl (.loc i) σ K = onLoc σ.loc i fun v => K v σ := rfl
theorem eCel {i : Nat} : wpE G n cl (.cel i) σ K = onC cl σ.hp i fun _ o => (match o with
      | some v => K v σ
      | none => False) := rfl
theorem eStat {v : Value} : wpE G n cl (.stat v) σ K = K (.stat v) σ := rfl
theorem eBin {op : Operator} {a b : IE} : wpE G n cl (.bin op a b) σ K = wpE G n cl a σ fun x σ => wpE G n cl b σ fun y σ => wpBin op x y σ K := rfl
theorem eCmp {op : CmpOp} {a b : IE} : wpE G n cl (.cmp op a b) σ K = wpE G n cl a σ fun x σ => wpE G n cl b σ fun y σ => wpCmp op x y σ fun r σ => K (.bool r) σ := rfl
theorem eIfe {t a b : IE} : wpE G n cl (.ife t a b) σ K = wpT G n cl t σ fun c σ => if c = true then wpE G n cl a σ K else wpE G n cl b σ K := rfl
theorem eList {es : List IE} : wpE G n cl (.list es) σ K = wpEs G n cl es σ fun vs σ => vs.length ≤ big ∧ K (.ref σ.hp.length) { σ with hp := σ.hp ++ [.list vs] } := rfl
theorem eTup {es : List IE} : wpE G n cl (.tup es) σ K = wpEs G n cl es σ fun vs σ => vs.length ≤ big ∧ K (.ref σ.hp.length) { σ with hp := σ.hp ++ [.tup vs] } := rfl
theorem eAttr {o : IE} {a : At} : wpE G n cl (.attr o a) σ K = wpE G n cl o σ fun v σ => wpGetA v a σ K := rfl
theorem eMattr {o : IE} {m : Mt} : wpE G n cl (.mattr o m) σ K = wpE G n cl o σ fun v σ => onI σ.hp v fun _ _ => K (.ref σ.hp.length) { σ with hp := σ.hp ++ [.meth (.stat (.ref (G.mf m))) v] } := rfl
theorem eCall {f : IE} {es : List IE} : wpE G n cl (.call f es) σ K = wpE G n cl f σ fun fv σ => wpEs G n cl es σ fun vs σ => fnv G σ.hp fv ∧ CallT G n fv vs σ.hp fun v hp => K v { σ with hp := hp } := rfl
theorem eNew {es : List IE} : wpE G n cl (.new es) σ K = wpEs G n cl es σ fun vs σ => 1 ≤ n ∧ CallT G (n - 1) (.stat (.ref (G.mf .init))) (.ref (σ.hp.length + 1) :: vs) (σ.hp ++ [.dct [], .inst σ.hp.length]) fun v hp => v = .none ∧ K (.ref (σ.hp.length + 1)) { σ with hp := hp } := rfl
theorem eBf {f : BF} {es : List IE} : wpE G n cl (.bf f es) σ K = wpEs G n cl es σ fun vs σ => wpBf f vs σ K := rfl
theorem eBm {m : BM} {o : IE} {es : List IE} : wpE G n cl (.bm m o es) σ K = wpE G n cl o σ fun ov σ => bmOk m σ.hp ov ∧ wpEs G n cl es σ fun vs σ => wpBm m ov vs σ K := rfl
theorem eUm {m : Mt} {o : IE} {es : List IE} : wpE G n cl (.um m o es) σ K = wpE G n cl o σ fun ov σ => onI σ.hp ov fun _ _ => wpEs G n cl es σ fun vs σ => CallT G n (.stat (.ref (G.mf m))) (ov :: vs) σ.hp fun v hp => K v { σ with hp := hp } := rfl
theorem eAm {a : At} {o : IE} {es : List IE} : wpE G n cl (.am a o es) σ K = wpE G n cl o σ fun ov σ => onI σ.hp ov fun _ fs => onA fs a fun f => wpEs G n cl es σ fun vs σ => fnv G σ.hp f ∧ CallT G n f vs σ.hp fun v hp => K v { σ with hp := hp } := rfl
theorem eSub {o i : IE} : wpE G n cl (.sub o i) σ K = wpE G n cl o σ fun ov σ => wpE G n cl i σ fun iv σ => wpSub ov iv σ K := rfl
theorem eSli {o : IE} {lo hi : Option IE} : wpE G n cl (.sli o lo hi) σ K = wpE G n cl o σ fun ov σ => wpO G n cl lo σ fun l σ => wpO G n cl hi σ fun h σ => wpSli ov l h σ K := rfl
theorem eComp {W : Stat → Nat → List (Option Nat) → St → (V → St → Prop) → Prop} : wpE G n cl (.comp W) σ K = W G n cl σ K := rfl
theorem oN {K : Option V → St → Prop} : wpO G n cl none σ K = K none σ := rfl
theorem oS {e : IE} {K : Option V → St → Prop} : wpO G n cl (some e) σ K = wpE G n cl e σ fun v σ => K (some v) σ := rfl
theorem esN {K : List V → St → Prop} : wpEs G n cl [] σ K = K [] σ := rfl
theorem esC {e : IE} {r : List IE} {K : List V → St → Prop} : wpEs G n cl (e :: r) σ K = wpE G n cl e σ fun v σ => wpEs G n cl r σ fun vs σ => K (v :: vs) σ := rfl
theorem tCmp {op : CmpOp} {a b : IE} : wpT G n cl (.cmp op a b) σ KB = wpE G n cl a σ fun x σ => wpE G n cl b σ fun y σ => wpCmp op x y σ KB := rfl
theorem tAnd {a b : IE} : wpT G n cl (.and a b) σ KB = wpT G n cl a σ fun c σ => if c = true then wpT G n cl b σ KB else KB false σ := rfl
theorem tOr {a b : IE} : wpT G n cl (.or a b) σ KB = wpT G n cl a σ fun c σ => if c = true then KB true σ else wpT G n cl b σ KB := rfl
theorem tNot {a : IE} : wpT G n cl (.not a) σ KB = wpT G n cl a σ fun c σ => KB (!c) σ := rfl
theorem tLc {i : Nat} : wpT G n cl (.loc i) σ KB = onLoc σ.loc i fun v => wpTruth v σ KB := rfl
theorem tAt {o : IE} {a : At} : wpT G n cl (.attr o a) σ KB = wpE G n cl o σ fun v σ => wpGetA v a σ fun v σ => wpTruth v σ KB := rfl
theorem gLoc {i : Nat} {v : V} : wpTg G n cl (.loc i) v σ KU = (i < σ.loc.length ∧ KU { σ with loc := σ.loc.set i (some v) }) := rfl
theorem gCel {i : Nat} {v : V} : wpTg G n cl (.cel i) v σ KU = onC cl σ.hp i fun j _ => KU { σ with hp := σ.hp.set j (.cell (some v)) } := rfl
theorem gAttr {o : IE} {a : At} {v : V} : wpTg G n cl (.attr o a) v σ KU = wpE G n cl o σ fun ov σ => wpSetA ov a v σ KU := rfl
theorem gSub {o i : IE} {v : V} : wpTg G n cl (.sub o i) v σ KU = wpE G n cl o σ fun ov σ => wpE G n cl i σ fun iv σ => wpSetI ov iv v σ KU := rfl
theorem gTup {ts : List Tg} {v : V} : wpTg G n cl (.tup ts) v σ KU = isR v fun j => onT σ.hp j fun _ vs => ts.length = vs.length ∧ wpTgs G n cl ts vs σ KU := rfl
theorem gsC {t : Tg} {ts : List Tg} {v : V} {vs : List V} : wpTgs G n cl (t :: ts) (v :: vs) σ KU = wpTg G n cl t v σ fun σ => wpTgs G n cl ts vs σ KU := rfl
theorem gsN {vs : List V} : wpTgs G n cl [] vs σ KU = KU σ := by cases vs <;> rfl
theorem sAssign {t : Tg} {e : IE} : wpS G n cl k (.assign t e) σ KS = wpE G n cl e σ fun v σ => wpTg G n cl t v σ fun σ => KS .next σ := rfl
theorem sAugL {i : Nat} {op : Operator} {e : IE} : wpS G n cl k (.aug (.loc i) op e) σ KS = wpE G n cl (.loc i) σ fun x σ => wpE G n cl e σ fun y σ => wpInp op x y σ fun v σ => wpTg G n cl (.loc i) v σ fun σ => KS .next σ := rfl
theorem sAugA {o : IE} {a : At} {op : Operator} {e : IE} : wpS G n cl k (.aug (.attr o a) op e) σ KS = wpE G n cl o σ fun ov σ => wpGetA ov a σ fun x σ => wpE G n cl e σ fun y σ => wpInp op x y σ fun v σ => wpSetA ov a v σ fun σ => KS .next σ := rfl
theorem sAugS {o i : IE} {op : Operator} {e : IE} : wpS G n cl k (.aug (.sub o i) op e) σ KS = wpE G n cl o σ fun ov σ => wpE G n cl i σ fun iv σ => wpSub ov iv σ fun x σ => wpE G n cl e σ fun y σ => wpInp op x y σ fun v σ => wpSetI ov iv v σ fun σ => KS .next σ := rfl
theorem sExpr {e : IE} : wpS G n cl k (.expr e) σ KS = wpE G n cl e σ fun _ σ => KS .next σ := rfl
theorem sIte {t : IE} {a b : List IS} : wpS G n cl k (.ite t a b) σ KS = wpT G n cl t σ fun c σ => if c = true then wpSs G n cl k a σ KS else wpSs G n cl k b σ KS := rfl
theorem sWhl {t : IE} {b : List IS} : wpS G n cl k (.whl t b) σ KS = whl (wpT G n cl t) (fun σ K => wpSs G n cl k b σ K) σ KS := rfl
theorem sFor {t : Tg} {it : IE} {b : List IS} : wpS G n cl k (.for t it b) σ KS = wpE G n cl it σ fun v σ => forV (wpTg G n cl t) (fun k σ K => wpSs G n cl k b σ K) k G n v σ KS := rfl
theorem sRet {e : IE} : wpS G n cl k (.ret e) σ KS = wpE G n cl e σ fun v σ => KS (.ret v) σ := rfl
theorem sBrk : wpS G n cl k .brk σ KS = KS .brk σ := rfl
theorem sCont : wpS G n cl k .cont σ KS = KS .cont σ := rfl
theorem sDefn {i fid : Nat} {P : Addr} {pos : Pos} {fr : List (Str × Nat)} : wpS G n cl k (.defn i fid P pos fr) σ KS = ∃ (t : Nat) (js : List (Str × Nat)), frJ cl fr = some js ∧ i < σ.loc.length ∧
      ((σ.hp[t]? = some (.tab P none) ∧ KS .next ⟨σ.loc.set i (some (.ref (σ.hp.length + 1))), (σ.hp.set t (.tab P (some (pos, σ.hp.length)))) ++ [.code (G.fn fid).qual, .fn fid js.reverse σ.hp.length]⟩) ∨
       (∃ c, σ.hp[t]? = some (.tab P (some (pos, c))) ∧ KS .next ⟨σ.loc.set i (some (.ref σ.hp.length)), σ.hp ++ [.fn fid js.reverse c]⟩)) := rfl
theorem ssN : wpSs G n cl k [] σ KS = KS .next σ := rfl
noncomputable def sq (G : Stat) (n : Nat) (cl : List (Option Nat)) (k : Nat) (r : List IS) (KS : Fl → St → Prop) (fl : Fl) (σ : St) : Prop := match fl with
      | .next => wpSs G n cl k r σ KS
      | .brk => KS .brk σ
      | .cont => KS .cont σ
      | .ret v => KS (.ret v) σ
theorem ssC {s : IS} {r : List IS} : wpSs G n cl k (s :: r) σ KS = wpS G n cl k s σ fun fl σ => (match fl with
      | .next => wpSs G n cl k r σ KS
      | .brk => KS .brk σ
      | .cont => KS .cont σ
      | .ret v => KS (.ret v) σ) := rfl
theorem bII {op : Operator} {a b : Int} : wpBin op (.int a) (.int b) σ K = binI op a b σ K := rfl
theorem bSS {op : Operator} {a b : List Nat} : wpBin op (.str a) (.str b) σ K = addS op a b σ K := rfl
theorem bRR {op : Operator} {a b : Nat} : wpBin op (.ref a) (.ref b) σ K = addL op a b σ K := rfl
theorem bRI {op : Operator} {a : Nat} {b : Int} : wpBin op (.ref a) (.int b) σ K = False := rfl
theorem biAdd {a b : Int} : binI .Add a b σ K = K (.int (a + b)) σ := rfl
theorem biSub {a b : Int} : binI .Sub a b σ K = K (.int (a - b)) σ := rfl
theorem biMul {a b : Int} : binI .Mult a b σ K = (fits a ∧ fits b ∧ K (.int (a * b)) σ) := rfl
theorem biMod {a b : Int} : binI .Mod a b σ K = (b ≠ 0 ∧ K (.int (a.fmod b)) σ) := rfl
theorem biDiv {a b : Int} : binI .FloorDiv a b σ K = (b ≠ 0 ∧ b.natAbs < 1073741824 ∧ K (.int (a.fdiv b)) σ) := rfl
theorem biPow {a b : Int} : binI .Pow a b σ K = (0 ≤ b ∧ b ≤ 64 ∧ 0 ≤ a ∧ a ≤ 1000 ∧ K (.int (a ^ b.toNat)) σ) := rfl
theorem adS {a b : List Nat} : addS .Add a b σ K = (a.length + b.length ≤ big ∧ K (.str (a ++ b)) σ) := rfl
theorem adL {i j : Nat} : addL .Add i j σ K = onL σ.hp i fun xs => onL σ.hp j fun ys => xs.length + ys.length ≤ big ∧ K (.ref σ.hp.length) { σ with hp := σ.hp ++ [.list (xs ++ ys)] } := rfl
theorem mlL : (true = true) = True := eq_self true
theorem iII {op : Operator} {a b : Int} : wpInp op (.int a) (.int b) σ K = inpI op a b σ K := rfl
theorem iSS {op : Operator} {a b : List Nat} : wpInp op (.str a) (.str b) σ K = addS op a b σ K := rfl
theorem niAdd {a b : Int} : inpI .Add a b σ K = K (.int (a + b)) σ := rfl
theorem niSub {a b : Int} : inpI .Sub a b σ K = K (.int (a - b)) σ := rfl
theorem niDiv {a b : Int} : inpI .FloorDiv a b σ K = (b ≠ 0 ∧ b.natAbs < 1073741824 ∧ K (.int (a.fdiv b)) σ) := rfl
theorem trR {i : Nat} : wpTruth (.ref i) σ KB = onL σ.hp i fun xs => xs.length ≤ big ∧ KB (!xs.isEmpty) σ := rfl
theorem qII {a b : Int} : wpEq (.int a) (.int b) σ KB = KB (a == b) σ := rfl
theorem qSS {a b : List Nat} : wpEq (.str a) (.str b) σ KB = KB (a == b) σ := rfl
theorem qIS {a : Int} {b : List Nat} : wpEq (.int a) (.str b) σ KB = KB false σ := rfl
theorem qSI {a : List Nat} {b : Int} : wpEq (.str a) (.int b) σ KB = KB false σ := rfl
theorem nS {x : V} {b : List Nat} : wpIn x (.str b) σ KB = inS x b σ KB := rfl
theorem nR {x : V} {j : Nat} : wpIn x (.ref j) σ KB = inD x j σ KB := rfl
theorem inO {a : Nat} {b : List Nat} : inS (.str [a]) b σ KB = KB (decide (a ∈ b)) σ := rfl
theorem cEq {x y : V} : wpCmp .Eq x y σ KB = wpEq x y σ KB := rfl
theorem cNe {x y : V} : wpCmp .NotEq x y σ KB = wpEq x y σ fun b σ => KB (!b) σ := rfl
theorem cLt {x y : V} : wpCmp .Lt x y σ KB = ltI x y fun a b => KB (decide (a < b)) σ := rfl
theorem cLe {x y : V} : wpCmp .LtE x y σ KB = ltI x y fun a b => KB (decide (a ≤ b)) σ := rfl
theorem cGt {x y : V} : wpCmp .Gt x y σ KB = ltI x y fun a b => KB (decide (b < a)) σ := rfl
theorem cGe {x y : V} : wpCmp .GtE x y σ KB = ltI x y fun a b => KB (decide (b ≤ a)) σ := rfl
theorem cIn {x y : V} : wpCmp .In x y σ KB = wpIn x y σ KB := rfl
theorem cNi {x y : V} : wpCmp .NotIn x y σ KB = wpIn x y σ fun b σ => KB (!b) σ := rfl
theorem ltII {a b : Int} {f : Int → Int → Prop} : ltI (.int a) (.int b) f = f a b := rfl
theorem suR {j : Nat} {i : Int} : wpSub (.ref j) (.int i) σ K = (fits i ∧ onT σ.hp j fun _ xs => subL xs i fun x => K x σ) := rfl
theorem suS {cs : List Nat} {i : Int} : wpSub (.str cs) (.int i) σ K = (fits i ∧ subS cs i fun x => K x σ) := rfl
noncomputable def sliV (o : V) (l h : Option Int) (σ : St) (K : V → St → Prop) : Prop := (∀ k, l = some k → fits k) ∧ (∀ k, h = some k → fits k) ∧ (match o with
      | .str cs => cs.length ≤ big ∧ K (.str (cutL cs l h)) σ
      | .ref j => onL σ.hp j fun xs => xs.length ≤ big ∧ K (.ref σ.hp.length) { σ with hp := σ.hp ++ [.list (cutL xs l h)] }
      | _ => False)
theorem slNI {o : V} {b : Int} : wpSli o none (some (.int b)) σ K = sliV o none (some b) σ K := rfl
theorem slII {o : V} {a b : Int} : wpSli o (some (.int a)) (some (.int b)) σ K = sliV o (some a) (some b) σ K := rfl
theorem svS {cs : List Nat} {l h : Option Int} : sliV (.str cs) l h σ K = ((∀ k, l = some k → fits k) ∧ (∀ k, h = some k → fits k) ∧ cs.length ≤ big ∧ K (.str (cutL cs l h)) σ) := rfl
theorem siR {j : Nat} {i : Int} {v : V} : wpSetI (.ref j) (.int i) v σ KU = onL σ.hp j fun xs => fits i ∧ (match idx i xs.length with
          | some m => KU { σ with hp := σ.hp.set j (.list (xs.set m v)) }
          | none => False) := rfl
theorem o1 {x : V} {k : V → Prop} : one1 [x] k = k x := rfl
theorem o2 {x y : V} {k : V → V → Prop} : two2 [x, y] k = k x y := rfl
theorem vI {i : Int} {k : Int → Prop} : isI (.int i) k = k i := rfl
theorem vS {i : List Nat} {k : List Nat → Prop} : isS (.str i) k = k i := rfl
theorem vR {i : Nat} {k : Nat → Prop} : isR (.ref i) k = k i := rfl
theorem lnS {cs : List Nat} : wLen (.str cs) σ K = (cs.length ≤ big ∧ K (.int cs.length) σ) := rfl
theorem lnR {i : Nat} : wLen (.ref i) σ K = onL σ.hp i fun xs => xs.length ≤ big ∧ K (.int xs.length) σ := rfl
theorem rg1 {x : V} : wRange [x] σ K = isI x fun b => fits b ∧ K (.ref σ.hp.length) { σ with hp := σ.hp ++ [.rng 0 b] } := rfl
theorem rg2 {x y : V} : wRange [x, y] σ K = isI x fun a => isI y fun b => fits a ∧ fits b ∧ K (.ref σ.hp.length) { σ with hp := σ.hp ++ [.rng a b] } := rfl
theorem fLen {vs : List V} : wpBf .len vs σ K = one1 vs fun x => wLen x σ K := rfl
theorem fAbs {vs : List V} : wpBf .abs vs σ K = one1 vs fun x => isI x fun i => K (.int i.natAbs) σ := rfl
theorem fStr {vs : List V} : wpBf .str vs σ K = one1 vs fun x => isI x fun i => fits i ∧ K (.str (digits i)) σ := rfl
theorem fMin {vs : List V} : wpBf .min vs σ K = two2 vs fun x y => isI x fun a => isI y fun b => K (.int (if b < a then b else a)) σ := rfl
theorem fRng {vs : List V} : wpBf .range vs σ K = wRange vs σ K := rfl
theorem fSum {vs : List V} : wpBf .sum vs σ K = one1 vs fun x => wSum x σ K := rfl
theorem fItr {vs : List V} : wpBf .iter vs σ K = two2 vs fun x y => wIter x y σ K := rfl
theorem lc0 {v : V} {l : List (Option V)} {k : V → Prop} : onLoc (some v :: l) 0 k = k v := rfl
theorem lcS {x : Option V} {l : List (Option V)} {i : Nat} {k : V → Prop} : onLoc (x :: l) (i + 1) k = onLoc l i k := rfl
theorem hkN : hok .none = true := rfl
theorem hkI {i : Int} : hok (.int i) = true := rfl
theorem hkS {cs : List Nat} : hok (.str cs) = true := rfl
theorem hkR {i : Nat} : hok (.ref i) = true := rfl
section
variable {wt : V → St → (St → Prop) → Prop} {wb : Nat → St → (Fl → St → Prop) → Prop}
theorem fvR {i : Nat} : forV wt wb k G n (.ref i) σ KS = (match σ.hp[i]? with
      | some o => forO wt wb k G n i o σ KS
      | none => False) := rfl
theorem foR {i : Nat} {lo hi : Int} : forO wt wb k G n i (.rng lo hi) σ KS = forR wt wb k lo hi σ KS := rfl
theorem foL {i : Nat} {xs : List V} : forO wt wb k G n i (.list xs) σ KS = forL wt wb k i xs σ KS := rfl
theorem foC {i : Nat} {f s : V} {d : Bool} : forO wt wb k G n i (.citer f s d) σ KS = isR f fun q => isS s fun x => forC wt wb k G n i q x σ KS := rfl
end
end
end Mine
namespace Mine
open PySem PySem.W PySem.Calls PyProof.Rows
section
variable {G : Stat} {cx : Cx} {ρ : List Addr} {σ : St} {h : Heap}
theorem R.back (r : R G cx ρ σ h) : ∃ m news, Fr cx.h₀ cx.env.locals h m ∧ News cx.h₀ cx.env.locals h news ∧
    ∀ h', Fr cx.h₀ cx.env.locals h' m → News cx.h₀ cx.env.locals h' news → R G cx ρ σ h' := by
  obtain ⟨m, F, hl⟩ := r.fr
  obtain ⟨news, N, hN, hP⟩ := r.news
  refine ⟨m, news, F, N, fun h' F' N' => ⟨⟨m, F', hl⟩, r.nd, r.len, fun i a ao e1 e2 => ?_, fun p hp => ⟨(N' _ (hP p hp)).1, (r.pin p hp).2⟩⟩⟩
  obtain ⟨o, hm, hO⟩ := hN i a ao e1 e2
  exact ⟨(N' _ hm).2.1, (N' _ hm).2.2, o, (N' _ hm).1, hO⟩
theorem R.backPush {m : Str → Option Value} {news : List (Addr × Obj)} {h' : Heap} {ob : Obj} {ao : O} (r : R G cx ρ σ h)
    (back : ∀ h', Fr cx.h₀ cx.env.locals h' m → News cx.h₀ cx.env.locals h' news → R G cx ρ σ h')
    (F' : Fr cx.h₀ cx.env.locals h' m) (N' : News cx.h₀ cx.env.locals h' ((h.objs.size, ob) :: news)) (hO : OR G (ρ ++ [h.objs.size]) h.objs.size ao ob) :
    R G cx (ρ ++ [h.objs.size]) { σ with hp := σ.hp ++ [ao] } h' :=
  (back h' F' fun p hp => N' p (.tail _ hp)).take (N' _ (.head _)).2.1 (N' _ (.head _)).2.2 r.notin r.pinlt (N' _ (.head _)).1 hO
theorem R.list {i : Nat} {xs : List V} (r : R G cx ρ σ h) (e : σ.hp[i]? = some (.list xs)) : ∃ a vs n, ρ[i]? = some a ∧ h.get? a = some (listOf (List.toArray vs) n) ∧ h.IsList a (List.toArray vs) ∧ VRs ρ xs vs := by
  obtain ⟨a, o, h1, h2, ⟨vs, n, rfl, hv⟩, _⟩ := r.at e
  exact ⟨a, vs, n, h1, h2, ⟨_, h2, rfl, n, rfl⟩, hv⟩
theorem R.tup {i : Nat} {xs : List V} (r : R G cx ρ σ h) (e : σ.hp[i]? = some (.tup xs)) : ∃ a vs n, ρ[i]? = some a ∧ h.get? a = some ({ cls := .type "tuple", data := .seq (List.toArray vs) n } : Obj) ∧ VRs ρ xs vs := by
  obtain ⟨a, o, h1, h2, ⟨vs, n, rfl, hv⟩, _⟩ := r.at e
  exact ⟨a, vs, n, h1, h2, hv⟩
theorem pre_snoc (ρ : List Addr) (a : Addr) : ρ <+: ρ ++ [a] := ⟨_, rfl⟩
theorem VR.snoc {ρ : List Addr} {a : Addr} {m : Nat} (h : ρ.length = m) : VR (ρ ++ [a]) (.ref m) (.ref a) := ⟨a, by rw [← h]; simp, rfl⟩
noncomputable abbrev Ret (G : Stat) (cx : Cx) {α β : Type} (rel : List Addr → β → α → Prop) (ρ : List Addr) (s : Shared) (K : β → St → Prop) (Q : α → Shared → Prop) : Prop :=
  ∀ b a σ' ρ' s', ρ <+: ρ' → R G cx ρ' σ' s'.heap → rel ρ' b a → K b σ' → Stp s s' → Q a s'
theorem sizeLine_big : big ≤ sizeLine := by decide
section
variable {s : Shared} {Q : Value → Shared → Prop} {E : Value → Shared → Prop} {K : V → St → Prop}
theorem R.tok (r : R G cx ρ σ s.heap) (hQ : Ret G cx VR ρ s K Q) {v : V} {v' : Value} {tk : Nat} (vv : VR ρ v v') (h : K v σ) : Q v' { s with toks := tk } :=
  hQ _ _ _ _ { s with toks := tk } (List.prefix_refl ρ) r vv h .of
theorem R.new {ob : Obj} {m : Str → Option Value} {news : List (Addr × Obj)} {h' : Heap} {ao : O} (r : R G cx ρ σ s.heap) (hQ : Ret G cx VR ρ s K Q)
    (back : ∀ h', Fr cx.h₀ cx.env.locals h' m → News cx.h₀ cx.env.locals h' news → R G cx ρ σ h')
    (h : K (.ref σ.hp.length) { σ with hp := σ.hp ++ [ao] }) (hO : OR G (ρ ++ [s.heap.objs.size]) s.heap.objs.size ao ob)
    (F' : Fr cx.h₀ cx.env.locals h' m) (N' : News cx.h₀ cx.env.locals h' ((s.heap.objs.size, ob) :: news)) : Q (.ref s.heap.objs.size) { s with heap := h' } :=
  hQ _ _ _ _ { s with heap := h' } (pre_snoc _ _) (r.backPush back F' N' hO) (VR.snoc r.len) h .of
theorem fits_bits {a : Int} (h : fits a) : Builtin.Int.intBits a ≤ 64 := by
  simp only [fits, lim] at h
  exact intBits_le_64 (by omega) (by omega)
theorem pow_bits {a b : Int} (h1 : 0 ≤ b) (h2 : b ≤ 64) (h3 : 0 ≤ a) (h4 : a ≤ 1000) : (Builtin.Int.intBits a : Int) * b ≤ 2 ^ 27 := by
  have hb : Builtin.Int.intBits a ≤ 64 := intBits_le_64 (by omega) (by omega)
  calc (Builtin.Int.intBits a : Int) * b ≤ 64 * 64 := Int.mul_le_mul (by omega) h2 h1 (by omega)
    _ ≤ 2 ^ 27 := by decide
theorem binI_ok {op : Operator} {a b : Int} {t u : Tok} (r : R G cx ρ σ s.heap) (h : binI op a b σ K) (hQ : Ret G cx VR ρ s K Q) : wpAny (model G.prog G.w) cx.A (binaryOp op (.int a t) (.int b u)) Q E s := by
  cases op with
  | Add => exact PyProof.Rows.add_int (r.tok hQ .i h)
  | Sub => exact PyProof.Rows.sub_int (r.tok hQ .i h)
  | Mult => exact PyProof.Rows.mul_int (r.tok hQ .i h.2.2) (IntMulOk.of_left (fits_bits h.1))
  | Mod => exact PyProof.Rows.mod_int' h.1 (r.tok hQ .i h.2)
  | FloorDiv => exact PyProof.Rows.floordiv_int h.1 (r.tok hQ .i h.2.2) (.inl (PyProof.noPylong_small h.2.1))
  | Pow => exact PyProof.Rows.pow_int h.1 (pow_bits h.1 h.2.1 h.2.2.1 h.2.2.2.1) (r.tok hQ .i h.2.2.2.2)
  | _ => exact False.elim h
theorem str_app (a b : List Nat) (t : Tok) : VR ρ (.str (a ++ b)) (.str ⟨a.toArray ++ b.toArray⟩ t) := ⟨t, by simp⟩
theorem str_size {a b : List Nat} (h : a.length + b.length ≤ big) : a.toArray.size + b.toArray.size ≤ sizeLine := Nat.le_trans h sizeLine_big
theorem addS_ok {op : Operator} {a b : List Nat} {t u : Tok} (r : R G cx ρ σ s.heap) (h : addS op a b σ K) (hQ : Ret G cx VR ρ s K Q) : wpAny (model G.prog G.w) cx.A (binaryOp op (.str ⟨a.toArray⟩ t) (.str ⟨b.toArray⟩ u)) Q E s := by
  cases op with
  | Add => exact PyProof.Rows.add_str (fun t' tk => r.tok hQ (str_app a b t') h.2) (str_size h.1)
  | _ => exact False.elim h
theorem VR.same {i : Nat} {a : Addr} {v' : Value} (e : ρ[i]? = some a) (h : VR ρ (.ref i) v') : v' = .ref a := by
  obtain ⟨b, hb, rfl⟩ := h
  rw [e] at hb; cases hb; rfl
theorem addL_ok {op : Operator} {i j : Nat} {x' y' : Value} (r : R G cx ρ σ s.heap) (vx : VR ρ (.ref i) x') (vy : VR ρ (.ref j) y') (h : addL op i j σ K) (hQ : Ret G cx VR ρ s K Q) : wpAny (model G.prog G.w) cx.A (binaryOp op x' y') Q E s := by
  cases op with
  | Add =>
    obtain ⟨xs, e1, h⟩ := onL_sp h
    obtain ⟨ys, e2, h⟩ := onL_sp h
    obtain ⟨a, vs, m, ha, hg, hl, hv⟩ := r.list e1
    obtain ⟨b, ws, m', hb, hg', hl', hv'⟩ := r.list e2
    rw [vx.same ha, vy.same hb]
    obtain ⟨m₀, news, F, N, back⟩ := r.back
    refine add_arrays F N hl hl' (fun h' F' N' => r.new hQ back h.2 ⟨vs ++ ws, 0, ?_, VRs.mono (pre_snoc _ _) (hv.append hv')⟩ F' N') ?_
    · simp
    · have e1 := hv.length; have e2 := hv'.length
      simp only [List.size_toArray]
      rw [← e1, ← e2]; exact Nat.le_trans h.1 sizeLine_big
  | _ => exact False.elim h
theorem bin_ok {n : Nat} {names : List (Str × NameKind)} {op : Operator} {x y : V} {x' y' : Value}
    (_ok : CxOk G cx n names) (r : R G cx ρ σ s.heap) (vx : VR ρ x x') (vy : VR ρ y y') (h : wpBin op x y σ K) (hQ : Ret G cx VR ρ s K Q) :
    wpAny (model G.prog G.w) cx.A (binaryOp op x' y') Q E s := by
  cases x with
  | int a => cases y with
    | int b => obtain ⟨t, rfl⟩ := vx; obtain ⟨u, rfl⟩ := vy; exact binI_ok r h hQ
    | _ => exact False.elim h
  | str a => cases y with
    | str b => obtain ⟨t, rfl⟩ := vx; obtain ⟨u, rfl⟩ := vy; exact addS_ok r h hQ
    | _ => exact False.elim h
  | ref i => cases y with
    | ref j => exact addL_ok r vx vy h hQ
    | int m => exact h.elim
    | _ => exact False.elim h
  | _ => exact False.elim h
end
end
end Mine
namespace Mine
open PySem PySem.W PySem.Calls PyProof.Rows
section
variable {G : Stat} {cx : Cx} {ρ : List Addr} {σ : St}
variable {n : Nat} {names : List (Str × NameKind)} {s : Shared} {E : Value → Shared → Prop}
theorem inpI_ok {op : Operator} {a b : Int} {t u : Tok} {K : V → St → Prop} {Q : Value → Shared → Prop} (r : R G cx ρ σ s.heap) (h : inpI op a b σ K) (hQ : Ret G cx VR ρ s K Q) : wpAny (model G.prog G.w) cx.A (inplaceOp op (.int a t) (.int b u)) Q E s := by
  cases op with
  | Add => exact PyProof.Rows.iadd_int (r.tok hQ .i h)
  | Sub => exact PyProof.Rows.isub_int (r.tok hQ .i h)
  | FloorDiv => exact PyProof.Rows.ifloordiv_int h.1 (r.tok hQ .i h.2.2) (.inl (PyProof.noPylong_small h.2.1))
  | _ => exact False.elim h
theorem inpS_ok {op : Operator} {a b : List Nat} {t u : Tok} {K : V → St → Prop} {Q : Value → Shared → Prop} (r : R G cx ρ σ s.heap) (h : addS op a b σ K) (hQ : Ret G cx VR ρ s K Q) : wpAny (model G.prog G.w) cx.A (inplaceOp op (.str ⟨a.toArray⟩ t) (.str ⟨b.toArray⟩ u)) Q E s := by
  cases op with
  | Add => exact PySem.SB.iadd (fun t' tk => r.tok hQ (str_app a b t') h.2) (str_size h.1)
  | _ => exact False.elim h
theorem iadd_rule {M : Model} {A : Around} {a b : Value} {Q : Value → Shared → Prop} (ha : s.TypeIs a "list") (hb : s.TypeIs b "list") (hc : wpAny M A (call (.builtin "list.__iadd__") [a, b]) Q E s) : wpAny M A (inplaceOp .Add a b) Q E s := by
  unfold inplaceOp
  refine wpAny_holding ?_
  have hfi : fillsInplaceSlot (.type "list") "add" (Operator.Add == .Add) = pure false := by kernel_rfl
  have hsi : seqSlot? (.type "list") (dunderI "add") = pure (some (.builtin "list.__iadd__")) := by kernel_rfl
  refine wpAny_bind (wpAny_typeOf ha (wpAny_bind (wpAny_of_eq hfi ?_)))
  show wpAny M A (if false = true then _ else _) Q E s
  rw [if_neg Bool.false_ne_true]
  refine wpAny_bind (wpAny_binaryOp1_none (nm := "add") ha hb (by kernel_rfl) ?_)
  refine wpAny_bind (wpAny_of_eq hsi ?_)
  exact wpAny_bind (wpAny_rule hc)
theorem inpL_ok {op : Operator} {i j : Nat} {x' y' : Value} {K : V → St → Prop} {Q : Value → Shared → Prop} (r : R G cx ρ σ s.heap) (vx : VR ρ (.ref i) x') (vy : VR ρ (.ref j) y') (h : inpL op i j σ K) (hQ : Ret G cx VR ρ s K Q) : wpAny (model G.prog G.w) cx.A (inplaceOp op x' y') Q E s := by
  cases op with
  | Add =>
    obtain ⟨xs, e, h⟩ := onL_sp h
    obtain ⟨ys, e2, hz, h⟩ := onL_sp h
    obtain ⟨a, ws, q, ha, hg, hl, hv⟩ := r.list e
    obtain ⟨b, us, q2, hb, hg2, hl2, hv2⟩ := r.list e2
    have hx := vx.same ha
    have hy := vy.same hb
    subst hx
    subst hy
    have l1 := hv.length
    have l2 := hv2.length
    have z : ws.toArray.size + us.toArray.size ≤ sizeLine := by
      rw [List.size_toArray, List.size_toArray, ← l1, ← l2]; exact Nat.le_trans hz sizeLine_big
    refine iadd_rule ⟨_, hg, rfl⟩ ⟨_, hg2, rfl⟩ (call_meets PySem.F.slot_list_iadd ⟨_, hg, rfl⟩ PySem.F.entry_list_iadd (PySem.F.args_list_iadd_2 _ _) (PySem.AutoSeq1.list___iadd___list_list_0 a _ q b _ q2 (PyProof.Rows.extend_door z) (Nat.le_trans (Nat.le_add_right _ _) z) (Nat.le_succ_of_le z)) ⟨hg, hg2, ?_⟩)
    refine hQ _ _ _ _ { s with heap := _ } (List.prefix_refl ρ) (r.upd ha (Heap.SameBut.update ..).extBut (PySem.IsL.update hg (fun xs => xs ++ us.toArray)) (ao' := .list (xs ++ ys)) ⟨ws ++ us, _, by rw [List.append_toArray], hv.append hv2⟩) vx h .of
  | _ => exact False.elim h
theorem inp_ok {op : Operator} {x y : V} {K : V → St → Prop} {Q : Value → Shared → Prop} {x' y' : Value}
    (r : R G cx ρ σ s.heap) (vx : VR ρ x x') (vy : VR ρ y y') (h : wpInp op x y σ K) (hQ : Ret G cx VR ρ s K Q) :
    wpAny (model G.prog G.w) cx.A (inplaceOp op x' y') Q E s := by
  cases x with
  | int a => cases y with
    | int b => obtain ⟨t, rfl⟩ := vx; obtain ⟨u, rfl⟩ := vy; exact inpI_ok r h hQ
    | _ => exact False.elim h
  | str a => cases y with
    | str b => obtain ⟨t, rfl⟩ := vx; obtain ⟨u, rfl⟩ := vy; exact inpS_ok r h hQ
    | _ => exact False.elim h
  | ref i => cases y with
    | ref j => exact inpL_ok r vx vy h hQ
    | _ => exact False.elim h
  | _ => exact False.elim h
theorem big63 {n : Nat} (h : n ≤ big) : (n : Int) < 2 ^ 63 := by
  have hb : (big : Int) < 2 ^ 63 := by decide
  omega
theorem truth_ok {v : V} {K : Bool → St → Prop} {Q : Bool → Shared → Prop} {v' : Value}
    (r : R G cx ρ σ s.heap) (vv : VR ρ v v') (h : wpTruth v σ K) (hQ : Ret G cx (fun _ (b a : Bool) => b = a) ρ s K Q) :
    wpAny (model G.prog G.w) cx.A (truthy v') Q E s := by
  have pr : ρ <+: ρ := List.prefix_refl ρ
  cases v with
  | bool b => cases vv; exact wpAny_truthy_bool (hQ _ _ _ _ s pr r rfl h (.refl s))
  | ref i =>
    obtain ⟨xs, e, h⟩ := onL_sp h
    obtain ⟨a, vs, m, ha, hg, hl, hv⟩ := r.list e
    rw [vv.same ha]
    refine wpAny_truthy_list hl ?_ (hQ (!xs.isEmpty) _ _ _ { s with toks := s.toks + 1 + 1 } pr r ?_ h.2 .of)
    · simp only [List.size_toArray, ← hv.length]; exact big63 h.1
    · cases hv <;> simp
  | _ => exact False.elim h
theorem rds_reads {h : Heap} {ρ : List Addr} {f : V → Option PyData} (hf : ∀ v v' d, VR ρ v v' → f v = some d → ∃ as, Reads h v' d as) :
    ∀ {xs : List V} {vs : List Value} {ds : List PyData}, VRs ρ xs vs → rds f xs = some ds → ∃ as, ReadsAll h vs ds as := by
  intro xs vs ds hv
  induction hv generalizing ds with
  | nil => intro e; cases e; exact ⟨_, .nil⟩
  | cons h1 _ ih =>
    intro e
    unfold rds at e
    split at e
    · rename_i d ds' e1 e2
      cases e
      obtain ⟨as, r1⟩ := hf _ _ _ h1 e1
      obtain ⟨bs, r2⟩ := ih e2
      exact ⟨_, .cons r1 r2⟩
    · cases e
theorem rd_reads0 {h : Heap} {m : Nat} {hp : List O} {v : V} {v' : Value} {d : PyData} (hn : ∀ i, v ≠ .ref i) (hv : VR ρ v v') (e : rd m hp v = some d) : ∃ as, Reads h v' d as := by
  cases v with
  | none => cases hv; cases m <;> (cases e; exact ⟨_, .none⟩)
  | bool b => cases hv; cases m <;> (cases e; exact ⟨_, .bool b⟩)
  | int i => obtain ⟨t, rfl⟩ := hv; cases m <;> (cases e; exact ⟨_, .int i t⟩)
  | str cs =>
    obtain ⟨t, rfl⟩ := hv
    have e : (if cs.all (fun c => decide (c < 55296)) = true then some (PyData.str ⟨cs.toArray⟩) else none) = some d := by cases m <;> exact e
    split at e
    · cases e; exact ⟨_, .str _ t⟩
    · cases e
  | ref i => exact absurd rfl (hn i)
  | stat x => cases m <;> cases e
theorem rd_reads (r : R G cx ρ σ s.heap) : ∀ (m : Nat) (v : V) (v' : Value) (d : PyData), VR ρ v v' → rd m σ.hp v = some d → ∃ as, Reads s.heap v' d as := by
  intro m
  induction m with
  | zero =>
    intro v v' d hv e
    refine rd_reads0 (fun i q => ?_) hv e
    subst q; cases e
  | succ m ih =>
    intro v v' d hv e
    by_cases hn : ∃ i, v = .ref i
    · obtain ⟨i, rfl⟩ := hn
      have e : (match σ.hp[i]? with
        | some (.list xs) => (rds (rd m σ.hp) xs).map .list
        | some (.tup xs) => (rds (rd m σ.hp) xs).map .tuple
        | _ => none) = some d := e
      revert e
      cases e1 : σ.hp[i]? with
      | none => intro e; cases e
      | some o => cases o with
        | list xs =>
          intro e
          obtain ⟨a', vs, k, ha', hg, hl, hv'⟩ := r.list e1
          rw [hv.same ha']
          obtain ⟨ds, e2, rfl⟩ := Option.map_eq_some_iff.mp e
          obtain ⟨as, ra⟩ := rds_reads (fun v v' d => ih v v' d) hv' e2
          exact ⟨_, .list hg rfl rfl (by simpa using ra)⟩
        | tup xs =>
          intro e
          obtain ⟨a', vs, k, ha', hg, hv'⟩ := r.tup e1
          rw [hv.same ha']
          obtain ⟨ds, e2, rfl⟩ := Option.map_eq_some_iff.mp e
          obtain ⟨as, ra⟩ := rds_reads (fun v v' d => ih v v' d) hv' e2
          exact ⟨_, .tuple hg rfl rfl (by simpa using ra)⟩
        | _ => intro e; cases e
    · exact rd_reads0 (fun i q => hn ⟨i, q⟩) hv e
theorem strOk_of {cs : List Nat} (h : cs.all (fun c => decide (c < 55296)) = true) : PyData.strOk ⟨cs.toArray⟩ = true := by
  unfold PyData.strOk
  simp only [List.all_toArray]
  refine List.all_eq_true.mpr fun c hc => ?_
  have := List.all_eq_true.mp h c hc
  simp at this ⊢; omega
theorem rds_lay {f : V → Option PyData} {m : Nat} (hf : ∀ v d, f v = some d → d.canLay0 = true ∧ d.depth ≤ m) :
    ∀ {xs : List V} {ds : List PyData}, rds f xs = some ds → PyData.canLayAll0 ds = true ∧ PyData.depthAll ds ≤ m := by
  intro xs
  induction xs with
  | nil => intro ds e; cases e; simp [PyData.canLayAll0, PyData.depthAll]
  | cons x xs ih =>
    intro ds e
    unfold rds at e
    split at e
    · rename_i d ds' e1 e2
      cases e
      obtain ⟨a1, a2⟩ := hf _ _ e1
      obtain ⟨b1, b2⟩ := ih e2
      simp [PyData.canLayAll0, PyData.depthAll, a1, b1]; omega
    · cases e
theorem rd_lay {hp : List O} : ∀ (m : Nat) (v : V) (d : PyData), rd m hp v = some d → d.canLay0 = true ∧ d.depth ≤ m := by
  have base : ∀ (m : Nat) (v : V) (d : PyData), (∀ i, v ≠ .ref i) → rd m hp v = some d → d.canLay0 = true ∧ d.depth ≤ m := by
    intro m v d hn e
    cases v with
    | none => cases m <;> (cases e; exact ⟨rfl, Nat.zero_le _⟩)
    | bool b => cases m <;> (cases e; exact ⟨rfl, Nat.zero_le _⟩)
    | int i => cases m <;> (cases e; exact ⟨rfl, Nat.zero_le _⟩)
    | str cs =>
      have e : (if cs.all (fun c => decide (c < 55296)) = true then some (PyData.str ⟨cs.toArray⟩) else none) = some d := by cases m <;> exact e
      split at e
      · rename_i e0; cases e; exact ⟨strOk_of e0, Nat.zero_le _⟩
      · cases e
    | ref i => exact absurd rfl (hn i)
    | stat x => cases m <;> cases e
  intro m
  induction m with
  | zero =>
    intro v d e
    refine base 0 v d (fun i q => ?_) e
    subst q; cases e
  | succ m ih =>
    intro v d e
    by_cases hn : ∃ i, v = .ref i
    · obtain ⟨i, rfl⟩ := hn
      have e : (match hp[i]? with
        | some (.list xs) => (rds (rd m hp) xs).map .list
        | some (.tup xs) => (rds (rd m hp) xs).map .tuple
        | _ => none) = some d := e
      revert e
      cases e1 : hp[i]? with
      | none => intro e; cases e
      | some o => cases o with
        | list xs =>
          intro e
          obtain ⟨ds, e2, rfl⟩ := Option.map_eq_some_iff.mp e
          obtain ⟨b1, b2⟩ := rds_lay ih e2
          simp only [PyData.canLay0, PyData.depth]
          exact ⟨b1, by omega⟩
        | tup xs =>
          intro e
          obtain ⟨ds, e2, rfl⟩ := Option.map_eq_some_iff.mp e
          obtain ⟨b1, b2⟩ := rds_lay ih e2
          simp only [PyData.canLay0, PyData.depth]
          exact ⟨b1, by omega⟩
        | _ => intro e; cases e
    · exact base _ v d (fun i q => hn ⟨i, q⟩) e
theorem shaped_of {hp : List O} {v : V} {d : PyData} (e : rd 4 hp v = some d) : SeqAt.shaped d = true := by
  obtain ⟨a, b⟩ := rd_lay 4 v d e
  unfold SeqAt.shaped
  simp [a]; omega
theorem beq_str (a b : List Nat) : ((⟨a.toArray⟩ : Str) == ⟨b.toArray⟩) = (a == b) := by
  by_cases h : a = b
  · subst h; simp
  · have h' : (⟨a.toArray⟩ : Str) ≠ ⟨b.toArray⟩ := fun q => h (by injection q with q; simpa using q)
    rw [beq_eq_false_iff_ne.mpr h, beq_eq_false_iff_ne.mpr h']
theorem eqD_ok {x y : V} {K : Bool → St → Prop} {x' y' : Value} (r : R G cx ρ σ s.heap) (vx : VR ρ x x') (vy : VR ρ y y') (h : eqD x y σ K) :
    ∃ dx dy as bs, Reads s.heap x' dx as ∧ Reads s.heap y' dy bs ∧ SeqAt.shaped dx = true ∧ SeqAt.shaped dy = true ∧ K (PyData.eqv dx dy) σ := by
  obtain ⟨dx, dy, e1, e2, h⟩ := h
  obtain ⟨as, r1⟩ := rd_reads r 4 _ _ _ vx e1
  obtain ⟨bs, r2⟩ := rd_reads r 4 _ _ _ vy e2
  exact ⟨dx, dy, as, bs, r1, r2, shaped_of e1, shaped_of e2, h⟩
theorem eqs_ok {x y : V} {K : Bool → St → Prop} {x' y' : Value} {P : Value → Value → (Bool → Prop) → Prop} (r : R G cx ρ σ s.heap) (vx : VR ρ x x') (vy : VR ρ y y') (h : wpEq x y σ K)
    (hi : ∀ a b t u q, q (a == b) → P (.int a t) (.int b u) q) (hs : ∀ (a b : Str) t u q, q (a == b) → P (.str a t) (.str b u) q) (hsi : ∀ (a : Str) b t u q, q false → P (.str a t) (.int b u) q) (his : ∀ a (b : Str) t u q, q false → P (.int a t) (.str b u) q)
    (hd : ∀ x y dx dy as bs q, Reads s.heap x dx as → Reads s.heap y dy bs → SeqAt.shaped dx = true → SeqAt.shaped dy = true → q (PyData.eqv dx dy) → P x y q) : P x' y' (fun b => K b σ) := by
  have dd : eqD x y σ K → P x' y' (fun b => K b σ) := fun h => by
    obtain ⟨dx, dy, as, bs, r1, r2, s1, s2, h⟩ := eqD_ok r vx vy h
    exact hd _ _ dx dy as bs _ r1 r2 s1 s2 h
  cases x with
  | int a => cases y with
    | int b => obtain ⟨t, rfl⟩ := vx; obtain ⟨u, rfl⟩ := vy; exact hi _ _ _ _ _ h
    | str b => obtain ⟨t, rfl⟩ := vx; obtain ⟨u, rfl⟩ := vy; exact his _ _ _ _ _ h
    | _ => exact dd h
  | str a => cases y with
    | int b => obtain ⟨t, rfl⟩ := vx; obtain ⟨u, rfl⟩ := vy; exact hsi _ _ _ _ _ h
    | str b => obtain ⟨t, rfl⟩ := vx; obtain ⟨u, rfl⟩ := vy; exact hs _ _ _ _ _ (by show K _ σ; rw [beq_str]; exact h)
    | _ => exact dd h
  | _ => exact dd h
theorem eq_ok {x y : V} {K : Bool → St → Prop} {Q : Value → Shared → Prop} {x' y' : Value} (hu : cx.A.units + 64 < cLine)
    (r : R G cx ρ σ s.heap) (vx : VR ρ x x') (vy : VR ρ y y') (h : wpEq x y σ K) (hQ : ∀ b, K b σ → Q (.bool b) s) :
    wpAny (model G.prog G.w) cx.A (compareOp .Eq x' y') Q E s :=
  eqs_ok (P := fun x y q => (∀ b, q b → Q (.bool b) s) → wpAny (model G.prog G.w) cx.A (compareOp .Eq x y) Q E s) r vx vy h
    (fun _ _ _ _ _ h hQ => PyProof.Rows.eq_int (hQ _ h)) (fun _ _ _ _ _ h hQ => PyProof.Rows.eq_str (hQ _ h)) (fun _ _ _ _ _ h hQ => EqMixed.eq_str_int (hQ _ h)) (fun _ _ _ _ _ h hQ => EqMixed.eq_int_str (hQ _ h))
    (fun _ _ _ _ _ _ _ r1 r2 s1 s2 h hQ => SeqAt.compareEq_shaped r1 r2 s1 s2 hu (hQ _ h)) hQ
theorem ne_ok {x y : V} {K : Bool → St → Prop} {Q : Value → Shared → Prop} {x' y' : Value} (hu : cx.A.units + 64 < cLine)
    (r : R G cx ρ σ s.heap) (vx : VR ρ x x') (vy : VR ρ y y') (h : wpEq x y σ K) (hQ : ∀ b, K b σ → Q (.bool (!b)) s) :
    wpAny (model G.prog G.w) cx.A (compareOp .NotEq x' y') Q E s :=
  eqs_ok (P := fun x y q => (∀ b, q b → Q (.bool (!b)) s) → wpAny (model G.prog G.w) cx.A (compareOp .NotEq x y) Q E s) r vx vy h
    (fun _ _ _ _ _ h hQ => PyProof.Rows.ne_int (hQ _ h)) (fun _ _ _ _ _ h hQ => PyProof.Rows.ne_str (hQ _ h)) (fun _ _ _ _ _ h hQ => EqMixed.ne_str_int (hQ _ h)) (fun _ _ _ _ _ h hQ => EqMixed.ne_int_str (hQ _ h))
    (fun _ _ _ _ _ _ _ r1 r2 s1 s2 h hQ => SeqAt.compareNe_shaped r1 r2 s1 s2 hu (hQ _ h)) hQ
theorem in_one (a : Nat) (b : List Nat) : Txt.contains ⟨b.toArray⟩ ⟨[a].toArray⟩ = decide (a ∈ b) := by
  unfold Txt.contains
  rw [StrLaws.found_one]
theorem ins_ok {x y : V} {K : Bool → St → Prop} {x' y' : Value} {P : Value → Value → (Bool → Prop) → Prop} (hu : cx.A.units + 64 < cLine) (r : R G cx ρ σ s.heap) (vx : VR ρ x x') (vy : VR ρ y y') (h : wpIn x y σ K)
    (hs : ∀ (a : Nat) (b : List Nat) t u q, q (decide (a ∈ b)) → P (.str ⟨[a].toArray⟩ t) (.str ⟨b.toArray⟩ u) q)
    (ht : ∀ x y d xs as bs q, Reads s.heap y (.tuple xs) bs → Reads s.heap x d as → PyData.canLayAll0 xs = true → d.canLay0 = true → cx.A.units + PyData.depthAll xs + d.depth + 8 < cLine → q (xs.any fun e => PyData.eqv e d) → P x y q)
    (hl : ∀ x y d xs as bs q, Reads s.heap y (.list xs) bs → Reads s.heap x d as → PyData.canLayAll0 xs = true → d.canLay0 = true → cx.A.units + PyData.depthAll xs + d.depth + 8 < cLine → q (xs.any fun e => PyData.eqv e d) → P x y q) : P x' y' (fun b => K b σ) := by
  cases y with
  | str b => cases x with
    | str cs => cases cs with
      | nil => exact False.elim h
      | cons a cs => cases cs with
        | nil => obtain ⟨t, rfl⟩ := vx; obtain ⟨u, rfl⟩ := vy; exact hs _ _ _ _ _ h
        | cons _ _ => exact False.elim h
    | _ => exact False.elim h
  | ref j =>
    obtain ⟨d, xs, e1, e2, h⟩ := h
    obtain ⟨as, r1⟩ := rd_reads r 4 _ _ _ vx e1
    obtain ⟨l1, l2⟩ := rd_lay 4 _ _ e1
    rcases e2 with e2 | e2
    · obtain ⟨bs, r2⟩ := rd_reads r 4 _ _ _ vy e2
      obtain ⟨m1, m2⟩ := rd_lay 4 _ _ e2
      simp only [PyData.canLay0, PyData.depth] at m1 m2
      exact ht _ _ d xs as bs _ r2 r1 m1 l1 (by omega) h
    · obtain ⟨bs, r2⟩ := rd_reads r 4 _ _ _ vy e2
      obtain ⟨m1, m2⟩ := rd_lay 4 _ _ e2
      simp only [PyData.canLay0, PyData.depth] at m1 m2
      exact hl _ _ d xs as bs _ r2 r1 m1 l1 (by omega) h
  | _ => exact False.elim h
theorem in_ok {x y : V} {K : Bool → St → Prop} {Q : Value → Shared → Prop} {x' y' : Value} (hu : cx.A.units + 64 < cLine)
    (r : R G cx ρ σ s.heap) (vx : VR ρ x x') (vy : VR ρ y y') (h : wpIn x y σ K) (hQ : ∀ b, K b σ → Q (.bool b) s) :
    wpAny (model G.prog G.w) cx.A (compareOp .In x' y') Q E s :=
  ins_ok (P := fun x y q => (∀ b, q b → Q (.bool b) s) → wpAny (model G.prog G.w) cx.A (compareOp .In x y) Q E s) hu r vx vy h
    (fun _ _ _ _ _ h hQ => PySem.SB.contains (by rw [in_one]; exact hQ _ h)) (fun _ _ _ _ _ _ _ r2 r1 m1 l1 hh h hQ => SeqAt.in_tuple_reads r2 r1 m1 l1 (by omega) (hQ _ h)) (fun _ _ _ _ _ _ _ r2 r1 m1 l1 hh h hQ => SeqAt.in_list_reads r2 r1 m1 l1 (by omega) (hQ _ h)) hQ
theorem notin_ok {x y : V} {K : Bool → St → Prop} {Q : Value → Shared → Prop} {x' y' : Value} (hu : cx.A.units + 64 < cLine)
    (r : R G cx ρ σ s.heap) (vx : VR ρ x x') (vy : VR ρ y y') (h : wpIn x y σ K) (hQ : ∀ b, K b σ → Q (.bool (!b)) s) :
    wpAny (model G.prog G.w) cx.A (compareOp .NotIn x' y') Q E s :=
  ins_ok (P := fun x y q => (∀ b, q b → Q (.bool (!b)) s) → wpAny (model G.prog G.w) cx.A (compareOp .NotIn x y) Q E s) hu r vx vy h
    (fun _ _ _ _ _ h hQ => PySem.SB.notContains (by rw [in_one]; exact hQ _ h)) (fun _ _ _ _ _ _ _ r2 r1 m1 l1 hh h hQ => SeqAt.notIn_tuple_reads r2 r1 m1 l1 (by omega) (hQ _ h)) (fun _ _ _ _ _ _ _ r2 r1 m1 l1 hh h hQ => SeqAt.notIn_list_reads r2 r1 m1 l1 (by omega) (hQ _ h)) hQ
theorem cmp_ok {op : CmpOp} {x y : V} {K : Bool → St → Prop} {Q : Value → Shared → Prop} {x' y' : Value} (ok : CxOk G cx n names)
    (r : R G cx ρ σ s.heap) (vx : VR ρ x x') (vy : VR ρ y y') (h : wpCmp op x y σ K) (hQ : ∀ b, K b σ → Q (.bool b) s) :
    wpAny (model G.prog G.w) cx.A (compareOp op x' y') Q E s := by
  have hu : cx.A.units + 64 < cLine := by have := ok.uni; have := cLine_is; omega
  cases op with
  | Eq => exact eq_ok hu r vx vy h hQ
  | NotEq => exact ne_ok (K := fun b σ => K (!b) σ) hu r vx vy h fun b => hQ (!b)
  | Lt => obtain ⟨a, b, rfl, rfl, h⟩ := ltI_sp h; obtain ⟨t, rfl⟩ := vx; obtain ⟨u, rfl⟩ := vy; exact PyProof.Rows.lt_int (hQ _ h)
  | LtE => obtain ⟨a, b, rfl, rfl, h⟩ := ltI_sp h; obtain ⟨t, rfl⟩ := vx; obtain ⟨u, rfl⟩ := vy; exact PyProof.Rows.le_int (hQ _ h)
  | Gt => obtain ⟨a, b, rfl, rfl, h⟩ := ltI_sp h; obtain ⟨t, rfl⟩ := vx; obtain ⟨u, rfl⟩ := vy; exact PyProof.Rows.gt_int (hQ _ h)
  | GtE => obtain ⟨a, b, rfl, rfl, h⟩ := ltI_sp h; obtain ⟨t, rfl⟩ := vx; obtain ⟨u, rfl⟩ := vy; exact PyProof.Rows.ge_int (hQ _ h)
  | In => exact in_ok hu r vx vy h hQ
  | NotIn => exact notin_ok (K := fun b σ => K (!b) σ) hu r vx vy h fun b => hQ (!b)
  | _ => exact False.elim h
end
end Mine
namespace Mine
open PySem PySem.W PySem.Calls PyProof.Rows
structure Stat.Cls (G : Stat) : Prop where
  pg : ∀ x : Str, plainGet G.K G.C x = true
  hd : hasDictIn G.K G.C = true
  fa : ∀ a : At, findIn G.K (.ref G.C) a.name = some none
  sa : findIn G.K (.ref G.C) "__setattr__" = some (some (.builtin "object.__setattr__"))
  po : plainOver G.K G.C = true
  tk : ∀ a : At, takerIn G.K G.C a.name = some none
  fm : ∀ m : Mt, findIn G.K (.ref G.C) m.name = some (some (.ref (G.mf m)))
  isf : ∀ m : Mt, isFn G.K (.ref (G.mf m)) = true
  get : ∀ m : Mt, specialIn G.K (.ref (G.mf m)) "__get__" = some (some (.builtin "function.__get__"))
  tak : ∀ m : Mt, takesIn G.K (.ref (G.mf m)) = some false
  mks : makesIn G.K G.C = true
  kp : ∀ m : Mt, keepIn G.K (.ref (G.mf m)) = true
  kc : keepIn G.K (.ref G.C) = true
  fnf : ∀ m : Mt, fnIn G.K (G.mf m) = true
theorem All2.erase {α β : Type} {P : α → β → Prop} {as : List α} {bs : List β} (h : All2 P as bs) : ∀ i, All2 P (as.eraseIdx i) (bs.eraseIdx i) := by
  induction h with
  | nil => intro i; simpa using All2.nil
  | cons h h' ih =>
    intro i
    cases i with
    | zero => simpa using h'
    | succ i => simpa using All2.cons h (ih i)
theorem At.name_inj : ∀ a b : At, a.name = b.name → a = b := by
  intro a b; cases a <;> cases b <;> first | (intro _; rfl) | (intro h; exact absurd h (by decide))
theorem At.ne_mt : ∀ (a : At) (m : Mt), a.name ≠ m.name := by intro a m; cases a <;> cases m <;> decide
section
variable {G : Stat} {cx : Cx} {ρ : List Addr} {σ : St} {h : Heap}
theorem R.backUpd {i : Nat} {a : Addr} {o : Obj} (r : R G cx ρ σ h) (e : ρ[i]? = some a) (ho : h.get? a = some o) :
    ∃ m rest, Fr cx.h₀ cx.env.locals h m ∧ News cx.h₀ cx.env.locals h ((a, o) :: rest) ∧ (∀ p ∈ rest, p.1 ≠ a) ∧
      ∀ h' o' ao', Fr cx.h₀ cx.env.locals h' m → News cx.h₀ cx.env.locals h' ((a, o') :: rest) → OR G ρ a ao' o' → R G cx ρ { σ with hp := σ.hp.set i ao' } h' := by
  obtain ⟨m, F, hl⟩ := r.fr
  obtain ⟨news, N, hN, hP⟩ := r.news
  obtain ⟨ao, o₂, e1, e2, hO, g1, g2⟩ := r.own' e
  rw [ho] at e2; cases e2
  refine ⟨m, news.filter fun p => decide (p.1 ≠ a), F, ?_, fun p hp => by simpa using (List.mem_filter.mp hp).2, fun h' o' ao' F' N' hO' => ⟨⟨m, F', hl⟩, r.nd, by simp [r.len], fun j b bo q1 q2 => ?_, fun p hp => ?_⟩⟩
  · intro p hp
    rcases List.mem_cons.mp hp with rfl | hp
    · exact ⟨ho, g1, g2⟩
    · exact N p (List.mem_filter.mp hp).1
  · by_cases hj : j = i
    · subst hj
      rw [e] at q1; cases q1
      rw [List.getElem?_set_self (List.getElem?_eq_some_iff.mp e1).1] at q2; cases q2
      have z := N' _ (.head _)
      exact ⟨z.2.1, z.2.2, o', z.1, hO'⟩
    · rw [List.getElem?_set_ne (Ne.symm hj)] at q2
      obtain ⟨ob, hm, hOb⟩ := hN j b bo q1 q2
      have hne : b ≠ a := fun q => hj (by
        subst q
        exact (List.getElem_inj (h₀ := (List.getElem?_eq_some_iff.mp q1).1) (h₁ := (List.getElem?_eq_some_iff.mp e).1) r.nd).mp (by
          rw [(List.getElem?_eq_some_iff.mp q1).2, (List.getElem?_eq_some_iff.mp e).2]))
      have z := N' (b, ob) (.tail _ (List.mem_filter.mpr ⟨hm, by simpa using hne⟩))
      exact ⟨z.2.1, z.2.2, ob, z.1, hOb⟩
  · have y := r.pin p hp
    have hne : p.1 ≠ a := fun q => y.2.1 (q ▸ List.mem_of_getElem? e)
    exact ⟨(N' p (.tail _ (List.mem_filter.mpr ⟨hP p hp, by simpa using hne⟩))).1, y.2⟩
theorem R.inst {v : V} {v' : Value} {d : Nat} {fs : List (At × V)} (r : R G cx ρ σ h) (vv : VR ρ v v') (e : instAt σ.hp v = some (d, fs)) :
    ∃ x dx es n, v' = .ref x ∧ ρ[d]? = some dx ∧ σ.hp[d]? = some (.dct fs) ∧ W.InstAt h x (instObj G.C dx) G.C (some (dictOf es n)) ∧ h.get? dx = some (dictOf es n) ∧ All2 (FR ρ) fs es := by
  obtain ⟨i, rfl, e1, e2⟩ := instAt_sp e
  obtain ⟨x, o, h1, h2, ⟨dx, rfl, h3⟩, _⟩ := r.at e1
  obtain ⟨dx', o', k1, k2, ⟨es, n, rfl, k3⟩, _⟩ := r.at e2
  rw [h3] at k1; cases k1
  exact ⟨x, dx, es, n, vv.same h1, h3, e2, ⟨h2, rfl, rfl, k2⟩, k2, k3⟩
theorem R.updSeq {i : Nat} {a : Addr} {vs vs' : List Value} {xs' : List V} {n : Nat} {f : Array Value → Array Value} (r : R G cx ρ σ h) (e : ρ[i]? = some a) (ho : h.get? a = some (listOf (List.toArray vs) n))
    (hf : f (List.toArray vs) = List.toArray vs') (hv : VRs ρ xs' vs') : R G cx ρ { σ with hp := σ.hp.set i (.list xs') } (h.update a (Obj.mapSeq f)) := by
  refine r.upd e (Heap.SameBut.update ..).extBut (PySem.IsL.update ho f) ?_
  exact ⟨vs', _, by rw [hf], hv⟩
theorem fr_key {f : At × V} {e : DictEntry} (h : FR ρ f e) (x : Str) : e.key.isStr x = decide (f.1.name = x) := by
  obtain ⟨h1, t, v', rfl, _⟩ := h
  show (f.1.name == x) = _
  by_cases q : f.1.name = x
  · simp [q]
  · simp [q]
theorem getL_some {fs : List (At × V)} {es : List DictEntry} (h : All2 (FR ρ) fs es) {a : At} {v : V} (e : getA a fs = some v) : ∃ v', getL a.name es = some (some v') ∧ VR ρ v v' := by
  induction h with
  | nil => cases e
  | cons hf hr ih =>
    rename_i f en fs es
    unfold getL
    rw [List.find?_cons]
    rw [fr_key hf]
    obtain ⟨b, x⟩ := f
    unfold getA at e
    by_cases q : a = b
    · subst q
      rw [if_pos rfl] at e; cases e
      obtain ⟨_, t, v', rfl, hv⟩ := hf
      simp only [decide_true]
      exact ⟨v', rfl, hv⟩
    · rw [if_neg q] at e
      have hne : ¬ (b.name = a.name) := fun z => q (At.name_inj _ _ z).symm
      simp only [hne, decide_false]
      obtain ⟨v', e1, hv⟩ := ih e
      refine ⟨v', ?_, hv⟩
      unfold getL at e1
      obtain ⟨_, t, w', rfl, _⟩ := hf
      cases hq : List.find? (fun e : DictEntry => e.key.isStr a.name) es with
      | some e' => rw [hq] at e1; exact e1
      | none => rw [hq] at e1; simp only at e1; split at e1 <;> cases e1
theorem refKeys_none {fs : List (At × V)} {es : List DictEntry} (h : All2 (FR ρ) fs es) : es.any (·.refKey) = false := by
  induction h with
  | nil => rfl
  | cons hf _ ih =>
    obtain ⟨_, t, v', rfl, _⟩ := hf
    rw [List.any_cons, ih]; rfl
theorem getL_none {fs : List (At × V)} {es : List DictEntry} (h : All2 (FR ρ) fs es) {x : Str} (hx : ∀ f ∈ fs, f.1.name ≠ x) : getL x es = some none := by
  have key : es.find? (fun e : DictEntry => e.key.isStr x) = none := by
    induction h with
    | nil => rfl
    | cons hf _ ih =>
      rw [List.find?_cons, fr_key hf]
      simp only [hx _ (.head _), decide_false]
      exact ih fun f hf' => hx f (.tail _ hf')
  unfold getL
  rw [key, refKeys_none h]; rfl
theorem getL_isSome {fs : List (At × V)} {es : List DictEntry} (h : All2 (FR ρ) fs es) (x : Str) : (getL x es).isSome = true := by
  unfold getL
  split
  · rfl
  · rw [refKeys_none h]; rfl
theorem put_ok {fs : List (At × V)} {es : List DictEntry} (h : All2 (FR ρ) fs es) {a : At} {v : V} {v' : Value} (vv : VR ρ v v') (hs : Int) (t : Tok) :
    All2 (FR ρ) (putA a v fs) (putL a.name hs (.str a.name t) v' es) := by
  induction h with
  | nil => exact .cons ⟨hs, t, v', rfl, vv⟩ .nil
  | cons hf hr ih =>
    rename_i f en fs es
    obtain ⟨b, x⟩ := f
    unfold putA putL
    rw [fr_key hf]
    by_cases q : a = b
    · subst q
      obtain ⟨h0, t0, v0, rfl, _⟩ := hf
      simp only [decide_true, if_true, lc0, lcS, vS, vI, vR, qSS, qII, qIS, qSI, iII, iSS, niAdd, adS, bII, bSS, biAdd, nS, inO, ltII, o1, o2, lnS, lnR, suR, suS, esN, esC, hkI, hkS, hkR, hkN]
      exact .cons ⟨h0, t0, v', rfl, vv⟩ hr
    · have hne : ¬ (b.name = a.name) := fun z => q (At.name_inj _ _ z).symm
      simp only [hne, decide_false, Bool.false_eq_true, if_false, if_neg q, lc0, lcS, vS, vI, vR, qSS, qII, qIS, qSI, iII, iSS, niAdd, adS, bII, bSS, biAdd, nS, inO, ltII, o1, o2, lnS, lnR, suR, suS, esN, esC, hkI, hkS, hkR, hkN]
      exact .cons hf ih
theorem putA_length (a : At) (v : V) : ∀ fs : List (At × V), (putA a v fs).length ≤ fs.length + 1
  | [] => by simp [putA]
  | (b, x) :: r => by
    unfold putA
    split
    · simp
    · have := putA_length a v r
      simp; omega
theorem handed_of {v : V} {v' : Value} (h : hok v = true) (vv : VR ρ v v') : handedIn v' = true := by
  cases v with
  | stat x => cases h
  | none => cases vv; rfl
  | bool b => cases vv; rfl
  | int i => obtain ⟨t, rfl⟩ := vv; rfl
  | str cs => obtain ⟨t, rfl⟩ := vv; rfl
  | ref i => obtain ⟨a, _, rfl⟩ := vv; rfl
end
section
variable {G : Stat} {cx : Cx} {ρ : List Addr} {σ : St}
variable {n : Nat} {names : List (Str × NameKind)} {s : Shared} {E : Value → Shared → Prop}
theorem getA_ok {v : V} {a : At} {K : V → St → Prop} {Q : Value → Shared → Prop} {v' : Value} {expr : Bool} (gc : G.Cls) (ok : CxOk G cx n names)
    (r : R G cx ρ σ s.heap) (vv : VR ρ v v') (h : wpGetA v a σ K) (hQ : Ret G cx VR ρ s K Q) :
    wpAny (model G.prog G.w) cx.A (getAttr v' a.name expr) Q E s := by
  obtain ⟨d, fs, e, h⟩ := onI_sp h
  obtain ⟨x, e1, hk, h⟩ := onA_sp h
  obtain ⟨y, dx, es, k, rfl, hd, _, I, _, hf⟩ := r.inst vv e
  obtain ⟨x', e2, vx⟩ := getL_some hf e1
  obtain ⟨m, F, _⟩ := r.fr
  exact get_own F ok.ok.X I (gc.pg _) gc.hd (gc.fa a) rfl e2 (handed_of hk vx) (r.tok hQ vx h)
theorem setA_ok {ov v : V} {a : At} {K : St → Prop} {Q : Unit → Shared → Prop} {ov' v' : Value} (gc : G.Cls) (ok : CxOk G cx n names)
    (r : R G cx ρ σ s.heap) (vo : VR ρ ov ov') (vv : VR ρ v v') (h : wpSetA ov a v σ K) (hQ : ∀ σ' s', R G cx ρ σ' s'.heap → K σ' → Stp s s' → Q () s') :
    wpAny (model G.prog G.w) cx.A (setAttr ov' a.name v') Q E s := by
  obtain ⟨d, fs, e, h⟩ := onI_sp h
  obtain ⟨y, dx, es, k, rfl, hd, hpd, I, hdx, hf⟩ := r.inst vo e
  obtain ⟨m, rest, F, N, hne, back⟩ := r.backUpd hd hdx
  have hp := put_ok hf (a := a) vv (PyData.keyHash G.w.params a.name) (s.toks + 1)
  refine W.set_dict F ok.ok.X N I rfl gc.sa gc.po (gc.tk a) gc.hd (getL_isSome hf _) rfl (.head hne) ?_ (fun h' F' N' => ?_)
  · have := hp.length
    have := putA_length a v fs
    omega
  · exact hQ _ { s with heap := h', toks := s.toks + 2 } (back h' _ (.dct (putA a v fs)) F' N' ⟨_, _, rfl, hp⟩) h.2 .of
theorem idx_cases {k : Int} {n m : Nat} (e : idx k n = some m) : (0 ≤ k ∧ k < n ∧ m = k.toNat) ∨ (k < 0 ∧ -(n : Int) ≤ k ∧ m = (k + n).toNat) := by
  unfold idx at e
  by_cases h : 0 ≤ k
  · rw [if_pos h] at e
    by_cases h' : k < n
    · rw [if_pos h'] at e; exact .inl ⟨h, h', (Option.some.inj e).symm⟩
    · rw [if_neg h'] at e; cases e
  · rw [if_neg h] at e
    by_cases h' : -(n : Int) ≤ k
    · rw [if_pos h'] at e; exact .inr ⟨Int.not_le.mp h, h', (Option.some.inj e).symm⟩
    · rw [if_neg h'] at e; cases e
theorem idx_seq {k : Int} {n m : Nat} (e : idx k n = some m) : seqIndex? k n = some m := by
  unfold seqIndex?
  rcases idx_cases e with ⟨h1, h2, rfl⟩ | ⟨h1, h2, rfl⟩
  · simp [show ¬ k < 0 by omega, h1, h2]
  · simp [h1, show 0 ≤ k + (n : Int) by omega]; omega
theorem fits63 {k : Int} (h : fits k) : -(2 ^ 63) ≤ k ∧ k < 2 ^ 63 := by simp only [fits, lim] at h; omega
theorem sub_okX {o i : V} {K : V → St → Prop} {Q : Value → Shared → Prop} {o' i' : Value}
    (r : R G cx ρ σ s.heap) (vo : VR ρ o o') (vi : VR ρ i i') (h : wpSub o i σ K) (hQ : ∀ v v' k, s.toks ≤ k → VR ρ v v' → K v σ → Q v' { s with toks := k }) :
    wpAny (model G.prog G.w) cx.A (getItem o' i') Q E s := by
  cases i with
  | int k =>
    obtain ⟨hf, h⟩ := h
    have hf := fits63 hf
    obtain ⟨u, rfl⟩ := vi
    cases o with
    | ref j =>
      obtain ⟨xs, ⟨e, h⟩ | ⟨e, h⟩⟩ := onT_sp h
      · obtain ⟨m, x, em, ex, h⟩ := subL_sp h
        obtain ⟨a', vs, q, ha', hg, hl, hv⟩ := r.list e
        rw [vo.same ha']
        obtain ⟨x', ex', vx⟩ := hv.get ex
        have hlen := hv.length
        have hq : Q x' s := hQ _ _ s.toks (Nat.le_refl _) vx h
        rcases idx_cases em with ⟨h1, h2, rfl⟩ | ⟨h1, h2, rfl⟩
        · exact wpAny_getItem_list hl h1 hf.2 (by simpa using ex') hq
        · exact wpAny_getItem_list_neg hl h1 (by simp; omega) hf.1 (by simp [← hlen, ex']) hq
      · obtain ⟨m, x, em, ex, h⟩ := subL_sp h
        obtain ⟨a', vs, q, ha', hg, hv⟩ := r.tup e
        rw [vo.same ha']
        obtain ⟨x', ex', vx⟩ := hv.get ex
        have hlen := hv.length
        exact PyProof.Rows.getItem_tuple (items := vs.toArray) ⟨_, hg, rfl, q, rfl⟩ hf.1 hf.2 (idx_seq (by simpa [← hlen] using em)) (by simpa using ex') (hQ _ _ s.toks (Nat.le_refl _) vx h)
    | str cs =>
      obtain ⟨m, c, em, ec, h⟩ := subS_sp h
      obtain ⟨t, rfl⟩ := vo
      refine PyProof.Rows.getItem_str (c := c) ?_ ?_ (hQ _ _ _ (Nat.le_succ _) (.s (cs := [c])) h)
      · simp; omega
      · have : seqIndex? k (Str.length ⟨cs.toArray⟩) = some m := idx_seq (by simpa [Str.length] using em)
        rw [this]; simpa using ec
    | _ => exact False.elim h
  | _ => exact False.elim h
theorem sub_ok {o i : V} {K : V → St → Prop} {Q : Value → Shared → Prop} {o' i' : Value}
    (r : R G cx ρ σ s.heap) (vo : VR ρ o o') (vi : VR ρ i i') (h : wpSub o i σ K) (hQ : Ret G cx VR ρ s K Q) :
    wpAny (model G.prog G.w) cx.A (getItem o' i') Q E s :=
  sub_okX r vo vi h fun v v' k _ vv hk => r.tok hQ vv hk
theorem setI_ok {ov iv v : V} {K : St → Prop} {Q : Unit → Shared → Prop} {ov' iv' v' : Value}
    (r : R G cx ρ σ s.heap) (vo : VR ρ ov ov') (vi : VR ρ iv iv') (vv : VR ρ v v') (h : wpSetI ov iv v σ K) (hQ : ∀ σ' s', R G cx ρ σ' s'.heap → K σ' → Stp s s' → Q () s') :
    wpAny (model G.prog G.w) cx.A (setItem ov' iv' v') Q E s := by
  cases ov with
  | ref j => cases iv with
    | int k =>
      obtain ⟨xs, e, hf, h⟩ := onL_sp h
      have hf := fits63 hf
      obtain ⟨u, rfl⟩ := vi
      obtain ⟨a', vs, q, ha, hg, hl, hv⟩ := r.list e
      rw [vo.same ha]
      have hlen := hv.length
      have key : ∀ m : Nat, R G cx ρ { σ with hp := σ.hp.set j (.list (xs.set m v)) } (s.heap.update a' (Obj.mapSeq (·.setIfInBounds m v'))) := fun m =>
        r.updSeq (f := (·.setIfInBounds m v')) ha hg (vs' := vs.set m v') (by apply Array.toList_inj.mp; simp) (hv.set vv m)
      revert h
      cases em : idx k xs.length with
      | none => exact False.elim
      | some m =>
        intro h
        rcases idx_cases em with ⟨h1, h2, rfl⟩ | ⟨h1, h2, rfl⟩
        · exact ki_setAt hg h1 hf.2 (by simp; omega) (hQ _ { s with heap := _ } (key _) h .of)
        · have key2 := key (k + xs.length).toNat
          rw [hlen] at key2
          exact ki_setBack hg h1 (by simp; omega) hf.1 (hQ _ { s with heap := _ } (by simpa using key2) (by rw [← hlen]; exact h) .of)
    | _ => exact False.elim h
  | _ => exact False.elim h
theorem strSlice_plain (lo hi : Option Int) (n : Nat) : Builtin.Str.strSliceIndices lo hi 1 n = sliceRange ((lo.elim 0 (clipAt n) : Nat) : Int) ((hi.elim n (clipAt n) : Nat) : Int) 1 := by
  unfold Builtin.Str.strSliceIndices
  cases lo <;> cases hi <;> simp [clipAt_cast]
theorem cutL_length {α : Type} (xs : List α) (lo hi : Option Int) : (cutL xs lo hi).length ≤ xs.length :=
  Nat.le_trans (List.length_take_le' _ _) (by rw [List.length_drop]; exact Nat.sub_le _ _)
theorem All2.cut {α β : Type} {P : α → β → Prop} {xs : List α} {vs : List β} (h : All2 P xs vs) (lo hi : Option Int) : All2 P (cutL xs lo hi) (cutL vs lo hi) := by
  unfold cutL; rw [h.length]; exact (h.drop _).take _
noncomputable def VO (ρ : List Addr) : Option V → Value → Prop
  | none, l' => l' = .none
  | some v, l' => VR ρ v l'
theorem part_of {l : Option V} {l' : Value} {k : Option Int} (e : optInt l = some k) (hv : VO ρ l l') :
    ∃ p : Option (Int × Tok), l' = partValue p ∧ p.map (·.1) = k := by
  unfold optInt at e
  split at e
  · cases e; exact ⟨none, hv, rfl⟩
  · cases e; obtain ⟨t, rfl⟩ := hv; exact ⟨some (_, t), rfl, rfl⟩
  · cases e
theorem isPart_of {p : Option (Int × Tok)} : IsPart (partValue p) (p.map (·.1)) := by
  cases p with
  | none => exact .none
  | some q => exact .int _ _
theorem optInt_sp {lo hi : Option V} {f : Option Int → Option Int → Prop} (h : match optInt lo, optInt hi with | some l, some h => f l h | _, _ => False) : ∃ l u, optInt lo = some l ∧ optInt hi = some u ∧ f l u := by
  revert h
  cases optInt lo with
  | none => exact False.elim
  | some l => cases optInt hi with
    | none => exact False.elim
    | some u => exact fun h => ⟨l, u, rfl, rfl, h⟩
theorem clip_le (n : Nat) (p : Option Int) : p.elim n (clipAt n) ≤ n := by
  cases p with
  | none => exact Nat.le_refl _
  | some q => exact Int.ofNat_le.mp (by rw [show Option.elim (some q) n (clipAt n) = clipAt n q from rfl, clipAt_cast]; exact Int.max_le.mpr ⟨Int.natCast_nonneg _, Int.min_le_right _ _⟩)
theorem cut_all {α : Type} {cs : List α} {A B : Nat} (h : B ≤ cs.length) (e : B - A = cs.length) : (cs.drop A).take (B - A) = cs := by
  rcases Nat.eq_zero_or_pos A with rfl | hA
  · rw [List.drop_zero, e, List.take_length]
  · cases B with
    | zero => rw [List.length_eq_zero_iff.mp (e.symm.trans (Nat.zero_sub A)), List.drop_nil, List.take_nil]
    | succ B => exact absurd (Nat.sub_lt (Nat.succ_pos B) hA) (Nat.not_lt.mpr (e ▸ h))
theorem sli_str {cs : List Nat} {t : Tok} {l u : Option (Int × Tok)} {K : V → St → Prop} {Q : Value → Shared → Prop} {s : Shared} (r : R G cx ρ σ s.heap) (hz : cs.length ≤ big) (h : K (.str (cutL cs (l.map (·.1)) (u.map (·.1)))) σ) (hQ : Ret G cx VR ρ s K Q) : (sliceMade ⟨cs.toArray⟩ t l u none).post Q s := by
  have hp : slicePicked ⟨cs.toArray⟩ l u none = sliceRange (((l.map (·.1)).elim 0 (clipAt cs.length) : Nat) : Int) (((u.map (·.1)).elim cs.length (clipAt cs.length) : Nat) : Int) 1 := by
    unfold slicePicked
    simp only [Option.map_none, Option.getD_none]
    rw [strSlice_plain]; rfl
  unfold sliceMade
  split
  · rename_i hw
    simp only [Option.map_none, Option.getD_none, BEq.rfl, Bool.true_and, beq_iff_eq] at hw
    rw [hp, sliceRange_one] at hw
    simp only [List.length_map, List.length_range, Str.length, List.size_toArray] at hw
    have hfull : cutL cs (l.map (·.1)) (u.map (·.1)) = cs := cut_all (clip_le _ _) hw
    rw [hfull] at h
    exact hQ _ _ _ _ _ (List.prefix_refl _) r (.s (t := t)) h (.refl s)
  · have hcut : ((slicePicked ⟨cs.toArray⟩ l u none).filterMap (fun i => cs.toArray[i]?)) = cutL cs (l.map (·.1)) (u.map (·.1)) := by
      rw [hp, sliceRange_one, pick_run]; rfl
    rw [hcut]
    exact ⟨Nat.le_trans (cutL_length cs _ _) (Nat.le_trans hz sizeLine_big), r.tok hQ .s h⟩
theorem sli_ok {o : V} {lo hi : Option V} {K : V → St → Prop} {Q : Value → Shared → Prop} {o' l' h' : Value}
    (r : R G cx ρ σ s.heap) (vo : VR ρ o o') (vl : VO ρ lo l') (vh : VO ρ hi h')
    (h : wpSli o lo hi σ K) (hQ : Ret G cx VR ρ s K Q) :
    wpAny (model G.prog G.w) cx.A (getItem o' (.ref s.heap.objs.size)) Q E { s with heap := s.heap.push { cls := .type "slice", data := .fields #[l', h', .none] } } := by
  obtain ⟨l, u, el, eu, _, _, h⟩ := optInt_sp h
  obtain ⟨pl, rfl, rfl⟩ := part_of el vl
  obtain ⟨pu, rfl, rfl⟩ := part_of eu vh
  have hob : (s.heap.push { cls := .type "slice", data := .fields #[partValue pl, partValue pu, .none] }).get? s.heap.objs.size = some ({ cls := .type "slice", data := .fields #[partValue pl, partValue pu, .none] } : Obj) := Heap.get?_push_size _ rfl
  have r1 := r.push { cls := .type "slice", data := .fields #[partValue pl, partValue pu, .none] }
  revert hob r1
  generalize hH : s.heap.push { cls := .type "slice", data := .fields #[partValue pl, partValue pu, .none] } = H
  intro hob r1
  have hQ1 : Ret G cx VR ρ { s with heap := H } K Q := fun b a σ' ρ' s' h1 h2 h3 h4 h5 => hQ b a σ' ρ' s' h1 h2 h3 h4 ((Stp.of (s := s) (h := H) (t := s.toks)).trans h5)
  cases o with
  | str cs =>
    obtain ⟨t, rfl⟩ := vo
    exact wpAny_getItem_str_slice (l := pl) (u := pu) (st := none) ⟨_, hob, rfl, rfl⟩ rfl (sli_str r1 h.1 h.2 hQ1)
  | ref j =>
    obtain ⟨xs, e, hz, h⟩ := onL_sp h
    obtain ⟨a', vs, q, ha', hg, hl, hv⟩ := r1.list e
    rw [vo.same ha']
    refine wpAny_getItem_list_slice hl (vl := partValue pl) (vu := partValue pu) (vs := .none) ⟨_, hob, rfl, rfl⟩ isPart_of isPart_of .none (by simp) ?_ ?_
    · rw [slicePick_plain]
      refine hQ1 _ _ _ _ { s with heap := _ } (pre_snoc _ _) (r1.alloc (ao := .list (cutL xs (pl.map (·.1)) (pu.map (·.1)))) ?_ rfl) (VR.snoc r1.len) h .of
      refine ⟨cutL vs (pl.map (·.1)) (pu.map (·.1)), 0, ?_, VRs.mono (pre_snoc _ _) (hv.cut _ _)⟩
      simp [cutL]
    · simp only [List.size_toArray, ← hv.length]; exact Nat.le_trans hz sizeLine_big
  | _ => exact False.elim h
theorem cnt_eq (c : Nat) : ∀ l : List Nat, cnt c l = (l.count c : Int)
  | [] => by rw [cnt_nil]; simp
  | x :: r => by
    rw [cnt_cons, cnt_eq c r, List.count_cons]
    by_cases h : x = c <;> simp [h] <;> omega
theorem count_one (cs : List Nat) (c : Nat) : Txt.count ⟨cs.toArray⟩ ⟨[c].toArray⟩ = (cs.count c : Int) := by
  have := count_cnt ⟨cs.toArray⟩ c
  rw [cnt_eq] at this
  simpa using this
theorem append_ok {i : Nat} {x : V} {K : V → St → Prop} {Q : Value → Shared → Prop} {o' x' : Value} (r : R G cx ρ σ s.heap) (vo : VR ρ (.ref i) o') (vx : VR ρ x x')
    (h : onL σ.hp i fun xs => xs.length ≤ big ∧ K .none { σ with hp := σ.hp.set i (.list (xs ++ [x])) }) (hQ : Ret G cx VR ρ s K Q) : wpAny (model G.prog G.w) cx.A (call (.builtin "list.append") [o', x']) Q E s := by
  obtain ⟨xs, e, hz, h⟩ := onL_sp h
  obtain ⟨a, ws, q, ha, hg, hl, hv⟩ := r.list e
  rw [vo.same ha]
  refine PyProof.Rows.append_at (hsz := ?_) hg fun h' hs ho' => hQ _ _ _ _ { s with heap := h' } (List.prefix_refl ρ) (r.upd ha hs.extBut ho' ?_) .n h .of
  · exact ⟨ws ++ [_], q + 1, by simp, hv.append (.cons vx .nil)⟩
  · rw [hv.length] at hz; exact Nat.le_trans hz sizeLine_big
theorem big62 {n : Nat} (h : n ≤ big) : (n : Int) < 2 ^ 62 := by
  have hb : (big : Int) < 2 ^ 62 := by decide
  omega
theorem pop_ok {i : Nat} {k : Int} {u : Tok} {K : V → St → Prop} {Q : Value → Shared → Prop} {o' : Value} (r : R G cx ρ σ s.heap) (vo : VR ρ (.ref i) o') (h : wPop i k σ K) (hQ : Ret G cx VR ρ s K Q) : wpAny (model G.prog G.w) cx.A (call (.builtin "list.pop") [o', .int k u]) Q E s := by
  obtain ⟨xs, e, h0, h1, hz, h⟩ := onL_sp h
  obtain ⟨a, ws, q, ha, hg, hl, hv⟩ := r.list e
  rw [vo.same ha]
  revert h
  cases ex : xs[k.toNat]? with
  | none => exact False.elim
  | some x =>
    intro h
    have hlen := hv.length
    obtain ⟨x', ex', vx⟩ := hv.get ex
    have hbig := big62 hz
    refine call_meets PySem.F.slot_list_pop ⟨_, hg, rfl⟩ PySem.F.entry_list_pop (PySem.F.args_list_pop_2 _ _) (PySem.MeetsSeq.list_pop_at a _ q k u k.toNat x' ?_ ?_ (by simpa using ex') (by rw [hlen] at hz; exact Nat.le_trans hz sizeLine_big)) ⟨hg, ?_⟩
    · simp [Builtin.List.listFitsIndex]; omega
    · refine idx_seq ?_
      unfold idx
      rw [if_pos h0, if_pos (by simp; omega)]
    · refine hQ _ _ _ _ { s with heap := _ } (List.prefix_refl ρ) (r.updSeq (f := fun xs => xs.eraseIdxIfInBounds k.toNat) (vs' := ws.eraseIdx k.toNat) (xs' := xs.eraseIdx k.toNat) ha hg ?_ (hv.erase _)) vx h .of
      apply Array.toList_inj.mp
      unfold Array.eraseIdxIfInBounds
      rw [dif_pos (by simp; omega)]
      simp
theorem ext_ok {i j : Nat} {K : V → St → Prop} {Q : Value → Shared → Prop} {o' x' : Value} (r : R G cx ρ σ s.heap) (vo : VR ρ (.ref i) o') (vx : VR ρ (.ref j) x')
    (h : wExt i j σ K) (hQ : Ret G cx VR ρ s K Q) : wpAny (model G.prog G.w) cx.A (call (.builtin "list.extend") [o', x']) Q E s := by
  obtain ⟨xs, e, h⟩ := onL_sp h
  obtain ⟨ys, e2, hz, h⟩ := onL_sp h
  obtain ⟨a, ws, q, ha, hg, hl, hv⟩ := r.list e
  obtain ⟨b, us, q2, hb, hg2, hl2, hv2⟩ := r.list e2
  rw [vo.same ha, vx.same hb]
  have l1 := hv.length
  have l2 := hv2.length
  have z : ws.toArray.size + us.toArray.size ≤ sizeLine := by
    rw [List.size_toArray, List.size_toArray, ← l1, ← l2]; exact Nat.le_trans hz sizeLine_big
  refine call_meets PySem.F.slot_list_extend ⟨_, hg, rfl⟩ PySem.F.entry_list_extend (PySem.F.args_list_extend_2 _ _) (PySem.AutoSeq1.list_extend_list_list_0 a _ q b _ q2 (PyProof.Rows.extend_door z) (Nat.le_trans (Nat.le_add_right _ _) z) (Nat.le_succ_of_le z)) ⟨hg, hg2, ?_⟩
  refine hQ _ _ _ _ { s with heap := _ } (List.prefix_refl ρ) (r.updSeq (f := fun xs => xs ++ us.toArray) (vs' := ws ++ us) (xs' := xs ++ ys) ha hg ?_ (hv.append hv2)) .n h .of
  simp
noncomputable def BM.id : BM → String × String
  | .append => ("list", "list.append") | .pop => ("list", "list.pop") | .remove => ("list", "list.remove") | .extend => ("list", "list.extend")
  | .count => ("str", "str.count") | .replace => ("str", "str.replace") | .split => ("str", "str.split") | .join => ("str", "str.join")
theorem VRs.one {x : V} {vs' : List Value} (h : VRs ρ [x] vs') : ∃ x', vs' = [x'] ∧ VR ρ x x' := by
  cases h with
  | cons h h' => cases h'; exact ⟨_, rfl, h⟩
theorem VRs.two {x y : V} {vs' : List Value} (h : VRs ρ [x, y] vs') : ∃ x' y', vs' = [x', y'] ∧ VR ρ x x' ∧ VR ρ y y' := by
  cases h with
  | cons h h' => obtain ⟨y', rfl, h2⟩ := VRs.one h'; exact ⟨_, _, rfl, h, h2⟩
theorem strs_of {ts : List (List Nat)} {vs : List Value} (h : VRs ρ (ts.map V.str) vs) : ∃ l : List (Str × Tok), vs = strValues l ∧ l.map (·.1) = ts.map fun t => ⟨t.toArray⟩ := by
  induction ts generalizing vs with
  | nil => cases h; exact ⟨[], rfl, rfl⟩
  | cons t ts ih =>
    cases h with
    | cons h1 h2 =>
      obtain ⟨u, rfl⟩ := h1
      obtain ⟨l, rfl, e⟩ := ih h2
      exact ⟨(⟨t.toArray⟩, u) :: l, rfl, by rw [List.map_cons, List.map_cons, e]⟩
theorem join_str (sep : List Nat) : ∀ ts : List (List Nat), Str.join ⟨sep.toArray⟩ (ts.map fun t => ⟨t.toArray⟩) = ⟨(joinS sep ts).toArray⟩
  | [] => rfl
  | [x] => rfl
  | x :: y :: r => by
    have ih := join_str sep (y :: r)
    show (⟨x.toArray⟩ : Str) ++ ⟨sep.toArray⟩ ++ Str.join ⟨sep.toArray⟩ ((y :: r).map fun t => ⟨t.toArray⟩) = _
    rw [ih]
    show (⟨(x.toArray ++ sep.toArray) ++ (joinS sep (y :: r)).toArray⟩ : Str) = ⟨(x ++ sep ++ joinS sep (y :: r)).toArray⟩
    simp
theorem join_ok {sep : List Nat} {t : Tok} {y : V} {y' : Value} {K : V → St → Prop} {Q : Value → Shared → Prop} (r : R G cx ρ σ s.heap) (vy : VR ρ y y') (h : wJoin sep y σ K) (hQ : Ret G cx VR ρ s K Q) : wpAny (model G.prog G.w) cx.A (call (.builtin "str.join") [.str ⟨sep.toArray⟩ t, y']) Q E s := by
  obtain ⟨i, e0, h1⟩ := isR_sp h
  subst e0
  obtain ⟨xs, e, ts, rfl, hz, hs, hK⟩ := onL_sp h1
  obtain ⟨a, ws, q, ha, hg, hl, hv⟩ := r.list e
  rw [vy.same ha]
  obtain ⟨l, rfl, el⟩ := strs_of hv
  refine PySem.SC.join hl el (joinOk_of_weight ?_ hs) fun t' k => r.tok hQ ?_ hK
  · rw [List.map_map, List.length_map]
    exact Nat.le_trans hz (by decide)
  · show VR ρ _ (.str (Builtin.Str.glued _ _) _)
    rw [StrLaws.glued_eq_join, join_str]
    exact .s
theorem strs_vr {ts : List Str} {l : List (Str × Tok)} (h : l.map (·.1) = ts) : VRs ρ ((ts.map fun p => p.cps.toList).map V.str) (strValues l) := by
  subst h
  induction l with
  | nil => exact .nil
  | cons p l ih => exact .cons ⟨p.2, rfl⟩ ih
theorem split_ok {cs sep : List Nat} {t u : Tok} {K : V → St → Prop} {Q : Value → Shared → Prop} (r : R G cx ρ σ s.heap) (h : wSplit cs sep σ K) (hQ : Ret G cx VR ρ s K Q) : wpAny (model G.prog G.w) cx.A (call (.builtin "str.split") [.str ⟨cs.toArray⟩ t, .str ⟨sep.toArray⟩ u]) Q E s := by
  obtain ⟨h0, hz, hK⟩ := h
  obtain ⟨m₀, news, F, N, back⟩ := r.back
  refine splitN1 F N ?_ (fun l h' k hl F' N' => ?_) ?_
  · show ((sep.toArray.size == 0) = false)
    simpa using h0
  · exact hQ _ _ _ _ { s with heap := h', toks := k } (pre_snoc _ _) (r.backPush back F' N' (ao := .list ((splitL sep cs).map V.str)) ⟨strValues l, 0, rfl, VRs.mono (pre_snoc _ _) (strs_vr hl)⟩) (VR.snoc r.len) hK .of
  · show cs.toArray.size + 2 ≤ sizeLine
    rw [List.size_toArray]
    exact Nat.le_trans (Nat.add_le_add_right hz 2) (by decide)
theorem bm_ok {m : BM} {o : V} {vs : List V} {K : V → St → Prop} {Q : Value → Shared → Prop} {o' : Value} {vs' : List Value}
    (r : R G cx ρ σ s.heap) (vo : VR ρ o o') (vv : VRs ρ vs vs') (h : wpBm m o vs σ K) (hQ : Ret G cx VR ρ s K Q) :
    wpAny (model G.prog G.w) cx.A (call (.builtin m.id.2) (o' :: vs')) Q E s := by
  cases m with
  | append =>
    obtain ⟨i, rfl, h⟩ := isR_sp h
    obtain ⟨x, rfl, h⟩ := one1_sp h
    obtain ⟨x', rfl, vx⟩ := vv.one
    exact append_ok r vo vx h hQ
  | pop =>
    obtain ⟨i, rfl, h⟩ := isR_sp h
    obtain ⟨x, rfl, h⟩ := one1_sp h
    obtain ⟨k, rfl, h⟩ := isI_sp h
    obtain ⟨_, rfl, ⟨u, rfl⟩⟩ := vv.one
    exact pop_ok r vo h hQ
  | count =>
    obtain ⟨cs, rfl, h⟩ := isS_sp h
    obtain ⟨x, rfl, h⟩ := one1_sp h
    obtain ⟨ds, rfl, h⟩ := isS_sp h
    obtain ⟨_, rfl, ⟨u, rfl⟩⟩ := vv.one
    obtain ⟨t, rfl⟩ := vo
    cases ds with
    | nil => exact False.elim h
    | cons c ds => cases ds with
      | nil => exact PySem.SC.count (by rw [count_one]; exact r.tok hQ .i h)
      | cons _ _ => exact False.elim h
  | join =>
    obtain ⟨cs, rfl, h⟩ := isS_sp h
    obtain ⟨x, rfl, h⟩ := one1_sp h
    obtain ⟨_, rfl, vx⟩ := vv.one
    obtain ⟨t, rfl⟩ := vo
    exact join_ok r vx h hQ
  | extend =>
    obtain ⟨i, rfl, h⟩ := isR_sp h
    obtain ⟨x, rfl, h⟩ := one1_sp h
    obtain ⟨j, rfl, h⟩ := isR_sp h
    obtain ⟨_, rfl, vx⟩ := vv.one
    exact ext_ok r vo vx h hQ
  | split =>
    obtain ⟨cs, rfl, h⟩ := isS_sp h
    obtain ⟨x, rfl, h⟩ := one1_sp h
    obtain ⟨sep, rfl, h⟩ := isS_sp h
    obtain ⟨_, rfl, ⟨u, rfl⟩⟩ := vv.one
    obtain ⟨t, rfl⟩ := vo
    exact split_ok r h hQ
  | _ => exact False.elim h
end
end Mine
namespace Mine
open PySem PySem.W PySem.Calls PyProof.Rows
noncomputable def BF.val : BF → Value
  | .len => .builtin "len"
  | .abs => .builtin "abs"
  | .str => .type "str"
  | .min => .builtin "min"
  | .sum => .builtin "sum"
  | .chr => .builtin "chr"
  | .iter => .builtin "iter"
  | .range => .type "range"
  | .list => .type "list"
  | .zip => .type "zip"
theorem kind_iter : builtinKind "iter" = none := by decide +kernel
theorem plain_iter : plainId "iter" = true := by decide +kernel
theorem args_iter2 (a b : Value) : argsOk "iter" ⟨[a, b], []⟩ := by unfold argsOk; kernel_rfl
theorem meth_call : ∃ id, typeLookup (.type "method") "__call__" = pure (some (.builtin id)) := ⟨"method.__call__", by kernel_rfl⟩
section
variable {G : Stat} {cx : Cx} {ρ : List Addr} {σ : St}
variable {n : Nat} {names : List (Str × NameKind)} {s : Shared} {E : Value → Shared → Prop}
theorem iter_call {prog : Program} {w : World} {A : Around} {a : Addr} {f x : Value} {y : Str} {t : Tok} {Q : Value → Shared → Prop} (ho : s.heap.get? a = some (methodObj f x))
    (h : Q (.ref s.heap.objs.size) { s with heap := s.heap.push { cls := .type "callable_iterator", data := .fields #[.ref a, .str y t, .bool false] } }) :
    wpAny (model prog w) A (call (.builtin "iter") [.ref a, .str y t]) Q E s := by
  refine call_function_entry kind_iter plain_iter kdk_entry_iter (args_iter2 _ _) ?_
  unfold Builtin.«iter»
  refine wpAny_bind (m := someArgs "iter" 1 2 _) (wpAny_of_eq (a := [Value.ref a, .str y t]) (by first | rfl | kernel_rfl) ?_)
  dsimp only
  obtain ⟨id, hid⟩ := meth_call
  refine wpAny_bind (wpAny_specialOf (name := Str.ofString "__call__") (T := "method") ⟨_, ho, rfl⟩ hid ?_)
  simp only [Option.isNone_some, Bool.false_eq_true, if_false, lc0, lcS, vS, vI, vR, qSS, qII, qIS, qSI, iII, iSS, niAdd, adS, bII, bSS, biAdd, nS, inO, ltII, o1, o2, lnS, lnR, suR, suS, esN, esC, hkI, hkS, hkR, hkN]
  refine wpAny_bind (wpAny_rule ?_)
  exact wpAny_bind (wpAny_newObj_type (wpAny_pure ⟨_, rfl, h⟩) (by size_fits))
theorem len_ok {v : V} {K : V → St → Prop} {Q : Value → Shared → Prop} {v' : Value} (r : R G cx ρ σ s.heap) (vv : VR ρ v v') (h : wLen v σ K) (hQ : Ret G cx VR ρ s K Q) : wpAny (model G.prog G.w) cx.A (call (.builtin "len") [v']) Q E s := by
  cases v with
  | str cs =>
    obtain ⟨t, rfl⟩ := vv
    have hb := big62 h.1
    refine PyProof.Rows.len_str ?_ (r.tok hQ .i (by simpa [Str.length] using h.2))
    simp [Str.length]; omega
  | ref i =>
    obtain ⟨xs, e, hz, h⟩ := onL_sp h
    obtain ⟨a, ws, q, ha, hg, hl, hv⟩ := r.list e
    rw [vv.same ha]
    have hlen := hv.length
    have hb := big62 hz
    exact PyProof.Rows.len_list hl (by simp; omega) (r.tok hQ .i (by simpa [← hlen] using h))
  | _ => exact False.elim h
theorem rng_new {lo hi : Int} {ob : Obj} {tk : Nat} {K : V → St → Prop} {Q : Value → Shared → Prop} (r : R G cx ρ σ s.heap) (hO : OR G (ρ ++ [s.heap.objs.size]) s.heap.objs.size (.rng lo hi) ob) (hf : ob.isFreed = false) (h : K (.ref σ.hp.length) { σ with hp := σ.hp ++ [.rng lo hi] }) (hQ : Ret G cx VR ρ s K Q) :
    Q (.ref s.heap.objs.size) { s with heap := s.heap.push ob, toks := tk } :=
  hQ _ _ _ _ { s with heap := s.heap.push ob, toks := tk } (pre_snoc _ _) (r.alloc hO hf) (VR.snoc r.len) h .of
theorem range_ok {vs : List V} {K : V → St → Prop} {Q : Value → Shared → Prop} {vs' : List Value} (r : R G cx ρ σ s.heap) (vv : VRs ρ vs vs') (h : wRange vs σ K) (hQ : Ret G cx VR ρ s K Q) : wpAny (model G.prog G.w) cx.A (call (.type "range") vs') Q E s := by
  cases vs with
  | nil => exact False.elim h
  | cons x vs => cases vs with
    | nil =>
      obtain ⟨b, rfl, h⟩ := isI_sp h
      obtain ⟨_, rfl, ⟨u, rfl⟩⟩ := vv.one
      exact call_range_1 (rng_new r ⟨_, _, _, rfl⟩ rfl h.2 hQ)
    | cons y vs =>
      obtain ⟨x1, y1, e, h1⟩ := two2_sp h
      rw [e] at vv
      obtain ⟨a, e2, h2⟩ := isI_sp h1
      obtain ⟨b, e3, h3⟩ := isI_sp h2
      subst e2; subst e3
      obtain ⟨_, _, rfl, ⟨t, rfl⟩, ⟨u, rfl⟩⟩ := vv.two
      exact call_range_2 (rng_new r ⟨_, _, _, rfl⟩ rfl h3.2.2 hQ)
theorem iter_ok {x y : V} {K : V → St → Prop} {Q : Value → Shared → Prop} {x' y' : Value} (r : R G cx ρ σ s.heap) (vx : VR ρ x x') (vy : VR ρ y y') (h : wIter x y σ K) (hQ : Ret G cx VR ρ s K Q) : wpAny (model G.prog G.w) cx.A (call (.builtin "iter") [x', y']) Q E s := by
  obtain ⟨i, e1, h1⟩ := isR_sp h
  obtain ⟨cs, e2, h2⟩ := isS_sp h1
  clear h h1
  subst e1; subst e2
  revert h2
  cases e : σ.hp[i]? with
  | none => exact False.elim
  | some o => cases o with
    | meth f x =>
      intro h
      obtain ⟨t, rfl⟩ := vy
      obtain ⟨a, o, ha, hg, ⟨f', x', rfl, hf, hx⟩, _⟩ := r.at e
      have vx' := vx
      rw [vx.same ha] at vx' ⊢
      refine iter_call hg (hQ _ _ _ _ { s with heap := _ } (pre_snoc _ _) (r.alloc (ao := .citer (.ref _) (.str _) false) ?_ rfl) (VR.snoc r.len) h .of)
      exact ⟨_, _, rfl, vx'.mono (pre_snoc _ _), .s⟩
    | _ => exact False.elim
theorem str_lim {i : Int} (hf : fits i) : i.natAbs.log2 < 64 := by
  simp only [fits, lim] at hf
  by_cases h0 : i.natAbs = 0
  · rw [h0]; decide
  · exact (Nat.log2_lt h0).mpr (by omega)
theorem ints_of {ns : List Int} {vs : List Value} (h : VRs ρ (ns.map V.int) vs) : IntsAre vs ns := by
  induction ns generalizing vs with
  | nil => cases h; exact .nil
  | cons n ns ih =>
    cases h with
    | cons h1 h2 => obtain ⟨t, rfl⟩ := h1; exact .cons n t (ih h2)
theorem sum_ok {x : V} {K : V → St → Prop} {Q : Value → Shared → Prop} {x' : Value} (ok : CxOk G cx n names) (r : R G cx ρ σ s.heap) (vx : VR ρ x x') (h : wSum x σ K) (hQ : Ret G cx VR ρ s K Q) : wpAny (model G.prog G.w) cx.A (call (.builtin "sum") [x']) Q E s := by
  obtain ⟨i, e0, h1⟩ := isR_sp h
  subst e0
  obtain ⟨xs, e, ns, rfl, hK⟩ := onL_sp h1
  obtain ⟨a, ws, q, ha, hg, hl, hv⟩ := r.list e
  rw [vx.same ha]
  obtain ⟨m₀, news, F, N, back⟩ := r.back
  exact sumK ok.hd F N hl (ints_of hv) fun h' tk t' F' N' => hQ _ _ _ _ { s with heap := h', toks := tk } (List.prefix_refl ρ) (back h' F' N') .i hK .of
theorem bf_ok {f : BF} {vs : List V} {K : V → St → Prop} {Q : Value → Shared → Prop} {vs' : List Value} (ok : CxOk G cx n names)
    (r : R G cx ρ σ s.heap) (vv : VRs ρ vs vs') (h : wpBf f vs σ K) (hQ : Ret G cx VR ρ s K Q) :
    wpAny (model G.prog G.w) cx.A (call f.val vs') Q E s := by
  cases f with
  | len =>
    obtain ⟨x, rfl, h⟩ := one1_sp h
    obtain ⟨x', rfl, vx⟩ := vv.one
    exact len_ok r vx h hQ
  | abs =>
    obtain ⟨x, rfl, h⟩ := one1_sp h
    obtain ⟨i, rfl, h⟩ := isI_sp h
    obtain ⟨_, rfl, ⟨t, rfl⟩⟩ := vv.one
    refine PyProof.Rows.call_abs_int fun u tk => r.tok hQ .i ?_
    have : (if i < 0 then -i else i) = (i.natAbs : Int) := by split <;> omega
    rw [this]; exact h
  | str =>
    obtain ⟨x, rfl, h⟩ := one1_sp h
    obtain ⟨i, rfl, h⟩ := isI_sp h
    obtain ⟨_, rfl, ⟨t, rfl⟩⟩ := vv.one
    have := str_lim h.1
    exact P.str_of_int (by omega) (r.tok hQ (.s (cs := digits i)) h.2)
  | min =>
    obtain ⟨x, y, e1, h1⟩ := two2_sp h
    obtain ⟨a, e2, h2⟩ := isI_sp h1
    obtain ⟨b, e3, h3⟩ := isI_sp h2
    clear h h1 h2
    subst e1; subst e2; subst e3
    obtain ⟨_, _, rfl, ⟨t, rfl⟩, ⟨u, rfl⟩⟩ := vv.two
    have h : K (.int (if b < a then b else a)) σ := h3
    clear h3
    refine min_two_ints ok.hd fun h' tk hk => ?_
    by_cases c : b < a
    · simp only [if_pos c] at h ⊢
      exact hQ _ _ _ _ { s with heap := h', toks := tk } (List.prefix_refl ρ) (r.grow hk) .i h .of
    · simp only [if_neg c] at h ⊢
      exact hQ _ _ _ _ { s with heap := h', toks := tk } (List.prefix_refl ρ) (r.grow hk) .i h .of
  | range => exact range_ok r vv h hQ
  | sum =>
    obtain ⟨x, rfl, h⟩ := one1_sp h
    obtain ⟨x', rfl, vx⟩ := vv.one
    exact sum_ok ok r vx h hQ
  | iter =>
    obtain ⟨x, y, rfl, h⟩ := two2_sp h
    obtain ⟨_, _, rfl, vx, vy⟩ := vv.two
    exact iter_ok r vx vy h hQ
  | _ => exact False.elim h
end
end Mine
namespace Mine
open PySem PySem.W PySem.Calls PyProof.Rows
noncomputable def ix (names : List (Str × NameKind)) (x : Str) : Option Nat := names.findIdx? fun p => p.1 == x
theorem ix_spec {names : List (Str × NameKind)} {x : Str} {i : Nat} (h : ix names x = some i) : ∃ k, names[i]? = some (x, k) ∧ names.lookup x = some k := by
  induction names generalizing i with
  | nil => simp [ix] at h
  | cons p r ih =>
    obtain ⟨y, k⟩ := p
    unfold ix at h
    rw [List.findIdx?_cons] at h
    by_cases q : (y == x) = true
    · simp only [q, if_true, lc0, lcS, vS, vI, vR, qSS, qII, qIS, qSI, iII, iSS, niAdd, adS, bII, bSS, biAdd, nS, inO, ltII, o1, o2, lnS, lnR, suR, suS, esN, esC, hkI, hkS, hkR, hkN] at h
      cases h
      have e := eq_of_beq q
      subst e
      exact ⟨k, rfl, by simp⟩
    · simp only [q] at h
      obtain ⟨j, hj, rfl⟩ := Option.map_eq_some_iff.mp h
      obtain ⟨k', h1, h2⟩ := ih hj
      refine ⟨k', by simpa using h1, ?_⟩
      have : (x == y) = false := by
        cases hxy : x == y with
        | false => rfl
        | true => exact absurd (by rw [eq_of_beq hxy]; simp) q
      rw [List.lookup_cons, this]; exact h2
noncomputable def At.of (x : Str) : Option At := [At.lineno, .instream, .whitespace, .pushback, .read].find? fun a => a.name == x
noncomputable def Mt.of (x : Str) : Option Mt := [Mt.init, .readChar, .getToken, .pushToken].find? fun a => a.name == x
noncomputable def BM.of (x : Str) : Option BM := [BM.append, .pop, .remove, .extend, .count, .replace, .split, .join].find? fun a => a.name == x
theorem At.of_spec {x : Str} {a : At} (h : At.of x = some a) : a.name = x := eq_of_beq (List.find?_some (p := fun a : At => a.name == x) h)
theorem Mt.of_spec {x : Str} {a : Mt} (h : Mt.of x = some a) : a.name = x := eq_of_beq (List.find?_some (p := fun a : Mt => a.name == x) h)
theorem BM.of_spec {x : Str} {a : BM} (h : BM.of x = some a) : a.name = x := eq_of_beq (List.find?_some (p := fun a : BM => a.name == x) h)
noncomputable def BF.of (v : Value) : Option BF := [BF.len, .abs, .str, .min, .sum, .chr, .iter, .range, .list, .zip].find? fun f => f.val == v
theorem BF.of_spec {v : Value} {f : BF} (h : BF.of v = some f) : f.val = v := eq_of_beq (List.find?_some (p := fun a : BF => a.val == v) h)
noncomputable def baseOk : Expr → Bool
  | .Name .. | .Attribute .. | .Subscript .. | .Constant .. => true
  | .Call (.Attribute ..) .. => true
  | _ => false
noncomputable def optO {α β : Type} (c : α → Option β) : Option α → Option (Option β)
  | none => some none
  | some e => (c e).bind fun a => some (some a)
noncomputable def isSli : Expr → Bool
  | .Slice .. => true
  | _ => false
noncomputable def asSli : (e : Expr) → Option { q : Option Expr × Option Expr × Pos // e = .Slice q.1 q.2.1 none q.2.2 }
  | .Slice lo hi none p => some ⟨(lo, hi, p), rfl⟩
  | _ => none
noncomputable def cConst : Const → Option V
  | .none => some .none
  | .bool b => some (.bool b)
  | .int i => some (.int i)
  | .str x => some (.str x.cps.toList)
  | _ => none
section
variable (names : List (Str × NameKind)) (gl : List (Str × Value)) (C : Addr) (ext : Expr → Option IE)
noncomputable def cName (x : Str) : Option IE := when (!(x == "__debug__" || x == "__classdict__")) ((ix names x).bind fun i => (names[i]?).bind fun p => match p.2 with
  | .local => some (.loc i)
  | .cell => some (.cel i)
  | .free => some (.cel i)
  | .globalImplicit => (gl.lookup x).bind fun v => some (.stat v)
  | _ => none)
noncomputable def tLoc : (a : IE) → Option { i : Nat // a = .loc i }
  | .loc i => some ⟨i, rfl⟩
  | _ => none
noncomputable def asName : (e : Expr) → Option { q : Str × Pos // e = .Name q.1 q.2 }
  | .Name x p => some ⟨(x, p), rfl⟩
  | _ => none
noncomputable def asSub : (e : Expr) → Option { q : Expr × Expr × Pos // e = .Subscript q.1 q.2.1 q.2.2 }
  | .Subscript o i p => some ⟨(o, i, p), rfl⟩
  | _ => none
noncomputable def cX (e : Expr) : Option IE :=
  alt ((asName e).bind fun q => (cName names gl q.1.1).bind fun a => (tLoc a).bind fun i => some (.loc i.1))
    ((asSub e).bind fun q => (asName q.1.1).bind fun x => (asName q.1.2.1).bind fun y => (cName names gl x.1.1).bind fun a => (tLoc a).bind fun i => (cName names gl y.1.1).bind fun b => (tLoc b).bind fun j => some (.sub (.loc i.1) (.loc j.1)))
noncomputable def cAttr (o : IE) (a : Str) : Option IE := match At.of a with
  | some a => some (.attr o a)
  | none => (Mt.of a).bind fun m => some (.mattr o m)
noncomputable def cCallV (v : Value) (es : List IE) : Option IE := match v with
  | .ref a => if a = C then some (.new es) else some (.call (.stat (.ref a)) es)
  | v => (BF.of v).bind fun b => some (.bf b es)
noncomputable def cCallN (v : IE) (es : List IE) : Option IE := match v with
  | .stat v => cCallV C v es
  | _ => none
noncomputable def cCallA (o : IE) (a : Str) (es : List IE) : Option IE := match BM.of a with
  | some m => some (.bm m o es)
  | none => (match Mt.of a with
      | some m => some (.um m o es)
      | none => (At.of a).bind fun a => some (.am a o es))
noncomputable def asStrC : (e : Expr) → Option { q : List Nat × Nat × Pos // e = .Constant (.str ⟨q.1.toArray⟩) q.2.1 q.2.2 }
  | .Constant (.str x) k p => some ⟨(x.cps.toList, k, p), rfl⟩
  | _ => none
noncomputable def two {α : Type} : List α → Option (α × α)
  | [a, b] => some (a, b)
  | _ => none
theorem two_sp {α : Type} {l : List α} {q : α × α} (h : two l = some q) : l = [q.1, q.2] := by
  cases l with
  | nil => exact nos h
  | cons a l => cases l with
    | nil => exact nos h
    | cons b l => cases l with
      | nil => cases h; rfl
      | cons _ _ => exact nos h
structure IsRepl (e o : Expr) (c : Nat) (b : List Nat) : Prop where
  ex : ∃ k1 p1 k2 p2 apos pos, e = .Call (.Attribute o "replace" apos) [.Constant (.str ⟨#[c]⟩) k1 p1, .Constant (.str ⟨b.toArray⟩) k2 p2] [] pos ∧ (apos.endLine == pos.line) = true
  base : baseOk o = true
  ne : ([c] == b) = false
  len : b.length ≤ 10
noncomputable def asCall : (e : Expr) → Option { q : Expr × Str × Pos × List Expr × Pos // e = .Call (.Attribute q.1 q.2.1 q.2.2.1) q.2.2.2.1 [] q.2.2.2.2 }
  | .Call (.Attribute o a apos) args [] pos => some ⟨(o, a, apos, args, pos), rfl⟩
  | _ => none
noncomputable def asRepl (e : Expr) : Option { q : Expr × Nat × List Nat // IsRepl e q.1 q.2.1 q.2.2 } :=
  match asCall e with
  | some ⟨(o, a, apos, args, pos), h⟩ => (match args, h with
      | [x, y], h => (match asStrC x, asStrC y with
          | some ⟨([c], k1, p1), hx⟩, some ⟨(b, k2, p2), hy⟩ =>
            if hc : (a == "replace" && apos.endLine == pos.line && baseOk o && !([c] == b) && decide (b.length ≤ 10)) = true then some ⟨(o, c, b), by
              simp only [Bool.and_eq_true, decide_eq_true_eq, Bool.not_eq_true'] at hc
              exact ⟨⟨k1, p1, k2, p2, apos, pos, by rw [h, hx, hy, eq_of_beq hc.1.1.1.1], hc.1.1.1.2⟩, hc.1.1.2, hc.1.2, hc.2⟩⟩ else none
          | _, _ => none)
      | _, _ => none)
  | none => none
noncomputable def asAdd : (e : Expr) → Option { q : Expr × Expr × Pos // e = .BinOp q.1 .Add q.2.1 q.2.2 }
  | .BinOp l .Add r p => some ⟨(l, r, p), rfl⟩
  | _ => none
noncomputable def cNeg (op : UnaryOp) (a : Expr) : Option IE := match op with
  | .USub => (match a with
      | .Constant c _ _ => (match c with
          | .int k => some (.k (.int (-k)))
          | _ => none)
      | _ => none)
  | _ => none
noncomputable def tAttr : IE → Option IE
  | .attr o a => some (.attr o a)
  | _ => none
mutual
noncomputable def cE : Nat → Expr → Option IE
  | 0, _ => none
  | f + 1, e => match e with
    | .Constant c _ _ => (cConst c).bind fun v => some (.k v)
    | .Name x _ => cName names gl x
    | .BinOp l op r _ => (cE f l).bind fun a => (cE f r).bind fun b => some (.bin op a b)
    | .UnaryOp op a _ => cNeg op a
    | .Compare l ops rs _ => (one ops).bind fun op => (one rs).bind fun r => when (!behindInMarks op r) ((cE f l).bind fun a => (cE f r).bind fun b => some (.cmp op a b))
    | .IfExp t a b _ => (cT f t).bind fun t => (cE f a).bind fun a => (cE f b).bind fun b => some (.ife t a b)
    | .List es _ => (mapO (cE f) es).bind fun es => some (.list es)
    | .Tuple es a b => alt (ext (.Tuple es a b)) ((mapO (cE f) es).bind fun es => some (.tup es))
    | .Attribute o a _ => when (baseOk o) ((cE f o).bind fun o => cAttr o a)
    | .Call fn args kws pos => alt (ext (.Call fn args kws pos)) (when kws.isEmpty ((mapO (cE f) args).bind fun es => match fn with
        | .Name x _ => (cName names gl x).bind fun v => cCallN C v es
        | .Attribute o a apos => when (baseOk o && apos.endLine == pos.line && decide (args.length < 20)) ((cE f o).bind fun o => cCallA o a es)
        | _ => none))
    | .Subscript v i _ => (match isSli i with
        | true => (asSli i).bind fun q => (cE f v).bind fun v => (optO (cE f) q.1.1).bind fun l => (optO (cE f) q.1.2.1).bind fun h => some (.sli v l h)
        | false => (cE f v).bind fun v => (cE f i).bind fun i => some (.sub v i))
    | .ListComp a b c d => ext (.ListComp a b c d)
    | _ => none
noncomputable def cT : Nat → Expr → Option IE
  | 0, _ => none
  | f + 1, e => match e with
    | .Compare l ops rs _ => (one ops).bind fun op => (one rs).bind fun r => when (!behindInMarks op r) ((cE f l).bind fun a => (cE f r).bind fun b => some (.cmp op a b))
    | .BoolOp op es _ => (match es with
        | [a, b] => (cT f a).bind fun a => (cT f b).bind fun b => (match op with
            | .And => some (.and a b)
            | .Or => some (.or a b))
        | _ => none)
    | .UnaryOp op a _ => (match op with
        | .Not => (cT f a).bind fun a => some (.not a)
        | _ => none)
    | .Name x _ => (cName names gl x).bind fun a => (tLoc a).bind fun i => some (.loc i.1)
    | .Attribute o a _ => when (baseOk o) ((cE f o).bind fun o => (cAttr o a).bind tAttr)
    | _ => none
end
end
noncomputable def TE (G : Stat) (n : Nat) (names : List (Str × NameKind)) (cl : List (Option Nat)) {α β : Type} (rel : List Addr → β → α → Prop) (t : Env → Sem α) (σ : St) (K : β → St → Prop) : Prop :=
  ∀ (cx : Cx) (ρ : List Addr) (s : Shared) (Q : α → Shared → Prop) (E : Value → Shared → Prop), CxOk G cx (n + 1) names → ClOk cx cl ρ → R G cx ρ σ s.heap → Ret G cx rel ρ s K Q →
    wpAny (model G.prog G.w) cx.A (t cx.env) Q E s
noncomputable def GlOk (G : Stat) (gl : List (Str × Value)) : Prop :=
  ∀ x v, gl.lookup x = some v → nsIn G.K mainGlobals x = some (some v) ∨ (nsIn G.K mainGlobals x = some none ∧ bootBuiltins x = some v ∧ x ≠ "__name__")
noncomputable def DE (G : Stat) (names : List (Str × NameKind)) (e : Expr) (ie : IE) : Prop :=
  ∀ n cl σ (K : V → St → Prop), wpE G n cl ie σ K → TE G n names cl VR (eval e) σ K
noncomputable def DT (G : Stat) (names : List (Str × NameKind)) (e : Expr) (ie : IE) : Prop :=
  ∀ n cl σ (K : Bool → St → Prop), wpT G n cl ie σ K → TE G n names cl (fun _ (b a : Bool) => b = a) (fun env => isTrue e env (eval e env)) σ K
section
variable {G : Stat} {names : List (Str × NameKind)} {gl : List (Str × Value)}
theorem DE_const {c : Const} {k : Nat} {pos : Pos} {v : V} (h : cConst c = some v) : DE G names (.Constant c k pos) (.k v) := by
  intro n cl σ K hw cx ρ s Q E ok hc r hQ
  simp only [eK, eLoc, eCel, eStat, eBin, eCmp, eIfe, eList, eTup, eAttr, eMattr, eCall, eNew, eBf, eBm, eUm, eAm, eSub, eSli, eComp, lc0, lcS, vS, vI, vR, qSS, qII, qIS, qSI, iII, iSS, niAdd, adS, bII, bSS, biAdd, nS, inO, ltII, o1, o2, lnS, lnR, suR, suS, esN, esC, hkI, hkS, hkR, hkN] at hw
  cases c with
  | none => cases h; exact fun _ _ _ => hQ _ _ _ _ s (List.prefix_refl _) r .n hw (.refl s)
  | bool b => cases h; exact fun _ _ _ => hQ _ _ _ _ s (List.prefix_refl _) r .b hw (.refl s)
  | int i => cases h; exact wpAny_Constant_int (hQ _ _ _ _ { s with toks := s.toks + 1 } (List.prefix_refl _) r .i hw .of)
  | str x => cases h; exact wpAny_Constant_str (hQ _ _ _ _ { s with toks := s.toks + 1 } (List.prefix_refl _) r .s hw .of)
  | _ => exact nos h
theorem kindOf_of {cx : Cx} {n : Nat} (ok : CxOk G cx n names) {x : Str} {k : NameKind} (h : names.lookup x = some k) : cx.env.kindOf x = some k := by
  unfold Env.kindOf; rw [ok.names]; exact h
theorem load_loc {cx : Cx} {n : Nat} {ρ : List Addr} {σ : St} {s : Shared} {E : Value → Shared → Prop} {Q : Value → Shared → Prop} {i : Nat} {x : Str} {v : V}
    (ok : CxOk G cx n names) (r : R G cx ρ σ s.heap) (hn : names[i]? = some (x, .local)) (hl : names.lookup x = some .local) (hv : σ.loc[i]? = some (some v)) (hQ : ∀ v', VR ρ v v' → Q v' s) :
    wpAny (model G.prog G.w) cx.A (loadName cx.env x) Q E s := by
  obtain ⟨m, F, hL⟩ := r.fr
  obtain ⟨v', h1, h2⟩ := hL i x v (by rw [ok.names]; exact hn) hv
  exact wpAny_loadName_local ok.kind (kindOf_of ok hl) F.ns h1 (hQ v' h2)
theorem DE_loc {x : Str} {pos : Pos} {i : Nat} (hi : ix names x = some i) (hk : ∃ y, names[i]? = some (y, .local)) (hd : (x == ("__debug__" : Str)) = false) : DE G names (.Name x pos) (.loc i) := by
  intro n cl σ K hw cx ρ s Q E ok hc r hQ
  simp only [eK, eLoc, eCel, eStat, eBin, eCmp, eIfe, eList, eTup, eAttr, eMattr, eCall, eNew, eBf, eBm, eUm, eAm, eSub, eSli, eComp, lc0, lcS, vS, vI, vR, qSS, qII, qIS, qSI, iII, iSS, niAdd, adS, bII, bSS, biAdd, nS, inO, ltII, o1, o2, lnS, lnR, suR, suS, esN, esC, hkI, hkS, hkR, hkN] at hw
  obtain ⟨k, h1, h2⟩ := ix_spec hi
  obtain ⟨y, hy⟩ := hk
  rw [h1] at hy; cases hy
  obtain ⟨v, e, hw⟩ := onLoc_sp hw
  exact wpAny_Name (load_loc ok r h1 h2 e fun v' hv => hQ _ _ _ _ s (List.prefix_refl _) r hv hw (.refl s)) hd
theorem load_cel {cx : Cx} {n : Nat} {ρ : List Addr} {σ : St} {s : Shared} {E : Value → Shared → Prop} {Q : Value → Shared → Prop} {i j : Nat} {x : Str} {k : NameKind} {v : V} {cl : List (Option Nat)}
    (ok : CxOk G cx n names) (hc : ClOk cx cl ρ) (r : R G cx ρ σ s.heap) (hn : names[i]? = some (x, k)) (hl : names.lookup x = some k) (hk : k = .cell ∨ k = .free) (hx : (x == ("__classdict__" : Str)) = false)
    (e1 : cl[i]? = some (some j)) (e2 : σ.hp[j]? = some (.cell (some v))) (hQ : ∀ v', VR ρ v v' → Q v' s) :
    wpAny (model G.prog G.w) cx.A (loadName cx.env x) Q E s := by
  obtain ⟨a, ha, hcell⟩ := hc.at_ i x k j (by rw [ok.names]; exact hn) e1
  obtain ⟨a', o, ha', ho, ⟨v', hd, hv⟩, _⟩ := r.at e2
  rw [ha] at ha'; cases ha'
  rcases hk with rfl | rfl
  · exact wpAny_loadName_cell ok.kind (kindOf_of ok hl) hcell ⟨o, ho, hd⟩ (hQ v' hv)
  · exact wpAny_loadName_free ok.kind (kindOf_of ok hl) hcell ⟨o, ho, hd⟩ (hQ v' hv) hx
theorem DE_cel {x : Str} {pos : Pos} {i : Nat} (hi : ix names x = some i) (hk : ∃ y k, names[i]? = some (y, k) ∧ (k = .cell ∨ k = .free)) (hd : (x == ("__debug__" : Str)) = false) (hx : (x == ("__classdict__" : Str)) = false) :
    DE G names (.Name x pos) (.cel i) := by
  intro n cl σ K hw cx ρ s Q E ok hc r hQ
  simp only [eK, eLoc, eCel, eStat, eBin, eCmp, eIfe, eList, eTup, eAttr, eMattr, eCall, eNew, eBf, eBm, eUm, eAm, eSub, eSli, eComp, lc0, lcS, vS, vI, vR, qSS, qII, qIS, qSI, iII, iSS, niAdd, adS, bII, bSS, biAdd, nS, inO, ltII, o1, o2, lnS, lnR, suR, suS, esN, esC, hkI, hkS, hkR, hkN] at hw
  obtain ⟨k, h1, h2⟩ := ix_spec hi
  obtain ⟨y, k', hy, hkk⟩ := hk
  rw [h1] at hy; cases hy
  obtain ⟨j, o, e1, e2, hw⟩ := onC_sp hw
  cases o with
  | none => exact False.elim hw
  | some v => exact wpAny_Name (load_cel ok hc r h1 h2 hkk hx e1 e2 fun v' hv => hQ _ _ _ _ s (List.prefix_refl _) r hv hw (.refl s)) hd
theorem DE_glob (hgl : GlOk G gl) {x : Str} {pos : Pos} {i : Nat} {v : Value} (hi : ix names x = some i) (hk : ∃ y, names[i]? = some (y, .globalImplicit)) (hv : gl.lookup x = some v) (hd : (x == ("__debug__" : Str)) = false) :
    DE G names (.Name x pos) (.stat v) := by
  intro n cl σ K hw cx ρ s Q E ok hc r hQ
  simp only [eK, eLoc, eCel, eStat, eBin, eCmp, eIfe, eList, eTup, eAttr, eMattr, eCall, eNew, eBf, eBm, eUm, eAm, eSub, eSli, eComp, lc0, lcS, vS, vI, vR, qSS, qII, qIS, qSI, iII, iSS, niAdd, adS, bII, bSS, biAdd, nS, inO, ltII, o1, o2, lnS, lnR, suR, suS, esN, esC, hkI, hkS, hkR, hkN] at hw
  obtain ⟨k, h1, h2⟩ := ix_spec hi
  obtain ⟨y, hy⟩ := hk
  rw [h1] at hy; cases hy
  have hq : Q v s := hQ _ _ _ _ s (List.prefix_refl _) r .st hw (.refl s)
  have T := ok.ok.T.keeps r.keep
  have X := ok.ok.X.keeps r.keep
  refine Name_function_global ok.kind (kindOf_of ok h2) ?_ hd
  rcases hgl x v hv with e | ⟨e1, e2, e3⟩
  · exact loadGlobal_global (by rw [ok.glob]; exact T.g) (mg_of X T.g e) hq
  · exact loadGlobal_builtin (by rw [ok.glob]; exact T.g) (mg_none_of X T.g e1) (by rw [ok.bi]; exact T.b) ((T.builtins x e3).trans e2) hq
theorem DE_bin {l r : Expr} {op : Operator} {pos : Pos} {a b : IE} (h1 : DE G names l a) (h2 : DE G names r b) : DE G names (.BinOp l op r pos) (.bin op a b) := by
  intro n cl σ K hw cx ρ s Q E ok hc r hQ
  simp only [eK, eLoc, eCel, eStat, eBin, eCmp, eIfe, eList, eTup, eAttr, eMattr, eCall, eNew, eBf, eBm, eUm, eAm, eSub, eSli, eComp, lc0, lcS, vS, vI, vR, qSS, qII, qIS, qSI, iII, iSS, niAdd, adS, bII, bSS, biAdd, nS, inO, ltII, o1, o2, lnS, lnR, suR, suS, esN, esC, hkI, hkS, hkR, hkN] at hw
  refine wpAny_BinOp (h1 n cl σ _ hw cx ρ s _ _ ok hc r ?_)
  intro x x' σ1 ρ1 s1 p1 r1 vx hw st1
  refine h2 n cl σ1 _ hw cx ρ1 s1 _ _ ok (hc.mono p1) r1 ?_
  intro y y' σ2 ρ2 s2 p2 r2 vy hw st2
  exact bin_ok ok r2 (vx.mono p2) vy hw fun v v' σ3 ρ3 s3 p3 r3 vv k3 st3 => hQ v v' σ3 ρ3 s3 (p1.trans (p2.trans p3)) r3 vv k3 (st1.trans (st2.trans st3))
theorem DE_cmp {l r : Expr} {op : CmpOp} {pos : Pos} {a b : IE} (hm : behindInMarks op r = false) (h1 : DE G names l a) (h2 : DE G names r b) : DE G names (.Compare l [op] [r] pos) (.cmp op a b) := by
  intro n cl σ K hw cx ρ s Q E ok hc r hQ
  simp only [eK, eLoc, eCel, eStat, eBin, eCmp, eIfe, eList, eTup, eAttr, eMattr, eCall, eNew, eBf, eBm, eUm, eAm, eSub, eSli, eComp, lc0, lcS, vS, vI, vR, qSS, qII, qIS, qSI, iII, iSS, niAdd, adS, bII, bSS, biAdd, nS, inO, ltII, o1, o2, lnS, lnR, suR, suS, esN, esC, hkI, hkS, hkR, hkN] at hw
  refine wpAny_Compare1 (h1 n cl σ _ hw cx ρ s _ _ ok hc r ?_) hm
  intro x x' σ1 ρ1 s1 p1 r1 vx hw st1
  refine h2 n cl σ1 _ hw cx ρ1 s1 _ _ ok (hc.mono p1) r1 ?_
  intro y y' σ2 ρ2 s2 p2 r2 vy hw st2
  exact cmp_ok ok r2 (vx.mono p2) vy hw fun v k3 => hQ _ _ _ _ s2 (p1.trans p2) r2 .b k3 (st1.trans st2)
theorem DT_cmp {l r : Expr} {op : CmpOp} {pos : Pos} {a b : IE} (hm : behindInMarks op r = false) (h1 : DE G names l a) (h2 : DE G names r b) : DT G names (.Compare l [op] [r] pos) (.cmp op a b) := by
  intro n cl σ K hw cx ρ s Q E ok hc r hQ
  simp only [tCmp, tAnd, tOr, tNot, tLc, tAt, lc0, lcS, vS, vI, vR, qSS, qII, qIS, qSI, iII, iSS, niAdd, adS, bII, bSS, biAdd, nS, inO, ltII, o1, o2, lnS, lnR, suR, suS, esN, esC, hkI, hkS, hkR, hkN] at hw
  refine wpAny_isTrue_Compare1 (h1 n cl σ _ hw cx ρ s _ _ ok hc r ?_) hm
  intro x x' σ1 ρ1 s1 p1 r1 vx hw st1
  refine h2 n cl σ1 _ hw cx ρ1 s1 _ _ ok (hc.mono p1) r1 ?_
  intro y y' σ2 ρ2 s2 p2 r2 vy hw st2
  exact cmp_ok ok r2 (vx.mono p2) vy hw fun v k3 => wpAny_truthy_bool (hQ _ _ _ _ s2 (p1.trans p2) r2 rfl k3 (st1.trans st2))
theorem DE_ife {t a b : Expr} {pos : Pos} {it ia ib : IE} (h0 : DT G names t it) (h1 : DE G names a ia) (h2 : DE G names b ib) : DE G names (.IfExp t a b pos) (.ife it ia ib) := by
  intro n cl σ K hw cx ρ s Q E ok hc r hQ
  simp only [eK, eLoc, eCel, eStat, eBin, eCmp, eIfe, eList, eTup, eAttr, eMattr, eCall, eNew, eBf, eBm, eUm, eAm, eSub, eSli, eComp, lc0, lcS, vS, vI, vR, qSS, qII, qIS, qSI, iII, iSS, niAdd, adS, bII, bSS, biAdd, nS, inO, ltII, o1, o2, lnS, lnR, suR, suS, esN, esC, hkI, hkS, hkR, hkN] at hw
  refine wpAny_IfExp (h0 n cl σ _ hw cx ρ s _ _ ok hc r ?_)
  intro x x' σ1 ρ1 s1 p1 r1 vx hw st1
  cases vx
  have hQ' : Ret G cx VR ρ1 s1 K Q := fun v v' σ3 ρ3 s3 p3 r3 vv k3 st3 => hQ v v' σ3 ρ3 s3 (p1.trans p3) r3 vv k3 (st1.trans st3)
  cases x with
  | true => exact h1 n cl σ1 _ hw cx ρ1 s1 _ _ ok (hc.mono p1) r1 hQ'
  | false => exact h2 n cl σ1 _ hw cx ρ1 s1 _ _ ok (hc.mono p1) r1 hQ'
theorem DT_and {a b : Expr} {pos : Pos} {ia ib : IE} (h1 : DT G names a ia) (h2 : DT G names b ib) : DT G names (.BoolOp .And [a, b] pos) (.and ia ib) := by
  intro n cl σ K hw cx ρ s Q E ok hc r hQ
  simp only [tCmp, tAnd, tOr, tNot, tLc, tAt, lc0, lcS, vS, vI, vR, qSS, qII, qIS, qSI, iII, iSS, niAdd, adS, bII, bSS, biAdd, nS, inO, ltII, o1, o2, lnS, lnR, suR, suS, esN, esC, hkI, hkS, hkR, hkN] at hw
  refine wpAny_isTrue_BoolOp (wpAny_allTrue_And_cons (h1 n cl σ _ hw cx ρ s _ _ ok hc r ?_))
  intro x x' σ1 ρ1 s1 p1 r1 vx hw st1
  cases vx
  cases x with
  | true =>
    refine wpAny_allTrue_And_cons (h2 n cl σ1 _ hw cx ρ1 s1 _ _ ok (hc.mono p1) r1 ?_)
    intro y y' σ2 ρ2 s2 p2 r2 vy hw st2
    cases vy
    cases y with
    | true => exact wpAny_allTrue_And_nil (hQ _ _ _ _ s2 (p1.trans p2) r2 rfl hw (st1.trans st2))
    | false => exact hQ _ _ _ _ s2 (p1.trans p2) r2 rfl hw (st1.trans st2)
  | false => exact hQ _ _ _ _ s1 p1 r1 rfl hw st1
theorem DT_or {a b : Expr} {pos : Pos} {ia ib : IE} (h1 : DT G names a ia) (h2 : DT G names b ib) : DT G names (.BoolOp .Or [a, b] pos) (.or ia ib) := by
  intro n cl σ K hw cx ρ s Q E ok hc r hQ
  simp only [tCmp, tAnd, tOr, tNot, tLc, tAt, lc0, lcS, vS, vI, vR, qSS, qII, qIS, qSI, iII, iSS, niAdd, adS, bII, bSS, biAdd, nS, inO, ltII, o1, o2, lnS, lnR, suR, suS, esN, esC, hkI, hkS, hkR, hkN] at hw
  refine wpAny_isTrue_BoolOp (wpAny_allTrue_Or_cons (h1 n cl σ _ hw cx ρ s _ _ ok hc r ?_))
  intro x x' σ1 ρ1 s1 p1 r1 vx hw st1
  cases vx
  cases x with
  | true => exact hQ _ _ _ _ s1 p1 r1 rfl hw st1
  | false =>
    refine wpAny_allTrue_Or_cons (h2 n cl σ1 _ hw cx ρ1 s1 _ _ ok (hc.mono p1) r1 ?_)
    intro y y' σ2 ρ2 s2 p2 r2 vy hw st2
    cases vy
    cases y with
    | true => exact hQ _ _ _ _ s2 (p1.trans p2) r2 rfl hw (st1.trans st2)
    | false => exact wpAny_allTrue_Or_nil (hQ _ _ _ _ s2 (p1.trans p2) r2 rfl hw (st1.trans st2))
theorem DT_not {a : Expr} {pos : Pos} {ia : IE} (h1 : DT G names a ia) : DT G names (.UnaryOp .Not a pos) (.not ia) := by
  intro n cl σ K hw cx ρ s Q E ok hc r hQ
  simp only [tCmp, tAnd, tOr, tNot, tLc, tAt, lc0, lcS, vS, vI, vR, qSS, qII, qIS, qSI, iII, iSS, niAdd, adS, bII, bSS, biAdd, nS, inO, ltII, o1, o2, lnS, lnR, suR, suS, esN, esC, hkI, hkS, hkR, hkN] at hw
  refine wpAny_isTrue_Not (h1 n cl σ _ hw cx ρ s _ _ ok hc r ?_)
  intro x x' σ1 ρ1 s1 p1 r1 vx hw st1
  cases vx
  exact hQ _ _ _ _ s1 p1 r1 rfl hw st1
theorem DT_loc {x : Str} {pos : Pos} {i : Nat} (h1 : DE G names (.Name x pos) (.loc i)) : DT G names (.Name x pos) (.loc i) := by
  intro n cl σ K hw cx ρ s Q E ok hc r hQ
  simp only [tCmp, tAnd, tOr, tNot, tLc, tAt, lc0, lcS, vS, vI, vR, qSS, qII, qIS, qSI, iII, iSS, niAdd, adS, bII, bSS, biAdd, nS, inO, ltII, o1, o2, lnS, lnR, suR, suS, esN, esC, hkI, hkS, hkR, hkN] at hw
  refine wpAny_isTrue_value ?_
  refine h1 n cl σ (fun v σ => wpTruth v σ K) hw cx ρ s _ _ ok hc r ?_
  intro x x' σ1 ρ1 s1 p1 r1 vx hw st1
  exact truth_ok r1 vx hw fun v v' σ3 ρ3 s3 p3 r3 vv k3 st3 => hQ v v' σ3 ρ3 s3 (p1.trans p3) r3 vv k3 (st1.trans st3)
theorem DT_attr {o : Expr} {a : Str} {pos : Pos} {io : IE} {ia : At} (h1 : DE G names (.Attribute o a pos) (.attr io ia)) : DT G names (.Attribute o a pos) (.attr io ia) := by
  intro n cl σ K hw cx ρ s Q E ok hc r hQ
  simp only [tCmp, tAnd, tOr, tNot, tLc, tAt, lc0, lcS, vS, vI, vR, qSS, qII, qIS, qSI, iII, iSS, niAdd, adS, bII, bSS, biAdd, nS, inO, ltII, o1, o2, lnS, lnR, suR, suS, esN, esC, hkI, hkS, hkR, hkN] at hw
  refine wpAny_isTrue_value (h1 n cl σ (fun v σ => wpTruth v σ K) (by simp only [eK, eLoc, eCel, eStat, eBin, eCmp, eIfe, eList, eTup, eAttr, eMattr, eCall, eNew, eBf, eBm, eUm, eAm, eSub, eSli, eComp, lc0, lcS, vS, vI, vR, qSS, qII, qIS, qSI, iII, iSS, niAdd, adS, bII, bSS, biAdd, nS, inO, ltII, o1, o2, lnS, lnR, suR, suS, esN, esC, hkI, hkS, hkR, hkN]; exact hw) cx ρ s _ _ ok hc r ?_)
  intro x x' σ1 ρ1 s1 p1 r1 vx hw st1
  exact truth_ok r1 vx hw fun v v' σ3 ρ3 s3 p3 r3 vv k3 st3 => hQ v v' σ3 ρ3 s3 (p1.trans p3) r3 vv k3 (st1.trans st3)
end
end Mine
namespace Mine
open PySem PySem.W PySem.Calls PyProof.Rows
section
variable {G : Stat} {cx : Cx} {ρ : List Addr} {σ : St} {h : Heap}
theorem R.back2 (r : R G cx ρ σ h) : ∃ m news, Fr cx.h₀ cx.env.locals h m ∧ News cx.h₀ cx.env.locals h news ∧ (∀ a, (a ∈ ρ ∨ a ∈ cx.pin.map (·.1)) → ∃ o, (a, o) ∈ news) ∧
    ∀ h', Fr cx.h₀ cx.env.locals h' m → News cx.h₀ cx.env.locals h' news → R G cx ρ σ h' := by
  obtain ⟨m, F, hl⟩ := r.fr
  obtain ⟨news, N, hN, hP⟩ := r.news
  refine ⟨m, news, F, N, fun a ha => ?_, fun h' F' N' => ⟨⟨m, F', hl⟩, r.nd, r.len, fun i a ao e1 e2 => ?_, fun p hp => ⟨(N' _ (hP p hp)).1, (r.pin p hp).2⟩⟩⟩
  · rcases ha with ha | ha
    · obtain ⟨i, hi⟩ := List.getElem?_of_mem ha
      obtain ⟨ao, _, e1, _⟩ := r.own' hi
      obtain ⟨o, ho, _⟩ := hN i a ao hi e1
      exact ⟨o, ho⟩
    · obtain ⟨p, hp, rfl⟩ := List.mem_map.mp ha
      exact ⟨p.2, hP p hp⟩
  · obtain ⟨o, hm, hO⟩ := hN i a ao e1 e2
    exact ⟨(N' _ hm).2.1, (N' _ hm).2.2, o, (N' _ hm).1, hO⟩
end
section
variable {G : Stat} {names : List (Str × NameKind)} {gl : List (Str × Value)}
noncomputable def DEs (G : Stat) (names : List (Str × NameKind)) (es : List Expr) (ies : List IE) : Prop :=
  (∀ env, starEach es env = es.map fun e => (false, eval e env)) ∧
  ∀ n cl σ (K : List V → St → Prop), wpEs G n cl ies σ K → ∀ pos, TE G n names cl VRs (fun env => spliced (backTo pos (starEach es env))) σ K
theorem DEs_nil : DEs G names [] [] := by
  refine ⟨fun _ => rfl, fun n cl σ K hw pos cx ρ s Q E ok hc r hQ => ?_⟩
  simp only [esN, esC, lc0, lcS, vS, vI, vR, qSS, qII, qIS, qSI, iII, iSS, niAdd, adS, bII, bSS, biAdd, nS, inO, ltII, o1, o2, lnS, lnR, suR, suS, hkI, hkS, hkR, hkN] at hw
  exact wpAny_pure (hQ _ _ _ _ s (List.prefix_refl _) r .nil hw (.refl s))
theorem star_cons {e : Expr} {rest : List Expr} (he : ∀ v p, e ≠ .Starred v p) (env : Env) : starEach (e :: rest) env = (false, eval e env) :: starEach rest env := by
  cases e <;> first | rfl | exact absurd rfl (he _ _)
theorem DEs_cons {e : Expr} {es : List Expr} {ie : IE} {ies : List IE} (he : ∀ v p, e ≠ .Starred v p) (h1 : DE G names e ie) (h2 : DEs G names es ies) : DEs G names (e :: es) (ie :: ies) := by
  refine ⟨fun env => by rw [star_cons he, h2.1]; rfl, fun n cl σ K hw pos cx ρ s Q E ok hc r hQ => ?_⟩
  simp only [esN, esC, lc0, lcS, vS, vI, vR, qSS, qII, qIS, qSI, iII, iSS, niAdd, adS, bII, bSS, biAdd, nS, inO, ltII, o1, o2, lnS, lnR, suR, suS, hkI, hkS, hkR, hkN] at hw
  dsimp only
  rw [star_cons he]
  show wpAny _ _ (do
    let v ← eval e cx.env
    let here ← pure [v]
    return here ++ (← holding here (spliced (backTo pos (starEach es cx.env))))) Q E s
  refine wpAny_bind (h1 n cl σ _ hw cx ρ s _ _ ok hc r ?_)
  intro x x' σ1 ρ1 s1 p1 r1 vx hw st1
  refine wpAny_bind (wpAny_pure (wpAny_bind (wpAny_holding (h2.2 n cl σ1 _ hw pos cx ρ1 s1 _ _ ok (hc.mono p1) r1 ?_))))
  intro xs xs' σ2 ρ2 s2 p2 r2 vxs hw st2
  exact wpAny_pure (hQ _ _ _ _ s2 (p1.trans p2) r2 (.cons (vx.mono p2) vxs) hw (st1.trans st2))
theorem DEs_of {c : Expr → Option IE} (hc : ∀ e ie, c e = some ie → DE G names e ie) (hs : ∀ v p, c (.Starred v p) = none) : ∀ {es : List Expr} {ies : List IE}, mapO c es = some ies → DEs G names es ies := by
  intro es
  induction es with
  | nil => intro ies h; cases h; exact DEs_nil
  | cons e r ih =>
    intro ies h
    obtain ⟨a, b, e1, e2, rfl⟩ := mapO_cons h
    exact DEs_cons (fun v p q => by subst q; rw [hs] at e1; cases e1) (hc _ _ e1) (ih e2)
theorem big_size {n : Nat} (h : n ≤ big) : n ≤ sizeLine := Nat.le_trans h sizeLine_big
theorem DE_list {es : List Expr} {ies : List IE} {pos : Pos} (h : DEs G names es ies) : DE G names (.List es pos) (.list ies) := by
  intro n cl σ K hw cx ρ s Q E ok hc r hQ
  simp only [eK, eLoc, eCel, eStat, eBin, eCmp, eIfe, eList, eTup, eAttr, eMattr, eCall, eNew, eBf, eBm, eUm, eAm, eSub, eSli, eComp, lc0, lcS, vS, vI, vR, qSS, qII, qIS, qSI, iII, iSS, niAdd, adS, bII, bSS, biAdd, nS, inO, ltII, o1, o2, lnS, lnR, suR, suS, esN, esC, hkI, hkS, hkR, hkN] at hw
  refine List_ (h.2 n cl σ _ hw pos cx ρ s _ _ ok hc r ?_)
  intro xs xs' σ1 ρ1 s1 p1 r1 vx hw st1
  obtain ⟨m, news, F, N, back⟩ := r1.back
  refine newList_N F N (fun h' F' N' => hQ _ _ _ _ { s1 with heap := h' } (p1.trans (pre_snoc _ _)) (r1.backPush back F' N' ?_) (VR.snoc r1.len) hw.2 (st1.trans .of)) (by rw [← vx.length]; exact big_size hw.1)
  exact ⟨xs', 0, rfl, VRs.mono (pre_snoc _ _) vx⟩
theorem DE_tup {es : List Expr} {ies : List IE} {k : Nat} {pos : Pos} (h : DEs G names es ies) : DE G names (.Tuple es k pos) (.tup ies) := by
  intro n cl σ K hw cx ρ s Q E ok hc r hQ
  simp only [eK, eLoc, eCel, eStat, eBin, eCmp, eIfe, eList, eTup, eAttr, eMattr, eCall, eNew, eBf, eBm, eUm, eAm, eSub, eSli, eComp, lc0, lcS, vS, vI, vR, qSS, qII, qIS, qSI, iII, iSS, niAdd, adS, bII, bSS, biAdd, nS, inO, ltII, o1, o2, lnS, lnR, suR, suS, esN, esC, hkI, hkS, hkR, hkN] at hw
  refine Tuple_ (h.2 n cl σ _ hw pos cx ρ s _ _ ok hc r ?_)
  intro xs xs' σ1 ρ1 s1 p1 r1 vx hw st1
  obtain ⟨m, news, F, N, back⟩ := r1.back
  refine newTuple_N F N (fun h' F' N' => hQ _ _ _ _ { s1 with heap := h' } (p1.trans (pre_snoc _ _)) (r1.backPush back F' N' ?_) (VR.snoc r1.len) hw.2 (st1.trans .of)) (by rw [← vx.length]; exact big_size hw.1)
  exact ⟨xs', 0, rfl, VRs.mono (pre_snoc _ _) vx⟩
theorem base_eq {o : Expr} (h : baseOk o = true) (a : Str) (env : Env) (w : Sem Value) : attributeBase o a env w = w := by
  cases o <;> first | rfl | (cases h; done) | skip
  rename_i f as ks p
  cases f <;> first | rfl | (cases h; done)
theorem attr_rule {prog : Program} {w : World} {A : Around} {E : Value → Shared → Prop} {s : Shared} {env : Env} {o : Expr} {a : Str} {pos : Pos} {Q : Value → Shared → Prop} (hb : baseOk o = true)
    (h : wpAny (model prog w) A (eval o env) (fun v s₁ => wpAny (model prog w) A (getAttr v a true) Q E s₁) E s) : wpAny (model prog w) A (eval (.Attribute o a pos) env) Q E s :=
  Attribute_any_ h (by
    show (do
      let ov ← attributeBase o a env (eval o env)
      standAt pos.atName
      let r ← holding [ov] (getAttr ov a true)
      letTemporaryGo o ov r
      pure r) = _
    rw [base_eq hb])
theorem DE_attr (gc : G.Cls) {o : Expr} {a : Str} {pos : Pos} {io : IE} {ia : At} (hb : baseOk o = true) (ha : ia.name = a) (h : DE G names o io) : DE G names (.Attribute o a pos) (.attr io ia) := by
  intro n cl σ K hw cx ρ s Q E ok hc r hQ
  simp only [eK, eLoc, eCel, eStat, eBin, eCmp, eIfe, eList, eTup, eAttr, eMattr, eCall, eNew, eBf, eBm, eUm, eAm, eSub, eSli, eComp, lc0, lcS, vS, vI, vR, qSS, qII, qIS, qSI, iII, iSS, niAdd, adS, bII, bSS, biAdd, nS, inO, ltII, o1, o2, lnS, lnR, suR, suS, esN, esC, hkI, hkS, hkR, hkN] at hw
  subst ha
  refine attr_rule hb (h n cl σ _ hw cx ρ s _ _ ok hc r ?_)
  intro x x' σ1 ρ1 s1 p1 r1 vx hw st1
  exact getA_ok gc ok r1 vx hw fun v v' σ3 ρ3 s3 p3 r3 vv k3 st3 => hQ v v' σ3 ρ3 s3 (p1.trans p3) r3 vv k3 (st1.trans st3)
theorem noMt {fs : List (At × V)} (m : Mt) : ∀ f ∈ fs, f.1.name ≠ m.name := fun f _ => At.ne_mt f.1 m
theorem notCopied (m : Mt) : copiedNames.contains m.name = false := by cases m <;> decide +kernel
theorem cov_not {cx : Cx} {ρ : List Addr} {news : List (Addr × Obj)} {q : Addr} (cov : ∀ a, (a ∈ ρ ∨ a ∈ cx.pin.map (·.1)) → ∃ o, (a, o) ∈ news) (hlt : ∀ p ∈ news, p.1 < q) : q ∉ ρ ∧ ∀ p ∈ cx.pin, p.1 ≠ q :=
  ⟨fun hq => by obtain ⟨o, ho⟩ := cov q (.inl hq); exact absurd (hlt _ ho) (Nat.lt_irrefl _),
   fun p hp e => by obtain ⟨o, ho⟩ := cov q (.inr (e ▸ List.mem_map_of_mem hp)); exact absurd (hlt _ ho) (Nat.lt_irrefl _)⟩
theorem mattr_ok (gc : G.Cls) {n : Nat} {cx : Cx} {ρ : List Addr} {σ : St} {s : Shared} {m : Mt} {x : V} {x' : Value} {expr : Bool} {K : V → St → Prop} {Q : Value → Shared → Prop} {E : Value → Shared → Prop} (ok : CxOk G cx n names) (r1 : R G cx ρ σ s.heap) (vx : VR ρ x x')
    (hw : onI σ.hp x fun _ _ => K (.ref σ.hp.length) { σ with hp := σ.hp ++ [.meth (.stat (.ref (G.mf m))) x] }) (hQ : Ret G cx VR ρ s K Q) : wpAny (model G.prog G.w) cx.A (getAttr x' m.name expr) Q E s := by
  obtain ⟨d, fs, e, hw⟩ := onI_sp hw
  obtain ⟨y, dx, es, k, rfl, hd, _, I, _, hf⟩ := r1.inst vx e
  obtain ⟨m₀, news, F, N, cov, back⟩ := r1.back2
  refine kbm_bound F ok.ok.X N I (gc.pg _) gc.hd (gc.fm m) (gc.isf m) (gc.get m) (gc.tak m) (notCopied m) (getL_none hf (noMt m)) (fun q h' F' N' hlt => ?_)
  obtain ⟨hfresh, hpf⟩ := cov_not cov hlt
  exact hQ _ _ _ _ { s with heap := h', toks := s.toks + 1 } (pre_snoc _ _) ((back h' F' fun p hp => N' p (.tail _ hp)).take (N' _ (.head _)).2.1 (N' _ (.head _)).2.2 (b := q) (ao := .meth (.stat (.ref (G.mf m))) x) hfresh hpf (N' _ (.head _)).1 ⟨_, _, rfl, .st, vx.mono (pre_snoc _ _)⟩) (VR.snoc r1.len) hw .of
theorem Ret.tail {cx : Cx} {α β : Type} {rel : List Addr → β → α → Prop} {ρ ρ1 : List Addr} {s s1 : Shared} {K : β → St → Prop} {Q : α → Shared → Prop} (h : Ret G cx rel ρ s K Q) (p : ρ <+: ρ1) (st : Stp s s1) : Ret G cx rel ρ1 s1 K Q :=
  fun b a σ' ρ' s' p' r' v k st' => h b a σ' ρ' s' (p.trans p') r' v k (st.trans st')
theorem DE_mattr (gc : G.Cls) {o : Expr} {a : Str} {pos : Pos} {io : IE} {m : Mt} (hb : baseOk o = true) (ha : m.name = a) (h : DE G names o io) : DE G names (.Attribute o a pos) (.mattr io m) := by
  intro n cl σ K hw cx ρ s Q E ok hc r hQ
  simp only [eK, eLoc, eCel, eStat, eBin, eCmp, eIfe, eList, eTup, eAttr, eMattr, eCall, eNew, eBf, eBm, eUm, eAm, eSub, eSli, eComp, lc0, lcS, vS, vI, vR, qSS, qII, qIS, qSI, iII, iSS, niAdd, adS, bII, bSS, biAdd, nS, inO, ltII, o1, o2, lnS, lnR, suR, suS, esN, esC, hkI, hkS, hkR, hkN] at hw
  subst ha
  refine attr_rule hb (h n cl σ _ hw cx ρ s _ _ ok hc r ?_)
  intro x x' σ1 ρ1 s1 p1 r1 vx hw st1
  exact mattr_ok gc ok r1 vx hw (hQ.tail p1 st1)
theorem star_plain {es : List Expr} {env : Env} {pos : Pos} (h : starEach es env = es.map fun e => (false, eval e env)) : (backTo pos (starEach es env)).any (·.1) = false := by
  rw [h]
  unfold backTo
  induction es with
  | nil => rfl
  | cons e r ih => simp
theorem evalArgs_any {M : Model} {A : Around} {E : Value → Shared → Prop} {s : Shared} {f : Value} {es : List Expr} {env : Env} {pos : Pos} {Q : Args → Shared → Prop} (hs : starEach es env = es.map fun e => (false, eval e env))
    (h : wpAny M A (spliced (backTo pos (starEach es env))) (fun vs s' => Q ⟨vs, []⟩ s') E s) : wpAny M A (evalArgs f true (backTo pos (starEach es env)) []) Q E s := by
  rw [hs] at h ⊢
  cases es with
  | nil =>
    unfold evalArgs
    show wpAny M A (spliced [] >>= _) Q E s
    refine wpAny_bind (wpAny_mono h (fun vs s' h' => ?_) fun _ _ x => x)
    exact wpAny_holding (wpAny_bind (wpAny_pure (wpAny_bind (wpAny_pure (wpAny_pure h')))))
  | cons e r => exact evalArgs_plain h
theorem callWith_ok {es : List Expr} {ies : List IE} (hd : DEs G names es ies) {n : Nat} {cl : List (Option Nat)} {cx : Cx} {ρ : List Addr} {σ : St} {s : Shared} {pos : Pos} {f : Value} {first : List Value} {E : Value → Shared → Prop} {Q : Value → Shared → Prop} {K : List V → St → Prop}
    (ok : CxOk G cx (n + 1) names) (hc : ClOk cx cl ρ) (r : R G cx ρ σ s.heap) (hw : wpEs G n cl ies σ K)
    (h : ∀ xs xs' σ1 ρ1 s1, ρ <+: ρ1 → R G cx ρ1 σ1 s1.heap → VRs ρ1 xs xs' → K xs σ1 → Stp s s1 →
      (∃ k, (k = Keeper.frame ∨ k = Keeper.machine ∨ k = Keeper.boundFrame) ∧ Looks (model G.prog G.w) s1.heap (keeperOf f) k) ∧ wpAny (model G.prog G.w) cx.A (call f (first ++ xs')) Q E s1) :
    wpAny (model G.prog G.w) cx.A (callWith pos f first (backTo pos (starEach es cx.env)) []) Q E s := by
  refine callWith_of (P := fun h => ∃ k, (k = Keeper.frame ∨ k = Keeper.machine ∨ k = Keeper.boundFrame) ∧ Looks (model G.prog G.w) h (keeperOf f) k) (by rw [star_plain (hd.1 _)]; rfl) (fun _ z => z) ?_
  refine evalArgs_any (hd.1 _) (hd.2 n cl σ _ hw pos cx ρ s _ _ ok hc r ?_)
  intro xs xs' σ1 ρ1 s1 p1 r1 vx hw st1
  exact h xs xs' σ1 ρ1 s1 p1 r1 vx hw st1
theorem keep_builtin {M : Model} {h : Heap} {f : Value} (hf : ∀ a, f ≠ .ref a) : ∃ k, (k = Keeper.frame ∨ k = Keeper.machine ∨ k = Keeper.boundFrame) ∧ Looks M h (keeperOf f) k := by
  refine ⟨.machine, .inr (.inl rfl), ?_⟩
  cases f <;> first | exact Looks.of_pure rfl | exact absurd rfl (hf _)
theorem keep_fnv {cx : Cx} {n : Nat} {ρ : List Addr} {σ : St} {s : Shared} {M : Model} {f : V} {f' : Value} (ok : CxOk G cx n names) (r : R G cx ρ σ s.heap) (vf : VR ρ f f') (h : fnv G σ.hp f) :
    ∃ k, (k = Keeper.frame ∨ k = Keeper.machine ∨ k = Keeper.boundFrame) ∧ Looks M s.heap (keeperOf f') k := by
  cases f with
  | stat v => cases vf; exact keeps_K h _ (ok.ok.X.keeps r.keep)
  | ref i =>
    obtain ⟨fid, cs, c, e⟩ := h
    obtain ⟨a, o, h1, h2, ⟨_, _, _, _, _, rfl, _⟩, _⟩ := r.at e
    obtain ⟨_, h3, rfl⟩ := vf
    rw [h1] at h3; cases h3
    exact ⟨.frame, .inl rfl, (Looks.ld (part := none) h2).andThen .now⟩
  | _ => exact h.elim
theorem callT_use {n : Nat} {cx : Cx} {ρ : List Addr} {σ : St} {s : Shared} {f : V} {f' : Value} {xs : List V} {xs' : List Value} {E : Value → Shared → Prop} {Q : Value → Shared → Prop} {K : V → St → Prop}
    (ok : CxOk G cx (n + 1) names) (r : R G cx ρ σ s.heap) (vf : VR ρ f f') (vx : VRs ρ xs xs') (h : CallT G n f xs σ.hp fun v hp => K v { σ with hp := hp }) (hQ : Ret G cx VR ρ s K Q) :
    wpAny (model G.prog G.w) cx.A (call f' xs') Q E s := by
  refine wpAny_call (h cx names ρ σ.loc s _ f' xs' ok r vf vx ?_)
  intro v v' hp' ρ' s' p r' vv k st
  exact hQ v v' _ ρ' s' p r' vv k st
theorem DE_call {x : Str} {p pos : Pos} {es : List Expr} {ies : List IE} {v : Value} (h1 : DE G names (.Name x p) (.stat v)) (h2 : DEs G names es ies) : DE G names (.Call (.Name x p) es [] pos) (.call (.stat v) ies) := by
  intro n cl σ K hw cx ρ s Q E ok hc r hQ
  simp only [eK, eLoc, eCel, eStat, eBin, eCmp, eIfe, eList, eTup, eAttr, eMattr, eCall, eNew, eBf, eBm, eUm, eAm, eSub, eSli, eComp, lc0, lcS, vS, vI, vR, qSS, qII, qIS, qSI, iII, iSS, niAdd, adS, bII, bSS, biAdd, nS, inO, ltII, o1, o2, lnS, lnR, suR, suS, esN, esC, hkI, hkS, hkR, hkN] at hw
  show wpAny _ _ (do callWith pos (← eval (.Name x p) cx.env) [] (backTo pos (starEach es cx.env)) []) Q E s
  refine wpAny_bind (h1 n cl σ (fun fv σ => fv = .stat v ∧ wpEs G n cl ies σ fun vs σ => fnv G σ.hp (.stat v) ∧ CallT G n (.stat v) vs σ.hp fun v hp => K v { σ with hp := hp }) (by simp only [eK, eLoc, eCel, eStat, eBin, eCmp, eIfe, eList, eTup, eAttr, eMattr, eCall, eNew, eBf, eBm, eUm, eAm, eSub, eSli, eComp, lc0, lcS, vS, vI, vR, qSS, qII, qIS, qSI, iII, iSS, niAdd, adS, bII, bSS, biAdd, nS, inO, ltII, o1, o2, lnS, lnR, suR, suS, esN, esC, hkI, hkS, hkR, hkN]; exact ⟨trivial, hw⟩) cx ρ s _ _ ok hc r ?_)
  rintro f f' σ1 ρ1 s1 p1 r1 vf ⟨rfl, hw⟩ st1
  refine callWith_ok h2 ok (hc.mono p1) r1 hw ?_
  intro xs xs' σ2 ρ2 s2 p2 r2 vx hw st2
  exact ⟨keep_fnv ok r2 (vf.mono p2) hw.1, callT_use ok r2 (vf.mono p2) vx hw.2 fun v v' σ3 ρ3 s3 p3 r3 vv k3 st3 => hQ v v' σ3 ρ3 s3 (p1.trans (p2.trans p3)) r3 vv k3 (st1.trans (st2.trans st3))⟩
theorem bf_noref (b : BF) : ∀ a, b.val ≠ .ref a := by intro a; cases b <;> exact (fun q => nomatch q)
theorem DE_bf {x : Str} {p pos : Pos} {es : List Expr} {ies : List IE} {b : BF} (h1 : DE G names (.Name x p) (.stat b.val)) (h2 : DEs G names es ies) : DE G names (.Call (.Name x p) es [] pos) (.bf b ies) := by
  intro n cl σ K hw cx ρ s Q E ok hc r hQ
  simp only [eK, eLoc, eCel, eStat, eBin, eCmp, eIfe, eList, eTup, eAttr, eMattr, eCall, eNew, eBf, eBm, eUm, eAm, eSub, eSli, eComp, lc0, lcS, vS, vI, vR, qSS, qII, qIS, qSI, iII, iSS, niAdd, adS, bII, bSS, biAdd, nS, inO, ltII, o1, o2, lnS, lnR, suR, suS, esN, esC, hkI, hkS, hkR, hkN] at hw
  show wpAny _ _ (do callWith pos (← eval (.Name x p) cx.env) [] (backTo pos (starEach es cx.env)) []) Q E s
  refine wpAny_bind (h1 n cl σ (fun fv σ => fv = .stat b.val ∧ wpEs G n cl ies σ fun vs σ => wpBf b vs σ K) (by simp only [eK, eLoc, eCel, eStat, eBin, eCmp, eIfe, eList, eTup, eAttr, eMattr, eCall, eNew, eBf, eBm, eUm, eAm, eSub, eSli, eComp, lc0, lcS, vS, vI, vR, qSS, qII, qIS, qSI, iII, iSS, niAdd, adS, bII, bSS, biAdd, nS, inO, ltII, o1, o2, lnS, lnR, suR, suS, esN, esC, hkI, hkS, hkR, hkN]; exact ⟨trivial, hw⟩) cx ρ s _ _ ok hc r ?_)
  rintro f f' σ1 ρ1 s1 p1 r1 vf ⟨rfl, hw⟩ st1
  cases vf
  refine callWith_ok h2 ok (hc.mono p1) r1 hw ?_
  intro xs xs' σ2 ρ2 s2 p2 r2 vx hw st2
  exact ⟨keep_builtin (bf_noref b), bf_ok ok r2 vx hw fun v v' σ3 ρ3 s3 p3 r3 vv k3 st3 => hQ v v' σ3 ρ3 s3 (p1.trans (p2.trans p3)) r3 vv k3 (st1.trans (st2.trans st3))⟩
theorem creation_weight (C : Addr) (pos : List Value) : (Code.builtin "type.__call__" ⟨.ref C :: pos, []⟩).weight = 1 := by
  unfold Code.weight; rfl
theorem creation_units (C : Addr) (pos : List Value) : (Code.builtin "type.__call__" ⟨.ref C :: pos, []⟩).cUnits = 1 := rfl
theorem R.new2 {cx : Cx} {ρ : List Addr} {loc : List (Option V)} {hp : List O} {h : Heap} {dx x : Addr} {A : Around} (r : R G cx ρ ⟨loc, hp⟩ h) (hd : h.get? dx = some (dictOf [] 0)) (hx : h.get? x = some (instObj G.C dx)) (d1 : dx ≠ cx.env.locals ∧ cx.h₀.get? dx = none) (x1 : x ≠ cx.env.locals ∧ cx.h₀.get? x = none)
    (fr1 : dx ∉ ρ ∧ ∀ p ∈ cx.pin, p.1 ≠ dx) (fr2 : x ∉ ρ ∧ ∀ p ∈ cx.pin, p.1 ≠ x) (hne : x ≠ dx) :
    R G { cx with A := A } (ρ ++ [dx, x]) ⟨loc, hp ++ [.dct [], .inst hp.length]⟩ h ∧ VR (ρ ++ [dx, x]) (.ref (hp.length + 1)) (.ref x) := by
  have ra := r.take (b := dx) (ao := .dct []) d1.1 d1.2 fr1.1 fr1.2 hd ⟨[], 0, rfl, .nil⟩
  have hl : ρ.length = hp.length := r.len
  have rb := ra.take (b := x) (ao := .inst hp.length) x1.1 x1.2 (by simp only [List.mem_append, List.mem_singleton, not_or]; exact ⟨fr2.1, hne⟩) fr2.2 hx ⟨dx, rfl, by rw [← hl]; simp⟩
  rw [List.append_assoc] at rb
  simp only [List.append_assoc] at rb
  exact ⟨⟨rb.fr, rb.nd, rb.len, rb.own, rb.pin⟩, ⟨x, by rw [← hl]; simp, rfl⟩⟩
theorem und {d k c n : Nat} (hn : 1 ≤ n) (hk : 1 ≤ k) (h : d + k * (n + 1) ≤ c) : d + 1 + k * (n - 1 + 1) ≤ c := by
  rw [Nat.sub_add_cancel hn, Nat.add_assoc, Nat.add_comm 1]; exact Nat.le_trans (Nat.add_le_add_left (Nat.add_le_add_left hk _) _) h
theorem CxOk.under {cx : Cx} {n : Nat} {pos : List Value} (ok : CxOk G cx (n + 1) names) (hn : 1 ≤ n) : CxOk G { cx with A := cx.A.under (.builtin "type.__call__" ⟨.ref G.C :: pos, []⟩) } ((n - 1) + 1) names :=
  ⟨ok.ok, ok.names, ok.kind, ok.glob, ok.bi, ok.cq, ok.hd, by
    show cx.A.depth + _ + 4 * (n - 1 + 1) ≤ 990
    rw [creation_weight]; exact und hn (by decide) ok.dep, by
    show cx.A.units + _ + 20 * (n - 1 + 1) ≤ 9000
    rw [creation_units]; exact und hn (by decide) ok.uni⟩
theorem new_ok (gc : G.Cls) {n : Nat} {cx : Cx} {ρ : List Addr} {σ : St} {s : Shared} {xs : List V} {xs' : List Value} {K : V → St → Prop} {Q : Value → Shared → Prop} {E : Value → Shared → Prop} (ok : CxOk G cx (n + 1) names) (r : R G cx ρ σ s.heap) (vx : VRs ρ xs xs') (hn : 1 ≤ n)
    (hw : CallT G (n - 1) (.stat (.ref (G.mf .init))) (.ref (σ.hp.length + 1) :: xs) (σ.hp ++ [.dct [], .inst σ.hp.length]) fun v hp => v = .none ∧ K (.ref (σ.hp.length + 1)) { σ with hp := hp }) (hQ : Ret G cx VR ρ s K Q) :
    wpAny (model G.prog G.w) cx.A (call (.ref G.C) xs') Q E s := by
  obtain ⟨m, news, F, N, cov, back⟩ := r.back2
  refine call_cls F ok.ok.X N gc.mks (gc.fm .init) (gc.isf .init) (fun x dx h' F' N' l1 l2 => ?_)
  have nx := N' (x, instObj G.C dx) (.head _)
  have nd := N' (dx, dictOf [] 0) (.tail _ (.head _))
  have rc := (back h' F' fun p hp => N' p (.tail _ (.tail _ hp))).new2 (A := cx.A.under (.builtin "type.__call__" ⟨.ref G.C :: xs', []⟩)) nd.1 nx.1 nd.2 nx.2 (cov_not cov l1) (cov_not cov fun p hp => Nat.lt_trans (l1 p hp) l2) (Nat.ne_of_gt l2)
  have pp : ρ <+: ρ ++ [dx, x] := ⟨_, rfl⟩
  refine hw _ names _ _ { s with heap := h' } _ _ _ (ok.under hn) rc.1 .st (.cons rc.2 (VRs.mono pp vx)) ?_
  intro v v' hp' ρ' s' pr r' vv k3 st3
  obtain ⟨rfl, k3⟩ := k3
  cases vv
  exact ⟨rfl, hQ _ _ _ ρ' s' (pp.trans pr) ⟨r'.fr, r'.nd, r'.len, r'.own, r'.pin⟩ (rc.2.mono pr) k3 ((Stp.of (s := s) (h := h') (t := s.toks)).trans st3)⟩
theorem DE_new (gc : G.Cls) {x : Str} {p pos : Pos} {es : List Expr} {ies : List IE} (h1 : DE G names (.Name x p) (.stat (.ref G.C))) (h2 : DEs G names es ies) : DE G names (.Call (.Name x p) es [] pos) (.new ies) := by
  intro n cl σ K hw cx ρ s Q E ok hc r hQ
  simp only [eK, eLoc, eCel, eStat, eBin, eCmp, eIfe, eList, eTup, eAttr, eMattr, eCall, eNew, eBf, eBm, eUm, eAm, eSub, eSli, eComp, lc0, lcS, vS, vI, vR, qSS, qII, qIS, qSI, iII, iSS, niAdd, adS, bII, bSS, biAdd, nS, inO, ltII, o1, o2, lnS, lnR, suR, suS, esN, esC, hkI, hkS, hkR, hkN] at hw
  show wpAny _ _ (do callWith pos (← eval (.Name x p) cx.env) [] (backTo pos (starEach es cx.env)) []) Q E s
  refine wpAny_bind (h1 n cl σ (fun fv σ' => fv = .stat (.ref G.C) ∧ σ' = σ) (by simp only [eK, eLoc, eCel, eStat, eBin, eCmp, eIfe, eList, eTup, eAttr, eMattr, eCall, eNew, eBf, eBm, eUm, eAm, eSub, eSli, eComp, lc0, lcS, vS, vI, vR, qSS, qII, qIS, qSI, iII, iSS, niAdd, adS, bII, bSS, biAdd, nS, inO, ltII, o1, o2, lnS, lnR, suR, suS, esN, esC, hkI, hkS, hkR, hkN]; exact ⟨trivial, trivial⟩) cx ρ s _ _ ok hc r ?_)
  rintro f f' σ1 ρ1 s1 p1 r1 vf ⟨rfl, rfl⟩ st1
  cases vf
  refine callWith_ok h2 ok (hc.mono p1) r1 hw ?_
  intro xs xs' σ2 ρ2 s2 p2 r2 vx hw st2
  exact ⟨keeps_K gc.kc _ (ok.ok.X.keeps r2.keep), new_ok gc ok r2 vx hw.1 hw.2 (hQ.tail (p1.trans p2) (st1.trans st2))⟩
theorem methCall_rule {M : Model} {A : Around} {E : Value → Shared → Prop} {s : Shared} {env : Env} {o : Expr} {name : Str} {apos pos : Pos} {args : List Expr} {Q : Value → Shared → Prop} (hb : baseOk o = true) (hl : (apos.endLine == pos.line) = true) (hn : args.length < 20)
    (hs : starEach args env = args.map fun e => (false, eval e env))
    (h : ∀ pl, wpAny M A (eval o env) (fun ov s₁ => wpAny M A (getMethod ov name pl) (fun fx s₂ => wpAny M A (callWith pos fx.1 fx.2 (backTo pos (starEach args env)) []) Q E s₂) E s₁) E s) :
    wpAny M A (eval (.Call (.Attribute o name apos) args [] pos) env) Q E s := by
  refine MethodCall_ (pl := (do return (← importBound o env).getD true)) (h _) ?_
  show (do
    let ov ← attributeBase o name env (eval o env)
    standAt apos.atName
    methodCall o name apos pos env ov (args.length + 0) (backTo pos (starEach args env)) []) = _
  rw [base_eq hb]
  have hform : methodCallForm (args.length + 0) (backTo pos (starEach args env)) [] = true := by
    unfold methodCallForm
    have : (backTo pos (starEach args env)).all (fun x => !x.1) = true := by
      have := star_plain (pos := pos) hs
      rw [List.all_eq_true]
      intro x hx
      cases hx1 : x.1 with
      | false => rfl
      | true => rw [List.any_eq_false] at this; exact absurd hx1 (this x hx)
    rw [this]
    simp; omega
  congr 1
  funext ov
  congr 1
  funext _
  unfold methodCall
  rw [hform]
  have hp : methodCallPos true o env apos pos = pure pos := by
    unfold methodCallPos; rw [hl]; rfl
  rw [hp]
  rfl
theorem um_get (gc : G.Cls) {n : Nat} {cx : Cx} {ρ : List Addr} {σ : St} {s : Shared} {m : Mt} {x : V} {x' : Value} {pl : Sem Bool} {d : Nat} {fs : List (At × V)} {Q : Value × List Value → Shared → Prop} {E : Value → Shared → Prop} (ok : CxOk G cx n names) (r1 : R G cx ρ σ s.heap) (vx : VR ρ x x')
    (e : instAt σ.hp x = some (d, fs)) (h : Q (.ref (G.mf m), [x']) s) : wpAny (model G.prog G.w) cx.A (getMethod x' m.name pl) Q E s := by
  obtain ⟨y, dx, es', k, rfl, hd, _, I, _, hf⟩ := r1.inst vx e
  obtain ⟨m₀, F, _⟩ := r1.fr
  exact method_inst F ok.ok.X I (gc.pg _) (gc.fm m) (gc.isf m) (getL_none hf (noMt m)) h
theorem am_get (gc : G.Cls) {n : Nat} {cx : Cx} {ρ : List Addr} {σ : St} {s : Shared} {m : At} {x f : V} {x' : Value} {pl : Sem Bool} {d : Nat} {fs : List (At × V)} {Q : Value × List Value → Shared → Prop} {E : Value → Shared → Prop} (ok : CxOk G cx n names) (r1 : R G cx ρ σ s.heap) (vx : VR ρ x x')
    (e : instAt σ.hp x = some (d, fs)) (ef : getA m fs = some f) (hok : hok f = true) (h : ∀ f', VR ρ f f' → Q (f', []) { s with toks := s.toks + 1 }) : wpAny (model G.prog G.w) cx.A (getMethod x' m.name pl) Q E s := by
  obtain ⟨y, dx, es', k, rfl, hd, _, I, _, hf⟩ := r1.inst vx e
  obtain ⟨f', e2, vf⟩ := getL_some hf ef
  obtain ⟨m₀, F, _⟩ := r1.fr
  have X := ok.ok.X.keeps r1.keep
  refine method_usual X I (plainGet_of (gc.pg m.name)).1 (plainGet_of (gc.pg m.name)).2 (gc.fa m) rfl ?_
  exact get_own F ok.ok.X I (gc.pg _) gc.hd (gc.fa m) rfl e2 (handed_of hok vf) (h f' vf)
theorem DE_um (gc : G.Cls) {o : Expr} {a : Str} {apos pos : Pos} {es : List Expr} {ies : List IE} {io : IE} {m : Mt} (hb : baseOk o = true) (hl : (apos.endLine == pos.line) = true) (hn : es.length < 20) (ha : m.name = a)
    (h1 : DE G names o io) (h2 : DEs G names es ies) : DE G names (.Call (.Attribute o a apos) es [] pos) (.um m io ies) := by
  intro n cl σ K hw cx ρ s Q E ok hc r hQ
  simp only [eK, eLoc, eCel, eStat, eBin, eCmp, eIfe, eList, eTup, eAttr, eMattr, eCall, eNew, eBf, eBm, eUm, eAm, eSub, eSli, eComp, lc0, lcS, vS, vI, vR, qSS, qII, qIS, qSI, iII, iSS, niAdd, adS, bII, bSS, biAdd, nS, inO, ltII, o1, o2, lnS, lnR, suR, suS, esN, esC, hkI, hkS, hkR, hkN] at hw
  subst ha
  refine methCall_rule hb hl hn (h2.1 _) fun pl => h1 n cl σ _ hw cx ρ s _ _ ok hc r ?_
  intro x x' σ1 ρ1 s1 p1 r1 vx hw st1
  obtain ⟨d, fs, e, hw⟩ := onI_sp hw
  refine um_get gc ok r1 vx e (callWith_ok h2 ok (hc.mono p1) r1 hw ?_)
  intro xs xs' σ2 ρ2 s2 p2 r2 vxs hw st2
  exact ⟨keeps_K (gc.kp m) _ (ok.ok.X.keeps r2.keep), callT_use ok r2 .st (.cons (vx.mono p2) vxs) hw (hQ.tail (p1.trans p2) (st1.trans st2))⟩
theorem DE_am (gc : G.Cls) {o : Expr} {a : Str} {apos pos : Pos} {es : List Expr} {ies : List IE} {io : IE} {m : At} (hb : baseOk o = true) (hl : (apos.endLine == pos.line) = true) (hn : es.length < 20) (ha : m.name = a)
    (h1 : DE G names o io) (h2 : DEs G names es ies) : DE G names (.Call (.Attribute o a apos) es [] pos) (.am m io ies) := by
  intro n cl σ K hw cx ρ s Q E ok hc r hQ
  simp only [eK, eLoc, eCel, eStat, eBin, eCmp, eIfe, eList, eTup, eAttr, eMattr, eCall, eNew, eBf, eBm, eUm, eAm, eSub, eSli, eComp, lc0, lcS, vS, vI, vR, qSS, qII, qIS, qSI, iII, iSS, niAdd, adS, bII, bSS, biAdd, nS, inO, ltII, o1, o2, lnS, lnR, suR, suS, esN, esC, hkI, hkS, hkR, hkN] at hw
  subst ha
  refine methCall_rule hb hl hn (h2.1 _) fun pl => h1 n cl σ _ hw cx ρ s _ _ ok hc r ?_
  intro x x' σ1 ρ1 s1 p1 r1 vx hw st1
  obtain ⟨d, fs, e, hw⟩ := onI_sp hw
  obtain ⟨f, ef, hok, hw⟩ := onA_sp hw
  refine am_get gc ok r1 vx e ef hok fun f' vf => ?_
  refine callWith_ok (s := { s1 with toks := s1.toks + 1 }) h2 ok (hc.mono p1) r1 hw ?_
  intro xs xs' σ2 ρ2 s2 p2 r2 vxs hw st2
  exact ⟨keep_fnv ok r2 (vf.mono p2) hw.1, callT_use ok r2 (vf.mono p2) vxs hw.2 (hQ.tail (p1.trans p2) (st1.trans ((Stp.of (s := s1) (h := s1.heap) (t := s1.toks + 1)).trans st2)))⟩
theorem sub_ops (slice : Expr) (o i : Value) : ∃ ops, subscripted slice false o i = operate ops (getItem o i) := by
  cases slice <;> first | exact ⟨_, rfl⟩ | skip
  rename_i l u st p
  cases st <;> exact ⟨_, rfl⟩
theorem getItem_slot {cx : Cx} {ρ : List Addr} {σ : St} {s : Shared} {o : V} {o' i' : Value} {slice : Expr} {value : Expr} {Q : Value → Shared → Prop} {E : Value → Shared → Prop} (r : R G cx ρ σ s.heap) (vo : VR ρ o o') (ho : (∃ cs, o = .str cs) ∨ ∃ j xs, o = .ref j ∧ (σ.hp[j]? = some (.list xs) ∨ σ.hp[j]? = some (.tup xs)))
    (hg : wpAny (model G.prog G.w) cx.A (getItem o' i') Q E s) : wpAny (model G.prog G.w) cx.A (subscriptTail value slice o' i') Q E s := by
  obtain ⟨ops, hops⟩ := sub_ops slice o' i'
  rcases ho with ⟨cs, rfl⟩ | ⟨j, xs, rfl, e | e⟩
  · obtain ⟨t, rfl⟩ := vo
    exact tail_any (T := "str") (typeIs_str _ _ _) PySem.F.slot_str_getitem.lookup hg hops
  · obtain ⟨a', vs, q, ha', hg', hl, hv⟩ := r.list e
    have vo := vo.same ha'
    subst vo
    exact tail_any (T := "list") ⟨_, hg', rfl⟩ PySem.F.slot_list_getitem.lookup hg hops
  · obtain ⟨a', vs, q, ha', hg', hv⟩ := r.tup e
    have vo := vo.same ha'
    subst vo
    exact tail_any (T := "tuple") ⟨_, hg', rfl⟩ PySem.F.slot_tuple_getitem.lookup hg hops
theorem sub_kind {o i : V} {σ : St} {K : V → St → Prop} (h : wpSub o i σ K) : (∃ cs, o = .str cs) ∨ ∃ j xs, o = .ref j ∧ (σ.hp[j]? = some (.list xs) ∨ σ.hp[j]? = some (.tup xs)) := by
  cases i with
  | int k =>
    obtain ⟨_, h⟩ := h
    cases o with
    | str cs => exact .inl ⟨cs, rfl⟩
    | ref j =>
      obtain ⟨xs, ⟨e, _⟩ | ⟨e, _⟩⟩ := onT_sp h
      · exact .inr ⟨j, xs, rfl, .inl e⟩
      · exact .inr ⟨j, xs, rfl, .inr e⟩
    | _ => exact False.elim h
  | _ => exact False.elim h
theorem sli_kind {o : V} {lo hi : Option V} {σ : St} {K : V → St → Prop} (h : wpSli o lo hi σ K) : (∃ cs, o = .str cs) ∨ ∃ j xs, o = .ref j ∧ (σ.hp[j]? = some (.list xs) ∨ σ.hp[j]? = some (.tup xs)) := by
  obtain ⟨_, _, _, _, _, _, h⟩ := optInt_sp h
  cases o with
  | str cs => exact .inl ⟨cs, rfl⟩
  | ref j => obtain ⟨xs, e, _⟩ := onL_sp h; exact .inr ⟨j, xs, rfl, .inl e⟩
  | _ => exact False.elim h
theorem DE_sub {v i : Expr} {pos : Pos} {iv ii : IE} (h1 : DE G names v iv) (h2 : DE G names i ii) : DE G names (.Subscript v i pos) (.sub iv ii) := by
  intro n cl σ K hw cx ρ s Q E ok hc r hQ
  simp only [eK, eLoc, eCel, eStat, eBin, eCmp, eIfe, eList, eTup, eAttr, eMattr, eCall, eNew, eBf, eBm, eUm, eAm, eSub, eSli, eComp, lc0, lcS, vS, vI, vR, qSS, qII, qIS, qSI, iII, iSS, niAdd, adS, bII, bSS, biAdd, nS, inO, ltII, o1, o2, lnS, lnR, suR, suS, esN, esC, hkI, hkS, hkR, hkN] at hw
  refine Subscript_ (h1 n cl σ _ hw cx ρ s _ _ ok hc r ?_)
  intro x x' σ1 ρ1 s1 p1 r1 vx hw st1
  refine h2 n cl σ1 _ hw cx ρ1 s1 _ _ ok (hc.mono p1) r1 ?_
  intro y y' σ2 ρ2 s2 p2 r2 vy hw st2
  exact getItem_slot r2 (vx.mono p2) (sub_kind hw) (sub_ok r2 (vx.mono p2) vy hw (hQ.tail (p1.trans p2) (st1.trans st2)))
noncomputable def DO (G : Stat) (names : List (Str × NameKind)) (e : Option Expr) (ie : Option IE) : Prop :=
  ∀ n cl σ (K : Option V → St → Prop), wpO G n cl ie σ K → TE G n names cl VO (evalPart e) σ K
theorem DO_none : DO G names none none := by
  intro n cl σ K hw cx ρ s Q E ok hc r hQ
  simp only [oN, oS, lc0, lcS, vS, vI, vR, qSS, qII, qIS, qSI, iII, iSS, niAdd, adS, bII, bSS, biAdd, nS, inO, ltII, o1, o2, lnS, lnR, suR, suS, esN, esC, hkI, hkS, hkR, hkN] at hw
  exact wpAny_pure (hQ none _ _ _ s (List.prefix_refl _) r rfl hw (.refl s))
theorem DO_some {e : Expr} {ie : IE} (h : DE G names e ie) : DO G names (some e) (some ie) := by
  intro n cl σ K hw cx ρ s Q E ok hc r hQ
  simp only [oN, oS, lc0, lcS, vS, vI, vR, qSS, qII, qIS, qSI, iII, iSS, niAdd, adS, bII, bSS, biAdd, nS, inO, ltII, o1, o2, lnS, lnR, suR, suS, esN, esC, hkI, hkS, hkR, hkN] at hw
  exact h n cl σ _ hw cx ρ s _ _ ok hc r fun v v' σ3 ρ3 s3 p3 r3 vv k3 st3 => hQ (some v) v' σ3 ρ3 s3 p3 r3 vv k3 st3
theorem VO.mono {ρ ρ' : List Addr} (h : ρ <+: ρ') {v : Option V} {v' : Value} (e : VO ρ v v') : VO ρ' v v' := by
  cases v with
  | none => exact e
  | some v => exact VR.mono h e
theorem DE_sli {v : Expr} {lo hi : Option Expr} {p pos : Pos} {iv : IE} {il ih : Option IE} (h1 : DE G names v iv) (h2 : DO G names lo il) (h3 : DO G names hi ih) : DE G names (.Subscript v (.Slice lo hi none p) pos) (.sli iv il ih) := by
  intro n cl σ K hw cx ρ s Q E ok hc r hQ
  simp only [eK, eLoc, eCel, eStat, eBin, eCmp, eIfe, eList, eTup, eAttr, eMattr, eCall, eNew, eBf, eBm, eUm, eAm, eSub, eSli, eComp, lc0, lcS, vS, vI, vR, qSS, qII, qIS, qSI, iII, iSS, niAdd, adS, bII, bSS, biAdd, nS, inO, ltII, o1, o2, lnS, lnR, suR, suS, esN, esC, hkI, hkS, hkR, hkN] at hw
  refine Subscript_ (h1 n cl σ _ hw cx ρ s _ _ ok hc r ?_)
  intro x x' σ1 ρ1 s1 p1 r1 vx hw st1
  refine wpAny_Slice (h2 n cl σ1 _ hw cx ρ1 s1 _ _ ok (hc.mono p1) r1 ?_)
  intro y y' σ2 ρ2 s2 p2 r2 vy hw st2
  refine h3 n cl σ2 _ hw cx ρ2 s2 _ _ ok (hc.mono (p1.trans p2)) r2 ?_
  intro z z' σ3 ρ3 s3 p3 r3 vz hw st3
  refine wpAny_pure ?_
  have vx3 := (vx.mono p2).mono p3
  exact getItem_slot (r3.push { cls := .type "slice", data := .fields #[y', z', .none] }) vx3 (sli_kind hw) (sli_ok r3 vx3 (vy.mono p3) vz hw (hQ.tail (p1.trans (p2.trans p3)) (st1.trans (st2.trans st3))))
theorem BM.slot (m : BM) : Slot m.id.1 m.name m.id.2 := by
  cases m
  · exact PySem.F.slot_list_append
  · exact PySem.F.slot_list_pop
  · exact PySem.F.slot_list_remove
  · exact PySem.F.slot_list_extend
  · exact PySem.F.slot_str_count
  · exact PySem.F.slot_str_replace
  · exact PySem.F.slot_str_split
  · exact PySem.F.slot_str_join
theorem BM.ty (m : BM) : typeOf (.builtin m.id.2) = pure (.type "method_descriptor") := by
  cases m
  · exact PySem.F.type_list_append
  · exact PySem.F.type_list_pop
  · exact PySem.F.type_list_remove
  · exact PySem.F.type_list_extend
  · exact PySem.F.type_str_count
  · exact PySem.F.type_str_replace
  · exact PySem.F.type_str_split
  · exact PySem.F.type_str_join
theorem bm_get {cx : Cx} {ρ : List Addr} {σ : St} {s : Shared} {m : BM} {x : V} {x' : Value} {pl : Sem Bool} {Q : Value × List Value → Shared → Prop} {E : Value → Shared → Prop} (r1 : R G cx ρ σ s.heap) (vx : VR ρ x x') (hk : bmOk m σ.hp x) (fin : Q (.builtin m.id.2, [x']) s) : wpAny (model G.prog G.w) cx.A (getMethod x' m.name pl) Q E s := by
  cases x with
  | ref i =>
    obtain ⟨hm, ys, e⟩ := hk
    obtain ⟨b, vs, q, hb', hg', _, _⟩ := r1.list e
    rw [vx.same hb'] at fin ⊢
    have hid : m.id.1 = "list" := by cases m <;> first | rfl | cases hm
    exact getMethod_builtin (T := "list") ⟨_, hg', rfl⟩ PySem.F.plainAttrs_list (hid ▸ m.slot) m.ty (fun a e => by cases e; exact ⟨_, hg', rfl⟩) fin
  | str cs =>
    obtain ⟨t, rfl⟩ := vx
    have hid : m.id.1 = "str" := by cases m <;> first | rfl | cases hk
    exact getMethod_builtin (T := "str") (typeIs_str _ _ _) PySem.F.plainAttrs_str (hid ▸ m.slot) m.ty (fun a e => nomatch e) fin
  | _ => exact False.elim hk
theorem DE_bm {o : Expr} {a : Str} {apos pos : Pos} {es : List Expr} {ies : List IE} {io : IE} {m : BM} (hb : baseOk o = true) (hl : (apos.endLine == pos.line) = true) (hn : es.length < 20) (ha : m.name = a)
    (h1 : DE G names o io) (h2 : DEs G names es ies) : DE G names (.Call (.Attribute o a apos) es [] pos) (.bm m io ies) := by
  intro n cl σ K hw cx ρ s Q E ok hc r hQ
  simp only [eK, eLoc, eCel, eStat, eBin, eCmp, eIfe, eList, eTup, eAttr, eMattr, eCall, eNew, eBf, eBm, eUm, eAm, eSub, eSli, eComp, lc0, lcS, vS, vI, vR, qSS, qII, qIS, qSI, iII, iSS, niAdd, adS, bII, bSS, biAdd, nS, inO, ltII, o1, o2, lnS, lnR, suR, suS, esN, esC, hkI, hkS, hkR, hkN] at hw
  subst ha
  refine methCall_rule hb hl hn (h2.1 _) fun pl => h1 n cl σ _ hw cx ρ s _ _ ok hc r ?_
  intro x x' σ1 ρ1 s1 p1 r1 vx hw st1
  refine bm_get r1 vx hw.1 (callWith_ok h2 ok (hc.mono p1) r1 hw.2 ?_)
  intro xs xs' σ2 ρ2 s2 p2 r2 vxs hw st2
  exact ⟨keep_builtin (fun _ => (fun q => nomatch q)), bm_ok r2 (vx.mono p2) vxs hw (hQ.tail (p1.trans p2) (st1.trans st2))⟩
theorem R.addPin {cx : Cx} {ρ : List Addr} {σ : St} {h : Heap} (r : R G cx ρ σ h) {a : Addr} {o : Obj} (ho : h.get? a = some o) (h1 : a ∉ ρ) (h2 : a ≠ cx.env.locals) (h3 : cx.h₀.get? a = none) :
    R G { cx with pin := (a, o) :: cx.pin } ρ σ h :=
  ⟨r.fr, r.nd, r.len, r.own, fun p hp => by
    rcases List.mem_cons.mp hp with rfl | hp
    · exact ⟨ho, h1, h2, h3⟩
    · exact r.pin p hp⟩
theorem R.dropPin {cx : Cx} {ρ : List Addr} {σ : St} {h : Heap} {p : Addr × Obj} (r : R G { cx with pin := p :: cx.pin } ρ σ h) : R G cx ρ σ h ∧ h.get? p.1 = some p.2 ∧ p.1 ∉ ρ :=
  ⟨⟨r.fr, r.nd, r.len, r.own, fun q hq => r.pin q (.tail _ hq)⟩, (r.pin p (.head _)).1, (r.pin p (.head _)).2.1⟩
theorem all2_of {α β : Type} {c : α → Option β} {P : α → β → Prop} (hc : ∀ e ie, c e = some ie → P e ie) : ∀ {es : List α} {ies : List β}, mapO c es = some ies → All2 P es ies := by
  intro es
  induction es with
  | nil => intro ies h; cases h; exact .nil
  | cons e r ih =>
    intro ies h
    obtain ⟨a, b, e1, e2, rfl⟩ := mapO_cons h
    exact .cons (hc _ _ e1) (ih e2)
theorem cE_star {gl : List (Str × Value)} {C : Addr} {ext : Expr → Option IE} (f : Nat) (v : Expr) (p : Pos) : cE names gl C ext f (.Starred v p) = none := by
  cases f <;> rfl
theorem replace_exact {prog : Program} {w : World} {A : Around} {E : Value → Shared → Prop} {s : Shared} {x y z : Str} {t u v : Tok} {Q : Value → Shared → Prop} (hu : u ≠ 0) (hv : v ≠ 0) (huv : u ≠ v) (hyz : (y == z) = false) (hx : x.length ≤ 100000) (hz : z.length ≤ 14)
    (hq : ∀ t' k, s.toks ≤ k → Q (.str (Txt.replace x y z) t') { s with toks := k }) : wpAny (model prog w) A (call (.builtin "str.replace") [.str x t, .str y u, .str z v]) Q E s := by
  have hb : x.length + (x.length + 1) * z.length ≤ 16777216 := by
    have h1 : (x.length + 1) * z.length ≤ (x.length + 1) * 14 := Nat.mul_le_mul_left _ hz
    omega
  have hl : Builtin.Str.tooLong (x.length + (Builtin.Str.occurrences x y 0 x.length (x.length + 1)).length * z.length) = false := by
    have h1 := StrLaws.occ_length_le x y 0 x.length (x.length + 1)
    have h2 : (Builtin.Str.occurrences x y 0 x.length (x.length + 1)).length * z.length ≤ (x.length + 1) * z.length := Nat.mul_le_mul_right _ h1
    unfold Builtin.Str.tooLong sizeLine
    exact decide_eq_false (by omega)
  refine call_gives PySem.F.slot_str_replace (typeIs_str _ _ _) PySem.F.entry_str_replace (PySem.F.args_str_replace_3 _ _ _)
    (gives_str_replace x y z t u v fun _ => ⟨by simp [hu, hv], by simp [huv], hyz, hl⟩) ?_
  have hq' := hq
  unfold Txt.replace at hq'
  cases hc : ((Builtin.Str.occurrences x y 0 x.length (x.length + 1)).isEmpty || (y.length == 0 && z.length == 0))
  · rw [hc] at hq'
    simp only [Bool.false_eq_true, if_false] at hq' ⊢
    exact ⟨fits_replaced y hb, hq' _ _ (Nat.le_succ _)⟩
  · rw [hc] at hq'
    simp only [if_true] at hq' ⊢
    exact hq' t s.toks (Nat.le_refl _)
theorem rep_app (c : Nat) (z a b : List Nat) : rep c z (a ++ b) = rep c z a ++ rep c z b := by unfold rep; rw [List.flatMap_append]
theorem rep_free (c : Nat) (z : List Nat) : ∀ l : List Nat, c ∉ l → rep c z l = l
  | [], _ => rfl
  | k :: r, h => by
    have h1 : ¬ k = c := fun e => h (e ▸ List.mem_cons_self ..)
    have ih := rep_free c z r fun m => h (List.mem_cons_of_mem _ m)
    unfold rep at ih ⊢
    rw [List.flatMap_cons, if_neg h1, ih]; rfl
theorem rep_join (c : Nat) (z : List Nat) : ∀ parts : List Str, (∀ p ∈ parts, c ∉ p.cps.toList) → rep c z (Str.join ⟨#[c]⟩ parts).cps.toList = (Str.join ⟨z.toArray⟩ parts).cps.toList
  | [], _ => rfl
  | [p], h => rep_free c z _ (h p (List.mem_singleton.mpr rfl))
  | p :: q :: r, h => by
    have ih := rep_join c z (q :: r) fun a ha => h a (List.mem_cons_of_mem _ ha)
    show rep c z (p ++ ⟨#[c]⟩ ++ Str.join ⟨#[c]⟩ (q :: r)).cps.toList = (p ++ ⟨z.toArray⟩ ++ Str.join ⟨z.toArray⟩ (q :: r)).cps.toList
    simp only [Str.cps_append, Array.toList_append]
    rw [rep_app, rep_app, ih, rep_free c z _ (h p (List.mem_cons_self ..))]
    show p.cps.toList ++ rep c z [c] ++ _ = _
    simp [rep]
theorem replace_rep (cs z : List Nat) (c : Nat) : Txt.replace ⟨cs.toArray⟩ ⟨#[c]⟩ ⟨z.toArray⟩ = ⟨(rep c z cs).toArray⟩ := by
  have h := rep_join c z _ (StrLaws.split_free ⟨cs.toArray⟩ c)
  rw [StrLaws.join_split] at h
  rw [StrLaws.replace_one]
  have h' : (Str.join ⟨z.toArray⟩ (Txt.split ⟨cs.toArray⟩ ⟨#[c]⟩)).cps.toList = rep c z cs := h.symm
  rw [← h']
theorem args2 {M : Model} {A : Around} {E : Value → Shared → Prop} {s : Shared} {env : Env} {a b : Str} {k1 k2 : Nat} {p1 p2 pos : Pos} {Q : List Value → Shared → Prop} (h : Q [.str a s.toks, .str b (s.toks + 1)] { s with toks := s.toks + 1 + 1 }) :
    wpAny M A (spliced (backTo pos (starEach [.Constant (.str a) k1 p1, .Constant (.str b) k2 p2] env))) Q E s := by
  show wpAny _ _ (do
    let v ← eval (.Constant (.str a) k1 p1) env
    let here ← pure [v]
    return here ++ (← holding here (do
      let v ← eval (.Constant (.str b) k2 p2) env
      let here ← pure [v]
      return here ++ (← holding here (spliced [])))) ) Q E s
  refine wpAny_bind (wpAny_Constant_str (wpAny_bind (wpAny_pure (wpAny_bind (wpAny_holding (wpAny_bind (wpAny_Constant_str (wpAny_bind (wpAny_pure (wpAny_bind (wpAny_holding (wpAny_pure (wpAny_pure (wpAny_pure ?_))))))))))))))
  exact h
theorem repl_rule {e o : Expr} {c : Nat} {b : List Nat} (hr : IsRepl e o c b) {cx : Cx} {s : Shared} {Q : Value → Shared → Prop} {E : Value → Shared → Prop}
    (h : wpAny (model G.prog G.w) cx.A (eval o cx.env) (fun v s1 => ∃ cs t, v = .str ⟨(cs : List Nat).toArray⟩ t ∧ cs.length ≤ 100000 ∧ 0 < s1.toks ∧ ∀ t' k, 0 < k → Q (.str ⟨(rep c b cs).toArray⟩ t') { s1 with toks := k }) E s) :
    wpAny (model G.prog G.w) cx.A (eval e cx.env) Q E s := by
  obtain ⟨⟨k1, p1, k2, p2, apos, pos, rfl, hl⟩, hb, hne, hlen⟩ := hr
  refine methCall_rule hb hl (show 2 < 20 by decide) rfl fun pl => wpAny_mono h (fun v s1 hv => ?_) fun _ _ x => x
  obtain ⟨cs, t, rfl, hcs, hz, hQ⟩ := hv
  refine getMethod_builtin (T := "str") (typeIs_str _ _ _) PySem.F.plainAttrs_str PySem.F.slot_str_replace PySem.F.type_str_replace (fun a e => nomatch e) ?_
  refine callWith_of (P := fun _ => True) (by rfl) (fun h _ => keep_builtin (fun _ => (fun q => nomatch q))) ?_
  refine evalArgs_any rfl (args2 ⟨trivial, ?_⟩)
  refine replace_exact (Nat.ne_of_gt hz) (Nat.succ_ne_zero _) (Nat.ne_of_lt (Nat.lt_succ_self _)) ?_ hcs (Nat.le_trans hlen (by decide)) fun t' k hk => ?_
  · have := beq_str [c] b
    rw [hne] at this
    exact this
  · rw [replace_rep]
    exact hQ t' k (Nat.lt_of_lt_of_le (Nat.succ_pos _) hk)
noncomputable def DX (G : Stat) (names : List (Str × NameKind)) (e : Expr) (ie : IE) : Prop :=
  ∀ n cl σ (K : V → St → Prop), wpE G n cl ie σ K → ∀ (cx : Cx) (ρ : List Addr) (s : Shared) (Q : Value → Shared → Prop) (E : Value → Shared → Prop), CxOk G cx (n + 1) names → ClOk cx cl ρ → R G cx ρ σ s.heap → (∀ v v' k, s.toks ≤ k → VR ρ v v' → K v σ → Q v' { s with toks := k }) →
    wpAny (model G.prog G.w) cx.A (eval e cx.env) Q E s
theorem DX_name {x : Str} {p : Pos} {ie : IE} (hl : ∃ i, ie = .loc i) (h : cName names gl x = some ie) : DX G names (.Name x p) ie := by
  obtain ⟨i0, rfl⟩ := hl
  obtain ⟨hx, h⟩ := when_sp h
  simp only [Bool.not_eq_true', Bool.or_eq_false_iff] at hx
  obtain ⟨i, hi, h⟩ := bind_sp h
  obtain ⟨⟨y, k⟩, hy, h⟩ := bind_sp h
  obtain ⟨kk, g1, g2⟩ := ix_spec hi
  rw [g1] at hy; cases hy
  cases k with
  | «local» =>
    cases h
    intro n cl σ K hw cx ρ s Q E ok hc r hQ
    obtain ⟨v, e, hw⟩ := onLoc_sp hw
    exact wpAny_Name (load_loc ok r g1 g2 e fun v' hv => hQ v v' s.toks (Nat.le_refl _) hv hw) hx.1
  | cell => cases h
  | free => cases h
  | globalImplicit =>
    obtain ⟨v, hv, h⟩ := bind_sp (a := gl.lookup x) h
    cases h
  | _ => exact nos h
theorem DX_sub {o i : Expr} {p : Pos} {io ii : IE} (h1 : DX G names o io) (h2 : DX G names i ii) : DX G names (.Subscript o i p) (.sub io ii) := by
  intro n cl σ K hw cx ρ s Q E ok hc r hQ
  refine Subscript_ (h1 n cl σ _ hw cx ρ s _ _ ok hc r ?_)
  intro x x' k1 hk1 vx hw
  refine h2 n cl σ _ hw cx ρ { s with toks := k1 } _ _ ok hc r ?_
  intro y y' k2 hk2 vy hw
  exact getItem_slot (s := { s with toks := k2 }) r vx (sub_kind hw) (sub_okX (s := { s with toks := k2 }) r vx vy hw fun v v' k3 hk3 vv hK => hQ v v' k3 (Nat.le_trans hk1 (Nat.le_trans hk2 hk3)) vv hK)
theorem DX.eq {e e' : Expr} {ie : IE} (h : e = e') (d : DX G names e' ie) : DX G names e ie := h ▸ d
theorem bind_of {α β : Type} {a : Option α} {k : α → Option β} {b : β} (h : a.bind k = some b) : ∃ x, k x = some b := let ⟨x, _, h⟩ := bind_sp h; ⟨x, h⟩
theorem sub_congr {a a' b b' : Expr} {p : Pos} (h1 : a = a') (h2 : b = b') : Expr.Subscript a b p = .Subscript a' b' p := by rw [h1, h2]
theorem cX_ok {e : Expr} {ie : IE} (h : cX names gl e = some ie) : DX G names e ie := by
  rcases alt_sp h with h | h
  · obtain ⟨q, h⟩ := bind_of h
    obtain ⟨a, e1, h⟩ := bind_sp h
    obtain ⟨i, h⟩ := bind_of h
    cases h
    exact .eq q.2 (DX_name ⟨_, rfl⟩ (e1.trans (congrArg some i.2)))
  · obtain ⟨q, h⟩ := bind_of h
    obtain ⟨x, h⟩ := bind_of h
    obtain ⟨y, h⟩ := bind_of h
    obtain ⟨a, e1, h⟩ := bind_sp h
    obtain ⟨i, h⟩ := bind_of h
    obtain ⟨b, e2, h⟩ := bind_sp h
    obtain ⟨j, h⟩ := bind_of h
    cases h
    exact .eq (q.2.trans (sub_congr x.2 y.2)) (DX_sub (DX_name ⟨_, rfl⟩ (e1.trans (congrArg some i.2))) (DX_name ⟨_, rfl⟩ (e2.trans (congrArg some j.2))))
theorem DE.eq {e e' : Expr} {ie : IE} (h : e = e') (d : DE G names e' ie) : DE G names e ie := h ▸ d
theorem bin_congr {a a' b b' : Expr} {op : Operator} {p : Pos} (h1 : a = a') (h2 : b = b') : Expr.BinOp a op b p = .BinOp a' op b' p := by rw [h1, h2]
theorem DE_neg {k : Int} {kk : Nat} {p q : Pos} : DE G names (.UnaryOp .USub (.Constant (.int k) kk p) q) (.k (.int (-k))) := by
  intro n cl σ K hw cx ρ s Q E ok hc r hQ
  exact UnaryOp_ (wpAny_Constant_int (P.neg_int (hQ _ _ _ _ { s with toks := s.toks + 1 + 1 } (List.prefix_refl _) r .i hw .of)))
theorem cName_ok (hgl : GlOk G gl) {x : Str} {p : Pos} {ie : IE} (h : cName names gl x = some ie) : DE G names (.Name x p) ie := by
  obtain ⟨hx, h⟩ := when_sp h
  simp only [Bool.not_eq_true', Bool.or_eq_false_iff] at hx
  obtain ⟨i, hi, h⟩ := bind_sp h
  obtain ⟨⟨y, k⟩, hy, h⟩ := bind_sp h
  cases k with
  | «local» => cases h; exact DE_loc hi ⟨_, hy⟩ hx.1
  | cell => cases h; exact DE_cel hi ⟨_, _, hy, .inl rfl⟩ hx.1 hx.2
  | free => cases h; exact DE_cel hi ⟨_, _, hy, .inr rfl⟩ hx.1 hx.2
  | globalImplicit =>
    obtain ⟨v, hv, h⟩ := bind_sp (a := gl.lookup x) h
    cases h
    exact DE_glob hgl hi ⟨_, hy⟩ hv hx.1
  | _ => exact nos h
theorem cAttr_ok (gc : G.Cls) {o : Expr} {a : Str} {p : Pos} {io ie : IE} (hb : baseOk o = true) (h1 : DE G names o io) (h : cAttr io a = some ie) : DE G names (.Attribute o a p) ie := by
  unfold cAttr at h
  revert h
  cases e : At.of a with
  | some ia => intro h; cases h; exact DE_attr gc hb (At.of_spec e) h1
  | none =>
    intro h
    obtain ⟨m, e3, h⟩ := bind_sp (a := Mt.of a) h
    cases h
    exact DE_mattr gc hb (Mt.of_spec e3) h1
theorem cCallN_ok (gc : G.Cls) {x : Str} {p pos : Pos} {args : List Expr} {v ie : IE} {es : List IE} (h1 : DE G names (.Name x p) v) (h2 : DEs G names args es) (h : cCallN G.C v es = some ie) : DE G names (.Call (.Name x p) args [] pos) ie := by
  cases v with
  | stat v =>
    have bf : ((BF.of v).bind fun b => some (IE.bf b es)) = some ie → DE G names (.Call (.Name x p) args [] pos) ie := fun h => by
      obtain ⟨b, e3, h⟩ := bind_sp h
      cases h
      have := BF.of_spec e3
      subst this
      exact DE_bf h1 h2
    cases v with
    | ref a =>
      by_cases hC : a = G.C
      · subst hC
        have h : (if G.C = G.C then some (IE.new es) else _) = some ie := h
        rw [if_pos rfl] at h; cases h; exact DE_new gc h1 h2
      · have h : (if a = G.C then some (IE.new es) else some (.call (.stat (.ref a)) es)) = some ie := h
        rw [if_neg hC] at h; cases h; exact DE_call h1 h2
    | _ => exact bf h
  | _ => exact nos h
theorem cCallA_ok (gc : G.Cls) {o : Expr} {a : Str} {apos pos : Pos} {args : List Expr} {io ie : IE} {es : List IE} (hb : baseOk o = true) (hl : (apos.endLine == pos.line) = true) (hn : args.length < 20) (h1 : DE G names o io) (h2 : DEs G names args es) (h : cCallA io a es = some ie) :
    DE G names (.Call (.Attribute o a apos) args [] pos) ie := by
  unfold cCallA at h
  revert h
  cases e : BM.of a with
  | some m => intro h; cases h; exact DE_bm hb hl hn (BM.of_spec e) h1 h2
  | none =>
    dsimp only
    cases e2 : Mt.of a with
    | some m => intro h; cases h; exact DE_um gc hb hl hn (Mt.of_spec e2) h1 h2
    | none =>
      intro h
      obtain ⟨m, e3, h⟩ := bind_sp (a := At.of a) h
      cases h
      exact DE_am gc hb hl hn (At.of_spec e3) h1 h2
section
variable {f : Nat} {ext : Expr → Option IE} (ihE : ∀ e ie, cE names gl G.C ext f e = some ie → DE G names e ie)
include ihE
theorem cEs_ok {es : List Expr} {ies : List IE} (h : mapO (cE names gl G.C ext f) es = some ies) : DEs G names es ies := DEs_of ihE (cE_star f) h
theorem cO_ok {e : Option Expr} {ie : Option IE} (h : optO (cE names gl G.C ext f) e = some ie) : DO G names e ie := by
  cases e with
  | none => cases h; exact DO_none
  | some e =>
    obtain ⟨a, h1, h⟩ := bind_sp (a := cE names gl G.C ext f e) h
    cases h
    exact DO_some (ihE _ _ h1)
theorem cCmp_ok {P : Expr → IE → Prop} (hP : ∀ {l r op pos a b}, behindInMarks op r = false → DE G names l a → DE G names r b → P (.Compare l [op] [r] pos) (.cmp op a b)) {l : Expr} {ops : List CmpOp} {rs : List Expr} {pos : Pos} {ie : IE}
    (h : ((one ops).bind fun op => (one rs).bind fun r => when (!behindInMarks op r) ((cE names gl G.C ext f l).bind fun a => (cE names gl G.C ext f r).bind fun b => some (.cmp op a b))) = some ie) : P (.Compare l ops rs pos) ie := by
  obtain ⟨op, e1, h⟩ := bind_sp h
  obtain ⟨r, e2, h⟩ := bind_sp h
  obtain ⟨hm, h⟩ := when_sp h
  obtain ⟨a, e3, h⟩ := bind_sp h
  obtain ⟨b, e4, h⟩ := bind_sp h
  cases h
  rw [one_sp e1, one_sp e2]
  exact hP (by simpa using hm) (ihE _ _ e3) (ihE _ _ e4)
theorem cSub_ok {v i : Expr} {pos : Pos} {ie : IE} (h : cE names gl G.C ext (f + 1) (.Subscript v i pos) = some ie) : DE G names (.Subscript v i pos) ie := by
  have h : (match isSli i with
        | true => (asSli i).bind fun q => (cE names gl G.C ext f v).bind fun v => (optO (cE names gl G.C ext f) q.1.1).bind fun l => (optO (cE names gl G.C ext f) q.1.2.1).bind fun h => some (IE.sli v l h)
        | false => (cE names gl G.C ext f v).bind fun v => (cE names gl G.C ext f i).bind fun i => some (.sub v i)) = some ie := h
  revert h
  cases isSli i with
  | true =>
    intro h
    obtain ⟨q, h⟩ := bind_of (a := asSli i) h
    obtain ⟨a, e1, h⟩ := bind_sp h
    obtain ⟨b, e2, h⟩ := bind_sp h
    obtain ⟨c, e3, h⟩ := bind_sp h
    cases h
    exact .eq (sub_congr rfl q.2) (DE_sli (ihE _ _ e1) (cO_ok ihE e2) (cO_ok ihE e3))
  | false =>
    intro h
    obtain ⟨a, e1, h⟩ := bind_sp (a := cE names gl G.C ext f v) h
    obtain ⟨b, e2, h⟩ := bind_sp h
    cases h
    exact DE_sub (ihE _ _ e1) (ihE _ _ e2)
theorem cCall_ok (gc : G.Cls) (hgl : GlOk G gl) (hext : ∀ e ie, ext e = some ie → DE G names e ie) {fn : Expr} {args : List Expr} {kws : List Keyword} {pos : Pos} {ie : IE} (h : cE names gl G.C ext (f + 1) (.Call fn args kws pos) = some ie) : DE G names (.Call fn args kws pos) ie := by
  rcases alt_sp (a := ext (.Call fn args kws pos)) h with h | h
  · exact hext _ _ h
  obtain ⟨hk, h⟩ := when_sp (b := kws.isEmpty) h
  cases kws with
  | cons _ _ => cases hk
  | nil =>
    obtain ⟨es, e1, h⟩ := bind_sp h
    cases fn with
    | Name x p =>
      obtain ⟨v, e2, h⟩ := bind_sp (a := cName names gl x) h
      exact cCallN_ok gc (cName_ok hgl e2) (cEs_ok ihE e1) h
    | Attribute o a apos =>
      obtain ⟨hc, h⟩ := when_sp (b := baseOk o && apos.endLine == pos.line && decide (args.length < 20)) h
      simp only [Bool.and_eq_true, decide_eq_true_eq] at hc
      obtain ⟨io, e2, h⟩ := bind_sp h
      exact cCallA_ok gc hc.1.1 hc.1.2 hc.2 (ihE _ _ e2) (cEs_ok ihE e1) h
    | _ => exact nos h
end
theorem comp_ok {ext : Expr → Option IE} (gc : G.Cls) (hgl : GlOk G gl) (hext : ∀ e ie, ext e = some ie → DE G names e ie) : ∀ f : Nat, (∀ e ie, cE names gl G.C ext f e = some ie → DE G names e ie) ∧ (∀ e ie, cT names gl G.C ext f e = some ie → DT G names e ie) := by
  intro f
  induction f with
  | zero => exact ⟨(fun e ie h => nomatch (show none = some ie from h)), (fun e ie h => nomatch (show none = some ie from h))⟩
  | succ f ih =>
    obtain ⟨ihE, ihT⟩ := ih
    refine ⟨fun e ie h => ?_, fun e ie h => ?_⟩
    · cases e with
      | Constant c k p =>
        obtain ⟨v, e1, h⟩ := bind_sp (a := cConst c) h
        cases h
        exact DE_const e1
      | Name x p => exact cName_ok hgl h
      | BinOp l op r p =>
        obtain ⟨a, e1, h⟩ := bind_sp (a := cE names gl G.C ext f l) h
        obtain ⟨b, e2, h⟩ := bind_sp h
        cases h
        exact DE_bin (ihE _ _ e1) (ihE _ _ e2)
      | UnaryOp op a p => cases op with
        | USub => cases a with
          | Constant c kk q => cases c with
            | int k => cases (h : some _ = some ie); exact DE_neg
            | _ => exact nos h
          | _ => exact nos h
        | _ => exact nos h
      | Compare l ops rs p => exact cCmp_ok ihE (P := DE G names) DE_cmp h
      | IfExp t a b p =>
        obtain ⟨t', e0, h⟩ := bind_sp (a := cT names gl G.C ext f t) h
        obtain ⟨a', e1, h⟩ := bind_sp h
        obtain ⟨b', e2, h⟩ := bind_sp h
        cases h
        exact DE_ife (ihT _ _ e0) (ihE _ _ e1) (ihE _ _ e2)
      | List es p =>
        obtain ⟨es', e1, h⟩ := bind_sp (a := mapO (cE names gl G.C ext f) es) h
        cases h
        exact DE_list (cEs_ok ihE e1)
      | Tuple es k p =>
        rcases alt_sp (a := ext (.Tuple es k p)) h with h | h
        · exact hext _ _ h
        obtain ⟨es', e1, h⟩ := bind_sp (a := mapO (cE names gl G.C ext f) es) h
        cases h
        exact DE_tup (cEs_ok ihE e1)
      | Attribute o a p =>
        obtain ⟨hb, h⟩ := when_sp (b := baseOk o) h
        obtain ⟨io, e1, h⟩ := bind_sp h
        exact cAttr_ok gc hb (ihE _ _ e1) h
      | Call fn args kws pos => exact cCall_ok ihE gc hgl hext h
      | Subscript v i p => exact cSub_ok ihE h
      | ListComp a b c d => exact hext _ _ h
      | _ => exact nos h
    · cases e with
      | Compare l ops rs p => exact cCmp_ok ihE (P := DT G names) DT_cmp h
      | BoolOp op es p =>
        cases es with
        | nil => exact nos h
        | cons a es => cases es with
          | nil => exact nos h
          | cons b es => cases es with
            | cons c es => exact nos h
            | nil =>
              obtain ⟨a', e1, h⟩ := bind_sp (a := cT names gl G.C ext f a) h
              obtain ⟨b', e2, h⟩ := bind_sp h
              cases op with
              | And => cases h; exact DT_and (ihT _ _ e1) (ihT _ _ e2)
              | Or => cases h; exact DT_or (ihT _ _ e1) (ihT _ _ e2)
      | UnaryOp op a p => cases op with
        | Not =>
          obtain ⟨a', e1, h⟩ := bind_sp (a := cT names gl G.C ext f a) h
          cases h
          exact DT_not (ihT _ _ e1)
        | _ => exact nos h
      | Name x p =>
        obtain ⟨v, e1, h⟩ := bind_sp (a := cName names gl x) h
        have h1 := cName_ok (p := p) hgl e1
        cases v with
        | loc i => cases h; exact DT_loc h1
        | _ => exact nos h
      | Attribute o a p =>
        obtain ⟨hb, h⟩ := when_sp (b := baseOk o) h
        obtain ⟨io, e1, h⟩ := bind_sp h
        obtain ⟨v, e2, h⟩ := bind_sp h
        have h1 := cAttr_ok (p := p) gc hb (ihE _ _ e1) e2
        cases v with
        | attr o' a' => cases h; exact DT_attr h1
        | _ => exact nos h
      | _ => exact nos h
end
end Mine
namespace Mine
open PySem PySem.W PySem.Calls PyProof.Rows
noncomputable def Pk (k : Nat) (ρ ρ' : List Addr) : Prop := ρ'.take k = ρ.take k ∧ k ≤ ρ'.length
theorem Pk.refl {k : Nat} {ρ : List Addr} (h : k ≤ ρ.length) : Pk k ρ ρ := ⟨rfl, h⟩
theorem Pk.trans {k : Nat} {a b c : List Addr} (h : Pk k a b) (h' : Pk k b c) : Pk k a c := ⟨h'.1.trans h.1, h'.2⟩
theorem Pk.of_pre {k : Nat} {ρ ρ' : List Addr} (h : ρ <+: ρ') (hk : k ≤ ρ.length) : Pk k ρ ρ' := by
  obtain ⟨t, rfl⟩ := h
  refine ⟨?_, by simp; omega⟩
  rw [List.take_append_of_le_length hk]
theorem Pk.mono {k k' : Nat} {ρ ρ' : List Addr} (h : Pk k' ρ ρ') (hk : k ≤ k') : Pk k ρ ρ' := by
  refine ⟨?_, Nat.le_trans hk h.2⟩
  have := congrArg (List.take k) h.1
  simpa [List.take_take, Nat.min_eq_left hk] using this
theorem Pk.get {k : Nat} {ρ ρ' : List Addr} (h : Pk k ρ ρ') {i : Nat} (hi : i < k) : ρ'[i]? = ρ[i]? := by
  have := congrArg (fun l : List Addr => l[i]?) h.1
  simpa [List.getElem?_take, hi] using this
theorem VR.pk {k : Nat} {ρ ρ' : List Addr} (h : Pk k ρ ρ') {v : V} {v' : Value} (hl : v.lt k) (e : VR ρ v v') : VR ρ' v v' := by
  cases v <;> try exact e
  obtain ⟨a, h1, h2⟩ := e
  exact ⟨a, (h.get hl).trans h1, h2⟩
structure ClLt (cl : List (Option Nat)) (k : Nat) : Prop where
  lt : ∀ (i j : Nat), cl[i]? = some (some j) → j < k
theorem ClLt.mono {cl : List (Option Nat)} {k k' : Nat} (h : ClLt cl k) (hk : k ≤ k') : ClLt cl k' := ⟨fun i j e => Nat.lt_of_lt_of_le (h.lt i j e) hk⟩
theorem ClOk.pk {cx : Cx} {cl : List (Option Nat)} {ρ ρ' : List Addr} {k : Nat} (h : ClOk cx cl ρ) (hl : ClLt cl k) (p : Pk k ρ ρ') : ClOk cx cl ρ' :=
  ⟨fun i x kk j a b => let ⟨c, d, e⟩ := h.at_ i x kk j a b; ⟨c, (p.get (hl.lt i j b)).trans d, e⟩⟩
noncomputable def noComp : Expr → Bool
  | .ListComp .. | .SetComp .. | .DictComp .. => false
  | _ => true
noncomputable def isTupE : Expr → Bool
  | .Tuple .. | .List .. => true
  | _ => false
noncomputable def nameTup : Expr → Bool
  | .Name .. => true
  | .Tuple .. => true
  | _ => false
noncomputable def isSetE : Expr → Bool
  | .Set .. => true
  | _ => false
section
variable (names : List (Str × NameKind)) (gl : List (Str × Value)) (C : Addr) (ext : Expr → Option IE) (extS : Stmt → Option IS)
noncomputable def cGN (x : Str) : Option Tg := (ix names x).bind fun i => (names[i]?).bind fun p => match p.2 with
  | .local => some (.loc i)
  | .cell => some (.cel i)
  | _ => none
noncomputable def augN : Tg → Option Nat
  | .loc i => some i
  | _ => none
noncomputable def cG : Nat → Expr → Option Tg
  | 0, _ => none
  | f + 1, e => match e with
    | .Name x _ => cGN names x
    | .Attribute o a _ => (cE names gl C ext f o).bind fun o => (At.of a).bind fun a => some (.attr o a)
    | .Subscript o i _ => when (!isSli i) ((cE names gl C ext f o).bind fun o => (cE names gl C ext f i).bind fun i => some (.sub o i))
    | .Tuple ts _ _ => (mapO (cG f) ts).bind fun ts => some (.tup ts)
    | _ => none
noncomputable def cS : Nat → Stmt → Option IS
  | 0, _ => none
  | f + 1, st => match st with
    | .Assign ts v p => (match noComp v with
        | true => (one ts).bind fun t => when (!isTupE v || !isTupE t) ((cG names gl C ext f t).bind fun t => (cE names gl C ext f v).bind fun v => some (.assign t v))
        | false => extS (.Assign ts v p))
    | .AugAssign t op v _ => (cE names gl C ext f v).bind fun v => (match t with
        | .Name x _ => (cGN names x).bind fun g => (augN g).bind fun i => some (.aug (.loc i) op v)
        | .Attribute o a _ => (cE names gl C ext f o).bind fun o => (At.of a).bind fun a => some (.aug (.attr o a) op v)
        | .Subscript o i _ => when (!isSli i) ((cE names gl C ext f o).bind fun o => (cE names gl C ext f i).bind fun i => some (.aug (.sub o i) op v))
        | _ => none)
    | .Expr e _ => when (noComp e) ((cE names gl C ext f e).bind fun e => some (.expr e))
    | .If t a b _ => (cT names gl C ext f t).bind fun t => (mapO (cS f) a).bind fun a => (mapO (cS f) b).bind fun b => some (.ite t a b)
    | .While t b els _ => when els.isEmpty ((cT names gl C ext f t).bind fun t => (mapO (cS f) b).bind fun b => some (.whl t b))
    | .For t it b els _ => when (els.isEmpty && !isSetE it && nameTup t) ((cG names gl C ext f t).bind fun t => (cE names gl C ext f it).bind fun it => (mapO (cS f) b).bind fun b => some (.for t it b))
    | .Return e _ => (match e with
        | some e => (cE names gl C ext f e).bind fun e => some (.ret e)
        | none => none)
    | .Break _ => some .brk
    | .Continue _ => some .cont
    | .FunctionDef a b c d e g h i j k => extS (.FunctionDef a b c d e g h i j k)
    | _ => none
end
inductive FlR (ρ : List Addr) : Fl → Flow → Prop
  | next : FlR ρ .next .next
  | brk : FlR ρ .brk .brk
  | cont : FlR ρ .cont .cont
  | ret {v v'} : VR ρ v v' → FlR ρ (.ret v) (.ret v')
noncomputable def DG (G : Stat) (names : List (Str × NameKind)) (t : Expr) (it : Tg) : Prop :=
  (∀ v p, t ≠ .Starred v p) ∧
  ∀ n cl σ v (K : St → Prop), wpTg G n cl it v σ K → ∀ (cx : Cx) (ρ : List Addr) (s : Shared) (Q : Unit → Shared → Prop) (E : Value → Shared → Prop) (v' : Value),
    CxOk G cx (n + 1) names → ClOk cx cl ρ → R G cx ρ σ s.heap → VR ρ v v' →
    (∀ σ' ρ' s', ρ <+: ρ' → R G cx ρ' σ' s'.heap → K σ' → Stp s s' → Q () s') → wpAny (model G.prog G.w) cx.A (assign t cx.env v') Q E s
noncomputable def RetS (G : Stat) (cx : Cx) (k : Nat) (ρ : List Addr) (s : Shared) (K : Fl → St → Prop) (Q : Flow → Shared → Prop) : Prop :=
  ∀ fl fl' σ' ρ' s', Pk k ρ ρ' → R G cx ρ' σ' s'.heap → FlR ρ' fl fl' → K fl σ' → Stp s s' → Q fl' s'
noncomputable def TS (G : Stat) (n : Nat) (names : List (Str × NameKind)) (cl : List (Option Nat)) (k : Nat) (t : Env → Sem Flow) (σ : St) (K : Fl → St → Prop) : Prop :=
  ∀ (cx : Cx) (ρ : List Addr) (s : Shared) (Q : Flow → Shared → Prop) (E : Value → Shared → Prop), CxOk G cx (n + 1) names → ClOk cx cl ρ → ClLt cl k → k ≤ ρ.length → R G cx ρ σ s.heap →
    RetS G cx k ρ s K Q → wpAny (model G.prog G.w) cx.A (t cx.env) Q E s
noncomputable def DS (G : Stat) (names : List (Str × NameKind)) (st : Stmt) (is : IS) : Prop :=
  ∀ n cl k σ (K : Fl → St → Prop), wpS G n cl k is σ K → TS G n names cl k (exec st) σ K
noncomputable def DSs (G : Stat) (names : List (Str × NameKind)) (st : List Stmt) (is : List IS) : Prop :=
  ∀ n cl k σ (K : Fl → St → Prop), wpSs G n cl k is σ K → TS G n names cl k (execs st) σ K
section
variable {G : Stat} {names : List (Str × NameKind)} {gl : List (Str × Value)}
theorem loc_set {ρ : List Addr} {names : List (Str × NameKind)} (hnd : (names.map (·.1)).Nodup) {loc : List (Option V)} {m : Str → Option Value} {i : Nat} {x : Str} {k : NameKind} {v : V} {v' : Value}
    (hl : LocR ρ names loc m) (hx : names[i]? = some (x, k)) (vv : VR ρ v v') : LocR ρ names (loc.set i (some v)) (fun y => if y = x then some v' else m y) := by
  intro j y u e1 e2
  by_cases hj : i = j
  · subst hj
    rw [hx] at e1; cases e1
    have hlt : i < loc.length := by have := (List.getElem?_eq_some_iff.mp e2).1; simpa using this
    rw [List.getElem?_set_self hlt] at e2; cases e2
    exact ⟨v', by simp, vv⟩
  · rw [List.getElem?_set_ne hj] at e2
    obtain ⟨u', h1, h2⟩ := hl j y u e1 e2
    refine ⟨u', ?_, h2⟩
    have hne : y ≠ x := fun q => hj (by
      subst q
      have hi' : i < (names.map (·.1)).length := by simpa using (List.getElem?_eq_some_iff.mp hx).1
      have hj' : j < (names.map (·.1)).length := by simpa using (List.getElem?_eq_some_iff.mp e1).1
      refine (List.getElem_inj (h₀ := hi') (h₁ := hj') hnd).mp ?_
      have q1 := (List.getElem?_eq_some_iff.mp hx).2
      have q2 := (List.getElem?_eq_some_iff.mp e1).2
      simp [q1, q2])
    simp [hne, h1]
theorem DG_loc (hnd : (names.map (·.1)).Nodup) {x : Str} {pos : Pos} {i : Nat} (hi : ix names x = some i) (hk : ∃ y, names[i]? = some (y, .local)) : DG G names (.Name x pos) (.loc i) := by
  refine ⟨(fun _ _ q => by cases q), fun n cl σ v K hw cx ρ s Q E v' ok hc r vv hQ => ?_⟩
  simp only [gLoc, gCel, gAttr, gSub, gTup, lc0, lcS, vS, vI, vR, qSS, qII, qIS, qSI, iII, iSS, niAdd, adS, bII, bSS, biAdd, nS, inO, ltII, o1, o2, lnS, lnR, suR, suS, esN, esC, hkI, hkS, hkR, hkN] at hw
  obtain ⟨k, h1, h2⟩ := ix_spec hi
  obtain ⟨y, hy⟩ := hk
  rw [h1] at hy; cases hy
  obtain ⟨m, F, hl⟩ := r.fr
  refine wpAny_assign_Name (wpAny_storeName_local (kindOf_of ok h2) F.ns (fun h' hn hs => ?_) ?_)
  · exact hQ _ ρ { s with heap := h', toks := s.toks + 1 } (List.prefix_refl _) (r.loc hn hs (by rw [ok.names] at hl ⊢; exact loc_set hnd hl h1 vv)) hw.2 .of
  · rw [ok.kind]; rfl
theorem DG_cel {x : Str} {pos : Pos} {i : Nat} (hi : ix names x = some i) (hk : ∃ y, names[i]? = some (y, .cell)) : DG G names (.Name x pos) (.cel i) := by
  refine ⟨(fun _ _ q => by cases q), fun n cl σ v K hw cx ρ s Q E v' ok hc r vv hQ => ?_⟩
  simp only [gLoc, gCel, gAttr, gSub, gTup, lc0, lcS, vS, vI, vR, qSS, qII, qIS, qSI, iII, iSS, niAdd, adS, bII, bSS, biAdd, nS, inO, ltII, o1, o2, lnS, lnR, suR, suS, esN, esC, hkI, hkS, hkR, hkN] at hw
  obtain ⟨k, h1, h2⟩ := ix_spec hi
  obtain ⟨y, hy⟩ := hk
  rw [h1] at hy; cases hy
  obtain ⟨j, u, e1, e2, hw⟩ := onC_sp hw
  obtain ⟨a, ha, hcell⟩ := hc.at_ i x _ j (by rw [ok.names]; exact h1) e1
  obtain ⟨a', o, ha', ho, hO, _⟩ := r.at e2
  rw [ha] at ha'; cases ha'
  have hold : ∃ u', o.data = .cell u' := by
    cases u with
    | none => exact ⟨_, hO⟩
    | some u => obtain ⟨u', q, _⟩ := hO; exact ⟨_, q⟩
  obtain ⟨u', hu'⟩ := hold
  refine wpAny_assign_Name (wpAny_storeName_cell ok.kind (kindOf_of ok h2) hcell ⟨o, ho, hu'⟩ fun h' hv hs => ?_)
  obtain ⟨o', ho', hd'⟩ := hv
  exact hQ _ ρ { s with heap := h' } (List.prefix_refl _) (r.upd (ao' := .cell (some v)) ha hs.extBut ho' ⟨v', hd', vv⟩) hw .of
theorem DG_attr (gc : G.Cls) {o : Expr} {a : Str} {pos : Pos} {io : IE} {ia : At} (ha : ia.name = a) (h : DE G names o io) : DG G names (.Attribute o a pos) (.attr io ia) := by
  refine ⟨(fun _ _ q => by cases q), fun n cl σ v K hw cx ρ s Q E v' ok hc r vv hQ => ?_⟩
  simp only [gLoc, gCel, gAttr, gSub, gTup, lc0, lcS, vS, vI, vR, qSS, qII, qIS, qSI, iII, iSS, niAdd, adS, bII, bSS, biAdd, nS, inO, ltII, o1, o2, lnS, lnR, suR, suS, esN, esC, hkI, hkS, hkR, hkN] at hw
  subst ha
  rw [assign_Attribute]
  refine wpAny_bind (wpAny_holding (h n cl σ _ hw cx ρ s _ _ ok hc r ?_))
  intro x x' σ1 ρ1 s1 p1 r1 vx hw st1
  refine wpAny_bind (wpAny_standAt (wpAny_bind (wpAny_holding ?_)))
  exact setA_ok gc ok r1 vx (vv.mono p1) hw fun σ' s' r' k' st' => wpAny_release (hQ σ' ρ1 s' p1 r' k' (st1.trans st'))
theorem DG_sub {o i : Expr} {pos : Pos} {io ii : IE} (_hs : isSli i = false) (h : DE G names o io) (h' : DE G names i ii) : DG G names (.Subscript o i pos) (.sub io ii) := by
  refine ⟨(fun _ _ q => by cases q), fun n cl σ v K hw cx ρ s Q E v' ok hc r vv hQ => ?_⟩
  simp only [gLoc, gCel, gAttr, gSub, gTup, lc0, lcS, vS, vI, vR, qSS, qII, qIS, qSI, iII, iSS, niAdd, adS, bII, bSS, biAdd, nS, inO, ltII, o1, o2, lnS, lnR, suR, suS, esN, esC, hkI, hkS, hkR, hkN] at hw
  rw [arm_assign_Subscript]
  refine wpAny_bind (wpAny_holding (h n cl σ _ hw cx ρ s _ _ ok hc r ?_))
  intro x x' σ1 ρ1 s1 p1 r1 vx hw st1
  refine wpAny_bind (wpAny_holding (h' n cl σ1 _ hw cx ρ1 s1 _ _ ok (hc.mono p1) r1 ?_))
  intro y y' σ2 ρ2 s2 p2 r2 vy hw st2
  refine wpAny_bind (wpAny_standAt (wpAny_bind (wpAny_holding ?_)))
  exact setI_ok r2 (vx.mono p2) vy ((vv.mono p1).mono p2) hw fun σ' s' r' k' st' => wpAny_release (hQ σ' ρ2 s' (p1.trans p2) r' k' (st1.trans (st2.trans st')))
theorem R.extNew {cx : Cx} {ρ : List Addr} {σ : St} {h h' : Heap} (r : R G cx ρ σ h) (hs : Heap.ExtBut h.objs.size h h') : R G cx ρ σ h' :=
  r.ext (Nat.ne_of_gt r.llt) r.base_lt r.notin r.pinlt hs
theorem assign_each {ts : List Expr} {its : List Tg} (h : All2 (fun t it => DG G names t it) ts its) : ∀ env : Env, assignEach ts env = ts.map fun t => (false, assign t env) := by
  induction h with
  | nil => intro env; rfl
  | @cons t it ts its h _ ih =>
    intro env
    have : assignEach (t :: ts) env = (false, assign t env) :: assignEach ts env := by
      cases t <;> first | rfl | exact absurd rfl (h.1 _ _)
    rw [this, ih]; rfl
theorem assign_list {ts : List Expr} {its : List Tg} (h : All2 (fun t it => DG G names t it) ts its) : ∀ (n : Nat) (cl : List (Option Nat)) (σ : St) (vs : List V) (K : St → Prop), wpTgs G n cl its vs σ K → ts.length = vs.length →
    ∀ (cx : Cx) (ρ : List Addr) (s : Shared) (Q : Unit → Shared → Prop) (E : Value → Shared → Prop) (vs' : List Value), CxOk G cx (n + 1) names → ClOk cx cl ρ → R G cx ρ σ s.heap → VRs ρ vs vs' →
    (∀ σ' ρ' s', ρ <+: ρ' → R G cx ρ' σ' s'.heap → K σ' → Stp s s' → Q () s') → wpAny (model G.prog G.w) cx.A (assignInOrder (ts.map fun t => assign t cx.env) vs') Q E s := by
  induction h with
  | nil =>
    intro n cl σ vs K hw hl cx ρ s Q E vs' ok hc r vv hQ
    simp only [gsC, gsN, lc0, lcS, vS, vI, vR, qSS, qII, qIS, qSI, iII, iSS, niAdd, adS, bII, bSS, biAdd, nS, inO, ltII, o1, o2, lnS, lnR, suR, suS, esN, esC, hkI, hkS, hkR, hkN] at hw
    exact wpAny_pure (hQ σ ρ s (List.prefix_refl _) r hw (.refl s))
  | cons h1 _ ih =>
    intro n cl σ vs K hw hl cx ρ s Q E vs' ok hc r vv hQ
    cases vv with
    | nil => simp at hl
    | cons vx vr =>
      simp only [gsC, gsN, lc0, lcS, vS, vI, vR, qSS, qII, qIS, qSI, iII, iSS, niAdd, adS, bII, bSS, biAdd, nS, inO, ltII, o1, o2, lnS, lnR, suR, suS, esN, esC, hkI, hkS, hkR, hkN] at hw
      show wpAny _ _ (do holding _ (assign _ cx.env _); assignInOrder _ _) Q E s
      refine wpAny_bind (wpAny_holding (h1.2 n cl σ _ _ hw cx ρ s _ _ _ ok hc r vx ?_))
      intro σ1 ρ1 s1 p1 r1 hw st1
      refine ih n cl σ1 _ K hw (by simpa using hl) cx ρ1 s1 Q E _ ok (hc.mono p1) r1 (VRs.mono p1 vr) ?_
      intro σ2 ρ2 s2 p2 r2 k2 st2
      exact hQ σ2 ρ2 s2 (p1.trans p2) r2 k2 (st1.trans st2)
theorem DG_tup {ts : List Expr} {k : Nat} {pos : Pos} {its : List Tg} (h : All2 (fun t it => DG G names t it) ts its) : DG G names (.Tuple ts k pos) (.tup its) := by
  refine ⟨(fun _ _ q => by cases q), fun n cl σ v K hw cx ρ s Q E v' ok hc r vv hQ => ?_⟩
  simp only [gLoc, gCel, gAttr, gSub, gTup, lc0, lcS, vS, vI, vR, qSS, qII, qIS, qSI, iII, iSS, niAdd, adS, bII, bSS, biAdd, nS, inO, ltII, o1, o2, lnS, lnR, suR, suS, esN, esC, hkI, hkS, hkR, hkN] at hw
  obtain ⟨j, e0, hw'⟩ := isR_sp hw
  clear hw
  subst e0
  have fin : ∀ (vs : List V) (ws : List Value) (h' : Heap), Heap.ExtBut s.heap.objs.size s.heap h' → ts.length = vs.length → VRs ρ vs ws → wpTgs G n cl its vs σ K → wpAny (model G.prog G.w) cx.A (assignInOrder ((assignEach ts cx.env).map (·.2)) ws) Q E { s with heap := h' } := by
    intro vs ws h' hs hl hv hw
    rw [assign_each h, List.map_map]
    refine assign_list h n cl σ vs K hw hl cx ρ { s with heap := h' } Q E _ ok hc (r.extNew hs) hv ?_
    intro σ' ρ' s' p' r' k' st'
    exact hQ σ' ρ' s' p' r' k' ((Stp.of (s := s) (h := h') (t := s.toks)).trans st')
  have star : (assignEach ts cx.env).findIdx? (·.1) = none := by
    rw [assign_each h, List.findIdx?_eq_none_iff]
    intro x hx
    obtain ⟨t, _, rfl⟩ := List.mem_map.mp hx
    rfl
  have e1 := h.length
  obtain ⟨vs, ⟨e, hlen, hw⟩ | ⟨e, hlen, hw⟩⟩ := onT_sp hw'
  · obtain ⟨a, ws, q, ha, hg, hl, hv⟩ := r.list e
    have e2 := hv.length
    rw [vv.same ha, assign_Tuple]
    refine wpAny_bind (wpAny_standAt ?_)
    unfold unpack
    rw [star, show (assignEach ts cx.env).length = ws.toArray.size by rw [assign_each h]; simp; omega]
    exact wpAny_bind (wpAny_holding (kun_itemsOf ok.hd hl fun h' hs => fin vs _ h' hs (by omega) hv hw))
  · obtain ⟨a, ws, q, ha, hg, hv⟩ := r.tup e
    rw [vv.same ha]
    have e2 := hv.length
    refine wpAny_assign_Tuple ok.hd (items := ws.toArray) ⟨_, hg, rfl, q, rfl⟩ ?_ star fun h' hs => fin vs _ h' hs (by omega) (by simpa using hv) hw
    rw [assign_each h]; simp; omega
theorem cGN_ok (hnd : (names.map (·.1)).Nodup) {x : Str} {p : Pos} {it : Tg} (h : cGN names x = some it) : DG G names (.Name x p) it := by
  obtain ⟨i, hi, h⟩ := bind_sp h
  obtain ⟨⟨y, k⟩, hy, h⟩ := bind_sp h
  cases k with
  | «local» => cases h; exact DG_loc hnd hi ⟨_, hy⟩
  | cell => cases h; exact DG_cel hi ⟨_, hy⟩
  | _ => exact nos h
theorem DG_of {ext : Expr → Option IE} (gc : G.Cls) (hgl : GlOk G gl) (hext : ∀ e ie, ext e = some ie → DE G names e ie) (hnd : (names.map (·.1)).Nodup) : ∀ (f : Nat) (t : Expr) (it : Tg), cG names gl G.C ext f t = some it → DG G names t it := by
  intro f
  induction f with
  | zero => intro t it h; exact nos h
  | succ f ih =>
    intro t it h
    have ihE := (comp_ok (names := names) gc hgl hext f).1
    cases t with
    | Name x p => exact cGN_ok hnd h
    | Attribute o a p =>
      obtain ⟨io, e1, h⟩ := bind_sp (a := cE names gl G.C ext f o) h
      obtain ⟨ia, e2, h⟩ := bind_sp h
      cases h
      exact DG_attr gc (At.of_spec e2) (ihE _ _ e1)
    | Subscript o i p =>
      obtain ⟨hs, h⟩ := when_sp (b := !isSli i) h
      obtain ⟨io, e1, h⟩ := bind_sp h
      obtain ⟨ii, e2, h⟩ := bind_sp h
      cases h
      exact DG_sub (by simpa using hs) (ihE _ _ e1) (ihE _ _ e2)
    | Tuple ts k p =>
      obtain ⟨its, e1, h⟩ := bind_sp (a := mapO (cG names gl G.C ext f) ts) h
      cases h
      exact DG_tup (all2_of ih e1)
    | _ => exact nos h
end
end Mine
namespace Mine
open PySem PySem.W PySem.Calls PyProof.Rows
theorem slot_citer_next : Slot "callable_iterator" "__next__" "callable_iterator.__next__" :=
  .of (owner := "callable_iterator") (n := "__next__") (by rw [typeLookup_type, builtinLookup_eq_fast]; kernel_rfl) (by decide +kernel) (by decide +kernel) (by decide +kernel)
    (by first | exact .inl (by decide +kernel) | exact .inr (by decide +kernel)) (by rw [isSubtype_type]; kernel_rfl)
theorem slot_citer_iter : Slot "callable_iterator" "__iter__" "callable_iterator.__iter__" :=
  .of (owner := "callable_iterator") (n := "__iter__") (by rw [typeLookup_type, builtinLookup_eq_fast]; kernel_rfl) (by decide +kernel) (by decide +kernel) (by decide +kernel)
    (by first | exact .inl (by decide +kernel) | exact .inr (by decide +kernel)) (by rw [isSubtype_type]; kernel_rfl)
theorem entry_citer_next : entryFor table "callable_iterator.__next__" = some Builtin.«callable_iterator.__next__» := entryFor_of_fast (by kernel_rfl)
theorem entry_citer_iter : entryFor table "callable_iterator.__iter__" = some Builtin.«dict_keyiterator.__iter__» :=
  entryFor_alias (id' := "dict_keyiterator.__iter__") (by kernel_rfl) rfl (by decide +kernel) (by kernel_rfl)
theorem args_citer_next (a : Value) : argsOk "callable_iterator.__next__" ⟨[a], []⟩ := by unfold argsOk; kernel_rfl
theorem args_citer_iter (a : Value) : argsOk "callable_iterator.__iter__" ⟨[a], []⟩ := by unfold argsOk; kernel_rfl
section
variable {prog : Program} {w : World} {A : Around} {E : Value → Shared → Prop} {s : Shared}
theorem wpAny_callBorrowed {M : Model} {f : Value} {pos : List Value} {Q : Value → Shared → Prop}
    (hc : codeAny M A (.call f ⟨pos, []⟩) (fun r s' => match r with | .ok (.ret v) => Q v s' | .ok _ => False | .error e => E e s') s) : wpAny M A (callBorrowed f pos) Q E s := fun Γ p hΓ => by
  unfold callBorrowed
  rw [Sem.wp_call]
  refine wpCode_mono (fun r s' h => ?_) (hc _ p rfl (hΓ.enter _ none p (by intro x; cases x)))
  cases r with
  | error e => exact h
  | ok f => cases f <;> exact h
noncomputable abbrev citerObj (f x : Value) (d : Bool) : Obj := { cls := .type "callable_iterator", data := .fields #[f, x, .bool d] }
theorem citer_iter {it : Addr} {f x : Value} {d : Bool} {Q : Value → Shared → Prop} (ho : s.heap.get? it = some (citerObj f x d)) (h : Q (.ref it) s) : wpAny (model prog w) A (pyIter (.ref it)) Q E s := by
  have hT : s.TypeIs (.ref it) "callable_iterator" := ⟨_, ho, rfl⟩
  refine wpAny_pyIter_slot hT slot_citer_iter (wpAny_call_entry slot_citer_iter hT entry_citer_iter ?_ (args_citer_iter _))
  show wpAny _ _ (ret (.ref it)) _ _ s
  exact wpAny_pure ⟨_, rfl, "callable_iterator", _, hT, slot_citer_next.lookup, h⟩
theorem stop_ok {α : Type} {A : Around} (hh : A.handled = none) {R' : Value → Shared → Prop}
    (hQ : ∀ h' e, (∀ b o, s.heap.get? b = some o → h'.get? b = some o) → ({ s with heap := h' } : Shared).TypeIs e "StopIteration" → R' e { s with heap := h' }) {P : α → Shared → Prop} :
    wpAny (model prog w) A (Builtin.SmallTypes.stopIteration : Sem α) P R' s := by
  show wpAny _ _ (newExc (.type "StopIteration") [] >>= _) _ _ _
  refine wpAny_bind ?_
  simp only [newExc, newTuple]
  refine wpAny_bind (wpAny_newObj_type ?_ (by size_fits))
  refine wpAny_bind (m := firstArgMember _ _) (wpAny_of_eq (a := Value.none) (by first | rfl | (simp only [firstArgMember]; rfl)) ?_)
  refine wpAny_newObj_type ?_ (by size_fits)
  simp only [raiseNew]
  refine wpAny_bind (wpAny_handled ?_)
  rw [hh]
  refine wpAny_bind (wpAny_pure (wpAny_throw ?_))
  exact hQ _ _ (fun b o e => Heap.get?_push_of_some _ (Heap.get?_push_of_some _ e)) ⟨_, Heap.get?_push_size _ rfl, rfl⟩
theorem citer_done {it : Addr} {f x : Value} {Q : Option Value → Shared → Prop} (hh : A.handled = none) (ho : s.heap.get? it = some (citerObj f x true))
    (hQ : ∀ h', (∀ b o, s.heap.get? b = some o → h'.get? b = some o) → Q none { s with heap := h' }) : wpAny (model prog w) A (pyNext (.ref it)) Q E s := by
  have hT : s.TypeIs (.ref it) "callable_iterator" := ⟨_, ho, rfl⟩
  unfold pyNext
  refine wpAny_bind (wpAny_attempt (wpAny_callSpecial?_slot (name := Str.ofString "__next__") hT slot_citer_next
    (wpAny_call_entry slot_citer_next hT entry_citer_next ?_ (args_citer_next _))))
  unfold Builtin.«callable_iterator.__next__»
  refine wpAny_bind (wpAny_of_eq (a := (Value.ref it, ([] : List Value))) (by first | rfl | kernel_rfl) ?_)
  dsimp only
  refine wpAny_bind (wpAny_field ho rfl (x := .bool true) rfl ?_)
  rw [if_pos (by rfl)]
  refine wpAny_bind (wpAny_rule (wpAny_bind (stop_ok (A := A.in1) hh fun h' e hk hte => ?_)))
  refine wpAny_bind (wpAny_isInstance (T := "StopIteration") (b := true) hte isSubtype_stop ?_)
  exact wpAny_pure (hQ h' hk)
theorem citer_live {it q fa : Addr} {self : Value} {y : Str} {t : Tok} {fo : Obj} {fd : FuncData} {Q : Option Value → Shared → Prop} (hh : A.handled = none)
    (ho : s.heap.get? it = some (citerObj (.ref q) (.str y t) false)) (hq : s.heap.get? q = some (methodObj (.ref fa) self)) (hf : s.heap.get? fa = some fo) (hfd : fo.data = .func fd)
    (h : codeAny (model prog w) A.in1 (.call (.ref q) ⟨[], []⟩) (fun r s' => match r with
      | .ok (.ret v) => ∃ z u t' self', v = .str z u ∧ s'.heap.get? it = some (citerObj (.ref q) (.str y t') false) ∧ s'.heap.get? q = some (methodObj (.ref fa) self') ∧ (∃ fo fd, s'.heap.get? fa = some fo ∧ fo.data = .func fd) ∧
          (if y = z then ∀ h', Heap.ExtBut it s'.heap h' → h'.get? it = some (citerObj .none .none true) → Q none { s' with heap := h' } else Q (some v) s')
      | _ => False) s) : wpAny (model prog w) A (pyNext (.ref it)) Q E s := by
  have hT : s.TypeIs (.ref it) "callable_iterator" := ⟨_, ho, rfl⟩
  unfold pyNext
  refine wpAny_bind (wpAny_attempt (wpAny_callSpecial?_slot (name := Str.ofString "__next__") hT slot_citer_next
    (wpAny_call_entry slot_citer_next hT entry_citer_next ?_ (args_citer_next _))))
  unfold Builtin.«callable_iterator.__next__»
  refine wpAny_bind (wpAny_of_eq (a := (Value.ref it, ([] : List Value))) (by first | rfl | kernel_rfl) ?_)
  dsimp only
  refine wpAny_bind (wpAny_field ho rfl (x := .bool false) rfl ?_)
  rw [if_neg (by decide)]
  refine wpAny_bind (wpAny_field ho rfl (x := .ref q) rfl ?_)
  have bor : ∀ {s : Shared} {A : Around} {self : Value} {P : Bool → Shared → Prop} {E : Value → Shared → Prop}, s.heap.get? q = some (methodObj (.ref fa) self) → (∃ fo fd, s.heap.get? fa = some fo ∧ fo.data = .func fd) → P true s →
      wpAny (model prog w) A (borrowsExactly (.ref q)) P E s := by
    intro s A self P E h1 ⟨fo, fd, h2, h3⟩ hp
    unfold borrowsExactly
    refine wpAny_bind (wpAny_load h1 ?_)
    dsimp only
    rw [if_pos (by rfl)]
    refine wpAny_bind (wpAny_load h2 ?_)
    rw [h3]
    exact wpAny_pure hp
  refine wpAny_bind (wpAny_attempt ?_)
  unfold callOutOfASlot
  refine wpAny_bind (bor hq ⟨fo, fd, hf, hfd⟩ ?_)
  rw [if_pos rfl]
  refine wpAny_callBorrowed (codeAny_mono h fun r s' hr => ?_)
  cases r with
  | error e => exact hr.elim
  | ok fl =>
    cases fl with
    | next => exact hr.elim
    | brk => exact hr.elim
    | cont => exact hr.elim
    | ret v =>
      obtain ⟨z, u, t', self', rfl, h1, h2, h3, h4⟩ := hr
      dsimp only
      refine wpAny_bind (wpAny_field h1 rfl (x := .bool false) rfl ?_)
      rw [if_neg (by decide)]
      refine wpAny_bind (wpAny_field h1 rfl (x := .str y t') rfl ?_)
      refine wpAny_bind (wpAny_holding (wpAny_eqBool_str ?_))
      by_cases hyz : y = z
      · rw [if_pos hyz] at h4
        rw [decide_eq_true hyz]
        simp only [Bool.not_true, Bool.false_eq_true, if_false, lc0, lcS, vS, vI, vR, qSS, qII, qIS, qSI, iII, iSS, niAdd, adS, bII, bSS, biAdd, nS, inO, ltII, o1, o2, lnS, lnR, suR, suS, esN, esC, hkI, hkS, hkR, hkN]
        refine wpAny_bind (wpAny_rule (wpAny_bind ?_))
        refine wpAny_bind (wpAny_field h1 rfl (x := .ref q) rfl ?_)
        refine wpAny_bind ?_
        refine wpAny_bind (bor h2 h3 ?_)
        rw [if_pos rfl]
        refine wpAny_pure ?_
        refine wpAny_bind (wpAny_setField h1 rfl (by simp) ?_)
        have g1 := Heap.get?_update_self (Obj.mapFields (·.setIfInBounds 0 Value.none)) h1 rfl
        refine wpAny_bind (wpAny_setField g1 rfl (by simp) ?_)
        have g2 := Heap.get?_update_self (Obj.mapFields (·.setIfInBounds 1 Value.none)) g1 rfl
        refine wpAny_setField g2 rfl (by simp) ?_
        have g3 := Heap.get?_update_self (Obj.mapFields (·.setIfInBounds 2 (Value.bool true))) g2 rfl
        refine stop_ok (A := A.in1) hh fun h' e hk hte => ?_
        refine wpAny_bind (wpAny_isInstance (T := "StopIteration") (b := true) hte isSubtype_stop ?_)
        refine wpAny_pure (h4 h' ?_ (hk _ _ g3))
        exact fun b o hb e => hk b o (((Heap.SameBut.update ..).extBut b o hb (((Heap.SameBut.update ..).extBut b o hb ((Heap.SameBut.update ..).extBut b o hb e)))))
      · rw [if_neg hyz] at h4
        rw [decide_eq_false hyz]
        simp only [Bool.not_false, if_true, lc0, lcS, vS, vI, vR, qSS, qII, qIS, qSI, iII, iSS, niAdd, adS, bII, bSS, biAdd, nS, inO, ltII, o1, o2, lnS, lnR, suR, suS, esN, esC, hkI, hkS, hkR, hkN]
        exact wpAny_pure ⟨_, rfl, wpAny_pure h4⟩
end
end Mine
namespace Mine
open PySem PySem.W PySem.Calls PyProof.Rows
section
variable {G : Stat} {names : List (Str × NameKind)} {gl : List (Str × Value)}
theorem swaps_none {v : Expr} (h : noComp v = true) (t : Option Expr) (l : Nat) (env : Env) : swapsWith v t l env = pure false := by
  cases v <;> first | rfl | cases h
theorem stores_none {t v : Expr} (h : isTupE v = false ∨ isTupE t = false) (env : Env) : swappedStores [t] v env = pure none := by
  cases t with
  | Tuple ts k p =>
    rcases h with h | h
    · cases v with
      | Tuple vs k p => cases h
      | _ => rfl
    · cases h
  | List ts p =>
    rcases h with h | h
    · cases v with
      | Tuple vs k p => cases h
      | _ => rfl
    · cases h
  | _ => rfl
theorem DS_assign {t v : Expr} {pos : Pos} {it : Tg} {iv : IE} (hn : noComp v = true) (ht : isTupE v = false ∨ isTupE t = false) (h1 : DG G names t it) (h2 : DE G names v iv) : DS G names (.Assign [t] v pos) (.assign it iv) := by
  intro n cl k σ K hw cx ρ s Q E ok hc hlt hk r hQ
  simp only [sAssign, sAugL, sAugA, sAugS, sExpr, sIte, sWhl, sFor, sRet, sBrk, sCont, sDefn, lc0, lcS, vS, vI, vR, qSS, qII, qIS, qSI, iII, iSS, niAdd, adS, bII, bSS, biAdd, nS, inO, ltII, o1, o2, lnS, lnR, suR, suS, esN, esC, hkI, hkS, hkR, hkN] at hw
  refine wpAny_Assign_stores (h2 n cl σ _ hw cx ρ s _ _ ok hc r ?_) (swaps_none hn _ _ _) (stores_none ht _)
  intro x x' σ1 ρ1 s1 p1 r1 vx hw st1
  have he : assignEach [t] cx.env = [(false, assign t cx.env)] := assign_each (.cons h1 .nil) cx.env
  rw [he]
  show wpAny _ _ (assign t cx.env x') _ _ _
  refine h1.2 n cl σ1 _ _ hw cx ρ1 s1 _ _ _ ok (hc.mono p1) r1 vx ?_
  intro σ2 ρ2 s2 p2 r2 k2 st2
  exact hQ _ _ _ _ _ (Pk.of_pre (p1.trans p2) hk) r2 .next k2 (st1.trans st2)
theorem DS_augLoc (hnd : (names.map (·.1)).Nodup) {x : Str} {p pos : Pos} {op : Operator} {v : Expr} {i : Nat} {iv : IE} (hi : ix names x = some i) (hk' : ∃ y, names[i]? = some (y, .local)) (h2 : DE G names v iv) :
    DS G names (.AugAssign (.Name x p) op v pos) (.aug (.loc i) op iv) := by
  intro n cl k σ K hw cx ρ s Q E ok hc hlt hk r hQ
  simp only [sAssign, sAugL, sAugA, sAugS, sExpr, sIte, sWhl, sFor, sRet, sBrk, sCont, sDefn, eK, eLoc, eCel, eStat, eBin, eCmp, eIfe, eList, eTup, eAttr, eMattr, eCall, eNew, eBf, eBm, eUm, eAm, eSub, eSli, eComp, lc0, lcS, vS, vI, vR, qSS, qII, qIS, qSI, iII, iSS, niAdd, adS, bII, bSS, biAdd, nS, inO, ltII, o1, o2, lnS, lnR, suR, suS, esN, esC, hkI, hkS, hkR, hkN] at hw
  obtain ⟨kk, g1, g2⟩ := ix_spec hi
  obtain ⟨y, hy⟩ := hk'
  rw [g1] at hy; cases hy
  obtain ⟨u, e, hw⟩ := onLoc_sp hw
  refine wpAny_AugAssign_Name (load_loc ok r g1 g2 e fun u' vu => ?_)
  refine h2 n cl σ _ hw cx ρ s _ _ ok hc r ?_
  intro z z' σ1 ρ1 s1 p1 r1 vz hw st1
  refine inp_ok r1 (vu.mono p1) vz hw ?_
  intro w w' σ2 ρ2 s2 p2 r2 vw hw st2
  simp only [gLoc, gCel, gAttr, gSub, gTup, lc0, lcS, vS, vI, vR, qSS, qII, qIS, qSI, iII, iSS, niAdd, adS, bII, bSS, biAdd, nS, inO, ltII, o1, o2, lnS, lnR, suR, suS, esN, esC, hkI, hkS, hkR, hkN] at hw
  obtain ⟨m, F, hl⟩ := r2.fr
  refine wpAny_storeName_local (kindOf_of ok g2) F.ns (fun h' hn hs => ?_) (by rw [ok.kind]; rfl)
  exact hQ _ _ _ ρ2 { s2 with heap := h', toks := s2.toks + 1 } (Pk.of_pre (p1.trans p2) hk) (r2.loc hn hs (by rw [ok.names] at hl ⊢; exact loc_set hnd hl g1 vw)) .next hw.2 (st1.trans (st2.trans .of))
theorem DS_augAttr (gc : G.Cls) {o v : Expr} {a : Str} {tp pos : Pos} {op : Operator} {io iv : IE} {ia : At} (ha : ia.name = a) (h1 : DE G names o io) (h2 : DE G names v iv) :
    DS G names (.AugAssign (.Attribute o a tp) op v pos) (.aug (.attr io ia) op iv) := by
  intro n cl k σ K hw cx ρ s Q E ok hc hlt hk r hQ
  simp only [sAssign, sAugL, sAugA, sAugS, sExpr, sIte, sWhl, sFor, sRet, sBrk, sCont, sDefn, lc0, lcS, vS, vI, vR, qSS, qII, qIS, qSI, iII, iSS, niAdd, adS, bII, bSS, biAdd, nS, inO, ltII, o1, o2, lnS, lnR, suR, suS, esN, esC, hkI, hkS, hkR, hkN] at hw
  subst ha
  refine wpAny_AugAssign_AttributeAny (h1 n cl σ _ hw cx ρ s _ _ ok hc r ?_)
  intro x x' σ1 ρ1 s1 p1 r1 vx hw st1
  refine getA_ok gc ok r1 vx hw ?_
  intro y y' σ2 ρ2 s2 p2 r2 vy hw st2
  refine h2 n cl σ2 _ hw cx ρ2 s2 _ _ ok (hc.mono (p1.trans p2)) r2 ?_
  intro z z' σ3 ρ3 s3 p3 r3 vz hw st3
  refine inp_ok r3 (vy.mono p3) vz hw ?_
  intro w w' σ4 ρ4 s4 p4 r4 vw hw st4
  refine setA_ok gc ok r4 (((vx.mono p2).mono p3).mono p4) vw hw ?_
  intro σ5 s5 r5 k5 st5
  exact hQ _ _ _ _ _ (Pk.of_pre (p1.trans (p2.trans (p3.trans p4))) hk) r5 .next k5 (st1.trans (st2.trans (st3.trans (st4.trans st5))))
theorem DS_augSub {o i v : Expr} {tp pos : Pos} {op : Operator} {io ii iv : IE} (hs : isSli i = false) (h1 : DE G names o io) (h2 : DE G names i ii) (h3 : DE G names v iv) :
    DS G names (.AugAssign (.Subscript o i tp) op v pos) (.aug (.sub io ii) op iv) := by
  intro n cl k σ K hw cx ρ s Q E ok hc hlt hk r hQ
  simp only [sAssign, sAugL, sAugA, sAugS, sExpr, sIte, sWhl, sFor, sRet, sBrk, sCont, sDefn, lc0, lcS, vS, vI, vR, qSS, qII, qIS, qSI, iII, iSS, niAdd, adS, bII, bSS, biAdd, nS, inO, ltII, o1, o2, lnS, lnR, suR, suS, esN, esC, hkI, hkS, hkR, hkN] at hw
  refine wpAny_AugAssign_SubscriptAny (h1 n cl σ _ hw cx ρ s _ _ ok hc r ?_) (by intro ov iv new; cases i <;> first | rfl | cases hs)
  intro x x' σ1 ρ1 s1 p1 r1 vx hw st1
  refine h2 n cl σ1 _ hw cx ρ1 s1 _ _ ok (hc.mono p1) r1 ?_
  intro y y' σ2 ρ2 s2 p2 r2 vy hw st2
  refine sub_ok r2 (vx.mono p2) vy hw ?_
  intro z z' σ3 ρ3 s3 p3 r3 vz hw st3
  refine h3 n cl σ3 _ hw cx ρ3 s3 _ _ ok (hc.mono (p1.trans (p2.trans p3))) r3 ?_
  intro w w' σ4 ρ4 s4 p4 r4 vw hw st4
  refine inp_ok r4 (vz.mono p4) vw hw ?_
  intro u u' σ5 ρ5 s5 p5 r5 vu hw st5
  refine setI_ok r5 ((((vx.mono p2).mono p3).mono p4).mono p5) (((vy.mono p3).mono p4).mono p5) vu hw ?_
  intro σ6 s6 r6 k6 st6
  exact hQ _ _ _ _ _ (Pk.of_pre (p1.trans (p2.trans (p3.trans (p4.trans p5)))) hk) r6 .next k6 (st1.trans (st2.trans (st3.trans (st4.trans (st5.trans st6)))))
theorem DS_expr {e : Expr} {pos : Pos} {ie : IE} (hn : noComp e = true) (h : DE G names e ie) : DS G names (.Expr e pos) (.expr ie) := by
  intro n cl k σ K hw cx ρ s Q E ok hc hlt hk r hQ
  simp only [sAssign, sAugL, sAugA, sAugS, sExpr, sIte, sWhl, sFor, sRet, sBrk, sCont, sDefn, lc0, lcS, vS, vI, vR, qSS, qII, qIS, qSI, iII, iSS, niAdd, adS, bII, bSS, biAdd, nS, inO, ltII, o1, o2, lnS, lnR, suR, suS, esN, esC, hkI, hkS, hkR, hkN] at hw
  refine wpAny_Expr_any (h n cl σ _ hw cx ρ s _ _ ok hc r ?_) (by unfold interactive; rw [ok.kind]; rfl) (swaps_none hn _ _ _)
  intro x x' σ1 ρ1 s1 p1 r1 vx hw st1
  exact hQ _ _ _ _ _ (Pk.of_pre p1 hk) r1 .next hw st1
theorem DS_ret {e : Expr} {pos : Pos} {ie : IE} (h : DE G names e ie) : DS G names (.Return (some e) pos) (.ret ie) := by
  intro n cl k σ K hw cx ρ s Q E ok hc hlt hk r hQ
  simp only [sAssign, sAugL, sAugA, sAugS, sExpr, sIte, sWhl, sFor, sRet, sBrk, sCont, sDefn, lc0, lcS, vS, vI, vR, qSS, qII, qIS, qSI, iII, iSS, niAdd, adS, bII, bSS, biAdd, nS, inO, ltII, o1, o2, lnS, lnR, suR, suS, esN, esC, hkI, hkS, hkR, hkN] at hw
  refine wpAny_Return_some (h n cl σ _ hw cx ρ s _ _ ok hc r ?_)
  intro x x' σ1 ρ1 s1 p1 r1 vx hw st1
  exact hQ _ _ _ _ _ (Pk.of_pre p1 hk) r1 (.ret vx) hw st1
theorem DS_brk {pos : Pos} : DS G names (.Break pos) .brk := by
  intro n cl k σ K hw cx ρ s Q E ok hc hlt hk r hQ
  simp only [sAssign, sAugL, sAugA, sAugS, sExpr, sIte, sWhl, sFor, sRet, sBrk, sCont, sDefn, lc0, lcS, vS, vI, vR, qSS, qII, qIS, qSI, iII, iSS, niAdd, adS, bII, bSS, biAdd, nS, inO, ltII, o1, o2, lnS, lnR, suR, suS, esN, esC, hkI, hkS, hkR, hkN] at hw
  exact wpAny_Break (hQ _ _ _ _ _ (.refl hk) r .brk hw (.refl s))
theorem DS_cont {pos : Pos} : DS G names (.Continue pos) .cont := by
  intro n cl k σ K hw cx ρ s Q E ok hc hlt hk r hQ
  simp only [sAssign, sAugL, sAugA, sAugS, sExpr, sIte, sWhl, sFor, sRet, sBrk, sCont, sDefn, lc0, lcS, vS, vI, vR, qSS, qII, qIS, qSI, iII, iSS, niAdd, adS, bII, bSS, biAdd, nS, inO, ltII, o1, o2, lnS, lnR, suR, suS, esN, esC, hkI, hkS, hkR, hkN] at hw
  exact wpAny_Continue (hQ _ _ _ _ _ (.refl hk) r .cont hw (.refl s))
theorem DSs_nil : DSs G names [] [] := by
  intro n cl k σ K hw cx ρ s Q E ok hc hlt hk r hQ
  simp only [ssN, ssC, lc0, lcS, vS, vI, vR, qSS, qII, qIS, qSI, iII, iSS, niAdd, adS, bII, bSS, biAdd, nS, inO, ltII, o1, o2, lnS, lnR, suR, suS, esN, esC, hkI, hkS, hkR, hkN] at hw
  exact wpAny_execs_nil (hQ _ _ _ _ _ (.refl hk) r .next hw (.refl s))
theorem RetS.tail {cx : Cx} {k : Nat} {ρ ρ1 : List Addr} {s s1 : Shared} {K : Fl → St → Prop} {Q : Flow → Shared → Prop} (h : RetS G cx k ρ s K Q) (p : Pk k ρ ρ1) (st : Stp s s1) : RetS G cx k ρ1 s1 K Q :=
  fun fl fl' σ' ρ' s' p' r' f' k' st' => h fl fl' σ' ρ' s' (p.trans p') r' f' k' (st.trans st')
theorem DSs_cons {st : Stmt} {sts : List Stmt} {is : IS} {iss : List IS} (h1 : DS G names st is) (h2 : DSs G names sts iss) : DSs G names (st :: sts) (is :: iss) := by
  intro n cl k σ K hw cx ρ s Q E ok hc hlt hk r hQ
  simp only [ssN, ssC, lc0, lcS, vS, vI, vR, qSS, qII, qIS, qSI, iII, iSS, niAdd, adS, bII, bSS, biAdd, nS, inO, ltII, o1, o2, lnS, lnR, suR, suS, esN, esC, hkI, hkS, hkR, hkN] at hw
  refine wpAny_execs_cons (h1 n cl k σ _ hw cx ρ s _ _ ok hc hlt hk r ?_)
  intro fl fl' σ1 ρ1 s1 p1 r1 f1 hw st1
  cases f1 with
  | next => exact h2 n cl k σ1 K hw cx ρ1 s1 Q _ ok (hc.pk hlt p1) hlt p1.2 r1 (hQ.tail p1 st1)
  | brk => exact hQ _ _ _ _ _ p1 r1 .brk hw st1
  | cont => exact hQ _ _ _ _ _ p1 r1 .cont hw st1
  | ret v => exact hQ _ _ _ _ _ p1 r1 (.ret v) hw st1
theorem DSs_of {c : Stmt → Option IS} (hc : ∀ e ie, c e = some ie → DS G names e ie) : ∀ {es : List Stmt} {ies : List IS}, mapO c es = some ies → DSs G names es ies := by
  intro es
  induction es with
  | nil => intro ies h; cases h; exact DSs_nil
  | cons e r ih =>
    intro ies h
    obtain ⟨a, b, e1, e2, rfl⟩ := mapO_cons h
    exact DSs_cons (hc _ _ e1) (ih e2)
theorem DS_ite {t : Expr} {a b : List Stmt} {pos : Pos} {it : IE} {ia ib : List IS} (h0 : DT G names t it) (h1 : DSs G names a ia) (h2 : DSs G names b ib) : DS G names (.If t a b pos) (.ite it ia ib) := by
  intro n cl k σ K hw cx ρ s Q E ok hc hlt hk r hQ
  simp only [sAssign, sAugL, sAugA, sAugS, sExpr, sIte, sWhl, sFor, sRet, sBrk, sCont, sDefn, lc0, lcS, vS, vI, vR, qSS, qII, qIS, qSI, iII, iSS, niAdd, adS, bII, bSS, biAdd, nS, inO, ltII, o1, o2, lnS, lnR, suR, suS, esN, esC, hkI, hkS, hkR, hkN] at hw
  refine wpAny_If (h0 n cl σ _ hw cx ρ s _ _ ok hc r ?_)
  intro x x' σ1 ρ1 s1 p1 r1 vx hw st1
  cases vx
  have pk := Pk.of_pre p1 hk
  cases x with
  | true => exact h1 n cl k σ1 K hw cx ρ1 s1 Q _ ok (hc.mono p1) hlt pk.2 r1 (hQ.tail pk st1)
  | false => exact h2 n cl k σ1 K hw cx ρ1 s1 Q _ ok (hc.mono p1) hlt pk.2 r1 (hQ.tail pk st1)
theorem tupGo {prog : Program} {w : World} {A : Around} {s : Shared} {b₀ : Addr} {o : Obj} {ty : String} {v : Value} {es : List Expr} {k : Nat} {pos : Pos} {Q : Unit → Shared → Prop} {E : Value → Shared → Prop} (ho : s.heap.get? b₀ = some o) (hc : o.cls = .type ty)
    (hn : (["enumerate", "zip", "dict_itemiterator", "dict_reverseitemiterator", "odict_iterator", "itertools.zip_longest", "itertools.pairwise"].contains ty) = false) (hQ : Q () s) : wpAny (model prog w) A (letOwnedTupleGo (.Tuple es k pos) (.ref b₀) v) Q E s := by
  cases v with
  | ref a =>
    unfold letOwnedTupleGo
    refine wpAny_bind (wpAny_load ho ?_)
    rw [hc]
    cases o.data with
    | fields vs =>
      show wpAny _ A (if (["enumerate", "zip", "dict_itemiterator", "dict_reverseitemiterator", "odict_iterator", "itertools.zip_longest", "itertools.pairwise"].contains ty && vs[0]? == some (rawInt a)) = true then _ else _) Q E s
      rw [if_neg (by rw [hn, Bool.false_and]; decide)]
      exact wpAny_pure hQ
    | _ => exact wpAny_pure hQ
  | _ => exact wpAny_pure hQ
noncomputable def Yld (G : Stat) (A : Around) (b₀ : Addr) (ob : Obj → Prop) (ρ : List Addr) (xv : V) (s : Shared) : Prop :=
  ∀ (Q : Option Value → Shared → Prop) (E : Value → Shared → Prop), (∀ v' h' tk, VR ρ xv v' → (∃ o, h'.get? b₀ = some o ∧ ob o) → Heap.ExtBut b₀ s.heap h' → Q (some v') { s with heap := h', toks := tk }) → wpAny (model G.prog G.w) A (pyNext (.ref b₀)) Q E s
noncomputable def EndI (G : Stat) (A : Around) (b₀ : Addr) (s : Shared) : Prop :=
  ∀ (Q : Option Value → Shared → Prop) (E : Value → Shared → Prop), (∀ h', Heap.ExtBut b₀ s.heap h' → Q none { s with heap := h' }) → wpAny (model G.prog G.w) A (pyNext (.ref b₀)) Q E s
noncomputable def At0 (h : Heap) (b₀ : Addr) (ob : Obj → Prop) : Prop := ∃ o, h.get? b₀ = some o ∧ ob o
structure Src (G : Stat) (b₀ : Addr) (Nd : List Addr → List O → Prop) (ob : Nat → Obj → Prop) (xs : List V) : Prop where
  step : ∀ (cx : Cx) (j : Nat) (σ : St) (ρ : List Addr) (s : Shared) (x : V), G.Ok cx.h₀ → R G cx ρ σ s.heap → Nd ρ σ.hp → At0 s.heap b₀ (ob j) → xs[j]? = some x → Yld G cx.A b₀ (ob (j + 1)) ρ x s
  stop : ∀ (cx : Cx) (σ : St) (ρ : List Addr) (s : Shared), G.Ok cx.h₀ → cx.A.handled = none → R G cx ρ σ s.heap → Nd ρ σ.hp → At0 s.heap b₀ (ob xs.length) → EndI G cx.A b₀ s
  self : ∀ (A : Around) (s : Shared) (Q : Value → Shared → Prop) (E : Value → Shared → Prop), At0 s.heap b₀ (ob 0) → Q (.ref b₀) s → wpAny (model G.prog G.w) A (pyIter (.ref b₀)) Q E s
  go : ∀ (A : Around) (j : Nat) (s : Shared) (t : Expr) (v : Value) (Q : Unit → Shared → Prop) (E : Value → Shared → Prop), nameTup t = true → At0 s.heap b₀ (ob j) → Q () s → wpAny (model G.prog G.w) A (letOwnedTupleGo t (.ref b₀) v) Q E s
theorem go_of {prog : Program} {w : World} {b₀ : Addr} {ty : String} {ob : Nat → Obj → Prop} (hob : ∀ j o, ob j o → o.cls = .type ty) (hn : (["enumerate", "zip", "dict_itemiterator", "dict_reverseitemiterator", "odict_iterator", "itertools.zip_longest", "itertools.pairwise"].contains ty) = false) :
    ∀ (A : Around) (j : Nat) (s : Shared) (t : Expr) (v : Value) (Q : Unit → Shared → Prop) (E : Value → Shared → Prop), nameTup t = true → At0 s.heap b₀ (ob j) → Q () s → wpAny (model prog w) A (letOwnedTupleGo t (.ref b₀) v) Q E s := by
  intro A j s t v Q E ht ⟨o, ho, hj⟩ hQ
  cases t with
  | Name x p => exact wpAny_pure hQ
  | Tuple es k p => exact tupGo ho (hob j o hj) hn hQ
  | _ => cases ht
noncomputable def rngL (lo hi : Int) : List V := (List.range (hi - lo).toNat).map fun j => V.int (lo + (j : Nat))
theorem rngL_len (lo hi : Int) : (rngL lo hi).length = (hi - lo).toNat := by unfold rngL; rw [List.length_map, List.length_range]
theorem rngL_at {lo hi : Int} {j : Nat} {x : V} (h : (rngL lo hi)[j]? = some x) : lo + j < hi ∧ x = .int (lo + j) := by
  unfold rngL at h
  rw [List.getElem?_map] at h
  obtain ⟨i, hi', rfl⟩ := Option.map_eq_some_iff.mp h
  obtain ⟨h1, h2⟩ := List.getElem?_eq_some_iff.mp hi'
  rw [List.getElem_range] at h2
  rw [List.length_range] at h1
  subst h2
  exact ⟨by omega, rfl⟩
theorem long_of {i : Int} (h1 : -2 ^ 62 ≤ i) (h2 : i ≤ 2 ^ 62) : Builtin.Range.rangeFitsLong i = true := by
  unfold Builtin.Range.rangeFitsLong
  rw [decide_eq_true (Int.le_trans (by decide) h1), decide_eq_true (Int.lt_of_le_of_lt h2 (by decide))]; rfl
theorem small_any {a b : Int} (h1 : fits a) (h2 : fits b) : Builtin.Range.small a b 1 = true := by
  have ha := long_of (Int.le_trans (by decide) h1.1) (Int.le_trans h1.2 (by decide))
  have hb := long_of (Int.le_trans (by decide) h2.1) (Int.le_trans h2.2 (by decide))
  have hs : Builtin.Range.rangeFitsLong (Builtin.Range.rangeSize a b 1) = true := by
    rw [rangeSize_one]; split
    · exact long_of (Int.le_trans (by decide) (Int.sub_le_sub h2.1 h1.2)) (Int.le_trans (Int.sub_le_sub h2.2 h1.1) (by decide))
    · exact long_of (by decide) (by decide)
  unfold Builtin.Range.small
  rw [ha, hb, hs, if_pos (by decide), Int.sub_self, Int.add_zero, hb, Bool.or_true]; rfl
noncomputable abbrev rngO (lo hi : Int) (j : Nat) (o : Obj) : Prop := o = ({ cls := .type "range_iterator", data := .fields #[rawInt (lo + (j : Int)), rawInt (((hi - lo).toNat : Int) - j), rawInt 1] } : Obj)
theorem rng_src (b₀ : Addr) (lo hi : Int) : Src G b₀ (fun _ _ => True) (rngO lo hi) (rngL lo hi) where
  step := by
    rintro cx j σ ρ s x _ _ _ ⟨o, ho, rfl⟩ hx Q E hq
    obtain ⟨hlt, rfl⟩ := rngL_at hx
    refine wpAny_pyNext_range_item ho (by omega) fun h' hit' hs => hq _ h' (s.toks + 1) .i ⟨_, hit', ?_⟩ hs.extBut
    have e1 : lo + ((j + 1 : Nat) : Int) = lo + j + 1 := by omega
    have e2 : ((hi - lo).toNat : Int) - ((j + 1 : Nat) : Int) = (hi - lo).toNat - j - 1 := by omega
    unfold rngO
    rw [e1, e2]
  stop := by
    rintro cx σ ρ s _ hh _ _ ⟨o, ho, rfl⟩ Q E hq
    exact wpAny_pyNext_range_end hh ho (by rw [rngL_len]; omega) hq
  self := by
    rintro A s Q E ⟨o, ho, rfl⟩ hq
    exact wpAny_pyIter_rangeiter ho hq
  go := go_of (ty := "range_iterator") (fun j o h => by rw [h]) (by decide)
noncomputable abbrev lstO (a : Addr) (j : Nat) (o : Obj) : Prop := o.cls = .type "list_iterator" ∧ o.data = .fields #[.ref a, .int j 0]
theorem lst_src (b₀ a : Addr) (xs : List V) (Nd : List Addr → List O → Prop) (hN : ∀ (cx : Cx) σ ρ (h : Heap), G.Ok cx.h₀ → R G cx ρ σ h → Nd ρ σ.hp → ∃ vs, h.IsList a (List.toArray vs) ∧ VRs ρ xs vs) : Src G b₀ Nd (lstO a) xs where
  step := by
    rintro cx j σ ρ s x ok r hn hit hx Q E hq
    obtain ⟨vs, hl, hv⟩ := hN cx σ ρ _ ok r hn
    obtain ⟨xv', hx', vx⟩ := hv.get hx
    exact wpAny_pyNext_list_item hit hl (by simpa using hx') fun h' hit' hs => hq _ h' s.toks vx hit' hs.extBut
  stop := by
    rintro cx σ ρ s ok hh r hn hit Q E hq
    obtain ⟨vs, hl, hv⟩ := hN cx σ ρ _ ok r hn
    exact wpAny_pyNext_list_end hh hit hl (by rw [hv.length]; simp) hq
  self := by
    rintro A s Q E hit hq
    exact wpAny_pyIter_listiter (l := a) (i := 0) hit hq
  go := go_of (ty := "list_iterator") (fun j o h => h.1) (by decide)
noncomputable abbrev strO (ty : String) (cs : List Nat) (t : Tok) (j : Nat) (o : Obj) : Prop := o.cls = .type ty ∧ o.data = .fields #[.str ⟨cs.toArray⟩ t, .int j 0]
theorem str_src {ty : String} {cs : List Nat} {t : Tok} (b₀ : Addr) 
    (it : ∀ (A : Around) (i : Nat) (s : Shared) (Q : Option Value → Shared → Prop) (E : Value → Shared → Prop) (c : Nat), s.heap.IsStrIter b₀ ty ⟨cs.toArray⟩ t i → cs[i]? = some c → (∀ h' u tk, h'.IsStrIter b₀ ty ⟨cs.toArray⟩ t (i + 1) → Heap.ExtBut b₀ s.heap h' → Q (some (.str ⟨[c].toArray⟩ u)) { s with heap := h', toks := tk }) → wpAny (model G.prog G.w) A (pyNext (.ref b₀)) Q E s)
    (en : ∀ (A : Around) (s : Shared) (Q : Option Value → Shared → Prop) (E : Value → Shared → Prop), A.handled = none → s.heap.IsStrIter b₀ ty ⟨cs.toArray⟩ t cs.length → (∀ h', Heap.ExtBut b₀ s.heap h' → Q none { s with heap := h' }) → wpAny (model G.prog G.w) A (pyNext (.ref b₀)) Q E s)
    (hn : (["enumerate", "zip", "dict_itemiterator", "dict_reverseitemiterator", "odict_iterator", "itertools.zip_longest", "itertools.pairwise"].contains ty) = false) (self : ∀ (A : Around) (s : Shared) (Q : Value → Shared → Prop) (E : Value → Shared → Prop), s.heap.IsStrIter b₀ ty ⟨cs.toArray⟩ t 0 → Q (.ref b₀) s → wpAny (model G.prog G.w) A (pyIter (.ref b₀)) Q E s) :
    Src G b₀ (fun _ _ => True) (strO ty cs t) (cs.map fun c => .str [c]) where
  step := by
    rintro cx j σ ρ s x _ _ _ hit hx Q E hq
    rw [List.getElem?_map] at hx
    obtain ⟨c, hc, rfl⟩ := Option.map_eq_some_iff.mp hx
    exact it _ j s Q E c hit hc fun h' u tk h1 h2 => hq _ h' tk .s h1 h2
  stop := by
    rintro cx σ ρ s _ hh _ _ hit Q E hq
    rw [List.length_map] at hit
    exact en _ s Q E hh hit hq
  self := self
  go := go_of (ty := ty) (fun j o h => h.1) hn
noncomputable def srcOf (G : Stat) (hp : List O) (v : V) (xs : List V) : Prop := match v with
  | .stat v => v = .ref G.scr ∧ xs = G.ns.map .int
  | .str cs => xs = cs.map fun c => .str [c]
  | .ref i => (match hp[i]? with
      | some (.rng lo hi) => fits lo ∧ fits hi ∧ xs = rngL lo hi
      | some (.list ys) => xs = ys
      | _ => False)
  | _ => False
theorem ints_vr {ρ : List Addr} {vs : List Value} {ns : List Int} (h : IntsAre vs ns) : VRs ρ (ns.map V.int) vs := by
  induction h with
  | nil => exact .nil
  | cons n t _ ih => exact .cons .i ih
structure SrcAt (G : Stat) (b₀ : Addr) (Nd : List Addr → List O → Prop) (xs : List V) (o : Obj) : Prop where
  ex : ∃ ob, Src G b₀ Nd ob xs ∧ ob 0 o ∧ o.isFreed = false
theorem iter_src {v : V} {v' : Value} {xs : List V} {cx : Cx} {ρ : List Addr} {σ : St} {s : Shared} {Q : Value → Shared → Prop} {E : Value → Shared → Prop} (ok : G.Ok cx.h₀) (r : R G cx ρ σ s.heap) (vv : VR ρ v v') (hs : srcOf G σ.hp v xs) (Nd : List Addr → List O → Prop)
    (hNd : ∀ i a, v = .ref i → σ.hp[i]? = some (.list xs) → ρ[i]? = some a → ∀ ρ' hp', Nd ρ' hp' → ρ'[i]? = some a ∧ hp'[i]? = some (.list xs))
    (h : ∀ o, SrcAt G s.heap.objs.size Nd xs o → Q (.ref s.heap.objs.size) { s with heap := s.heap.push o }) : wpAny (model G.prog G.w) cx.A (pyIter v') Q E s := by
  have weak : ∀ {ob xs o}, Src G s.heap.objs.size (fun _ _ => True) ob xs → ob 0 o → o.isFreed = false → SrcAt G s.heap.objs.size Nd xs o := fun S h0 hf =>
    ⟨_, ⟨fun cx j σ ρ s x a b _ c d => S.step cx j σ ρ s x a b trivial c d, fun cx σ ρ s a b c _ d => S.stop cx σ ρ s a b c trivial d, S.self, S.go⟩, h0, hf⟩
  cases v with
  | stat w =>
    obtain ⟨e1, e2⟩ := hs
    subst e1; subst e2
    cases vv
    obtain ⟨vs, hl, hi⟩ := ok.S
    refine wpAny_pyIter_list (hl.at fun o e => r.keep _ o e) (h _ ⟨_, lst_src _ G.scr _ _ ?_, ⟨rfl, rfl⟩, rfl⟩)
    intro cx' σ' ρ' h' ok' r' _
    obtain ⟨vs, hl, hi⟩ := ok'.S
    exact ⟨vs, hl.at fun o e => r'.keep _ o e, ints_vr hi⟩
  | str cs =>
    have e2 : xs = cs.map fun c => .str [c] := hs
    subst e2
    obtain ⟨t, rfl⟩ := vv
    cases ha : (⟨cs.toArray⟩ : Str).cps.all (· < 128) with
    | false =>
      exact wpAny_pyIter_wide ha (h _ (weak (str_src (ty := "str_iterator") (cs := cs) (t := t) _ (fun A i s Q E c hit hc hq => wpAny_pyNext_wide_item hit (by simpa using hc) fun h' h1 h2 => hq h' _ _ h1 h2.extBut) (fun A s Q E hh hit hq => wpAny_pyNext_wide_end hh hit (by simp) hq) (by decide) (fun A s Q E hit hq => wpAny_pyIter_striter_wide hit hq)) ⟨rfl, rfl⟩ rfl))
    | true =>
      exact wpAny_pyIter_ascii ha (h _ (weak (str_src (ty := "str_ascii_iterator") (cs := cs) (t := t) _ (fun A i s Q E c hit hc hq => wpAny_pyNext_ascii_item hit (by simpa using hc) fun h' h1 h2 => hq h' _ _ h1 h2.extBut) (fun A s Q E hh hit hq => wpAny_pyNext_ascii_end hh hit (by simp) hq) (by decide) (fun A s Q E hit hq => wpAny_pyIter_striter_ascii hit hq)) ⟨rfl, rfl⟩ rfl))
  | ref i =>
    have hs : (match σ.hp[i]? with
      | some (.rng lo hi) => fits lo ∧ fits hi ∧ xs = rngL lo hi
      | some (.list ys) => xs = ys
      | _ => False) := hs
    revert hs
    cases e : σ.hp[i]? with
    | none => exact False.elim
    | some o => cases o with
      | rng lo hi =>
        rintro ⟨hlo, hhi, e2⟩
        subst e2
        obtain ⟨a', o, g1, g2, ⟨t, u, w, rfl⟩, _⟩ := r.at e
        rw [vv.same g1]
        refine wpAny_pyIter_range (r := a') (a := lo) (b := hi) (c := 1) g2 (small_any hlo hhi) ?_
        rw [rangeSize_one]
        have hN : (if lo < hi then hi - lo else 0) = ((hi - lo).toNat : Int) := by split <;> omega
        rw [hN]
        exact h _ (weak (rng_src _ lo hi) (by simp) rfl)
      | list ys =>
        intro e2
        have e2 : xs = ys := e2
        subst e2
        obtain ⟨a', vs, m, g1, g2, g3, g4⟩ := r.list e
        rw [vv.same g1]
        refine wpAny_pyIter_list g3 (h _ ⟨_, lst_src _ a' _ _ ?_, ⟨rfl, rfl⟩, rfl⟩)
        intro cx' σ' ρ' h' _ r' hn
        obtain ⟨q1, q2⟩ := hNd i a' rfl e g1 _ _ hn
        obtain ⟨a2, vs2, m2, q3, q4, q5, q6⟩ := r'.list q2
        rw [q1] at q3; cases q3
        exact ⟨vs2, q5, q6⟩
      | _ => exact False.elim
  | _ => exact False.elim hs
noncomputable def forQ (G : Stat) (cx : Cx) (t : Expr) (b : List Stmt) (Q : Flow → Shared → Prop) (E : Value → Shared → Prop) (it : Value) (s₂ : Shared) : Prop :=
  codeAny (model G.prog G.w) cx.A (.forLoop t it b [] cx.env) (fun r s' => match r with | .ok f => Q f s' | .error e => cameBackBy (model G.prog G.w) cx.A cx.env E e s') s₂
theorem aft_ok {cx : Cx} {k : Nat} {ρ : List Addr} {s : Shared} {K : Fl → St → Prop} {J : St → Prop} {Q : Flow → Shared → Prop} {m : Nat} {Inv : Nat → Shared → Prop} (hQ : RetS G cx k ρ s K Q)
    (hn : ∀ σ' ρ' s', Pk k ρ ρ' → R G cx ρ' σ' s'.heap → J σ' → Stp s s' → ∃ m', m' < m ∧ Inv m' s') : RetS G cx k ρ s (aft K J) (fun f s' => match f with
      | .next | .cont => ∃ m', m' < m ∧ Inv m' s'
      | .brk => Q .next s'
      | .ret v => Q (.ret v) s') := by
  intro fl fl' σ' ρ' s' p r f h st
  cases f with
  | next => exact hn _ _ _ p r h st
  | cont => exact hn _ _ _ p r h st
  | brk => exact hQ _ _ _ _ _ p r .next h st
  | ret v => exact hQ _ _ _ _ _ p r (.ret v) h st
noncomputable def WInv (G : Stat) (cx : Cx) (k : Nat) (ρ : List Addr) (s : Shared) (I : Nat → St → Prop) (m : Nat) (s' : Shared) : Prop := ∃ σ' ρ', I m σ' ∧ R G cx ρ' σ' s'.heap ∧ Pk k ρ ρ' ∧ Stp s s'
theorem DS_whl {t : Expr} {b : List Stmt} {pos : Pos} {it : IE} {ib : List IS} (h0 : DT G names t it) (h1 : DSs G names b ib) : DS G names (.While t b [] pos) (.whl it ib) := by
  intro n cl k σ K hw cx ρ s Q E ok hc hlt hk r hQ
  simp only [sAssign, sAugL, sAugA, sAugS, sExpr, sIte, sWhl, sFor, sRet, sBrk, sCont, sDefn, lc0, lcS, vS, vI, vR, qSS, qII, qIS, qSI, iII, iSS, niAdd, adS, bII, bSS, biAdd, nS, inO, ltII, o1, o2, lnS, lnR, suR, suS, esN, esC, hkI, hkS, hkR, hkN] at hw
  obtain ⟨I, ⟨m, hI⟩, hw⟩ := hw
  refine wpAny_While (codeAny_whileLoop (WInv G cx k ρ s I) ?_ m ⟨σ, ρ, hI, r, .refl hk, .refl s⟩)
  rintro m s1 ⟨σ1, ρ1, hI1, r1, pk1, st1⟩
  refine h0 n cl σ1 _ (hw m σ1 hI1) cx ρ1 s1 _ _ ok (hc.pk hlt pk1) r1 ?_
  intro x x' σ2 ρ2 s2 p2 r2 vx hw2 st2
  cases vx
  have pk2 := pk1.trans (Pk.of_pre p2 pk1.2)
  have hQ2 := hQ.tail pk2 (st1.trans st2)
  cases x with
  | true =>
    refine h1 n cl k σ2 _ hw2 cx ρ2 s2 _ _ ok (hc.pk hlt pk2) hlt pk2.2 r2 (aft_ok hQ2 ?_)
    rintro σ' ρ' s' p' r' ⟨m', hm', hI'⟩ st'
    exact ⟨m', hm', σ', ρ', hI', r', pk2.trans p', (st1.trans st2).trans st'⟩
  | false => exact wpAny_execs_nil (hQ2 _ _ _ _ _ (.refl pk2.2) r2 .next hw2 (.refl _))
theorem folded_ok {it : Expr} (h : isSetE it = false) (env : Env) : ∀ x, foldedSetIterable it env x = pure x := by
  intro x; cases it <;> first | rfl | cases h
noncomputable def LInv (G : Stat) (cx : Cx) (k : Nat) (ρ : List Addr) (s : Shared) (I : Nat → St → Prop) (len : Nat) (b₀ : Addr) (ob : Nat → Obj → Prop) (m : Nat) (s' : Shared) : Prop :=
  ∃ j σ' ρ', m + j = len + 1 ∧ j ≤ len ∧ I j σ' ∧ R G cx ρ' σ' s'.heap ∧ Pk k ρ ρ' ∧ Stp s s' ∧ At0 s'.heap b₀ (ob j) ∧ b₀ ∉ ρ'
theorem CxOk.pin {cx : Cx} {n : Nat} (ok : CxOk G cx n names) (p : List (Addr × Obj)) : CxOk G { cx with pin := p } n names := ⟨ok.ok, ok.names, ok.kind, ok.glob, ok.bi, ok.cq, ok.hd, ok.dep, ok.uni⟩
theorem ClOk.pin {cx : Cx} {cl : List (Option Nat)} {ρ : List Addr} (h : ClOk cx cl ρ) (p : List (Addr × Obj)) : ClOk { cx with pin := p } cl ρ := ⟨h.at_⟩
theorem RetS.pin {cx : Cx} {k : Nat} {ρ : List Addr} {s : Shared} {K : Fl → St → Prop} {Q : Flow → Shared → Prop} (h : RetS G cx k ρ s K Q) (p : Addr × Obj) : RetS G { cx with pin := p :: cx.pin } k ρ s K Q :=
  fun fl fl' σ' ρ' s' a r b c d => h fl fl' σ' ρ' s' a r.dropPin.1 b c d
theorem turn_ok {t : Expr} {b : List Stmt} {ib : List IS} {it : Tg} (h0 : DG G names t it) (h1 : DSs G names b ib) {n : Nat} {cl : List (Option Nat)} {k : Nat} {σ : St} {x : V} {x' : Value} {K : Fl → St → Prop} {cx : Cx} {ρ : List Addr} {s : Shared} {P : Flow → Shared → Prop} {E : Value → Shared → Prop}
    (hw : wpTg G n cl it x σ fun σ => wpSs G n cl k ib σ K) (ok : CxOk G cx (n + 1) names) (hc : ClOk cx cl ρ) (hlt : ClLt cl k) (hk : k ≤ ρ.length) (r : R G cx ρ σ s.heap) (vx : VR ρ x x') (hP : RetS G cx k ρ s K P) :
    wpAny (model G.prog G.w) cx.A (assign t cx.env x') (fun _ s₂ => wpAny (model G.prog G.w) cx.A (execs b cx.env) P E s₂) E s := by
  refine h0.2 n cl σ _ _ hw cx ρ s _ _ _ ok hc r vx ?_
  intro σ2 ρ2 s2 p2 r3 hw st2
  have pk2 := Pk.of_pre p2 hk
  exact h1 n cl k σ2 _ hw cx ρ2 s2 _ _ ok (hc.mono p2) hlt pk2.2 r3 (hP.tail pk2 st2)
theorem dec1 {m j n : Nat} (h : m + j = n + 1) (hj : j < n) : m - 1 < m ∧ (m - 1) + (j + 1) = n + 1 := by
  cases m with
  | zero => exact absurd (show j = n + 1 from (Nat.zero_add j).symm.trans h) (Nat.ne_of_lt (Nat.lt_succ_of_lt hj))
  | succ m => exact ⟨Nat.lt_succ_self m, by rw [← h, Nat.succ_add]; rfl⟩
theorem for_src {t : Expr} {b : List Stmt} {ib : List IS} {it : Tg} (hnt : nameTup t = true) (h0 : DG G names t it) (h1 : DSs G names b ib)
    {n : Nat} {cl : List (Option Nat)} {k : Nat} {σ : St} {K : Fl → St → Prop} {cx : Cx} {ρ : List Addr} {s : Shared} {Q : Flow → Shared → Prop} {E : Value → Shared → Prop}
    (ok : CxOk G cx (n + 1) names) (hc : ClOk cx cl ρ) (hlt : ClLt cl k) (hk : k ≤ ρ.length) (r : R G cx ρ σ s.heap) (hQ : RetS G cx k ρ s K Q)
    {b₀ : Addr} {Nd : List Addr → List O → Prop} {ob : Nat → Obj → Prop} {xs : List V} (S : Src G b₀ Nd ob xs) (hb1 : b₀ ≠ cx.env.locals) (hb2 : cx.h₀.get? b₀ = none) (hb3 : b₀ ∉ ρ) (hb4 : ∀ q ∈ cx.pin, q.1 ≠ b₀) (ho : At0 s.heap b₀ (ob 0))
    (I : Nat → St → Prop) (hI : I 0 σ) (need : ∀ j σ' ρ', I j σ' → Pk k ρ ρ' → Nd ρ' σ'.hp)
    (turn : ∀ j σ', I j σ' → (∀ x, xs[j]? = some x → wpTg G n cl it x σ' fun σ => wpSs G n cl k ib σ (aft K (I (j + 1)))) ∧ (j = xs.length → K .next σ')) : forQ G cx t b Q E (.ref b₀) s := by
  refine codeAny_forLoop_any (LInv G cx k ρ s I xs.length b₀ ob) ?_ (xs.length + 1) ⟨0, σ, ρ, rfl, Nat.zero_le _, hI, r, .refl hk, .refl s, ho, hb3⟩
  rintro m s1 ⟨j, σ1, ρ1, hm, hj, hI1, r1, pk1, st1, hit, hni⟩
  obtain ⟨t1, t2⟩ := turn j σ1 hI1
  have hnd := need j σ1 ρ1 hI1 pk1
  cases hx : xs[j]? with
  | none =>
    have hjl : j = xs.length := Nat.le_antisymm hj (List.getElem?_eq_none_iff.mp hx)
    subst hjl
    refine S.stop cx σ1 ρ1 s1 ok.ok ok.hd r1 hnd hit _ _ fun h' hs => ?_
    exact wpAny_execs_nil (hQ _ _ _ _ { s1 with heap := h' } pk1 (r1.ext hb1 hb2 hni hb4 hs) .next (t2 rfl) (st1.trans .of))
  | some xv =>
    refine S.step cx j σ1 ρ1 s1 xv ok.ok r1 hnd hit hx _ _ fun v' h' tk vv hit' hs => ?_
    refine S.go _ _ _ _ _ _ _ hnt hit' ?_
    obtain ⟨oi, hoi, hob⟩ := hit'
    have r2 := (r1.ext (h' := h') hb1 hb2 hni hb4 hs).addPin hoi hni hb1 hb2
    have st2 : Stp s { s1 with heap := h', toks := tk } := st1.trans .of
    refine turn_ok (cx := { cx with pin := (b₀, oi) :: cx.pin }) h0 h1 (t1 xv hx) (ok.pin _) ((hc.pk hlt pk1).pin _) hlt pk1.2 r2 vv (aft_ok ((hQ.tail pk1 st2).pin _) ?_)
    intro σ' ρ' s' p' r' hI' st'
    obtain ⟨r5, hget, hni'⟩ := r'.dropPin
    have hjx : j < xs.length := (List.getElem?_eq_some_iff.mp hx).1
    exact ⟨m - 1, (dec1 hm hjx).1, j + 1, σ', ρ', (dec1 hm hjx).2, hjx, hI', r5, pk1.trans p', st2.trans st', ⟨oi, hget, hob⟩, hni'⟩
theorem for_of {t : Expr} {b : List Stmt} {ib : List IS} {it : Tg} (hnt : nameTup t = true) (h0 : DG G names t it) (h1 : DSs G names b ib)
    {n : Nat} {cl : List (Option Nat)} {k k' : Nat} {σ : St} {K : Fl → St → Prop} {cx : Cx} {ρ : List Addr} {s : Shared} {Q : Flow → Shared → Prop} {E : Value → Shared → Prop}
    (ok : CxOk G cx (n + 1) names) (hc : ClOk cx cl ρ) (hlt : ClLt cl k) (r : R G cx ρ σ s.heap) (hQ : RetS G cx k ρ s K Q) (hk1 : k ≤ k') (hk2 : k' ≤ σ.hp.length)
    {v : V} {v' : Value} {xs : List V} (vv : VR ρ v v') (hs : srcOf G σ.hp v xs) (hv : ∀ i, v = .ref i → σ.hp[i]? = some (.list xs) → i < k')
    (I : Nat → St → Prop) (hI : I 0 σ) (stay : ∀ i, v = .ref i → σ.hp[i]? = some (.list xs) → ∀ j σ', I j σ' → σ'.hp[i]? = some (.list xs))
    (turn : ∀ j σ', I j σ' → (∀ x, xs[j]? = some x → wpTg G n cl it x σ' fun σ => wpSs G n cl k' ib σ (aft K (I (j + 1)))) ∧ (j = xs.length → K .next σ')) :
    wpAny (model G.prog G.w) cx.A (pyIter v') (forQ G cx t b Q E) E s := by
  have hk3 : k' ≤ ρ.length := by rw [r.len]; exact hk2
  refine iter_src ok.ok r vv hs (fun ρ' hp' => Pk k' ρ ρ' ∧ ∃ j loc, I j ⟨loc, hp'⟩) ?_ ?_
  · rintro i a rfl e ha ρ' hp' ⟨p, j, loc, hj⟩
    exact ⟨(p.get (hv i rfl e)).trans ha, stay i rfl e j _ hj⟩
  · rintro o ⟨ob, S, h0', hf⟩
    have hQ2 : RetS G cx k' ρ { s with heap := s.heap.push o } K Q := fun fl fl' σ' ρ' s' p' r' f' kk st' => hQ fl fl' σ' ρ' s' (p'.mono hk1) r' f' kk ((Stp.of (s := s) (h := s.heap.push o) (t := s.toks)).trans st')
    exact for_src hnt h0 h1 ok hc (hlt.mono hk1) hk3 (r.push o) hQ2 S (Nat.ne_of_gt r.llt) r.base_lt r.notin r.pinlt ⟨o, Heap.get?_push_size _ hf, h0'⟩ I hI (fun j σ' ρ' hj p => ⟨p, j, σ'.loc, hj⟩) turn
theorem R.citer {cx : Cx} {ρ : List Addr} {σ : St} {h : Heap} {i q : Nat} {sn : List Nat} {a : Addr} (r : R G cx ρ σ h) (ha : ρ[i]? = some a) (e : σ.hp[i]? = some (.citer (.ref q) (.str sn) false)) {mt : Mt} {y : V} (hm : σ.hp[q]? = some (.meth (.stat (.ref (G.mf mt))) y)) :
    ∃ aq tk self, ρ[q]? = some aq ∧ h.get? a = some (citerObj (.ref aq) (.str ⟨sn.toArray⟩ tk) false) ∧ h.get? aq = some (methodObj (.ref (G.mf mt)) self) := by
  obtain ⟨a', o, g1, g2, ⟨fv, sv, rfl, ⟨aq, hq, rfl⟩, ⟨tk, rfl⟩⟩, _⟩ := r.at e
  rw [ha] at g1; cases g1
  obtain ⟨aq', oq, g3, g4, ⟨ff, self', rfl, vff, _⟩, _⟩ := r.at hm
  rw [hq] at g3; cases g3
  cases vff
  exact ⟨aq, tk, self', hq, g2, g4⟩
theorem fn_at (gc : G.Cls) (mt : Mt) {h : Heap} (X : G.K.In h) : ∃ fo fd, h.get? (G.mf mt) = some fo ∧ fo.data = .func fd := by
  have q := gc.fnf mt
  unfold fnIn at q
  split at q
  · rename_i e; exact ⟨_, _, X _ _ e, rfl⟩
  · cases q
theorem CxOk.in1 {cx : Cx} {n : Nat} (ok : CxOk G cx (n + 1) names) (hn : 1 ≤ n) : CxOk G { cx with A := cx.A.in1 } ((n - 1) + 1) names :=
  ⟨ok.ok, ok.names, ok.kind, ok.glob, ok.bi, ok.cq, ok.hd, by have := ok.dep; show cx.A.depth + _ ≤ 990; omega, by have := ok.uni; show cx.A.units + 1 + _ ≤ 9000; omega⟩
theorem R.around {cx : Cx} {ρ : List Addr} {σ : St} {h : Heap} {A : Around} (r : R G cx ρ σ h) : R G { cx with A := A } ρ σ h := ⟨r.fr, r.nd, r.len, r.own, r.pin⟩
theorem citer_next (gc : G.Cls) {n : Nat} {cx : Cx} {ρ : List Addr} {σ : St} {s : Shared} {i q : Nat} {sn : List Nat} {a : Addr} {mt : Mt} {y : V} {P : V → List O → Prop} {Q : Option Value → Shared → Prop} {E : Value → Shared → Prop} (ok : CxOk G cx (n + 1) names) (r : R G cx ρ σ s.heap) (ha : ρ[i]? = some a)
    (hm : σ.hp[q]? = some (.meth (.stat (.ref (G.mf mt))) y)) (e : σ.hp[i]? = some (.citer (.ref q) (.str sn) false)) (hn : 1 ≤ n)
    (hcall : CallT G (n - 1) (.ref q) [] σ.hp fun r hp => hp[i]? = some (.citer (.ref q) (.str sn) false) ∧ hp[q]? = some (.meth (.stat (.ref (G.mf mt))) y) ∧ isS r fun _ => P r hp)
    (fin : ∀ hp' ρ' s', ρ <+: ρ' → P (.str sn) hp' → R G cx ρ' ⟨σ.loc, hp'.set i (.citer (.ref q) (.str sn) true)⟩ s'.heap → Stp s s' → Q none s')
    (item : ∀ c v' hp' ρ' s', c ≠ sn → (∃ o, s'.heap.get? a = some o ∧ o.cls = .type "callable_iterator") → ρ <+: ρ' → P (.str c) hp' → R G cx ρ' ⟨σ.loc, hp'⟩ s'.heap → VR ρ' (.str c) v' → Stp s s' → Q (some v') s') : wpAny (model G.prog G.w) cx.A (pyNext (.ref a)) Q E s := by
  obtain ⟨aq, tk, self, hq, g2, g4⟩ := r.citer ha e hm
  obtain ⟨fo, fd, hf1, hf2⟩ := fn_at gc mt (ok.ok.X.keeps r.keep)
  refine citer_live ok.hd g2 g4 hf1 hf2 ?_
  refine hcall { cx with A := cx.A.in1 } names ρ σ.loc s _ (.ref aq) [] (ok.in1 hn) r.around ⟨aq, hq, rfl⟩ .nil ?_
  intro v v' hp' ρ2 s2 p2 r2' vv hpost st2
  have r2 : R G cx ρ2 ⟨σ.loc, hp'⟩ s2.heap := ⟨r2'.fr, r2'.nd, r2'.len, r2'.own, r2'.pin⟩
  obtain ⟨c1, c2, hpost⟩ := hpost
  have ha2 : ρ2[i]? = some a := pre_get p2 ha
  obtain ⟨aq2, tk2, self2, hq2, k2, k4⟩ := r2.citer ha2 c1 c2
  have hqq : aq2 = aq := Option.some.inj (hq2.symm.trans (pre_get p2 hq))
  subst hqq
  obtain ⟨c, e0, hpost'⟩ := isS_sp hpost
  subst e0
  have vv0 := vv
  obtain ⟨tc, rfl⟩ := vv
  refine ⟨_, tc, tk2, self2, rfl, k2, k4, fn_at gc mt (ok.ok.X.keeps r2.keep), ?_⟩
  by_cases hsc : sn = c
  · rw [if_pos (by rw [hsc])]
    intro h' hs hob
    subst hsc
    exact fin hp' ρ2 { s2 with heap := h' } p2 hpost' (r2.upd (ao' := .citer (.ref q) (.str sn) true) ha2 hs hob rfl) (st2.trans .of)
  · rw [if_neg (fun e => hsc (by injection e with e; simpa using e))]
    exact item c _ hp' ρ2 s2 (Ne.symm hsc) ⟨_, k2, rfl⟩ p2 hpost' r2 vv0 st2
theorem for_citer (gc : G.Cls) {t : Expr} {b : List Stmt} {ib : List IS} {it : Tg} (hnm : nameTup t = true) (h0 : DG G names t it) (h1 : DSs G names b ib)
    {n : Nat} {cl : List (Option Nat)} {k : Nat} {σ : St} {K : Fl → St → Prop} {cx : Cx} {ρ : List Addr} {s : Shared} {Q : Flow → Shared → Prop} {E : Value → Shared → Prop}
    (ok : CxOk G cx (n + 1) names) (hc : ClOk cx cl ρ) (hlt : ClLt cl k) (hk : k ≤ ρ.length) (r : R G cx ρ σ s.heap) (hQ : RetS G cx k ρ s K Q)
    {i q : Nat} {sn : List Nat} {d : Bool} (hpi : σ.hp[i]? = some (.citer (.ref q) (.str sn) d)) {a : Addr} (ha : ρ[i]? = some a) (hw : forC (wpTg G n cl it) (fun k σ K => wpSs G n cl k ib σ K) k G n i q sn σ K) :
    wpAny (model G.prog G.w) cx.A (pyIter (.ref a)) (forQ G cx t b Q E) E s := by
  obtain ⟨k', I, mt, y, hk1, hi, _, hk2, ⟨m, hI⟩, turn⟩ := hw
  have hk2' : k' ≤ ρ.length := by rw [r.len]; exact hk2
  have hQ2 : RetS G cx k' ρ s K Q := fun fl fl' σ' ρ' s' p' r' f' kk st' => hQ fl fl' σ' ρ' s' (p'.mono hk1) r' f' kk st'
  have hlt' := hlt.mono hk1
  have hobj : ∃ f' x', s.heap.get? a = some (citerObj f' x' d) := by
    obtain ⟨a', o, h1, h2, hO, _⟩ := r.at hpi
    rw [ha] at h1; cases h1
    cases d with
    | true => exact ⟨_, _, by rw [h2, show o = _ from hO]⟩
    | false => obtain ⟨f', x', rfl, _⟩ := hO; exact ⟨f', x', h2⟩
  obtain ⟨f', x', ho⟩ := hobj
  refine citer_iter ho ?_
  refine codeAny_forLoop_any (WInv G cx k' ρ s I) ?_ m ⟨σ, ρ, hI, r, .refl hk2', .refl s⟩
  rintro m s1 ⟨σ1, ρ1, hI1, r1, pk1, st1⟩
  have ha1 : ρ1[i]? = some a := (pk1.get hi).trans ha
  obtain ⟨hm, hcase⟩ := turn m σ1 hI1
  rcases hcase with ⟨e, kn⟩ | ⟨e, hn1, hcall⟩
  · obtain ⟨a', o, g1, g2, hO, _⟩ := r1.at e
    rw [ha1] at g1; cases g1
    refine citer_done (f := .none) (x := .none) ok.hd (by rw [g2, show o = _ from hO]) fun h' hk' => ?_
    exact wpAny_execs_nil (hQ2 _ _ _ _ { s1 with heap := h' } pk1 (r1.grow hk') .next kn (st1.trans .of))
  · refine citer_next gc (P := fun r hp => isS r fun c => if sn = c then K .next { σ1 with hp := hp.set i (.citer (.ref q) (.str sn) true) } else wpTg G n cl it r { σ1 with hp := hp } fun σ => wpSs G n cl k' ib σ (aft K fun σ => ∃ m', m' < m ∧ I m' σ)) ok r1 ha1 hm e hn1
      (fun cx names ρ loc s Rr f' args' a1 a2 a3 a4 a5 => hcall cx names ρ loc s Rr f' args' a1 a2 a3 a4 fun v v' hp' ρ' s' b1 b2 b3 b4 => a5 v v' hp' ρ' s' b1 b2 b3 ⟨b4.1, b4.2.1, by obtain ⟨c, rfl, hc'⟩ := isS_sp b4.2.2; exact hc'⟩) ?_ ?_
    · intro hp' ρ2 s2 p2 hp2 r2 st2
      have hp2 : (if sn = sn then K .next { σ1 with hp := hp'.set i (.citer (.ref q) (.str sn) true) } else _) := hp2
      rw [if_pos rfl] at hp2
      exact wpAny_execs_nil (hQ2 _ _ _ ρ2 s2 (pk1.trans (Pk.of_pre p2 pk1.2)) r2 .next hp2 (st1.trans st2))
    · rintro c v' hp' ρ2 s2 hne ⟨oc, hoc1, hoc2⟩ p2 hp2 r2 vv st2
      have hp2 : (if sn = c then K .next { σ1 with hp := hp'.set i (.citer (.ref q) (.str sn) true) } else wpTg G n cl it (.str c) { σ1 with hp := hp' } fun σ => wpSs G n cl k' ib σ (aft K fun σ => ∃ m', m' < m ∧ I m' σ)) := hp2
      rw [if_neg (Ne.symm hne)] at hp2
      have pk2 := pk1.trans (Pk.of_pre p2 pk1.2)
      show wpAny _ _ (letOwnedTupleGo t (.ref a) v') _ _ _
      have hgo : ∀ {Q' : Unit → Shared → Prop} {E' : Value → Shared → Prop}, Q' () s2 → wpAny (model G.prog G.w) cx.A (letOwnedTupleGo t (.ref a) v') Q' E' s2 := fun {Q' E'} h => by
        cases t with
        | Name x p => exact wpAny_pure h
        | Tuple es k p => exact tupGo hoc1 hoc2 (by decide) h
        | _ => cases hnm
      refine hgo (turn_ok h0 h1 hp2 ok (hc.pk hlt' pk2) hlt' pk2.2 r2 vv (aft_ok (hQ2.tail pk2 (st1.trans st2)) ?_))
      rintro σ' ρ' s' p' r' ⟨m', hm', hI'⟩ st'
      exact ⟨m', hm', σ', ρ', hI', r', pk2.trans p', (st1.trans st2).trans st'⟩
theorem DS_for (gc : G.Cls) {t : Expr} {pos : Pos} {it : Expr} {b : List Stmt} {tg : Tg} {ii : IE} {ib : List IS} (hnt : nameTup t = true) (hset : isSetE it = false) (h0 : DG G names t tg) (h2 : DE G names it ii) (h1 : DSs G names b ib) :
    DS G names (.For t it b [] pos) (.for tg ii ib) := by
  intro n cl k σ K hw cx ρ s Q E ok hc hlt hk r hQ
  simp only [sAssign, sAugL, sAugA, sAugS, sExpr, sIte, sWhl, sFor, sRet, sBrk, sCont, sDefn, lc0, lcS, vS, vI, vR, qSS, qII, qIS, qSI, iII, iSS, niAdd, adS, bII, bSS, biAdd, nS, inO, ltII, o1, o2, lnS, lnR, suR, suS, esN, esC, hkI, hkS, hkR, hkN] at hw
  refine wpAny_For (h2 n cl σ _ hw cx ρ s _ _ ok hc r ?_) (folded_ok hset _)
  intro v v' σ1 ρ1 s1 p1 r1 vv hw st1
  have pk1 := Pk.of_pre p1 hk
  have hQ1 := hQ.tail pk1 st1
  have hc1 := hc.mono p1
  have hk0 : k ≤ σ1.hp.length := by rw [← r1.len]; exact pk1.2
  show wpAny _ _ (pyIter v') (forQ G cx t b Q E) E s1
  cases v with
  | stat w =>
    obtain ⟨e, I, hI, turn⟩ := hw
    refine for_of hnt h0 h1 ok hc1 hlt r1 hQ1 (Nat.le_refl _) hk0 vv ⟨e, rfl⟩ (fun i q => nomatch q) I hI (fun i q => nomatch q) fun j σ' hI' => ?_
    obtain ⟨t1, t2⟩ := turn j σ' hI'
    refine ⟨fun x hx => ?_, fun hj => t2 (by rw [List.length_map] at hj; exact hj)⟩
    rw [List.getElem?_map] at hx
    obtain ⟨z, hz, rfl⟩ := Option.map_eq_some_iff.mp hx
    exact t1 z hz
  | str cs =>
    obtain ⟨_, I, hI, turn⟩ := hw
    refine for_of hnt h0 h1 ok hc1 hlt r1 hQ1 (Nat.le_refl _) hk0 vv (xs := cs.map fun c => .str [c]) rfl (fun i q => nomatch q) I hI (fun i q => nomatch q) fun j σ' hI' => ?_
    obtain ⟨t1, t2⟩ := turn j σ' hI'
    refine ⟨fun x hx => ?_, fun hj => t2 (by rw [List.length_map] at hj; exact hj)⟩
    rw [List.getElem?_map] at hx
    obtain ⟨z, hz, rfl⟩ := Option.map_eq_some_iff.mp hx
    exact t1 z hz
  | ref i =>
    have hw : (match σ1.hp[i]? with
      | some o => forO (wpTg G n cl tg) (fun k σ K => wpSs G n cl k ib σ K) k G n i o σ1 K
      | none => False) := hw
    revert hw
    cases e : σ1.hp[i]? with
    | none => exact False.elim
    | some o => cases o with
      | rng lo hi =>
        rintro ⟨hlo, hhi, I, hI, turn⟩
        refine for_of hnt h0 h1 ok hc1 hlt r1 hQ1 (Nat.le_refl _) hk0 vv (xs := rngL lo hi) (by unfold srcOf; simp only [e]; exact ⟨hlo, hhi, trivial⟩) (fun i' q e' => by cases q; rw [e] at e'; cases e') I hI (fun i' q e' => by cases q; rw [e] at e'; cases e') fun j σ' hI' => ?_
        obtain ⟨t1, t2⟩ := turn j σ' hI'
        refine ⟨fun x hx => ?_, fun hj => t2 (by rw [rngL_len] at hj; exact hj)⟩
        obtain ⟨h1, rfl⟩ := rngL_at hx
        exact t1 h1
      | list xs =>
        rintro ⟨k', I, hk1, hik, hk2, _, hI, turn⟩
        exact for_of hnt h0 h1 ok hc1 hlt r1 hQ1 hk1 hk2 vv (xs := xs) (by unfold srcOf; simp only [e]) (fun i' q _ => by cases q; exact hik) I hI (fun i' q _ j σ' hI' => by cases q; exact (turn j σ' hI').1) fun j σ' hI' => (turn j σ' hI').2
      | citer f x d =>
        intro hw
        obtain ⟨q, e1, hw1⟩ := isR_sp hw
        obtain ⟨sn, e2, hw2⟩ := isS_sp hw1
        subst e1; subst e2
        obtain ⟨a', _, g1, _⟩ := r1.at e
        rw [vv.same g1]
        exact for_citer gc hnt h0 h1 ok hc1 hlt pk1.2 r1 hQ1 e g1 hw2
      | _ => exact False.elim
  | _ => exact False.elim hw
theorem cS_assign {ext : Expr → Option IE} {extS : Stmt → Option IS} {f : Nat} (ihE : ∀ e ie, cE names gl G.C ext f e = some ie → DE G names e ie) (ihG : ∀ e ie, cG names gl G.C ext f e = some ie → DG G names e ie) (hextS : ∀ e ie, extS e = some ie → DS G names e ie)
    {ts : List Expr} {v : Expr} {p : Pos} {is : IS} (h : cS names gl G.C ext extS (f + 1) (.Assign ts v p) = some is) : DS G names (.Assign ts v p) is := by
  have h : (match noComp v with
        | true => (one ts).bind fun t => when (!isTupE v || !isTupE t) ((cG names gl G.C ext f t).bind fun t => (cE names gl G.C ext f v).bind fun v => some (IS.assign t v))
        | false => extS (.Assign ts v p)) = some is := h
  revert h
  cases hn : noComp v with
  | true =>
    intro h
    obtain ⟨t, e0, h⟩ := bind_sp (a := one ts) h
    obtain ⟨hc, h⟩ := when_sp h
    obtain ⟨it, e1, h⟩ := bind_sp h
    obtain ⟨iv, e2, h⟩ := bind_sp h
    cases h
    rw [one_sp e0]
    refine DS_assign hn ?_ (ihG _ _ e1) (ihE _ _ e2)
    revert hc
    cases isTupE v with
    | false => exact fun _ => .inl rfl
    | true => cases isTupE t with
      | false => exact fun _ => .inr rfl
      | true => exact fun q => nomatch q
  | false => exact fun h => hextS _ _ h
theorem cS_aug {ext : Expr → Option IE} {extS : Stmt → Option IS} (gc : G.Cls) (hnd : (names.map (·.1)).Nodup) {f : Nat} (ihE : ∀ e ie, cE names gl G.C ext f e = some ie → DE G names e ie)
    {t : Expr} {op : Operator} {v : Expr} {p : Pos} {is : IS} (h : cS names gl G.C ext extS (f + 1) (.AugAssign t op v p) = some is) : DS G names (.AugAssign t op v p) is := by
  obtain ⟨iv, e0, h⟩ := bind_sp (a := cE names gl G.C ext f v) h
  cases t with
  | Name x q =>
    obtain ⟨g, e1, h⟩ := bind_sp (a := cGN names x) h
    obtain ⟨i, e2, h⟩ := bind_sp h
    cases h
    obtain ⟨j, hj, e1⟩ := bind_sp e1
    obtain ⟨⟨y, k⟩, hy, e1⟩ := bind_sp e1
    cases k with
    | «local» => cases e1; cases e2; exact DS_augLoc hnd hj ⟨_, hy⟩ (ihE _ _ e0)
    | cell => cases e1; cases e2
    | _ => cases e1
  | Attribute o a q =>
    obtain ⟨io, e1, h⟩ := bind_sp (a := cE names gl G.C ext f o) h
    obtain ⟨ia, e2, h⟩ := bind_sp h
    cases h
    exact DS_augAttr gc (At.of_spec e2) (ihE _ _ e1) (ihE _ _ e0)
  | Subscript o i q =>
    obtain ⟨hs, h⟩ := when_sp (b := !isSli i) h
    obtain ⟨io, e1, h⟩ := bind_sp h
    obtain ⟨ii, e2, h⟩ := bind_sp h
    cases h
    exact DS_augSub (by simpa using hs) (ihE _ _ e1) (ihE _ _ e2) (ihE _ _ e0)
  | _ => exact nos h
theorem cS_ok {ext : Expr → Option IE} {extS : Stmt → Option IS} (gc : G.Cls) (hgl : GlOk G gl) (hext : ∀ e ie, ext e = some ie → DE G names e ie) (hextS : ∀ e ie, extS e = some ie → DS G names e ie) (hnd : (names.map (·.1)).Nodup) : ∀ (f : Nat) (st : Stmt) (is : IS), cS names gl G.C ext extS f st = some is → DS G names st is := by
  intro f
  induction f with
  | zero => intro st is h; exact nos h
  | succ f ih =>
    intro st is h
    obtain ⟨ihE, ihT⟩ := comp_ok (names := names) gc hgl hext f
    have ihG := DG_of (names := names) gc hgl hext hnd f
    have ihSs : ∀ {es : List Stmt} {ies : List IS}, mapO (cS names gl G.C ext extS f) es = some ies → DSs G names es ies := fun h => DSs_of ih h
    cases st with
    | Assign ts v p => exact cS_assign ihE ihG hextS h
    | AugAssign t op v p => exact cS_aug gc hnd ihE h
    | Expr e p =>
      obtain ⟨hn, h⟩ := when_sp (b := noComp e) h
      obtain ⟨ie, e1, h⟩ := bind_sp h
      cases h
      exact DS_expr hn (ihE _ _ e1)
    | If t a b p =>
      obtain ⟨it, e0, h⟩ := bind_sp (a := cT names gl G.C ext f t) h
      obtain ⟨ia, e1, h⟩ := bind_sp h
      obtain ⟨ib, e2, h⟩ := bind_sp h
      cases h
      exact DS_ite (ihT _ _ e0) (ihSs e1) (ihSs e2)
    | While t b els p =>
      obtain ⟨he, h⟩ := when_sp (b := els.isEmpty) h
      obtain ⟨it, e0, h⟩ := bind_sp h
      obtain ⟨ib, e2, h⟩ := bind_sp h
      cases h
      cases els with
      | nil => exact DS_whl (ihT _ _ e0) (ihSs e2)
      | cons _ _ => cases he
    | For t it b els p =>
      obtain ⟨he, h⟩ := when_sp (b := els.isEmpty && !isSetE it && nameTup t) h
      simp only [Bool.and_eq_true, Bool.not_eq_true'] at he
      obtain ⟨g, e0, h⟩ := bind_sp h
      obtain ⟨ii, e1, h⟩ := bind_sp h
      obtain ⟨ib, e2, h⟩ := bind_sp h
      cases h
      cases els with
      | nil => exact DS_for gc he.2 he.1.2 (ihG _ _ e0) (ihE _ _ e1) (ihSs e2)
      | cons _ _ => exact nomatch he.1.1
    | Return e p => cases e with
      | none => exact nos h
      | some e =>
        obtain ⟨ie, e1, h⟩ := bind_sp (a := cE names gl G.C ext f e) h
        cases h
        exact DS_ret (ihE _ _ e1)
    | Break p => cases (h : some _ = some is); exact DS_brk
    | Continue p => cases (h : some _ = some is); exact DS_cont
    | FunctionDef a b c d e g h' i j k => exact hextS _ _ h
    | _ => exact nos h
theorem cSs_ok {ext : Expr → Option IE} {extS : Stmt → Option IS} (gc : G.Cls) (hgl : GlOk G gl) (hext : ∀ e ie, ext e = some ie → DE G names e ie) (hextS : ∀ e ie, extS e = some ie → DS G names e ie) (hnd : (names.map (·.1)).Nodup) {f : Nat} {sts : List Stmt} {iss : List IS} (h : mapO (cS names gl G.C ext extS f) sts = some iss) : DSs G names sts iss :=
  DSs_of (cS_ok gc hgl hext hextS hnd f) h
end
end Mine
namespace Mine
open PySem PySem.W PySem.Calls PyProof.Rows
structure FnOk (G : Stat) (fd : FuncData) (argn : List Str) (bdy : List Stmt) (iss : List IS) : Prop where
  body : fd.body = .stmts bdy
  comp : DSs G fd.scope.names bdy iss
  bind : ∀ vals : List Value, vals.length = argn.length → bindArgs fd ⟨vals, []⟩ = pure (argn.zip vals)
  pre : (fd.scope.names.take argn.length).map (·.1) = argn
  nd : (fd.scope.names.map (·.1)).Nodup
  kind : fd.scope.kind = .function
  co : fd.scope.isCoroutine = false
  gen : fd.scope.isGenerator = false
  glob : fd.globals = mainGlobals
  bi : fd.builtins = builtinsNs
  cq : ∀ t ∈ G.codes, t.1 = fd.scope.names → fd.code = .ref t.2.1 ∧ fd.qualname ++ ".<locals>." = t.2.2
noncomputable def locInit (args : List V) (N : Nat) : List (Option V) := args.map some ++ List.replicate (N - args.length) none
section
variable {G : Stat}
theorem names_lookup {names : List (Str × NameKind)} (hnd : (names.map (·.1)).Nodup) : ∀ {i : Nat} {x : Str} {k : NameKind}, names[i]? = some (x, k) → names.lookup x = some k := by
  induction names with
  | nil => intro i x k h; simp at h
  | cons p r ih =>
    intro i x k h
    obtain ⟨y, kk⟩ := p
    rw [List.map_cons, List.nodup_cons] at hnd
    cases i with
    | zero => simp at h; obtain ⟨rfl, rfl⟩ := h; simp
    | succ i =>
      have h' : r[i]? = some (x, k) := by simpa using h
      have hne : (x == y) = false := beq_false_of_ne fun q => hnd.1 (q ▸ List.mem_map.mpr ⟨_, List.mem_of_getElem? h', rfl⟩)
      rw [List.lookup_cons, hne]
      exact ih hnd.2 h'
theorem zip_rev_lookup {xs : List Str} (hnd : xs.Nodup) : ∀ {vs : List Value} {i : Nat} {x : Str} {v : Value}, xs.length = vs.length → xs[i]? = some x → vs[i]? = some v → (xs.zip vs).reverse.lookup x = some v := by
  induction xs with
  | nil => intro vs i x v _ h; simp at h
  | cons y ys ih =>
    intro vs i x v hl hx hv
    cases vs with
    | nil => simp at hl
    | cons w ws =>
      rw [List.nodup_cons] at hnd
      simp only [List.zip_cons_cons, List.reverse_cons]
      rw [List.lookup_append]
      cases i with
      | zero =>
        simp at hx hv
        subst hx; subst hv
        have : (ys.zip ws).reverse.lookup y = none := by
          rw [List.lookup_eq_none_iff]
          intro p hp
          simp only [List.mem_reverse] at hp
          have h1 := (List.of_mem_zip (a := p.1) (b := p.2) (by exact hp)).1
          have hq : y ≠ p.1 := fun q => hnd.1 (by rw [q]; exact h1)
          simp [hq]
        rw [this]; simp
      | succ i =>
        rw [ih hnd.2 (by simpa using hl) (by simpa using hx) (by simpa using hv)]
        rfl
theorem loc_init {names : List (Str × NameKind)} {argn : List Str} {ρ : List Addr} {args : List V} {args' : List Value} {m : Str → Option Value} (hpre : (names.take argn.length).map (·.1) = argn) (hlen : args.length = argn.length) (hv : VRs ρ args args')
    (hm : ∀ (i : Nat) (x : Str) (v : Value), names[i]? = some (x, .local) → argn[i]? = some x → args'[i]? = some v → m x = some v) : LocR ρ names (locInit args names.length) m := by
  intro i x v e1 e2
  unfold locInit at e2
  by_cases hi : i < args.length
  · rw [List.getElem?_append_left (by simpa using hi)] at e2
    rw [List.getElem?_map] at e2
    obtain ⟨w, hw, q⟩ := Option.map_eq_some_iff.mp e2
    cases q
    obtain ⟨v', hv', vv⟩ := hv.get hw
    refine ⟨v', hm i x v' e1 ?_ hv', vv⟩
    rw [← hpre, List.getElem?_map, List.getElem?_take, if_pos (by omega), e1]
    rfl
  · rw [List.getElem?_append_right (by simpa using hi)] at e2
    rw [List.getElem?_replicate] at e2
    split at e2 <;> cases e2
theorem R.enter {cx : Cx} {ρ : List Addr} {loc loc' : List (Option V)} {hp : List O} {s : Shared} {h₁ : Heap} {env : Env} {A : Around} {m : Str → Option Value} (r : R G cx ρ ⟨loc, hp⟩ s.heap)
    (hL : env.locals = s.heap.objs.size) (hn : h₁.Ns s.heap.objs.size m) (hk : ∀ b o, s.heap.get? b = some o → h₁.get? b = some o) (hl : LocR ρ env.scope.names loc' m) :
    R G ⟨env, A, hideAll s.heap ρ, []⟩ ρ ⟨loc', hp⟩ h₁ := by
  refine ⟨⟨m, ⟨by rw [hL]; exact hn, fun b o e => hk b o (of_hideAll _ e), by rw [hL]; exact Nat.le_of_eq (hideAll_size _ _)⟩, hl⟩, r.nd, r.len, fun i a ao e1 e2 => ?_, fun p hp => by cases hp⟩
  obtain ⟨_, _, o, h3, h4⟩ := r.own i a ao e1 e2
  refine ⟨?_, hideAll_none _ (List.mem_of_getElem? e1), o, hk _ _ h3, h4⟩
  show a ≠ env.locals
  rw [hL]; exact Nat.ne_of_lt (Heap.lt_size h3)
theorem R.leave {cx : Cx} {ρ ρ₂ : List Addr} {loc loc' : List (Option V)} {hp hp₂ : List O} {s : Shared} {h' : Heap} {env : Env} {A : Around} (r : R G cx ρ ⟨loc, hp⟩ s.heap)
    (r' : R G ⟨env, A, hideAll s.heap ρ, []⟩ ρ₂ ⟨loc', hp₂⟩ h') (hp' : ρ <+: ρ₂) : R G cx ρ₂ ⟨loc, hp₂⟩ h' := by
  obtain ⟨m, F, hl⟩ := r.fr
  have keep : ∀ b o, s.heap.get? b = some o → b ∉ ρ → h'.get? b = some o := fun b o e hn => r'.keep b o (hideAll_get _ e hn)
  have nL : cx.env.locals ∉ ρ := fun q => by
    obtain ⟨i, hi⟩ := List.getElem?_of_mem q
    obtain ⟨_, _, _, _, _, h1, _⟩ := r.own' hi
    exact h1 rfl
  have base : ∀ b o, cx.h₀.get? b = some o → s.heap.get? b = some o ∧ b ∉ ρ := fun b o e => ⟨r.keep b o e, fun q => by
    obtain ⟨i, hi⟩ := List.getElem?_of_mem q
    obtain ⟨_, _, _, _, _, _, h2⟩ := r.own' hi
    rw [h2] at e; cases e⟩
  obtain ⟨oL, es, ep, hoL, hdL, hkL, hfL⟩ := F.ns
  refine ⟨⟨m, ⟨⟨oL, es, ep, keep _ _ hoL nL, hdL, hkL, hfL⟩, fun b o e => keep b o (base b o e).1 (base b o e).2, F.above⟩, hl.mono hp'⟩, r'.nd, r'.len, fun i a ao e1 e2 => ?_, fun p hpp => ?_⟩
  · obtain ⟨g1, g2, o, g3, g4⟩ := r'.own i a ao e1 e2
    refine ⟨fun q => ?_, ?_, o, g3, g4⟩
    · have z := hideAll_get ρ hoL nL
      rw [← q] at z
      rw [show (hideAll s.heap ρ).get? a = none from g2] at z; cases z
    · cases hq : cx.h₀.get? a with
      | none => rfl
      | some o' =>
        have z := hideAll_get ρ (base a o' hq).1 (base a o' hq).2
        rw [show (hideAll s.heap ρ).get? a = none from g2] at z; cases z
  · have z := r.pin p hpp
    refine ⟨keep _ _ z.1 z.2.1, fun q => ?_, z.2.2⟩
    obtain ⟨i, hi⟩ := List.getElem?_of_mem q
    obtain ⟨_, _, _, _, _, _, g2⟩ := r'.own' hi
    have y := hideAll_get ρ z.1 z.2.1
    rw [show (hideAll s.heap ρ).get? p.1 = none from g2] at y; cases y
theorem Ok.hide {cx : Cx} {ρ : List Addr} {σ : St} {h : Heap} (r : R G cx ρ σ h) (ok : G.Ok cx.h₀) : G.Ok (hideAll h ρ) := by
  refine ok.keeps fun b o e => hideAll_get _ (r.keep b o e) fun q => ?_
  obtain ⟨i, hi⟩ := List.getElem?_of_mem q
  obtain ⟨_, _, _, _, _, _, h2⟩ := r.own' hi
  rw [h2] at e; cases e
theorem ret_use {cx : Cx} {ρ ρ' : List Addr} {loc : List (Option V)} {hp : List O} {s s' : Shared} {env : Env} {A : Around} {K : V → List O → Prop} {fl : Fl} {fl' : Flow} {σ' : St} {Rr : Result → Shared → Prop}
    (r : R G cx ρ ⟨loc, hp⟩ s.heap) (r' : R G ⟨env, A, hideAll s.heap ρ, []⟩ ρ' σ' s'.heap) (pk : Pk hp.length ρ ρ') (hf : FlR ρ' fl fl') (hret : RetOk hp K fl σ') (st : Stp s s')
    (hQ : ∀ v v' hp' ρ' s', ρ <+: ρ' → R G cx ρ' ⟨loc, hp'⟩ s'.heap → VR ρ' v v' → K v hp' → Stp s s' → Rr (.ok (.ret v')) s') :
    Rr (.ok (.ret (match fl' with | .ret v => v | _ => .none))) s' := by
  have pre : ρ <+: ρ' := by
    have h := pk.1
    rw [List.take_of_length_le (show ρ.length ≤ hp.length from Nat.le_of_eq r.len)] at h
    exact ⟨ρ'.drop hp.length, by rw [← h]; exact List.take_append_drop _ _⟩
  have rl : R G cx ρ' ⟨loc, σ'.hp⟩ s'.heap := r.leave (loc' := σ'.loc) r' pre
  cases hf with
  | ret hv => exact hQ _ _ σ'.hp ρ' s' pre rl hv hret st
  | next => exact hQ .none _ σ'.hp ρ' s' pre rl .n hret st
  | _ => exact False.elim hret
theorem call_core {fd : FuncData} {argn : List Str} {body : List Stmt} {iss : List IS} (fo : FnOk G fd argn body iss) (hcell : ∀ x ∈ fd.scope.names, x.2 ≠ .cell) (hloc : ∀ x ∈ fd.scope.names.take argn.length, x.2 = .local)
    {n : Nat} {cx : Cx} {names : List (Str × NameKind)} {ρ : List Addr} {loc : List (Option V)} {hp : List O} {s : Shared} {f : Addr} {o : Obj} {args : List V} {args' : List Value} {K : V → List O → Prop} {Rr : Result → Shared → Prop} {cl : List (Option Nat)}
    (ok : CxOk G cx (n + 1 + 1) names) (r : R G cx ρ ⟨loc, hp⟩ s.heap) (ho : s.heap.get? f = some o) (hd : o.data = .func fd) (hcd : s.heap.CodeRec fd.code fd.qualname)
    (hcl : ∀ (i : Nat) (x : Str) (k : NameKind) (j : Nat), fd.scope.names[i]? = some (x, k) → cl[i]? = some (some j) → ∃ a, ρ[j]? = some a ∧ fd.closure.lookup x = some a)
    (hv : VRs ρ args args') (hlen : args.length = argn.length)
    (hw : wpSs G n cl hp.length iss ⟨locInit args fd.scope.names.length, hp⟩ (RetOk hp K))
    (hin : ∀ i j, cl[i]? = some (some j) → i < fd.scope.names.length)
    (hQ : ∀ v v' hp' ρ' s', ρ <+: ρ' → R G cx ρ' ⟨loc, hp'⟩ s'.heap → VR ρ' v v' → K v hp' → Stp s s' → Rr (.ok (.ret v')) s') :
    codeAny (model G.prog G.w) cx.A (.call (.ref f) ⟨args', []⟩) Rr s := by
  have hal : args'.length = argn.length := by rw [← hv.length]; exact hlen
  have hnodup : argn.Nodup := by rw [← fo.pre]; exact (List.Sublist.map _ (List.take_sublist _ _)).nodup fo.nd
  have lookup_of : ∀ {x : Str} {i : Nat} {k : NameKind}, fd.scope.names[i]? = some (x, k) → fd.scope.names.lookup x = some k := fun {x i k} e => names_lookup fo.nd e
  refine codeAny_call_def (fd := fd) (body := body) (binds := argn.zip args') (by have := ok.dep; show cx.A.depth < 1000; omega) ho hd ((ok.ok.T.nolimit).keeps r.keep) hcd fo.body (.of_eq (fo.bind _ hal)) hcell ?_ ?_ fo.co fo.gen fo.kind
  · intro y hy
    have h1 := (List.of_mem_zip (a := y.1) (b := y.2) (by exact hy)).1
    obtain ⟨i, hi⟩ := List.getElem?_of_mem h1
    rw [← fo.pre, List.getElem?_map] at hi
    obtain ⟨p, hp1, hp2⟩ := Option.map_eq_some_iff.mp hi
    rw [List.getElem?_take] at hp1
    split at hp1
    · rename_i hlt
      obtain ⟨px, pk⟩ := p
      simp only at hp2; subst hp2
      have hk : pk = .local := hloc (y.1, pk) (List.mem_of_getElem? (i := i) (by rw [List.getElem?_take, if_pos hlt]; exact hp1))
      subst hk
      exact lookup_of hp1
    · cases hp1
  · intro h₁ hns hk₁
    have henv : (callEnv fd s.heap.objs.size f) = { scope := fd.scope, locals := s.heap.objs.size, globals := fd.globals, cells := fd.closure, qual := fd.qualname ++ ".<locals>.", func := some f, code := fd.code, frame := some s.heap.objs.size, builtins := fd.builtins } := rfl
    have r1 : R G ⟨callEnv fd s.heap.objs.size f, cx.A.deeper (callEnv fd s.heap.objs.size f), hideAll s.heap ρ, []⟩ ρ ⟨locInit args fd.scope.names.length, hp⟩ h₁ := by
      refine r.enter rfl hns hk₁ (loc_init fo.pre hlen hv ?_)
      intro i x v e1 e2 e3
      exact zip_rev_lookup hnodup hal.symm e2 e3
    have ok1 : CxOk G ⟨callEnv fd s.heap.objs.size f, cx.A.deeper (callEnv fd s.heap.objs.size f), hideAll s.heap ρ, []⟩ (n + 1) fd.scope.names :=
      ⟨Ok.hide r ok.ok, rfl, fo.kind, fo.glob, fo.bi, fo.cq, ok.hd, by have := ok.dep; show cx.A.depth + 1 + _ ≤ 990; omega, by have := ok.uni; show cx.A.units + 3 + _ ≤ 9000; omega⟩
    have hclo : ClOk ⟨callEnv fd s.heap.objs.size f, cx.A.deeper (callEnv fd s.heap.objs.size f), hideAll s.heap ρ, []⟩ cl ρ := ⟨hcl⟩
    have hlt : ClLt cl hp.length := ⟨fun i j e => by
      have hi := hin i j e
      obtain ⟨a, ha, _⟩ := hcl i _ _ j (List.getElem?_eq_getElem hi) e
      have := (List.getElem?_eq_some_iff.mp ha).1
      rw [← r.len]; exact this⟩
    refine fo.comp n cl hp.length _ _ hw _ ρ { s with heap := h₁, toks := s.toks + (argn.zip args').length } _ _ ok1 hclo hlt (Nat.le_of_eq r.len.symm) r1 ?_
    intro fl fl' σ' ρ' s' pk r' f' hret st
    exact ret_use r r' pk f' hret ((Stp.of (s := s) (h := h₁) (t := s.toks + (argn.zip args').length)).trans st) hQ
end
end Mine
namespace Mine
open PySem PySem.W PySem.Calls PyProof.Rows
section
variable {G : Stat}
theorem callT_stat {f : Addr} {fd : FuncData} {oc : Value} {od : Option Addr} {osl : Array (Option Value)} {argn : List Str} {body : List Stmt} {iss : List IS} {n : Nat} {args : List V} {hp : List O} {K : V → List O → Prop}
    (hK : G.K.lookup f = some ⟨oc, od, .func fd, osl⟩) (hcd : codeIn G.K fd.code fd.qualname = true) (fo : FnOk G fd argn body iss) (hcell : ∀ x ∈ fd.scope.names, x.2 ≠ .cell) (hloc : ∀ x ∈ fd.scope.names.take argn.length, x.2 = .local)
    (hlen : args.length = argn.length) (hw : wpSs G n [] hp.length iss ⟨locInit args fd.scope.names.length, hp⟩ (RetOk hp K)) : CallT G (n + 1) (.stat (.ref f)) args hp K := by
  intro cx names ρ loc s Rr f' args' ok r vf vx hQ
  cases vf
  have X := ok.ok.X.keeps r.keep
  exact call_core fo hcell hloc (cl := []) ok r (X _ _ hK) rfl (codeRec_of X hcd) (fun i x k j _ e => by simp at e) vx hlen hw (fun i j e => by simp at e) hQ
theorem callT_meth {q : Nat} {f self : V} {n : Nat} {args : List V} {hp : List O} {K : V → List O → Prop} (e : hp[q]? = some (.meth f self)) (h : CallT G n f (self :: args) hp K) : CallT G n (.ref q) args hp K := by
  intro cx names ρ loc s Rr f' args' ok r vf vx hQ
  obtain ⟨a, o, h1, h2, ⟨g, x, rfl, vg, vs⟩, _⟩ := r.at (ao := .meth f self) e
  obtain ⟨_, h3, rfl⟩ := vf
  rw [h1] at h3; cases h3
  exact method_call h2 (h cx names ρ loc s Rr g (x :: args') ok r vg (.cons vs vx) hQ)
theorem clos_lookup {ρ : List Addr} {cs : List (Str × Nat)} {clos : List (Str × Addr)} (h : All2 (fun (p : Str × Nat) (q : Str × Addr) => p.1 = q.1 ∧ ρ[p.2]? = some q.2) cs clos) {x : Str} {j : Nat} (e : cs.lookup x = some j) : ∃ a, ρ[j]? = some a ∧ clos.lookup x = some a := by
  induction h with
  | nil => simp at e
  | @cons p q ps qs h1 _ ih =>
    obtain ⟨y, k⟩ := p
    obtain ⟨z, a⟩ := q
    obtain ⟨e1, e2⟩ := h1
    simp only at e1 e2
    subst e1
    rw [List.lookup_cons] at e ⊢
    cases hxy : x == y with
    | true => rw [hxy] at e; cases e; exact ⟨a, e2, rfl⟩
    | false => rw [hxy] at e; exact ih e
theorem callT_clos {i fid c : Nat} {cs : List (Str × Nat)} {argn : List Str} {iss : List IS} {n : Nat} {args : List V} {hp : List O} {K : V → List O → Prop} {cl : List (Option Nat)}
    (e : hp[i]? = some (.fn fid cs c)) (ec : hp[c]? = some (.code (G.fn fid).qual))
    (fo : ∀ clos doc pm cv ctv, FnOk G (fnX (G.fn fid).name (G.fn fid).qual (G.fn fid).params (G.fn fid).body (G.fn fid).scope clos .none .none doc pm none (.ref cv) ctv) argn (G.fn fid).body iss)
    (hcell : ∀ x ∈ (G.fn fid).scope.names, x.2 ≠ .cell) (hloc : ∀ x ∈ (G.fn fid).scope.names.take argn.length, x.2 = .local)
    (hcl : ∀ (i : Nat) (x : Str) (k : NameKind) (j : Nat), (G.fn fid).scope.names[i]? = some (x, k) → cl[i]? = some (some j) → cs.lookup x = some j) (hin : ∀ i j, cl[i]? = some (some j) → i < (G.fn fid).scope.names.length)
    (hlen : args.length = argn.length) (hw : wpSs G n cl hp.length iss ⟨locInit args (G.fn fid).scope.names.length, hp⟩ (RetOk hp K)) : CallT G (n + 1) (.ref i) args hp K := by
  intro cx names ρ loc s Rr f' args' ok r vf vx hQ
  obtain ⟨a, o, h1, h2, ⟨clos, doc, pm, cv, ctv, rfl, hcv, hcs⟩, _⟩ := r.at (ao := .fn fid cs c) e
  obtain ⟨_, h3, rfl⟩ := vf
  rw [h1] at h3; cases h3
  obtain ⟨a2, o2, k1, k2, ⟨vs, t, k3, k4⟩, _⟩ := r.at (ao := .code _) ec
  rw [hcv] at k1; cases k1
  refine call_core (fo clos doc pm cv ctv) hcell hloc (cl := cl) ok r h2 rfl ⟨cv, o2, vs, t, rfl, k2, k3, k4⟩ (fun i x k j e1 e2 => ?_) vx hlen hw hin hQ
  exact clos_lookup hcs (hcl i x k j e1 e2)
theorem fr_ok {cx : Cx} {cl : List (Option Nat)} {ρ : List Addr} (hc : ClOk cx cl ρ) : ∀ {fr js : List (Str × Nat)}, (∀ p ∈ fr, ∃ k, cx.env.scope.names[p.2]? = some (p.1, k)) → frJ cl fr = some js →
    ∃ as, All2 (fun (p : Str × Nat) a => cellOf cx.env p.1 = pure a) fr as ∧ All2 (fun (p : Str × Nat) (q : Str × Addr) => p.1 = q.1 ∧ ρ[p.2]? = some q.2) js ((fr.zip as).map fun q => (q.1.1, q.2)) := by
  intro fr
  induction fr with
  | nil => intro js _ h; cases h; exact ⟨[], .nil, .nil⟩
  | cons p fr ih =>
    intro js hn h
    obtain ⟨x, ys, e1, e2, rfl⟩ := mapO_cons h
    obtain ⟨o, e3, e4⟩ := bind_sp e1
    obtain ⟨j, e5, e6⟩ := bind_sp e4
    subst e5
    cases e6
    obtain ⟨k, hk⟩ := hn p (.head _)
    obtain ⟨a, ha, hl⟩ := hc.at_ p.2 p.1 k j hk e3
    obtain ⟨as, g1, g2⟩ := ih (fun q hq => hn q (.tail _ hq)) e2
    exact ⟨a :: as, .cons (by unfold cellOf; rw [hl]) g1, .cons ⟨rfl, ha⟩ g2⟩
theorem All2.rev {α β : Type} {P : α → β → Prop} {as : List α} {bs : List β} (h : All2 P as bs) : All2 P as.reverse bs.reverse := by
  induction h with
  | nil => exact .nil
  | cons h _ ih => simp only [List.reverse_cons]; exact ih.append (.cons h .nil)
theorem code_in {h : Heap} {c P : Addr} {tabs : List (Addr × Addr)} (H : CodeAll tabs h) (m : (c, P) ∈ tabs) : CodeHd h c P := by
  induction tabs with
  | nil => cases m
  | cons t r ih => cases m with
    | head => exact (show _ ∧ _ from H).1
    | tail _ m => exact ih (show _ ∧ _ from H).2 m
theorem builtins_at {cx : Cx} {ρ : List Addr} {σ : St} {s : Shared} {P : Addr} {ps : Array Value} (r : R G cx ρ σ s.heap) (ok : G.Ok cx.h₀) (hP : s.heap.get? P = some (tabObj ps)) : mainGlobals ≠ P ∧ s.heap.BuiltinsAt G.mg P := by
  have T := ok.T.keeps r.keep
  obtain ⟨bm, ob, b1, b2, b3, b4, b5, b6⟩ := T.bmain
  refine ⟨fun q => ?_, bm, ob, b1, b2, fun q => ?_, fun q => ?_, b3, b4, b5, b6⟩
  · obtain ⟨o, es, ep, e, hd, _⟩ := T.g
    rw [q, hP] at e; cases e; cases hd
  · obtain ⟨o, es, ep, e, hd, _⟩ := T.g
    rw [q, e] at b3; cases b3; rw [hd] at b6; cases b6
  · rw [q, hP] at b3; cases b3; cases b4
theorem DS_defn {names : List (Str × NameKind)} {name : Str} {params : Arguments} {body : List Stmt} {scope : Scope} {pos : Pos} {i fid : Nat} {c P : Addr} {q : Str} {fr : List (Str × Nat)}
    (hnd : (names.map (·.1)).Nodup) (hi : ix names name = some i) (hk : ∃ y, names[i]? = some (y, .local))
    (hfn : (G.fn fid).name = name ∧ (G.fn fid).params = params ∧ (G.fn fid).body = body ∧ (G.fn fid).scope = scope) (hq : (G.fn fid).qual = q ++ name)
    (hcode : (names, c, q) ∈ G.codes) (htab : (c, P) ∈ G.tabs) (hd0 : params.defaults = []) (hk0 : params.kw_defaults = []) (ha : ∀ env, annTrees params none env = [])
    (hfr : ∀ p ∈ fr, ∃ k, names[p.2]? = some (p.1, k)) (hcl : ∀ (env : Env) (as : List Addr), All2 (fun (p : Str × Nat) a => cellOf env p.1 = pure a) fr as → closureFor scope env = pure ((fr.zip as).map fun q => (q.1.1, q.2)).reverse) :
    DS G names (.FunctionDef name params body [] none [] scope none name pos) (.defn i fid P pos fr) := by
  intro n cl k σ K hw cx ρ s Q E ok hc hlt hkl r hQ
  simp only [sAssign, sAugL, sAugA, sAugS, sExpr, sIte, sWhl, sFor, sRet, sBrk, sCont, sDefn, lc0, lcS, vS, vI, vR, qSS, qII, qIS, qSI, iII, iSS, niAdd, adS, bII, bSS, biAdd, nS, inO, ltII, o1, o2, lnS, lnR, suR, suS, esN, esC, hkI, hkS, hkR, hkN] at hw
  obtain ⟨t, js, hjs, hil, hw⟩ := hw
  obtain ⟨kk, g1, g2⟩ := ix_spec hi
  obtain ⟨y, hy⟩ := hk
  rw [g1] at hy; cases hy
  obtain ⟨hcd, hqu⟩ := ok.cq _ hcode (by rw [ok.names])
  obtain ⟨as, ha1, ha2⟩ := fr_ok hc (by rw [ok.names]; exact hfr) hjs
  have hclo := hcl cx.env as ha1
  have hqn : qualnameIn cx.env name name = (G.fn fid).qual := by
    unfold qualnameIn
    rw [kindOf_of ok g2, hq, hqu]
    rfl
  refine nestDef_K hd0 hk0 (ha _) ?_
  rw [hqn]
  have hg := (ok.ok.T.keeps r.keep).g
  have C := code_in (CodeAll.keeps r.keep ok.ok.C) htab
  obtain ⟨e1, e2, e3, e4⟩ := hfn
  have store : ∀ {σ' : St} {ρ' : List Addr} {s' : Shared} {v : V} {v' : Value} {loc' : List (Option V)}, ρ <+: ρ' → R G cx ρ' σ' s'.heap → VR ρ' v v' → K .next { σ' with loc := σ'.loc.set i (some v) } → Stp s s' →
      wpAny (model G.prog G.w) cx.A (storeName cx.env name v') (fun _ s'' => Q .next s'') E s' := by
    intro σ' ρ' s' v v' _ p' r' vv hK st
    obtain ⟨m, F, hl⟩ := r'.fr
    refine wpAny_storeName_local (kindOf_of ok g2) F.ns (fun h' hn hs => ?_) (by rw [ok.kind]; rfl)
    exact hQ _ _ _ ρ' { s' with heap := h', toks := s'.toks + 1 } (Pk.of_pre p' hkl) (r'.loc hn hs (by rw [ok.names] at hl ⊢; exact loc_set hnd hl g1 vv)) .next hK (st.trans .of)
  have fresh : ∀ b, s.heap.objs.size ≤ b → b ∉ ρ ∧ b ≠ cx.env.locals ∧ cx.h₀.get? b = none ∧ ∀ p ∈ cx.pin, p.1 ≠ b := fun b hb => by
    refine ⟨fun hm => ?_, ?_, ?_, fun p hp => ?_⟩
    · obtain ⟨j, hj⟩ := List.getElem?_of_mem hm
      exact absurd (r.lt hj) (Nat.not_lt.mpr hb)
    · exact Nat.ne_of_gt (Nat.lt_of_lt_of_le r.llt hb)
    · cases hq : cx.h₀.get? b with
      | none => rfl
      | some o' => exact absurd (Heap.lt_size (r.keep _ _ hq)) (Nat.not_lt.mpr hb)
    · exact Nat.ne_of_lt (Nat.lt_of_lt_of_le (Heap.lt_size (r.pin p hp).1) hb)
  rcases hw with ⟨et, hK⟩ | ⟨c0, et, hK⟩
  · obtain ⟨a, o, h1, h2, ⟨rfl, rfl⟩, h4, h5⟩ := r.at et
    obtain ⟨hgP, hb⟩ := builtins_at r ok.ok h2
    refine makeFunction_K (mg := G.mg) hclo ok.glob hg hcd C h2 (by trivial) rfl hgP hb fun c' ctv doc h' tk hx hge hlt' hrec htb => ?_
    obtain ⟨c₂, oc, vs, tq, e5, hoc, hdo, hvo⟩ := hrec
    cases e5
    have hat : ρ[t]? = some a := h1
    have ra : R G cx ρ { σ with hp := σ.hp.set t .any } h' := r.upd (ao' := .any) hat hx htb trivial
    have rb := ra.push (fnMade name (G.fn fid).qual params body scope ((fr.zip as).map fun q => (q.1.1, q.2)).reverse doc ((G.mg "__name__").getD .none) c' ctv)
    obtain ⟨f1, f2, f3, f4⟩ := fresh c' hge
    have rc := rb.take (b := c') (ao := .code (G.fn fid).qual) f2 f3 f1 f4 (Heap.get?_push_of_some _ hoc) ⟨vs, tq, hdo, hvo⟩
    obtain ⟨k1, k2, k3, k4⟩ := fresh h'.objs.size (by omega)
    have hl1 : ρ.length = σ.hp.length := r.len
    have rd := rc.take (b := h'.objs.size) (ao := .fn fid js.reverse σ.hp.length) k2 k3 (by simp only [List.mem_append, List.mem_singleton, not_or]; exact ⟨k1, Nat.ne_of_gt hlt'⟩) k4 (Heap.get?_push_size _ rfl)
      ⟨((fr.zip as).map fun q => (q.1.1, q.2)).reverse, doc, (G.mg "__name__").getD .none, c', ctv, by rw [e1, e2, e3, e4], by rw [← hl1, List.append_assoc]; simp, (ha2.rev).imp fun _ _ ⟨u, v⟩ => ⟨u, pre_get ((pre_snoc _ _).trans (pre_snoc _ _)) v⟩⟩
    have pp : ρ <+: (ρ ++ [c']) ++ [h'.objs.size] := by rw [List.append_assoc]; exact ⟨_, rfl⟩
    have hat2 : ((ρ ++ [c']) ++ [h'.objs.size])[t]? = some a := pre_get pp hat
    have re := rd.upd (ao' := .tab a (some (pos, σ.hp.length))) hat2 (Heap.ExtBut.refl _ _) (Heap.get?_push_of_some _ htb) ⟨rfl, c', by simp, by rw [← hl1, List.append_assoc]; simp⟩
    have htl : t < σ.hp.length := (List.getElem?_eq_some_iff.mp et).1
    have ehp : (((σ.hp.set t O.any ++ [O.code (G.fn fid).qual]) ++ [O.fn fid js.reverse σ.hp.length]).set t (O.tab a (some (pos, σ.hp.length)))) = (σ.hp.set t (O.tab a (some (pos, σ.hp.length)))) ++ [O.code (G.fn fid).qual, O.fn fid js.reverse σ.hp.length] := by
      rw [List.append_assoc, List.set_append_left _ _ (by simpa using htl)]
      simp
    refine store (σ' := { σ with hp := (σ.hp.set t (.tab a (some (pos, σ.hp.length)))) ++ [.code (G.fn fid).qual, .fn fid js.reverse σ.hp.length] }) (loc' := []) pp ?_ (v := .ref (σ.hp.length + 1)) ⟨h'.objs.size, by rw [← hl1]; simp, rfl⟩ hK .of
    rw [← ehp]
    exact re
  · obtain ⟨a, o, h1, h2, ⟨rfl, cv, rfl, hcv⟩, h4, h5⟩ := r.at et
    obtain ⟨hgP, hb⟩ := builtins_at r ok.ok h2
    refine makeFunction_hit (cv := .ref cv) (mg := G.mg) hclo ok.glob hg hcd C h2 (by trivial) ?_ hb fun ctv doc h' tk hx hge => ?_
    · simp [codeAmong, rawInt]
    · have rb := (r.grow hx).push (fnMade name (G.fn fid).qual params body scope ((fr.zip as).map fun q => (q.1.1, q.2)).reverse doc ((G.mg "__name__").getD .none) cv ctv)
      obtain ⟨k1, k2, k3, k4⟩ := fresh h'.objs.size hge
      have hl1 : ρ.length = σ.hp.length := r.len
      have rd := rb.take (b := h'.objs.size) (ao := .fn fid js.reverse c0) k2 k3 k1 k4 (Heap.get?_push_size _ rfl)
        ⟨((fr.zip as).map fun q => (q.1.1, q.2)).reverse, doc, (G.mg "__name__").getD .none, cv, ctv, by rw [e1, e2, e3, e4], pre_get (pre_snoc _ _) hcv, (ha2.rev).imp fun _ _ ⟨u, v⟩ => ⟨u, pre_get (pre_snoc _ _) v⟩⟩
      exact store (loc' := []) (pre_snoc _ _) rd (v := .ref σ.hp.length) ⟨h'.objs.size, by rw [← hl1]; simp, rfl⟩ hK .of
end
end Mine
namespace Mine
open PySem PySem.W PySem.Calls PyProof.Rows
theorem bindL_eq {kindOf : Str → Option NameKind} {x : Str} (hx : kindOf x = some .local) : ∀ (binds : List (Str × Value)) (m : Str → Option Value), bindL kindOf binds m x = match binds.reverse.lookup x with | some v => some v | none => m x
  | [], m => rfl
  | (n, v) :: r, m => by
    unfold bindL
    rw [bindL_eq hx r, List.reverse_cons, List.lookup_append]
    cases r.reverse.lookup x with
    | some w => rfl
    | none =>
      simp only [Option.none_or, List.lookup_cons, List.lookup_nil]
      cases hb : x == n with
      | true =>
        rw [eq_of_beq hb] at hx ⊢
        rw [if_pos hx]; simp
      | false =>
        have hne : x ≠ n := fun q => by simp [q] at hb
        split
        · simp [hne]
        · rfl
theorem bindC_eq {kindOf : Str → Option NameKind} {x : Str} (hx : kindOf x ≠ some .local) : ∀ (binds : List (Str × Value)) (m : Str → Option Value), bindC kindOf binds m x = match binds.reverse.lookup x with | some v => some v | none => m x
  | [], m => rfl
  | (n, v) :: r, m => by
    unfold bindC
    rw [bindC_eq hx r, List.reverse_cons, List.lookup_append]
    cases r.reverse.lookup x with
    | some w => rfl
    | none =>
      simp only [Option.none_or, List.lookup_cons, List.lookup_nil]
      cases hb : x == n with
      | true =>
        rw [eq_of_beq hb] at hx ⊢
        rw [if_neg hx]; simp
      | false =>
        have hne : x ≠ n := fun q => by simp [q] at hb
        split
        · rfl
        · simp [hne]
section
variable {G : Stat}
noncomputable def cellO (cm : Str → Option Value) (ρ : List Addr) (x : Str) (v : Option V) : Prop := match v with
  | none => cm x = none
  | some v => ∃ v', cm x = some v' ∧ VR ρ v v'
theorem R.cells {cx : Cx} {h : Heap} {cm : Str → Option Value} {ρ₀ : List Addr} : ∀ {cs : List (Str × Addr)} {vs : List (Option V)} {ρ : List Addr} {loc : List (Option V)} {hp : List O}, ρ₀ <+: ρ → R G cx ρ ⟨loc, hp⟩ h →
    (∀ p ∈ cs, p.2 ∉ ρ ∧ p.2 ≠ cx.env.locals ∧ cx.h₀.get? p.2 = none ∧ h.IsCell p.2 (cm p.1) ∧ ∀ q ∈ cx.pin, q.1 ≠ p.2) → (cs.Pairwise fun x y => x.2 ≠ y.2) → All2 (fun p v => cellO cm ρ₀ p.1 v) cs vs →
    R G cx (ρ ++ cs.map (·.2)) ⟨loc, hp ++ vs.map .cell⟩ h := by
  intro cs
  induction cs with
  | nil => intro vs ρ loc hp _ r _ _ hv; cases hv; simpa using r
  | cons p cs ih =>
    intro vs ρ loc hp hpre r hx hpw hv
    cases hv with
    | @cons _ v _ vs h1 h2 =>
      obtain ⟨g1, g2, g3, ⟨o, ho, hd⟩, g5⟩ := hx p (.head _)
      rw [List.pairwise_cons] at hpw
      have hO : OR G (ρ ++ [p.2]) p.2 (.cell v) o := by
        cases v with
        | none => exact hd.trans (by rw [show cm p.1 = none from h1])
        | some v =>
          obtain ⟨v', e1, e2⟩ := h1
          exact ⟨v', hd.trans (by rw [e1]), e2.mono (hpre.trans (pre_snoc _ _))⟩
      have rt := r.take (ao := .cell v) g2 g3 g1 g5 ho hO
      have := ih (vs := vs) (ρ := ρ ++ [p.2]) (loc := loc) (hp := hp ++ [.cell v]) (hpre.trans (pre_snoc _ _)) rt (fun q hq => ?_) hpw.2 h2
      · simpa using this
      · obtain ⟨k1, k2⟩ := hx q (.tail _ hq)
        refine ⟨?_, k2⟩
        simp only [List.mem_append, List.mem_singleton, not_or]
        exact ⟨k1, fun e => hpw.1 q hq e.symm⟩
theorem All2.of_get {α β : Type} {P : α → β → Prop} {as : List α} : ∀ {bs : List β}, as.length = bs.length → (∀ (i : Nat) a b, as[i]? = some a → bs[i]? = some b → P a b) → All2 P as bs := by
  induction as with
  | nil => intro bs h _; cases bs with
    | nil => exact .nil
    | cons _ _ => cases h
  | cons a as ih => intro bs h f; cases bs with
    | nil => cases h
    | cons b bs => exact .cons (f 0 a b rfl rfl) (ih (Nat.succ.inj h) fun i a' b' e1 e2 => f (i + 1) a' b' e1 e2)
theorem call_cells {fd : FuncData} {argn : List Str} {body : List Stmt} {iss : List IS} (fo : FnOk G fd argn body iss) (hclo : fd.closure = []) {rev : List Str} (hrev : (cellsFrom 0 fd.scope.names []).map (·.1) = rev)
    (hrn : rev.Nodup) (hrk : ∀ x ∈ rev, fd.scope.names.lookup x ≠ some .local)
    (hk : ∀ x ∈ argn, fd.scope.names.lookup x = some .local ∨ (fd.scope.names.lookup x = some .cell ∧ x ∈ rev))
    {n : Nat} {cx : Cx} {names : List (Str × NameKind)} {ρ : List Addr} {loc : List (Option V)} {hp : List O} {s : Shared} {f : Addr} {o : Obj} {args : List V} {args' : List Value} {K : V → List O → Prop} {Rr : Result → Shared → Prop} {cl : List (Option Nat)} {cv : List (Option V)}
    (ok : CxOk G cx (n + 1 + 1) names) (r : R G cx ρ ⟨loc, hp⟩ s.heap) (ho : s.heap.get? f = some o) (hd : o.data = .func fd) (hcd : s.heap.CodeRec fd.code fd.qualname)
    (hcl : ∀ (i : Nat) (j : Nat), cl[i]? = some (some j) → ∃ x k t, fd.scope.names[i]? = some (x, k) ∧ j = hp.length + t ∧ rev[t]? = some x)
    (hcvl : cv.length = rev.length) (hcv : ∀ (t : Nat) (x : Str), rev[t]? = some x → (∃ (i : Nat) (v : V), argn[i]? = some x ∧ args[i]? = some v ∧ cv[t]? = some (some v)) ∨ (x ∉ argn ∧ cv[t]? = some none))
    (hv : VRs ρ args args') (hlen : args.length = argn.length)
    (hw : wpSs G n cl (hp.length + rev.length) iss ⟨locInit args fd.scope.names.length, hp ++ cv.map .cell⟩ (RetOk hp K))
    (hQ : ∀ v v' hp' ρ' s', ρ <+: ρ' → R G cx ρ' ⟨loc, hp'⟩ s'.heap → VR ρ' v v' → K v hp' → Stp s s' → Rr (.ok (.ret v')) s') :
    codeAny (model G.prog G.w) cx.A (.call (.ref f) ⟨args', []⟩) Rr s := by
  have hal : args'.length = argn.length := by rw [← hv.length]; exact hlen
  have hnodup : argn.Nodup := by rw [← fo.pre]; exact (List.Sublist.map _ (List.take_sublist _ _)).nodup fo.nd
  have revn : ∀ n, (cellsFrom n fd.scope.names []).map (·.1) = rev := fun n => by rw [cellsFrom_names _ n 0 [] [] rfl]; exact hrev
  refine codeAny_call_function (by have := ok.dep; show cx.A.depth < 1000; omega) ho hd fo.co fo.gen fo.body hcd ?_
  rw [fo.bind _ hal]
  refine wpAny_pure ?_
  rw [hclo]
  refine wpAny_newFunctionEnv_cells fo.kind ?_ fun env he s' x => ?_
  · intro y hy
    have h1 := (List.of_mem_zip (a := y.1) (b := y.2) (by exact hy)).1
    rcases hk _ h1 with h | ⟨h, hm⟩
    · exact .inl h
    · refine .inr ⟨h, ?_⟩
      rw [← revn (s.heap.objs.size + 1)] at hm
      obtain ⟨p, hp1, hp2⟩ := List.mem_map.mp hm
      have := lookup_of_mem_nodup (cs := cellsFrom (s.heap.objs.size + 1) fd.scope.names []) (n := y.1) (c := p.2) (by rw [revn]; exact hrn) (by rw [← hp2]; exact hp1)
      rw [this]; rfl
  · subst he
    obtain ⟨h₁, tk, rfl, hk₁⟩ := x.done
    refine ⟨((ok.ok.T.nolimit).keeps r.keep).keeps hk₁, codeAny_func ?_⟩
    have cellmem : ∀ p ∈ cellsFrom (s.heap.objs.size + 1) fd.scope.names [], h₁.IsCell p.2 (bindC (newEnv fd.scope s.heap.objs.size fd.globals (cellsFrom (s.heap.objs.size + 1) fd.scope.names []) (fd.qualname ++ ".<locals>.") (some f) fd.code none fd.builtins).kindOf (argn.zip args') (fun _ => none) p.1) ∧ s.heap.objs.size < p.2 := fun p hp => by
      have := lookup_of_mem_nodup (n := p.1) (c := p.2) (by rw [revn]; exact hrn) hp
      exact ⟨x.cell _ _ this, x.above _ _ hp⟩
    have r1 : R G ⟨newEnv fd.scope s.heap.objs.size fd.globals (cellsFrom (s.heap.objs.size + 1) fd.scope.names []) (fd.qualname ++ ".<locals>.") (some f) fd.code none fd.builtins, cx.A.deeper (newEnv fd.scope s.heap.objs.size fd.globals (cellsFrom (s.heap.objs.size + 1) fd.scope.names []) (fd.qualname ++ ".<locals>.") (some f) fd.code none fd.builtins), hideAll s.heap ρ, []⟩ ρ ⟨locInit args fd.scope.names.length, hp⟩ h₁ := by
      refine r.enter rfl x.toInCall.ns hk₁ (loc_init fo.pre hlen hv ?_)
      intro i y v e1 e2 e3
      refine (bindL_eq (names_lookup fo.nd e1) _ _).trans ?_
      rw [zip_rev_lookup hnodup hal.symm e2 e3]
    have r2 := r1.cells (cs := cellsFrom (s.heap.objs.size + 1) fd.scope.names []) (vs := cv) (ρ₀ := ρ) (List.prefix_refl _) (cm := bindC (newEnv fd.scope s.heap.objs.size fd.globals (cellsFrom (s.heap.objs.size + 1) fd.scope.names []) (fd.qualname ++ ".<locals>.") (some f) fd.code none fd.builtins).kindOf (argn.zip args') (fun _ => none)) (fun p hp => ?_) x.apart ?_
    · have ok1 : CxOk G ⟨newEnv fd.scope s.heap.objs.size fd.globals (cellsFrom (s.heap.objs.size + 1) fd.scope.names []) (fd.qualname ++ ".<locals>.") (some f) fd.code none fd.builtins, cx.A.deeper (newEnv fd.scope s.heap.objs.size fd.globals (cellsFrom (s.heap.objs.size + 1) fd.scope.names []) (fd.qualname ++ ".<locals>.") (some f) fd.code none fd.builtins), hideAll s.heap ρ, []⟩ (n + 1) fd.scope.names :=
        ⟨Ok.hide r ok.ok, rfl, fo.kind, fo.glob, fo.bi, fo.cq, ok.hd, by have := ok.dep; show cx.A.depth + 1 + _ ≤ 990; omega, by have := ok.uni; show cx.A.units + 3 + _ ≤ 9000; omega⟩
      have hl1 : ρ.length = hp.length := r.len
      have hcs : (cellsFrom (s.heap.objs.size + 1) fd.scope.names []).length = rev.length := by rw [← revn (s.heap.objs.size + 1)]; simp
      refine fo.comp n cl (hp.length + rev.length) _ _ hw _ (ρ ++ (cellsFrom (s.heap.objs.size + 1) fd.scope.names []).map (·.2)) { s with heap := h₁, toks := tk } _ _ ok1 ⟨fun i y k j e1 e2 => ?_⟩ ?_ ?_ r2 ?_
      · obtain ⟨x', k', t, q1, q2, q3⟩ := hcl i j e2
        rw [show (fd.scope.names)[i]? = some (y, k) from e1] at q1; cases q1
        rw [← revn (s.heap.objs.size + 1), List.getElem?_map] at q3
        obtain ⟨p, hp1, hp2⟩ := Option.map_eq_some_iff.mp q3
        refine ⟨p.2, ?_, ?_⟩
        · rw [q2, ← hl1, List.getElem?_append_right (Nat.le_add_right _ _), Nat.add_sub_cancel_left, List.getElem?_map, hp1]; rfl
        · rw [← hp2]
          exact lookup_of_mem_nodup (cs := cellsFrom (s.heap.objs.size + 1) fd.scope.names []) (n := p.1) (c := p.2) (by rw [revn]; exact hrn) (List.mem_of_getElem? hp1)
      · refine ⟨fun i j e => ?_⟩
        obtain ⟨x', k', t, q1, q2, q3⟩ := hcl i j e
        have := (List.getElem?_eq_some_iff.mp q3).1
        omega
      · simp [hl1, hcs]
      · intro fl fl' σ' ρ' s' pk r' f' hret st
        refine ret_use r r' ?_ f' hret ((Stp.of (s := s) (h := h₁) (t := tk)).trans st) hQ
        obtain ⟨z1, z2⟩ := pk
        have z3 := congrArg (List.take hp.length) z1
        rw [List.take_take, List.take_take, Nat.min_eq_left (Nat.le_add_right _ _), List.take_append_of_le_length (Nat.le_of_eq hl1.symm)] at z3
        exact ⟨z3, by omega⟩
    · obtain ⟨q1, q2⟩ := cellmem p hp
      refine ⟨fun hm => ?_, Nat.ne_of_gt q2, ?_, q1, fun q hq => by cases hq⟩
      · obtain ⟨i, hi⟩ := List.getElem?_of_mem hm
        exact absurd (r.lt hi) (Nat.not_lt.mpr (Nat.le_of_lt q2))
      · cases hq : (hideAll s.heap ρ).get? p.2 with
        | none => rfl
        | some o' => exact absurd (Heap.lt_size (of_hideAll _ hq)) (Nat.not_lt.mpr (Nat.le_of_lt q2))
    · have hcsl : (cellsFrom (s.heap.objs.size + 1) fd.scope.names []).length = cv.length := by rw [hcvl, ← revn (s.heap.objs.size + 1)]; simp
      refine All2.of_get hcsl fun t p v e1 e2 => ?_
      have e3 : rev[t]? = some p.1 := by rw [← revn (s.heap.objs.size + 1), List.getElem?_map, e1]; rfl
      have hnl := hrk p.1 (List.mem_of_getElem? e3)
      unfold cellO
      rw [bindC_eq hnl]
      rcases hcv t p.1 e3 with ⟨i, w, a1, a2, a3⟩ | ⟨a1, a2⟩
      · rw [a3] at e2; cases e2
        obtain ⟨w', hw', vv⟩ := hv.get a2
        exact ⟨w', by rw [zip_rev_lookup hnodup hal.symm a1 hw'], vv⟩
      · rw [a2] at e2; cases e2
        have : (argn.zip args').reverse.lookup p.1 = none := by
          rw [List.lookup_eq_none_iff]
          intro q hq
          have h1 := (List.of_mem_zip (a := q.1) (b := q.2) (by simpa using hq)).1
          have hne : p.1 ≠ q.1 := fun e => a1 (by rw [e]; exact h1)
          simp [hne]
        rw [this]
end
end Mine
namespace Mine
open PySem PySem.W PySem.Calls PyProof.Rows
noncomputable def relN (names inner : List (Str × NameKind)) : List (Str × NameKind) :=
  inner.map fun p => if p.2 == .free && names.lookup p.1 == some .cell then (p.1, .cell) else p
noncomputable def frOf (names : List (Str × NameKind)) (inner : List (Str × NameKind)) : Option (List (Option Nat)) :=
  mapO (fun p : Str × NameKind => if p.2 == .free then (ix names p.1).map some else some none) inner
theorem mapO_get {α β : Type} {c : α → Option β} {as : List α} : ∀ {bs : List β}, mapO c as = some bs → ∀ (i : Nat) (b : β), bs[i]? = some b → ∃ a, as[i]? = some a ∧ c a = some b := by
  induction as with
  | nil => intro bs h i b e; cases h; cases (show none = some b from e)
  | cons a as ih =>
    intro bs h i b e
    obtain ⟨x, y, e1, e2, rfl⟩ := mapO_cons h
    cases i with
    | zero => cases (show some _ = some b from e); exact ⟨a, rfl, e1⟩
    | succ i => exact ih e2 i b e
theorem mapO_mem {α β : Type} {c : α → Option β} {as : List α} : ∀ {bs : List β}, mapO c as = some bs → ∀ a ∈ as, ∃ b ∈ bs, c a = some b := by
  induction as with
  | nil => intro bs h a e; cases e
  | cons a' as ih =>
    intro bs h a e
    obtain ⟨x, y, e1, e2, rfl⟩ := mapO_cons h
    cases e with
    | head => exact ⟨x, .head _, e1⟩
    | tail _ e => obtain ⟨b, hb, hc⟩ := ih e2 a e; exact ⟨b, .tail _ hb, hc⟩
theorem closure_forIn {env : Env} : ∀ (names : List (Str × NameKind)) (acc : List (Str × Addr)), (∀ x, (x, NameKind.free) ∈ names → ∃ a, env.cells.lookup x = some a) →
    ∃ cl, (forIn names acc fun (p : Str × NameKind) (cs : List (Str × Addr)) => (if p.2 == .free then do let a ← cellOf env p.1; pure (ForInStep.yield ((p.1, a) :: cs)) else pure (ForInStep.yield cs) : Sem (ForInStep (List (Str × Addr))))) = pure cl ∧
      ∀ x a, env.cells.lookup x = some a → ((x, NameKind.free) ∈ names ∨ acc.lookup x = some a) → (∀ b, acc.lookup x = some b → b = a) → cl.lookup x = some a := by
  intro names
  induction names with
  | nil => exact fun acc _ => ⟨acc, rfl, fun x a _ h _ => h.elim (fun h => by cases h) id⟩
  | cons p r ih =>
    intro acc h
    obtain ⟨y, k⟩ := p
    by_cases hk : k = .free
    · subst hk
      obtain ⟨a, ha⟩ := h y (.head _)
      obtain ⟨cl, e1, e2⟩ := ih ((y, a) :: acc) (fun x hx => h x (.tail _ hx))
      refine ⟨cl, ?_, fun x b hb hx hu => ?_⟩
      · rw [List.forIn_cons]
        have : cellOf env y = pure a := by unfold cellOf; rw [ha]
        simp only [beq_self_eq_true, if_true, this, pure_bind, lc0, lcS, vS, vI, vR, qSS, qII, qIS, qSI, iII, iSS, niAdd, adS, bII, bSS, biAdd, nS, inO, ltII, o1, o2, lnS, lnR, suR, suS, esN, esC, hkI, hkS, hkR, hkN]
        exact e1
      · cases hxy : x == y with
        | true =>
          have := eq_of_beq hxy
          subst this
          rw [ha] at hb; cases hb
          exact e2 x a ha (.inr (by simp)) (fun b hb => by simp at hb; exact hb.symm)
        | false =>
          refine e2 x b hb ?_ (fun c hc => hu c (by simpa [List.lookup_cons, hxy] using hc))
          rcases hx with hx | hx
          · cases hx with
            | head => simp at hxy
            | tail _ hx => exact .inl hx
          · exact .inr (by simpa [List.lookup_cons, hxy] using hx)
    · obtain ⟨cl, e1, e2⟩ := ih acc (fun x hx => h x (.tail _ hx))
      refine ⟨cl, ?_, fun x b hb hx hu => e2 x b hb ?_ hu⟩
      · rw [List.forIn_cons]
        have : (k == NameKind.free) = false := by simpa using hk
        simp only [this, Bool.false_eq_true, if_false, pure_bind, lc0, lcS, vS, vI, vR, qSS, qII, qIS, qSI, iII, iSS, niAdd, adS, bII, bSS, biAdd, nS, inO, ltII, o1, o2, lnS, lnR, suR, suS, esN, esC, hkI, hkS, hkR, hkN]
        exact e1
      · rcases hx with hx | hx
        · cases hx with
          | head => exact absurd rfl hk
          | tail _ hx => exact .inl hx
        · exact .inr hx
theorem closure_of {env : Env} {scope : Scope} (h : ∀ x, (x, NameKind.free) ∈ scope.names → ∃ a, env.cells.lookup x = some a) :
    ∃ cl, closureFor scope env = pure cl ∧ ∀ x a, (x, NameKind.free) ∈ scope.names → env.cells.lookup x = some a → cl.lookup x = some a := by
  obtain ⟨cl, e1, e2⟩ := closure_forIn (env := env) scope.names [] h
  refine ⟨cl, ?_, fun x a hx ha => e2 x a ha (.inl hx) (fun b hb => by simp at hb)⟩
  unfold closureFor
  exact congrArg (· >>= pure) e1 |>.trans (by simp)
section
variable {G : Stat}
theorem R.enterX {cx : Cx} {ρ X : List Addr} {loc loc' : List (Option V)} {hp : List O} {h h₁ : Heap} {env : Env} {A : Around} {m : Str → Option Value} (r : R G cx ρ ⟨loc, hp⟩ h) (hX : ∀ a ∈ ρ, a ∈ X)
    (hL : env.locals = h.objs.size) (hn : h₁.Ns h.objs.size m) (hk : ∀ b o, h.get? b = some o → h₁.get? b = some o) (hl : LocR ρ env.scope.names loc' m) :
    R G ⟨env, A, hideAll h X, []⟩ ρ ⟨loc', hp⟩ h₁ := by
  refine ⟨⟨m, ⟨by rw [hL]; exact hn, fun b o e => hk b o (of_hideAll _ e), by rw [hL]; exact Nat.le_of_eq (hideAll_size _ _)⟩, hl⟩, r.nd, r.len, fun i a ao e1 e2 => ?_, fun p hp => by cases hp⟩
  obtain ⟨_, _, o, h3, h4⟩ := r.own i a ao e1 e2
  refine ⟨?_, hideAll_none _ (hX _ (List.mem_of_getElem? e1)), o, hk _ _ h3, h4⟩
  show a ≠ env.locals
  rw [hL]; exact Nat.ne_of_lt (Heap.lt_size h3)
theorem R.leaveX {cx : Cx} {ρ ρ₂ X : List Addr} {loc loc' : List (Option V)} {hp hp₂ : List O} {h h' : Heap} {env : Env} {A : Around} (r : R G cx ρ ⟨loc, hp⟩ h)
    (hX : ∀ a ∈ X, a ∈ ρ ∨ (a ≠ cx.env.locals ∧ cx.h₀.get? a = none ∧ ∀ p ∈ cx.pin, p.1 ≠ a))
    (r' : R G ⟨env, A, hideAll h X, []⟩ ρ₂ ⟨loc', hp₂⟩ h') (hp' : ρ <+: ρ₂) : R G cx ρ₂ ⟨loc, hp₂⟩ h' := by
  obtain ⟨m, F, hl⟩ := r.fr
  have keep : ∀ b o, h.get? b = some o → b ∉ X → h'.get? b = some o := fun b o e hn => r'.keep b o (hideAll_get _ e hn)
  have nL : cx.env.locals ∉ X := fun q => by
    rcases hX _ q with q | q
    · obtain ⟨i, hi⟩ := List.getElem?_of_mem q
      obtain ⟨_, _, _, _, _, h1, _⟩ := r.own' hi
      exact h1 rfl
    · exact q.1 rfl
  have base : ∀ b o, cx.h₀.get? b = some o → h.get? b = some o ∧ b ∉ X := fun b o e => ⟨r.keep b o e, fun q => by
    rcases hX _ q with q | q
    · obtain ⟨i, hi⟩ := List.getElem?_of_mem q
      obtain ⟨_, _, _, _, _, _, h2⟩ := r.own' hi
      rw [h2] at e; cases e
    · rw [q.2.1] at e; cases e⟩
  obtain ⟨oL, es, ep, hoL, hdL, hkL, hfL⟩ := F.ns
  refine ⟨⟨m, ⟨⟨oL, es, ep, keep _ _ hoL nL, hdL, hkL, hfL⟩, fun b o e => keep b o (base b o e).1 (base b o e).2, F.above⟩, hl.mono hp'⟩, r'.nd, r'.len, fun i a ao e1 e2 => ?_, fun p hpp => ?_⟩
  · obtain ⟨g1, g2, o, g3, g4⟩ := r'.own i a ao e1 e2
    refine ⟨fun q => ?_, ?_, o, g3, g4⟩
    · have z := hideAll_get X hoL nL
      rw [← q] at z
      rw [show (hideAll h X).get? a = none from g2] at z; cases z
    · cases hq : cx.h₀.get? a with
      | none => rfl
      | some o' =>
        have z := hideAll_get X (base a o' hq).1 (base a o' hq).2
        rw [show (hideAll h X).get? a = none from g2] at z; cases z
  · have z := r.pin p hpp
    have nX : p.1 ∉ X := fun q => by
      rcases hX _ q with q | q
      · exact z.2.1 q
      · exact q.2.2 p hpp rfl
    refine ⟨keep _ _ z.1 nX, fun q => ?_, z.2.2⟩
    obtain ⟨i, hi⟩ := List.getElem?_of_mem q
    obtain ⟨_, _, _, _, _, _, g2⟩ := r'.own' hi
    have y := hideAll_get X z.1 nX
    rw [show (hideAll h X).get? p.1 = none from g2] at y; cases y
theorem DIfs {names : List (Str × NameKind)} : ∀ {cs : List Expr} {ics : List IE}, All2 (DT G names) cs ics → ∀ (n : Nat) (cl : List (Option Nat)) (σ : St) (K : Bool → St → Prop), wpIfs G n cl ics σ K →
    TE G n names cl (fun _ (b a : Bool) => b = a) (fun env => forIn cs true fun c r => if r = true then do let ok ← isTrue c env (eval c env); pure (ForInStep.yield ok) else pure (ForInStep.yield r)) σ K := by
  intro cs ics h
  induction h with
  | nil =>
    intro n cl σ K hw cx ρ s Q E ok hc r hQ
    exact wpAny_pure (hQ _ _ _ _ s (List.prefix_refl _) r rfl hw (.refl s))
  | @cons c ic cs ics h1 h2 ih =>
    intro n cl σ K hw cx ρ s Q E ok hc r hQ
    simp only [wpIfs] at hw
    show wpAny _ _ (forIn (c :: cs) true _) _ _ _
    rw [List.forIn_cons]
    simp only [if_true, lc0, lcS, vS, vI, vR, qSS, qII, qIS, qSI, iII, iSS, niAdd, adS, bII, bSS, biAdd, nS, inO, ltII, o1, o2, lnS, lnR, suR, suS, esN, esC, hkI, hkS, hkR, hkN]
    refine wpAny_bind (wpAny_bind (h1 n cl σ _ hw cx ρ s _ _ ok hc r ?_))
    intro x x' σ1 ρ1 s1 p1 r1 vx hw st1
    cases vx
    refine wpAny_pure ?_
    cases x with
    | true =>
      exact ih n cl σ1 K hw cx ρ1 s1 Q E ok (hc.mono p1) r1 fun b a σ' ρ' s' p' r' ba k' st' => hQ b a σ' ρ' s' (p1.trans p') r' ba k' (st1.trans st')
    | false =>
      have quiet : ∀ cs : List Expr, (forIn cs false fun c r => if r = true then do let ok ← isTrue c cx.env (eval c cx.env); pure (ForInStep.yield ok) else pure (ForInStep.yield r) : Sem Bool) = pure false := by
        intro cs
        induction cs with
        | nil => rfl
        | cons c cs ih => rw [List.forIn_cons]; simp only [Bool.false_eq_true, if_false, pure_bind, lc0, lcS, vS, vI, vR, qSS, qII, qIS, qSI, iII, iSS, niAdd, adS, bII, bSS, biAdd, nS, inO, ltII, o1, o2, lnS, lnR, suR, suS, esN, esC, hkI, hkS, hkR, hkN]; exact ih
      exact wpAny_of_eq (quiet cs) (hQ _ _ _ _ s1 p1 r1 rfl hw st1)
noncomputable def CInv (G : Stat) (cx : Cx) (pre : List Addr) (s : Shared) (I : Nat → St → Prop) (len : Nat) (b₀ : Addr) (ob : Nat → Obj → Prop) (m : Nat) (s' : Shared) : Prop :=
  ∃ j σ' ρ', m + j = len + 1 ∧ j ≤ len ∧ I j σ' ∧ R G cx ρ' σ' s'.heap ∧ pre <+: ρ' ∧ Stp s s' ∧ At0 s'.heap b₀ (ob j) ∧ b₀ ∉ ρ'
theorem put_ok1 {cx : Cx} {ρ : List Addr} {σ : St} {s : Shared} {a : Nat} {D : Addr} {y : V} {y' : Value} {I : St → Prop} {Q : Value → Shared → Prop} {E : Value → Shared → Prop} (r : R G cx ρ σ s.heap) (hD : ρ[a]? = some D) (vy : VR ρ y y')
    (hw : onL σ.hp a fun ys => ys.length ≤ big ∧ I ⟨σ.loc, σ.hp.set a (.list (ys ++ [y]))⟩) (hQ : ∀ σ' s', R G cx ρ σ' s'.heap → I σ' → Stp s s' → Q .none s') : wpAny (model G.prog G.w) cx.A (call (.builtin "list.append") [.ref D, y']) Q E s := by
  obtain ⟨xs, e, hz, h⟩ := onL_sp hw
  obtain ⟨a, ws, q, ha, hg, hl, hv⟩ := r.list e
  rw [hD] at ha; cases ha
  refine PyProof.Rows.append_at (hsz := ?_) hg fun h' hs ho' => hQ _ { s with heap := h' } (r.upd hD hs.extBut ho' ?_) h .of
  · exact ⟨ws ++ [_], q + 1, by simp, hv.append (.cons vy .nil)⟩
  · rw [hv.length] at hz; exact Nat.le_trans hz sizeLine_big
theorem set_ok {inner : List (Str × NameKind)} {x : Str} {px : Pos} {i : Nat} (hnd : (inner.map (·.1)).Nodup) (hi : ix inner x = some i) (hil : ∃ y, inner[i]? = some (y, .local)) {n : Nat} {cx : Cx} {ρ : List Addr} {σ : St} {s : Shared} {v : V} {v' : Value} {Q : Unit → Shared → Prop} {E : Value → Shared → Prop}
    (ok : CxOk G cx n inner) (r : R G cx ρ σ s.heap) (vv : VR ρ v v') (hQ : ∀ s', R G cx ρ ⟨σ.loc.set i (some v), σ.hp⟩ s'.heap → Stp s s' → 1 ≤ s'.toks → Q () s') : wpAny (model G.prog G.w) cx.A (assign (.Name x px) cx.env v') Q E s := by
  obtain ⟨k, g1, g2⟩ := ix_spec hi
  obtain ⟨y, hy⟩ := hil
  rw [g1] at hy; cases hy
  obtain ⟨mm, F, hl⟩ := r.fr
  refine wpAny_assign_Name (wpAny_storeName_local (kindOf_of ok g2) F.ns (fun h'' hn hs2 => ?_) (by rw [ok.kind]; rfl))
  rw [ok.names] at hl
  exact hQ { s with heap := h'', toks := s.toks + 1 } (r.loc hn hs2 (by rw [ok.names]; exact loc_set hnd hl g1 vv)) .of (Nat.succ_le_succ (Nat.zero_le _))
theorem compTurn_at {elt target iter : Expr} {gens : List Comprehension} {ifs : List Expr} {scope : Scope} {pos : Pos} {d : Nat} (hg : gens[d]? = some ⟨target, iter, ifs, 0⟩) (hl : gens[d + 1]? = none) (it acc : Value) (env : Env) :
    compTurn (.ListComp elt gens scope pos) d it acc env = (do
      standAt iter.pos
      match ← pyNext it with
      | none => pure (.done .next)
      | some v =>
        letOwnedTupleGo target it v
        assign target env v
        let mut ok := true
        for c in ifs do
          if ok then ok ← isTrue c env (eval c env)
        if ok then
          (do let _ ← call (.builtin "list.append") [acc, ← eval elt env])
        again (.compLoop (.ListComp elt gens scope pos) d it acc env)) := by
  unfold compTurn
  simp only [hg, hl]
  rfl
theorem loop_at {prog : Program} {w : World} {A : Around} {RR : Result → Shared → Prop} {s : Shared} {elt target iter : Expr} {gens : List Comprehension} {ifs : List Expr} {scope : Scope} {pos : Pos} {it acc : Value} {env : Env} {d : Nat} (hg : gens[d]? = some ⟨target, iter, ifs, 0⟩) (hl : gens[d + 1]? = none) (I : Nat → Shared → Prop)
    (turn : ∀ n s, I n s → wpAny (model prog w) A (pyNext it) (fun r s₁ => match r with
      | none => RR (.ok .next) s₁
      | some v => wpAny (model prog w) A (assign target env v) (fun _ s₂ =>
          wpAny (model prog w) A (forIn ifs true fun c r => if r = true then do let ok ← isTrue c env (eval c env); pure (ForInStep.yield ok) else pure (ForInStep.yield r)) (fun ok s₃ =>
            if ok = true then wpAny (model prog w) A (eval elt env) (fun x s₄ =>
              wpAny (model prog w) A (call (.builtin "list.append") [acc, x]) (fun _ s₅ => ∃ m, m < n ∧ I m s₅) (notedBy (model prog w) A env fun e s' => RR (.error e) s') s₄) (notedBy (model prog w) A env fun e s' => RR (.error e) s') s₃
            else ∃ m, m < n ∧ I m s₃) (notedBy (model prog w) A env fun e s' => RR (.error e) s') s₂) (notedBy (model prog w) A env fun e s' => RR (.error e) s') s₁) (notedBy (model prog w) A env fun e s' => RR (.error e) s') s)
    (n : Nat) (h : I n s) (ht : ∀ v, letOwnedTupleGo target it v = pure ()) :
    codeAny (model prog w) A (.compLoop (.ListComp elt gens scope pos) d it acc env) RR s := by
  refine codeAny_loop rfl I (fun n s hI => ?_) n h
  show wpAny _ A ((compTurn (.ListComp elt gens scope pos) d it acc env).onRaise (fun x => do noteFrame x env; theTreesLotGoes x)) _ _ s
  refine wpAny_noted ?_
  rw [compTurn_at hg hl]
  refine wpAny_bind (wpAny_standAt (wpAny_bind (wpAny_mono (turn n s hI) (fun r s₁ h₁ => ?_) fun _ _ h' => h')))
  cases r with
  | none => exact wpAny_pure h₁
  | some v =>
    refine wpAny_bind (wpAny_of_eq (ht v) ?_)
    refine wpAny_bind (wpAny_mono h₁ (fun _ s₂ h₂ => wpAny_bind (wpAny_mono h₂ (fun ok s₃ h₃ => ?_) fun _ _ h' => h')) fun _ _ h' => h')
    cases ok with
    | false => exact wpAny_pure ⟨rfl, h₃⟩
    | true =>
      exact wpAny_bind (wpAny_bind (wpAny_mono h₃ (fun x s₄ h₄ => wpAny_bind (wpAny_mono h₄ (fun _ s₅ h₅ => wpAny_pure (wpAny_pure ⟨rfl, h₅⟩)) fun _ _ h' => h')) fun _ _ h' => h'))
noncomputable def LoopOk (G : Stat) (inner : List (Str × NameKind)) (elt : Expr) (gens : List Comprehension) (scope : Scope) (d : Nat) (turn : Nat → List (Option Nat) → Nat → (St → Prop) → V → St → Prop) : Prop :=
  ∀ (pos : Pos) (n : Nat) (cl : List (Option Nat)) (cx : Cx) (pre : List Addr) (s₀ s : Shared) (RR : Result → Shared → Prop) (a : Nat) (b₀ D : Addr), CxOk G cx (n + 1) inner → ClOk cx cl pre → (∀ q ∈ cx.pin, q.1 ≠ b₀) →
    pre[a]? = some D → b₀ ≠ cx.env.locals → cx.h₀.get? b₀ = none →
    ∀ (Nd : List Addr → List O → Prop) (ob : Nat → Obj → Prop) (xs : List V), Src G b₀ Nd ob xs → ∀ (I : Nat → St → Prop) (Kf : St → Prop), (∀ j σ' ρ', I j σ' → pre <+: ρ' → Nd ρ' σ'.hp) →
    (∀ j σ', I j σ' → (∀ x, xs[j]? = some x → turn n cl a (I (j + 1)) x σ') ∧ (j = xs.length → Kf σ')) →
    (∀ σ' ρ' s', Kf σ' → R G cx ρ' σ' s'.heap → pre <+: ρ' → Stp s₀ s' → RR (.ok .next) s') →
    ∀ σ : St, I 0 σ → R G cx pre σ s.heap → At0 s.heap b₀ (ob 0) → b₀ ∉ pre → Stp s₀ s →
    codeAny (model G.prog G.w) cx.A (.compLoop (.ListComp elt gens scope pos) d (.ref b₀) (.ref D) cx.env) RR s
noncomputable def DEp (G : Stat) (names : List (Str × NameKind)) (e : Expr) (ie : IE) : Prop :=
  ∀ n cl σ (K : V → St → Prop), wpE G n cl ie σ K → ∀ (cx : Cx) (ρ : List Addr) (s : Shared) (Q : Value → Shared → Prop) (E : Value → Shared → Prop), CxOk G cx (n + 1) names → ClOk cx cl ρ → R G cx ρ σ s.heap → 1 ≤ s.toks → Ret G cx VR ρ s K Q → wpAny (model G.prog G.w) cx.A (eval e cx.env) Q E s
theorem DE.p {names : List (Str × NameKind)} {e : Expr} {ie : IE} (h : DE G names e ie) : DEp G names e ie := fun n cl σ K hw cx ρ s Q E ok hc r _ hQ => h n cl σ K hw cx ρ s Q E ok hc r hQ
theorem comp_loop {inner : List (Str × NameKind)} {elt iter : Expr} {gens : List Comprehension} {d : Nat} {x : Str} {px : Pos} {ifs : List Expr} {scope : Scope} {ielt : IE} {iifs : List IE} {i : Nat} (hgd : gens[d]? = some ⟨.Name x px, iter, ifs, 0⟩) (hgl : gens[d + 1]? = none)
    (hnd : (inner.map (·.1)).Nodup) (hi : ix inner x = some i) (hil : ∃ y, inner[i]? = some (y, .local)) (hE : DEp G inner elt ielt) (hT : All2 (DT G inner) ifs iifs) :
    LoopOk G inner elt gens scope d fun n cl a I x σ => wpTurn G n cl ielt i iifs a I x σ := by
  intro pos n cl cx pre s₀ s RR a b₀ D ok hc hnp hD hb1 hb2 Nd ob xs S I Kf need turn fin σ hI r ho hni st
  refine loop_at hgd hgl (CInv G cx pre s₀ I xs.length b₀ ob) ?_ (xs.length + 1) ⟨0, σ, pre, rfl, Nat.zero_le _, hI, r, List.prefix_refl _, st, ho, hni⟩ fun _ => rfl
  rintro m s1 ⟨j, σ1, ρ1, hm, hj, hI1, r1, p1, st1, hit, hni1⟩
  obtain ⟨t1, t2⟩ := turn j σ1 hI1
  have hnd' := need j σ1 ρ1 hI1 p1
  cases hx : xs[j]? with
  | none =>
    have hjl : j = xs.length := Nat.le_antisymm hj (List.getElem?_eq_none_iff.mp hx)
    subst hjl
    refine S.stop cx σ1 ρ1 s1 ok.ok ok.hd r1 hnd' hit _ _ fun h' hs => ?_
    exact fin σ1 ρ1 { s1 with heap := h' } (t2 rfl) (r1.ext hb1 hb2 hni1 hnp hs) p1 (st1.trans .of)
  | some xv =>
    refine S.step cx j σ1 ρ1 s1 xv ok.ok r1 hnd' hit hx _ _ fun v' h' tk vv hit' hs => ?_
    obtain ⟨oi, hoi, hob⟩ := hit'
    have r2 := (r1.ext (h' := h') hb1 hb2 hni1 hnp hs).addPin hoi hni1 hb1 hb2
    have st2 : Stp s₀ { s1 with heap := h', toks := tk } := st1.trans .of
    have okp := ok.pin ((b₀, oi) :: cx.pin)
    have hcp := (hc.mono p1).pin ((b₀, oi) :: cx.pin)
    refine set_ok (cx := { cx with pin := (b₀, oi) :: cx.pin }) hnd hi hil okp r2 vv fun s3 r3 st3 tk3 => ?_
    have hjx : j < xs.length := (List.getElem?_eq_some_iff.mp hx).1
    have back : ∀ {σ5 : St} {ρ5 : List Addr} {s5 : Shared}, ρ1 <+: ρ5 → R G { cx with pin := (b₀, oi) :: cx.pin } ρ5 σ5 s5.heap → I (j + 1) σ5 → Stp s3 s5 → ∃ m', m' < m ∧ CInv G cx pre s₀ I xs.length b₀ ob m' s5 := by
      intro σ5 ρ5 s5 p5 r5 hI5 st5
      obtain ⟨r6, hget, hni6⟩ := r5.dropPin
      exact ⟨m - 1, (dec1 (by assumption) hjx).1, j + 1, σ5, ρ5, (dec1 (by assumption) hjx).2, hjx, hI5, r6, p1.trans p5, (st2.trans st3).trans st5, ⟨oi, hget, hob⟩, hni6⟩
    refine wpAny_with_toks tk3 (DIfs hT n cl _ _ (t1 xv hx) { cx with pin := (b₀, oi) :: cx.pin } ρ1 s3 _ _ okp hcp r3 ?_)
    intro c c' σ4 ρ4 s4 p4 r4 vc hw st4 tk4
    cases vc
    cases c with
    | false => exact back p4 r4 hw st4
    | true =>
      refine hE n cl σ4 _ hw { cx with pin := (b₀, oi) :: cx.pin } ρ4 s4 _ _ okp (hcp.mono p4) r4 tk4 ?_
      intro yv yv' σ5 ρ5 s5 p5 r5 vy hw st5
      exact put_ok1 (cx := { cx with pin := (b₀, oi) :: cx.pin }) (I := I (j + 1)) r5 (pre_get (p1.trans (p4.trans p5)) hD) vy hw fun σ6 s6 r6 hI6 st6 => back (p4.trans p5) r6 hI6 (st4.trans (st5.trans st6))
end
end Mine
namespace Mine
open PySem PySem.W PySem.Calls PyProof.Rows
section
variable {G : Stat}
theorem Ok.hideX {cx : Cx} {ρ X : List Addr} {σ : St} {h : Heap} (r : R G cx ρ σ h) (ok : G.Ok cx.h₀) (hX : ∀ a ∈ X, a ∈ ρ ∨ (a ≠ cx.env.locals ∧ cx.h₀.get? a = none ∧ ∀ p ∈ cx.pin, p.1 ≠ a)) : G.Ok (hideAll h X) := by
  refine ok.keeps fun b o e => hideAll_get _ (r.keep b o e) fun q => ?_
  rcases hX _ q with q | q
  · obtain ⟨i, hi⟩ := List.getElem?_of_mem q
    obtain ⟨_, _, _, _, _, _, h2⟩ := r.own' hi
    rw [h2] at e; cases e
  · rw [q.2.1] at e; cases e
theorem relabel_names {cx : Cx} {n : Nat} {names : List (Str × NameKind)} (ok : CxOk G cx n names) (scope : Scope) : (relabel scope cx.env).names = relN names scope.names := by
  unfold relabel relN
  simp only
  refine List.map_congr_left fun p _ => ?_
  obtain ⟨x, k⟩ := p
  simp only [ok.kind, Env.kindOf, ok.names, beq_self_eq_true, Bool.and_true]
theorem relN_fst (names inner : List (Str × NameKind)) : (relN names inner).map (·.1) = inner.map (·.1) := by
  unfold relN
  rw [List.map_map]
  refine List.map_congr_left fun p _ => ?_
  simp only [Function.comp]
  split <;> rfl
theorem clIn_ok {cx : Cx} {n : Nat} {names : List (Str × NameKind)} {cl fr : List (Option Nat)} {ρ : List Addr} {scope : Scope} {clos : List (Str × Addr)} {C : Addr} {A : Around} {h₀ : Heap} {pin : List (Addr × Obj)} (ok : CxOk G cx n names) (hc : ClOk cx cl ρ)
    (hfr : frOf names scope.names = some fr) (hclos : ∀ x a, (x, NameKind.free) ∈ scope.names → cx.env.cells.lookup x = some a → clos.lookup x = some a) : ClOk ⟨compEnvC scope clos C cx.env, A, h₀, pin⟩ (clIn cl fr) ρ := by
  refine ⟨fun i x k j e1 e2 => ?_⟩
  have e1' : (relN names scope.names)[i]? = some (x, k) := by rw [← relabel_names ok]; exact e1
  unfold clIn at e2
  rw [List.getElem?_map] at e2
  obtain ⟨o, ho, q⟩ := Option.map_eq_some_iff.mp e2
  split at q
  · rename_i qi
    split at q
    · rename_i j' hj
      cases q
      obtain ⟨p, hp, hp2⟩ := mapO_get hfr i _ ho
      obtain ⟨y, k0⟩ := p
      split at hp2
      · rename_i hk0
        have hk0' : k0 = .free := by simpa using hk0
        subst hk0'
        obtain ⟨z, hz, e⟩ := Option.map_eq_some_iff.mp hp2
        cases e
        have hxy : x = y := by
          unfold relN at e1'
          rw [List.getElem?_map, hp] at e1'
          simp only [Option.map_some, Option.some.injEq] at e1'
          split at e1' <;> (cases e1'; rfl)
        subst hxy
        obtain ⟨kk, g1, _⟩ := ix_spec hz
        obtain ⟨a, ha, hl⟩ := hc.at_ qi x kk j (by rw [ok.names]; exact g1) hj
        exact ⟨a, ha, hclos x a (List.mem_of_getElem? hp) hl⟩
      · cases hp2
    · cases q
  · cases q
theorem clos_all {cx : Cx} {n : Nat} {names : List (Str × NameKind)} {cl fr : List (Option Nat)} {ρ : List Addr} {scope : Scope} (ok : CxOk G cx n names) (hc : ClOk cx cl ρ)
    (hfr : frOf names scope.names = some fr) (hall : ∀ q, some q ∈ fr → ∃ j, cl[q]? = some (some j)) :
    ∃ clos, closureFor scope cx.env = pure clos ∧ ∀ x a, (x, NameKind.free) ∈ scope.names → cx.env.cells.lookup x = some a → clos.lookup x = some a := by
  refine closure_of fun x hx => ?_
  obtain ⟨o, ho, e⟩ := mapO_mem hfr _ hx
  simp only [beq_self_eq_true, if_true, lc0, lcS, vS, vI, vR, qSS, qII, qIS, qSI, iII, iSS, niAdd, adS, bII, bSS, biAdd, nS, inO, ltII, o1, o2, lnS, lnR, suR, suS, esN, esC, hkI, hkS, hkR, hkN] at e
  obtain ⟨z, hz, rfl⟩ := Option.map_eq_some_iff.mp e
  obtain ⟨j, hj⟩ := hall z ho
  obtain ⟨kk, g1, _⟩ := ix_spec hz
  obtain ⟨a, _, hl⟩ := hc.at_ z x kk j (by rw [ok.names]; exact g1) hj
  exact ⟨a, hl⟩
structure CompS (G : Stat) (names : List (Str × NameKind)) (elt : Expr) (gens : List Comprehension) (scope : Scope) (turn : Nat → List (Option Nat) → Nat → (St → Prop) → V → St → Prop) (fr : List (Option Nat)) : Prop where
  kind : scope.kind = .function
  nocell : ∀ p ∈ scope.names, p.2 ≠ .cell
  nd : (scope.names.map (·.1)).Nodup
  fr : frOf names scope.names = some fr
  cds : ∀ t ∈ G.codes, t.1 ≠ relN names scope.names
  loop : LoopOk G (relN names scope.names) elt gens scope 0 turn
noncomputable def compQ (G : Stat) (cx : Cx) (elt : Expr) (gens : List Comprehension) (scope : Scope) (pos : Pos) (clos : List (Str × Addr)) (RR : Value → Addr → Result → Shared → Prop) (E : Value → Shared → Prop) (it : Value) (s : Shared) : Prop :=
  wpAny (model G.prog G.w) cx.A (newList []) (fun acc s₃ => wpAny (model G.prog G.w) cx.A (newFunctionEnv scope cx.env.globals clos [] cx.env.qual none .none (some cx.env)) (fun cenv s₄ =>
      codeAny (model G.prog G.w) cx.A (.compStart (.ListComp elt gens scope pos) 0 it acc { cenv with scope := relabel scope cx.env }) (RR acc cenv.locals) s₄) E s₃) E s
theorem comp_block {names : List (Str × NameKind)} {elt target iter : Expr} {ifs : List Expr} {rest : List Comprehension} {scope : Scope} {pos : Pos} {turn : Nat → List (Option Nat) → Nat → (St → Prop) → V → St → Prop} {fr : List (Option Nat)} (S : CompS G names elt (⟨target, iter, ifs, 0⟩ :: rest) scope turn fr)
    {n : Nat} {cl : List (Option Nat)} {cx : Cx} {ρ : List Addr} {σ : St} {s : Shared} {E : Value → Shared → Prop} {RR : Value → Addr → Result → Shared → Prop} {b₀ : Addr} {clos : List (Str × Addr)} (ok : CxOk G cx (n + 1) names) (hc : ClOk cx cl ρ) (r : R G cx ρ σ s.heap)
    (hclos : ∀ x a, (x, NameKind.free) ∈ scope.names → cx.env.cells.lookup x = some a → clos.lookup x = some a)
    (hb1 : b₀ ≠ cx.env.locals) (hb2 : cx.h₀.get? b₀ = none) (hb3 : b₀ ∉ ρ) (hb4 : ∀ p ∈ cx.pin, p.1 ≠ b₀)
    {Nd : List Addr → List O → Prop} {ob : Nat → Obj → Prop} {xs : List V} (Sr : Src G b₀ Nd ob xs) (I : Nat → St → Prop) (Kf : St → Prop) (ho : At0 s.heap b₀ (ob 0)) (need : ∀ j σ' ρ', I j σ' → ρ <+: ρ' → Nd ρ' σ'.hp)
    (hI : I 0 ⟨List.replicate (relN names scope.names).length none, σ.hp ++ [.list []]⟩)
    (ht : ∀ j σ', I j σ' → (∀ x, xs[j]? = some x → turn n (clIn cl fr) σ.hp.length (I (j + 1)) x σ') ∧ (j = xs.length → Kf σ'))
    (hRR : ∀ C m σ' ρ' s' D, Kf σ' → R G cx ρ' ⟨σ.loc, σ'.hp⟩ s'.heap → ρ <+: ρ' → s'.heap.Ns C m → C ≠ cx.env.locals → cx.h₀.get? C = none → C ∉ ρ' → (∀ p ∈ cx.pin, p.1 ≠ C) → Stp s s' → VR ρ' (.ref σ.hp.length) (.ref D) → RR (.ref D) C (.ok .next) s') :
    compQ G cx elt (⟨target, iter, ifs, 0⟩ :: rest) scope pos clos RR E (.ref b₀) s := by
  unfold compQ
  refine wpAny_newObj_type (wpAny_newFunctionEnv S.nocell (by intro y hy; simp at hy) (fun h₁ hns₁ hsb₁ => ?_) S.kind)
  dsimp only at hns₁ hsb₁ ⊢
  have hDsz : s.heap.objs.size = s.heap.objs.size := rfl
  have ra := r.alloc (o := { cls := .type "list", dict := none, data := .seq ([] : List Value).toArray }) (ao := .list []) ⟨[], _, rfl, .nil⟩ rfl
  generalize hH : s.heap.push { cls := .type "list", dict := none, data := .seq ([] : List Value).toArray } = H at hns₁ hsb₁ ra ⊢
  have hHs : H.objs.size = s.heap.objs.size + 1 := by rw [← hH, Heap.size_push]
  have hk₁ : ∀ b o, H.get? b = some o → h₁.get? b = some o := fun b o e => hsb₁.extBut b o (Nat.ne_of_lt (Heap.lt_size e)) (Heap.get?_push_of_some _ e)
  obtain ⟨o₀, ho1, ho2⟩ := ho
  have hob : h₁.get? b₀ = some o₀ := hk₁ _ _ (by rw [← hH]; exact Heap.get?_push_of_some _ ho1)
  have hX : ∀ a ∈ b₀ :: (ρ ++ [s.heap.objs.size]), a ∈ ρ ++ [s.heap.objs.size] ∨ (a ≠ cx.env.locals ∧ cx.h₀.get? a = none ∧ ∀ p ∈ cx.pin, p.1 ≠ a) := fun a ha => by
    cases ha with
    | head => exact .inr ⟨hb1, hb2, hb4⟩
    | tail _ ha => exact .inl ha
  have r1 : R G ⟨compEnvC scope clos H.objs.size cx.env, cx.A, hideAll H (b₀ :: (ρ ++ [s.heap.objs.size])), []⟩ (ρ ++ [s.heap.objs.size]) ⟨List.replicate (relN names scope.names).length none, σ.hp ++ [.list []]⟩ h₁ :=
    R.enterX (loc := σ.loc) ra (fun a ha => .tail _ ha) rfl hns₁ hk₁ (fun i y v _ e2 => by
      rw [List.getElem?_replicate] at e2
      split at e2 <;> cases e2)
  have ok1 : CxOk G ⟨compEnvC scope clos H.objs.size cx.env, cx.A, hideAll H (b₀ :: (ρ ++ [s.heap.objs.size])), []⟩ (n + 1) (relN names scope.names) :=
    ⟨Ok.hideX ra ok.ok hX, relabel_names ok scope, S.kind, ok.glob, ok.bi, fun t ht e => absurd (e.trans (relabel_names ok scope)) (S.cds t ht), ok.hd, ok.dep, ok.uni⟩
  have hb5 : b₀ < s.heap.objs.size := Heap.lt_size ho1
  have hni : b₀ ∉ ρ ++ [s.heap.objs.size] := by
    simp only [List.mem_append, List.mem_singleton, not_or]
    exact ⟨hb3, Nat.ne_of_lt hb5⟩
  have hl1 : ρ.length = σ.hp.length := r.len
  have loop : codeAny (model G.prog G.w) cx.A (.compLoop (.ListComp elt (⟨target, iter, ifs, 0⟩ :: rest) scope pos) 0 (.ref b₀) (.ref s.heap.objs.size) (compEnvC scope clos H.objs.size cx.env)) (RR (.ref s.heap.objs.size) H.objs.size) { s with heap := h₁, toks := s.toks + ([] : List (Str × Value)).length } := by
    refine S.loop pos n (clIn cl fr) ⟨compEnvC scope clos H.objs.size cx.env, cx.A, hideAll H (b₀ :: (ρ ++ [s.heap.objs.size])), []⟩ (ρ ++ [s.heap.objs.size]) s _ _ σ.hp.length b₀ s.heap.objs.size ok1 (clIn_ok ok (hc.mono (pre_snoc _ _)) S.fr hclos) (fun q hq => nomatch hq)
      (by rw [← hl1]; simp) ?_ (hideAll_none _ (.head _)) Nd ob xs Sr I Kf (fun j σ' ρ' h1 h2 => need j σ' ρ' h1 ((pre_snoc _ _).trans h2)) ht ?_ _ hI r1 ⟨o₀, hob, ho2⟩ hni .of
    · show b₀ ≠ H.objs.size
      rw [hHs]; exact Nat.ne_of_lt (Nat.lt_succ_of_lt hb5)
    · intro σ' ρ' s' hK r' p' st'
      obtain ⟨m', F', _⟩ := r'.fr
      have rl : R G cx ρ' ⟨σ.loc, σ'.hp⟩ s'.heap := R.leaveX (loc := σ.loc) (loc' := σ'.loc) ra hX r' p'
      have fresh : s.heap.objs.size ≤ H.objs.size := by rw [hHs]; exact Nat.le_succ _
      refine hRR H.objs.size m' σ' ρ' s' s.heap.objs.size hK rl ((pre_snoc _ _).trans p') F'.ns ?_ ?_ ?_ ?_ st' ⟨s.heap.objs.size, ?_, rfl⟩
      · exact Nat.ne_of_gt (Nat.lt_of_lt_of_le r.llt fresh)
      · cases hq : cx.h₀.get? H.objs.size with
        | none => rfl
        | some o' => exact absurd (Heap.lt_size (r.keep _ _ hq)) (Nat.not_lt.mpr fresh)
      · intro hm
        obtain ⟨q, hq⟩ := List.getElem?_of_mem hm
        obtain ⟨_, _, _, _, _, z, _⟩ := r'.own' hq
        exact z rfl
      · intro p hp
        exact Nat.ne_of_lt (Nat.lt_of_lt_of_le (Heap.lt_size (r.pin p hp).1) fresh)
      · exact pre_get p' (by rw [← hl1]; simp)
  exact codeAny_compStart_list loop (Sr.self _ _ _ _ ⟨o₀, hob, ho2⟩ loop)
end
end Mine
namespace Mine
open PySem PySem.W PySem.Calls PyProof.Rows
section
variable {G : Stat}
theorem comp_iter {names : List (Str × NameKind)} {elt target iter : Expr} {ifs : List Expr} {rest : List Comprehension} {scope : Scope} {pos : Pos} {tn : Nat → List (Option Nat) → Nat → (St → Prop) → V → St → Prop} {fr : List (Option Nat)} (S : CompS G names elt (⟨target, iter, ifs, 0⟩ :: rest) scope tn fr)
    {n : Nat} {cl : List (Option Nat)} {cx : Cx} {ρ : List Addr} {σ : St} {s : Shared} {E : Value → Shared → Prop} {RR : Value → Addr → Result → Shared → Prop} {clos : List (Str × Addr)} {v : V} {v' : Value} {K : V → St → Prop} (ok : CxOk G cx (n + 1) names) (hc : ClOk cx cl ρ) (r : R G cx ρ σ s.heap)
    (hclos : ∀ x a, (x, NameKind.free) ∈ scope.names → cx.env.cells.lookup x = some a → clos.lookup x = some a)
    (vv : VR ρ v v') (hw : wpIterG (tn n (clIn cl fr)) (relN names scope.names).length v σ K)
    (hRR : ∀ C m hp' ρ' s' D, K (.ref σ.hp.length) ⟨σ.loc, hp'⟩ → R G cx ρ' ⟨σ.loc, hp'⟩ s'.heap → ρ <+: ρ' → s'.heap.Ns C m → C ≠ cx.env.locals → cx.h₀.get? C = none → C ∉ ρ' → (∀ p ∈ cx.pin, p.1 ≠ C) → Stp s s' → VR ρ' (.ref σ.hp.length) (.ref D) → RR (.ref D) C (.ok .next) s') :
    wpAny (model G.prog G.w) cx.A (pyIter v') (compQ G cx elt (⟨target, iter, ifs, 0⟩ :: rest) scope pos clos RR E) E s := by
  have key : ∀ xs, srcOf G σ.hp v xs → ∀ I : Nat → St → Prop, I 0 ⟨List.replicate (relN names scope.names).length none, σ.hp ++ [.list []]⟩ → (∀ j σ', I j σ' → (∀ q, v = .ref q → σ.hp[q]? = some (.list xs) → σ'.hp[q]? = some (.list xs)) ∧
      (∀ x, xs[j]? = some x → tn n (clIn cl fr) σ.hp.length (I (j + 1)) x σ') ∧ (j = xs.length → K (.ref σ.hp.length) ⟨σ.loc, σ'.hp⟩)) → wpAny (model G.prog G.w) cx.A (pyIter v') (compQ G cx elt (⟨target, iter, ifs, 0⟩ :: rest) scope pos clos RR E) E s := fun xs hs I hI turn => by
    refine iter_src (E := E) ok.ok r vv hs (fun ρ' hp' => ρ <+: ρ' ∧ ∃ j loc, I j ⟨loc, hp'⟩) ?_ ?_
    · rintro q a rfl e ha ρ' hp' ⟨p, j, loc, hj⟩
      exact ⟨pre_get p ha, (turn j _ hj).1 q rfl e⟩
    · rintro o ⟨ob, Sr, h0', hf⟩
      refine comp_block (σ := σ) S ok hc (r.push o) hclos (Nat.ne_of_gt r.llt) r.base_lt r.notin r.pinlt Sr I (fun σ' => K (.ref σ.hp.length) ⟨σ.loc, σ'.hp⟩) ⟨o, Heap.get?_push_size _ hf, h0'⟩ (fun j σ' ρ' hj p => ⟨p, j, σ'.loc, hj⟩) hI (fun j σ' hj => (turn j σ' hj).2) ?_
      intro C m σ' ρ' s' D hK r' p' hn h1 h2 h3 h4 st vD
      exact hRR C m σ'.hp ρ' s' D hK r' p' hn h1 h2 h3 h4 ((Stp.of (s := s)).trans st) vD
  cases v with
  | ref q =>
    have hw : (match σ.hp[q]? with
        | some (.rng lo hi) => fits lo ∧ fits hi ∧ ∃ I : Nat → St → Prop, I 0 ⟨List.replicate (relN names scope.names).length none, σ.hp ++ [.list []]⟩ ∧ ∀ (j : Nat) σ', I j σ' →
            (lo + j < hi → tn n (clIn cl fr) σ.hp.length (I (j + 1)) (.int (lo + j)) σ') ∧ (j = (hi - lo).toNat → K (.ref σ.hp.length) ⟨σ.loc, σ'.hp⟩)
        | some (.list xs) => ∃ I : Nat → St → Prop, I 0 ⟨List.replicate (relN names scope.names).length none, σ.hp ++ [.list []]⟩ ∧ ∀ (j : Nat) σ', I j σ' → σ'.hp[q]? = some (.list xs) ∧
            (∀ x, xs[j]? = some x → tn n (clIn cl fr) σ.hp.length (I (j + 1)) x σ') ∧ (j = xs.length → K (.ref σ.hp.length) ⟨σ.loc, σ'.hp⟩)
        | _ => False) := hw
    revert hw
    cases e : σ.hp[q]? with
    | none => exact False.elim
    | some o => cases o with
      | rng lo hi =>
        rintro ⟨hlo, hhi, I, hI, turn⟩
        refine key (rngL lo hi) (by unfold srcOf; simp only [e]; exact ⟨hlo, hhi, trivial⟩) I hI fun j σ' hj => ⟨fun q' h1 h2 => (by cases h1; rw [e] at h2; cases h2), fun x hx => ?_, fun hl => (turn j σ' hj).2 (by rw [rngL_len] at hl; exact hl)⟩
        obtain ⟨h1, rfl⟩ := rngL_at hx
        exact (turn j σ' hj).1 h1
      | list xs =>
        rintro ⟨I, hI, turn⟩
        exact key xs (by unfold srcOf; simp only [e]) I hI fun j σ' hj => ⟨fun q' h1 h2 => (by cases h1; exact (turn j σ' hj).1), (turn j σ' hj).2⟩
      | _ => exact False.elim
  | _ => exact False.elim hw
theorem comp_hnames {names : List (Str × NameKind)} {elt : Expr} {gens : List Comprehension} {scope : Scope} {tn : Nat → List (Option Nat) → Nat → (St → Prop) → V → St → Prop} {fr : List (Option Nat)} (S : CompS G names elt gens scope tn fr) :
    ∀ y ∈ scope.names, y.2 = .local → scope.names.lookup y.1 = some .local := by
  intro y hy hl
  obtain ⟨j, hj⟩ := List.getElem?_of_mem hy
  obtain ⟨z, k⟩ := y
  simp only at hl; subst hl
  exact names_lookup S.nd hj
theorem DE_comp {names : List (Str × NameKind)} {elt target iter : Expr} {ifs : List Expr} {rest : List Comprehension} {scope : Scope} {pos : Pos} {iit : IE} {tn : Stat → Nat → List (Option Nat) → Nat → (St → Prop) → V → St → Prop} {fr : List (Option Nat)} (S : CompS G names elt (⟨target, iter, ifs, 0⟩ :: rest) scope (tn G) fr)
    (hset : isSetE iter = false) (hit : DE G names iter iit) : DE G names (.ListComp elt (⟨target, iter, ifs, 0⟩ :: rest) scope pos) (.comp (wpCompG tn iit (relN names scope.names).length fr)) := by
  intro n cl σ K hw cx ρ s Q E ok hc r hQ
  simp only [eK, eLoc, eCel, eStat, eBin, eCmp, eIfe, eList, eTup, eAttr, eMattr, eCall, eNew, eBf, eBm, eUm, eAm, eSub, eSli, eComp, lc0, lcS, vS, vI, vR, qSS, qII, qIS, qSI, iII, iSS, niAdd, adS, bII, bSS, biAdd, nS, inO, ltII, o1, o2, lnS, lnR, suR, suS, esN, esC, hkI, hkS, hkR, hkN] at hw
  obtain ⟨hall, hw⟩ := hw
  obtain ⟨clos, hcl1, hcl2⟩ := clos_all ok hc S.fr hall
  rw [eval_ListComp]
  refine wpAny_comprehension_free (use := none) rfl (folded_ok hset _) hcl1 S.kind (comp_hnames S) ?_
  refine hit n cl σ _ hw cx ρ s _ _ ok hc r ?_
  intro v v' σ1 ρ1 s1 p1 r1 vv hw st1
  refine comp_iter (RR := fun acc C => compPost (model G.prog G.w) cx.A E none Q acc C) S ok (hc.mono p1) r1 hcl2 vv hw ?_
  intro C m hp' ρ' s' D hK r' p' hn h1 h2 h3 h4 st' vD
  refine ⟨m, hn, fun h' hs => ?_⟩
  exact hQ _ _ _ ρ' { s' with heap := h' } (p1.trans p') (r'.ext h1 h2 h3 h4 hs.extBut) vD hK (st1.trans (st'.trans .of))
theorem DS_assignComp {names : List (Str × NameKind)} {elt target iter : Expr} {y : Str} {py : Pos} {ifs : List Expr} {rest : List Comprehension} {scope : Scope} {pos spos : Pos} {iit : IE} {iy : Nat} {tn : Stat → Nat → List (Option Nat) → Nat → (St → Prop) → V → St → Prop} {fr : List (Option Nat)} (S : CompS G names elt (⟨target, iter, ifs, 0⟩ :: rest) scope (tn G) fr)
    (hset : isSetE iter = false) (hit : DE G names iter iit) (hnd : (names.map (·.1)).Nodup) (hiy : ix names y = some iy) (hyl : ∃ z, names[iy]? = some (z, .local)) (hline : (py.line == pos.line) = true) (hyn : (scope.names.any fun p => p.1 == y && (p.2 == .local || p.2 == .cell)) = false) :
    DS G names (.Assign [.Name y py] (.ListComp elt (⟨target, iter, ifs, 0⟩ :: rest) scope pos) spos) (.assign (.loc iy) (.comp (wpCompG tn iit (relN names scope.names).length fr))) := by
  intro n cl k σ K hw cx ρ s Q E ok hc hlt hk r hQ
  simp only [sAssign, sAugL, sAugA, sAugS, sExpr, sIte, sWhl, sFor, sRet, sBrk, sCont, sDefn, eK, eLoc, eCel, eStat, eBin, eCmp, eIfe, eList, eTup, eAttr, eMattr, eCall, eNew, eBf, eBm, eUm, eAm, eSub, eSli, eComp, lc0, lcS, vS, vI, vR, qSS, qII, qIS, qSI, iII, iSS, niAdd, adS, bII, bSS, biAdd, nS, inO, ltII, o1, o2, lnS, lnR, suR, suS, esN, esC, hkI, hkS, hkR, hkN] at hw
  obtain ⟨hall, hw⟩ := hw
  obtain ⟨clos, hcl1, hcl2⟩ := clos_all ok hc S.fr hall
  obtain ⟨kk, g1, g2⟩ := ix_spec hiy
  obtain ⟨z, hz⟩ := hyl
  rw [g1] at hz; cases hz
  have hky : cx.env.kindOf y = some .local := kindOf_of ok g2
  have hsw : swapsWith (.ListComp elt (⟨target, iter, ifs, 0⟩ :: rest) scope pos) (some (.Name y py)) spos.line cx.env = pure true := by
    show (pure (cx.env.blockKind == .function && cx.env.kindOf y == some .local && py.line == (Expr.ListComp elt (⟨target, iter, ifs, 0⟩ :: rest) scope pos).pos.line && !(scope.names.any fun p => p.1 == y && (p.2 == .local || p.2 == .cell))) : Sem Bool) = pure true
    rw [hyn, hky]
    have : cx.env.blockKind = .function := by unfold Env.blockKind; rw [ok.kind]; rfl
    rw [this]
    show (pure (true && true && (py.line == pos.line) && true) : Sem Bool) = _
    rw [hline]; rfl
  rw [exec_Assign_Name_used _ _ _ _ hsw]
  refine wpAny_bind (wpAny_standAt (wpAny_bind ?_))
  show wpAny _ cx.A (do let _ ← comprehension (.ListComp elt (⟨target, iter, ifs, 0⟩ :: rest) scope pos) scope cx.env _ (newList []) false (eval iter cx.env) (some (assign (.Name y py) cx.env))) _ _ s
  refine wpAny_bind (wpAny_mono (wpAny_comprehension_free (use := some (assign (.Name y py) cx.env)) (Q := fun _ s' => Q .next s') rfl (folded_ok hset _) hcl1 S.kind (comp_hnames S) ?_) (fun _ s' hq => wpAny_pure (wpAny_pure hq)) fun _ _ e => e)
  refine hit n cl σ _ hw cx ρ s _ _ ok hc r ?_
  intro v v' σ1 ρ1 s1 p1 r1 vv hw st1
  refine comp_iter (RR := fun acc C => compPost (model G.prog G.w) cx.A E (some (assign (.Name y py) cx.env)) (fun _ s' => Q .next s') acc C) S ok (hc.mono p1) r1 hcl2 vv hw ?_
  intro C m hp' ρ' s' D hK r' p' hn h1 h2 h3 h4 st' vD
  show wpAny _ cx.A (assign (.Name y py) cx.env (.ref D)) _ _ _
  obtain ⟨mm, F, hl⟩ := r'.fr
  simp only [gLoc, gCel, gAttr, gSub, gTup, lc0, lcS, vS, vI, vR, qSS, qII, qIS, qSI, iII, iSS, niAdd, adS, bII, bSS, biAdd, nS, inO, ltII, o1, o2, lnS, lnR, suR, suS, esN, esC, hkI, hkS, hkR, hkN] at hK
  refine wpAny_assign_Name (wpAny_storeName_local hky F.ns (fun h₂ hn₂ hs₂ => ?_) (by rw [ok.kind]; rfl))
  refine ⟨m, hn.sameBut hs₂ h1, fun h₃ hs₃ => ?_⟩
  have r2 := r'.loc hn₂ hs₂ (loc' := σ1.loc.set iy (some (.ref σ1.hp.length))) (by rw [ok.names] at hl ⊢; exact loc_set hnd hl g1 vD)
  exact hQ _ _ _ ρ' { s' with heap := h₃, toks := s'.toks + 1 } (Pk.of_pre (p1.trans p') hk) (r2.ext h1 h2 h3 h4 hs₃.extBut) .next hK.2 (st1.trans (st'.trans .of))
noncomputable def wpRep (x : IE) (c : Nat) (b : List Nat) (G : Stat) (n : Nat) (cl : List (Option Nat)) (σ : St) (K : V → St → Prop) : Prop := wpE G n cl x σ fun v σ => isS v fun cs => cs.length ≤ 100000 ∧ K (.str (rep c b cs)) σ
theorem DEp_rep {names : List (Str × NameKind)} {e X : Expr} {x : IE} {c : Nat} {b : List Nat} (hX : DX G names X x) (h : IsRepl e X c b) : DEp G names e (.comp (wpRep x c b)) := by
  intro n cl σ K hw cx ρ s Q E ok hc r tk hQ
  refine repl_rule (G := G) h (hX n cl σ _ hw cx ρ s _ _ ok hc r ?_)
  intro v v' k hk vv hw
  obtain ⟨cs, e0, hlen, hK⟩ := isS_sp hw
  subst e0
  obtain ⟨t, rfl⟩ := vv
  exact ⟨cs, t, rfl, hlen, Nat.le_trans tk hk, fun t' k' _ => r.tok hQ (v := .str (rep c b cs)) ⟨t', rfl⟩ hK⟩
noncomputable def cEl (names : List (Str × NameKind)) (gl : List (Str × Value)) (C : Addr) (f : Nat) (e : Expr) : Option IE :=
  alt ((asRepl e).bind fun r => (cX names gl r.1.1).bind fun x => some (.comp (wpRep x r.1.2.1 r.1.2.2))) (cE names gl C (fun _ => none) f e)
theorem cEl_ok {names : List (Str × NameKind)} {gl : List (Str × Value)} (gc : G.Cls) (hgl : GlOk G gl) {f : Nat} {e : Expr} {ie : IE} (h : cEl names gl G.C f e = some ie) : DEp G names e ie := by
  rcases alt_sp h with h | h
  · obtain ⟨r, h⟩ := bind_of h
    obtain ⟨x, e1, h⟩ := bind_sp h
    cases h
    exact DEp_rep (cX_ok e1) r.2
  · exact ((comp_ok gc hgl (fun e ie h => nos h) f).1 _ _ h).p
noncomputable def compC (names : List (Str × NameKind)) (gl : List (Str × Value)) (C : Addr) (cds : List (List Str)) (f : Nat) (elt : Expr) (x : Str) (iter : Expr) (ifs : List Expr) (scope : Scope) : Option IE :=
  when (scope.kind == .function && scope.names.all (fun p => !(p.2 == .cell)) && decide (scope.names.map (·.1)).Nodup && !isSetE iter && !(cds.contains (scope.names.map (·.1))))
    ((ix (relN names scope.names) x).bind fun i => (cEl (relN names scope.names) gl C f elt).bind fun e => (cE names gl C (fun _ => none) f iter).bind fun it => (mapO (cT (relN names scope.names) gl C (fun _ => none) f) ifs).bind fun is => (frOf names scope.names).bind fun fr =>
      ((relN names scope.names)[i]?).bind fun p => when (p.2 == .local) (some (.comp (wpComp e i it is (relN names scope.names).length fr))))
structure Cmp (e : Expr) where
  elt : Expr
  x : Str
  px : Pos
  iter : Expr
  ifs : List Expr
  scope : Scope
  pos : Pos
  eq : e = .ListComp elt [⟨.Name x px, iter, ifs, 0⟩] scope pos
noncomputable def asComp : (e : Expr) → Option (Cmp e)
  | .ListComp elt [⟨.Name x px, iter, ifs, 0⟩] scope pos => some ⟨elt, x, px, iter, ifs, scope, pos, rfl⟩
  | _ => none
noncomputable def extC (names : List (Str × NameKind)) (gl : List (Str × Value)) (C : Addr) (cds : List (List Str)) (f : Nat) (e : Expr) : Option IE :=
  (asComp e).bind fun q => compC names gl C cds f q.elt q.x q.iter q.ifs q.scope
theorem compC_ok {names : List (Str × NameKind)} {gl : List (Str × Value)} {cds : List (List Str)} (gc : G.Cls) (hgl : GlOk G gl) (hcds : ∀ t ∈ G.codes, t.1.map (·.1) ∈ cds) {f : Nat} {elt : Expr} {x : Str} {iter : Expr} {ifs : List Expr} {scope : Scope} {ie : IE} (h : compC names gl G.C cds f elt x iter ifs scope = some ie) :
    ∃ ielt i iit iifs fr, (∀ px, CompS G names elt [⟨.Name x px, iter, ifs, 0⟩] scope (turn1 ielt i iifs G) fr) ∧ isSetE iter = false ∧ DE G names iter iit ∧ ie = .comp (wpComp ielt i iit iifs (relN names scope.names).length fr) := by
  obtain ⟨hcond, h⟩ := when_sp h
  simp only [Bool.and_eq_true, Bool.not_eq_true', decide_eq_true_eq, List.all_eq_true, beq_iff_eq] at hcond
  obtain ⟨⟨⟨⟨c1, c2⟩, c3⟩, c4⟩, c5⟩ := hcond
  obtain ⟨i, e1, h⟩ := bind_sp h
  obtain ⟨e, e2, h⟩ := bind_sp h
  obtain ⟨it, e3, h⟩ := bind_sp h
  obtain ⟨is, e4, h⟩ := bind_sp h
  obtain ⟨fr, e5, h⟩ := bind_sp h
  obtain ⟨⟨y, k⟩, e6, h⟩ := bind_sp h
  obtain ⟨hk, h⟩ := when_sp h
  cases h
  have hk : k = .local := eq_of_beq hk
  subst hk
  have no : ∀ nm : List (Str × NameKind), ∀ e ie, (fun _ : Expr => (none : Option IE)) e = some ie → DE G nm e ie := fun nm e ie h => by cases h
  refine ⟨e, i, it, is, fr, fun px => ⟨c1, fun p hp q => by have := c2 p hp; rw [q] at this; simp at this, c3, e5, fun t ht q => ?_, comp_loop rfl rfl (by rw [relN_fst]; exact c3) e1 ⟨y, e6⟩ (cEl_ok gc hgl e2) (all2_of (comp_ok gc hgl (no _) f).2 e4)⟩, c4, (comp_ok gc hgl (no _) f).1 _ _ e3, rfl⟩
  have z := hcds t ht
  rw [q, relN_fst] at z
  rw [List.contains_eq_mem] at c5
  simp only [decide_eq_false_iff_not] at c5
  exact c5 z
theorem extC_ok {names : List (Str × NameKind)} {gl : List (Str × Value)} {cds : List (List Str)} (gc : G.Cls) (hgl : GlOk G gl) (hcds : ∀ t ∈ G.codes, t.1.map (·.1) ∈ cds) (f : Nat) : ∀ e ie, extC names gl G.C cds f e = some ie → DE G names e ie := by
  intro e ie h
  obtain ⟨q, h⟩ := bind_of h
  obtain ⟨ielt, i, iit, iifs, fr, S, h1, h2, rfl⟩ := compC_ok gc hgl hcds h
  exact .eq q.eq (DE_comp (S _) h1 h2)
theorem DS.eq {names : List (Str × NameKind)} {s s' : Stmt} {is : IS} (h : s = s') (d : DS G names s' is) : DS G names s is := h ▸ d
theorem asg_congr {ts : List Expr} {t t' v v' : Expr} {p : Pos} (h0 : ts = [t]) (h1 : t = t') (h2 : v = v') : Stmt.Assign ts v p = .Assign [t'] v' p := by rw [h0, h1, h2]
noncomputable def extS (names : List (Str × NameKind)) (gl : List (Str × Value)) (C : Addr) (cds : List (List Str)) (f : Nat) (more : Stmt → Option IS) (st : Stmt) : Option IS := match st with
  | .Assign ts v _ => (one ts).bind fun t => (asName t).bind fun y => (asComp v).bind fun q =>
      when (y.1.2.line == q.pos.line && !(q.scope.names.any fun p => p.1 == y.1.1 && (p.2 == .local || p.2 == .cell)))
        ((compC names gl C cds f q.elt q.x q.iter q.ifs q.scope).bind fun ie => (ix names y.1.1).bind fun iy => (names[iy]?).bind fun p => when (p.2 == .local) (some (.assign (.loc iy) ie)))
  | st => more st
theorem extS_ok {names : List (Str × NameKind)} {gl : List (Str × Value)} {cds : List (List Str)} {more : Stmt → Option IS} (gc : G.Cls) (hgl : GlOk G gl) (hcds : ∀ t ∈ G.codes, t.1.map (·.1) ∈ cds) (hnd : (names.map (·.1)).Nodup) (f : Nat) (hm : ∀ s is, more s = some is → DS G names s is) :
    ∀ s is, extS names gl G.C cds f more s = some is → DS G names s is := by
  intro s is h
  cases s with
  | Assign ts v p =>
    obtain ⟨t, e0, h⟩ := bind_sp (a := one ts) h
    obtain ⟨y, h⟩ := bind_of h
    obtain ⟨q, h⟩ := bind_of h
    obtain ⟨hcond, h⟩ := when_sp h
    simp only [Bool.and_eq_true, Bool.not_eq_true'] at hcond
    obtain ⟨ie, e3, h⟩ := bind_sp h
    obtain ⟨iy, e4, h⟩ := bind_sp h
    obtain ⟨⟨z, k⟩, e5, h⟩ := bind_sp h
    obtain ⟨hk, h⟩ := when_sp h
    cases h
    have hk : k = .local := eq_of_beq hk
    subst hk
    obtain ⟨ielt, i, iit, iifs, fr, S, h1, h2, rfl⟩ := compC_ok gc hgl hcds e3
    exact .eq (asg_congr (one_sp e0) y.2 q.eq) (DS_assignComp (S _) h1 h2 hnd e4 ⟨z, e5⟩ hcond.1 hcond.2)
  | _ => exact hm _ _ h
end
end Mine
namespace Mine
open PySem PySem.W PySem.Calls PyProof.Rows
theorem lt_of_get {α : Type} {l : List α} {i : Nat} {o : α} (h : l[i]? = some o) : i < l.length := (List.getElem?_eq_some_iff.mp h).1
theorem clip_nat {n : Nat} (k : Nat) : clipAt n (k : Int) = min k n :=
  Int.ofNat.inj (by
    show ((clipAt n k : Nat) : Int) = ((min k n : Nat) : Int)
    rw [clipAt_cast, if_neg (Int.not_lt.mpr (Int.natCast_nonneg k))]
    rcases Nat.le_total k n with h | h
    · rw [Int.min_eq_left (Int.ofNat_le.mpr h), Nat.min_eq_left h, Int.max_eq_right (Int.natCast_nonneg _)]
    · rw [Int.min_eq_right (Int.ofNat_le.mpr h), Nat.min_eq_right h, Int.max_eq_right (Int.natCast_nonneg _)])
theorem clip_small {n k : Nat} (h : k ≤ n) : clipAt n (k : Int) = k := (clip_nat k).trans (Nat.min_eq_left h)
theorem fit1000 {i : Int} (h1 : -10 ≤ i) (h2 : i ≤ 100000) : fits i := by unfold fits lim; omega
theorem fitN {i : Nat} (h : i ≤ 100000) : fits (i : Int) := fit1000 (Int.le_trans (by decide) (Int.natCast_nonneg i)) (Int.ofNat_le.mpr h)
theorem idx_at {k n : Nat} (h : k < n) : idx (k : Int) n = some k := by unfold idx; rw [if_pos (by omega), if_pos (by omega)]; rfl
theorem onI_is {hp : List O} {v : V} {d : Nat} {fs : List (At × V)} {k : Nat → List (At × V) → Prop} (e : instAt hp v = some (d, fs)) : onI hp v k = k d fs := by unfold onI; rw [e]
theorem onT_list {hp : List O} {i : Nat} {k : Bool → List V → Prop} {xs : List V} (e : hp[i]? = some (.list xs)) : onT hp i k = k false xs := by unfold onT; rw [e]
theorem onT_tup {hp : List O} {i : Nat} {k : Bool → List V → Prop} {xs : List V} (e : hp[i]? = some (.tup xs)) : onT hp i k = k true xs := by unfold onT; rw [e]
theorem subL_is {xs : List V} {k : Nat} {x : V} {K : V → Prop} (h : xs[k]? = some x) : subL xs (k : Int) K = K x := by
  have hl := lt_of_get h
  unfold subL
  rw [idx_at hl]
  simp only [h]
theorem idx_last {n : Nat} : idx (-1) (n + 1) = some n := by unfold idx; rw [if_neg (by decide), if_pos (by omega), show (-1 + ((n + 1 : Nat) : Int)).toNat = n by omega]
theorem subL_last {xs : List V} {x : V} {K : V → Prop} : subL (xs ++ [x]) (-1) K = K x := by
  unfold subL
  rw [List.length_append, show xs.length + [x].length = xs.length + 1 from rfl, idx_last]
  simp only [List.getElem?_concat_length]
theorem onC_is {cl : List (Option Nat)} {hp : List O} {i j : Nat} {v : Option V} {k : Nat → Option V → Prop} (h1 : cl[i]? = some (some j)) (h2 : hp[j]? = some (.cell v)) : onC cl hp i k = k j v := by unfold onC; simp only [h1, h2]
theorem onA_is {fs : List (At × V)} {a : At} {k : V → Prop} {x : V} (e : getA a fs = some x) (h : hok x = true) : onA fs a k = k x := by unfold onA; rw [e]; exact propext ⟨fun h => h.2, fun h' => ⟨h, h'⟩⟩
section
variable {G : Stat} {n k i : Nat} {σ : St} {K : Fl → St → Prop} {wt : V → St → (St → Prop) → Prop} {wb : Nat → St → (Fl → St → Prop) → Prop}
variable {cl : List (Option Nat)} {s : IS} {r : List IS}
theorem sqN : sq G n cl k r K .next σ = wpSs G n cl k r σ K := rfl
theorem for_from {a N : Nat} (h : σ.hp[i]? = some (.rng (a : Int) (N : Int))) (ha : a ≤ N) (hN : N ≤ 100000) (I : Nat → St → Prop) (h0 : I a σ) (hs : ∀ (j : Nat) σ, j < N → I j σ → wt (.int (j : Nat)) σ fun σ => wb k σ (aft K (I (j + 1)))) (he : ∀ σ, I N σ → K .next σ) : forV wt wb k G n (.ref i) σ K := by
  rw [fvR, h]
  show forO wt wb k G n i _ σ K
  rw [foR]
  refine ⟨fitN (Nat.le_trans ha hN), fitN hN, fun j => I (a + j), h0, fun j σ hj => ⟨fun hl => ?_, fun e => he σ ?_⟩⟩
  · have := hs (a + j) σ (by omega) hj
    rw [show (a : Int) + j = ((a + j : Nat) : Int) by omega]
    exact this
  · subst e
    rw [show a + ((N : Int) - (a : Int)).toNat = N by omega] at hj
    exact hj
theorem for_nat {N : Nat} (h : σ.hp[i]? = some (.rng 0 (N : Int))) (hN : N ≤ 100000) (I : Nat → St → Prop) (h0 : I 0 σ) (hs : ∀ (j : Nat) σ, j < N → I j σ → wt (.int (j : Nat)) σ fun σ => wb k σ (aft K (I (j + 1)))) (he : ∀ σ, I N σ → K .next σ) : forV wt wb k G n (.ref i) σ K :=
  for_from (a := 0) h (Nat.zero_le _) hN I h0 hs he
theorem for_list {xs : List V} (h : σ.hp[i]? = some (.list xs)) (k' : Nat) (hk : k ≤ k') (hi : i < k') (hl : k' ≤ σ.hp.length) (hx : ∀ x ∈ xs, V.lt k' x) (I : Nat → St → Prop) (h0 : I 0 σ) (hg : ∀ (j : Nat) σ, I j σ → σ.hp[i]? = some (.list xs)) (hs : ∀ (j : Nat) σ x, xs[j]? = some x → I j σ → wt x σ fun σ => wb k' σ (aft K (I (j + 1)))) (he : ∀ σ, I xs.length σ → K .next σ) : forV wt wb k G n (.ref i) σ K := by
  rw [fvR, h]
  show forO wt wb k G n i _ σ K
  rw [foL]
  exact ⟨k', I, hk, hi, hl, hx, h0, fun j σ hj => ⟨hg j σ hj, fun x e => hs j σ x e hj, fun e => he σ (e ▸ hj)⟩⟩
end
theorem pop_is {σ : St} {K : V → St → Prop} {i k : Nat} {x : V} {xs : List V} (h : σ.hp[i]? = some (.list xs)) (hx : xs[k]? = some x) (hl : xs.length ≤ 100000) : wpBm .pop (.ref i) [.int (k : Nat)] σ K = K x { σ with hp := σ.hp.set i (.list (xs.eraseIdx k)) } := by
  show wPop i (k : Int) σ K = _
  unfold wPop
  rw [onL_is h, Int.toNat_natCast, hx]
  exact propext ⟨fun h => h.2.2.2, fun h => ⟨Int.natCast_nonneg _, Int.ofNat_lt.mpr (lt_of_get hx), Nat.le_trans hl (by decide), h⟩⟩
section
variable {text : List Nat} {hp : List O} {loc : List (Option V)} {K : V → St → Prop}
theorem sub_is {i k : Nat} {x : V} {xs : List V} (h : hp[i]? = some (.list xs)) (hx : xs[k]? = some x) (hk : k ≤ 100000) : wpSub (.ref i) (.int (k : Nat)) ⟨loc, hp⟩ K = K x ⟨loc, hp⟩ := by
  rw [suR, onT_list h, subL_is hx]
  exact propext ⟨fun h => h.2, fun h => ⟨fitN hk, h⟩⟩
end
theorem app_is {σ : St} {K : V → St → Prop} {i : Nat} {x : V} {xs : List V} (h : σ.hp[i]? = some (.list xs)) (hl : xs.length ≤ 100000) : wpBm .append (.ref i) [x] σ K = K .none { σ with hp := σ.hp.set i (.list (xs ++ [x])) } := by
  show (isR (.ref i) fun i => one1 [x] fun x => onL σ.hp i fun xs => xs.length ≤ big ∧ K .none { σ with hp := σ.hp.set i (.list (xs ++ [x])) }) = _
  show (onL σ.hp i fun xs => xs.length ≤ big ∧ K .none { σ with hp := σ.hp.set i (.list (xs ++ [x])) }) = _
  rw [onL_is h]
  exact propext ⟨fun h => h.2, fun h => ⟨Nat.le_trans hl (by decide), h⟩⟩
theorem subS_is {cs : List Nat} {k : Nat} {c : Nat} {K : V → Prop} (h : cs[k]? = some c) : subS cs (k : Int) K = K (.str [c]) := by
  unfold subS
  rw [idx_at (lt_of_get h)]
  simp only [h]
theorem map_get {α : Type} {f : α → V} {xs : List α} {j : Nat} {x : V} (h : (xs.map f)[j]? = some x) : ∃ a, xs[j]? = some a ∧ x = f a := by
  rw [List.getElem?_map] at h
  cases e : xs[j]? with
  | none => rw [e] at h; cases h
  | some a => rw [e] at h; cases h; exact ⟨a, rfl, rfl⟩
theorem get_map {α : Type} {f : α → V} {xs : List α} {j : Nat} {a : α} (h : xs[j]? = some a) : (xs.map f)[j]? = some (f a) := by rw [List.getElem?_map, h]; rfl
theorem ifp {c A B : Prop} [Decidable c] (h : c) (ha : A) : if c then A else B := by rw [if_pos h]; exact ha
theorem ifn {c A B : Prop} [Decidable c] (h : ¬ c) (hb : B) : if c then A else B := by rw [if_neg h]; exact hb
theorem onL_mk {hp : List O} {i : Nat} {k : List V → Prop} {xs : List V} (e : hp[i]? = some (.list xs)) (h : k xs) : onL hp i k := by rw [onL_is e]; exact h
theorem onI_mk {hp : List O} {v : V} {d : Nat} {fs : List (At × V)} {k : Nat → List (At × V) → Prop} (e : instAt hp v = some (d, fs)) (h : k d fs) : onI hp v k := by rw [onI_is e]; exact h
theorem onT_mkL {hp : List O} {i : Nat} {k : Bool → List V → Prop} {xs : List V} (e : hp[i]? = some (.list xs)) (h : k false xs) : onT hp i k := by rw [onT_list e]; exact h
theorem onT_mkT {hp : List O} {i : Nat} {k : Bool → List V → Prop} {xs : List V} (e : hp[i]? = some (.tup xs)) (h : k true xs) : onT hp i k := by rw [onT_tup e]; exact h
theorem subS_mk {cs : List Nat} {k : Nat} {c : Nat} {K : V → Prop} (e : cs[k]? = some c) (h : K (.str [c])) : subS cs (k : Int) K := by rw [subS_is e]; exact h
theorem onC_mk {cl : List (Option Nat)} {hp : List O} {i j : Nat} {v : Option V} {k : Nat → Option V → Prop} (h1 : cl[i]? = some (some j)) (h2 : hp[j]? = some (.cell v)) (h : k j v) : onC cl hp i k := by rw [onC_is h1 h2]; exact h
theorem pop_mk {σ : St} {K : V → St → Prop} {i k : Nat} {x : V} {xs : List V} (e : σ.hp[i]? = some (.list xs)) (hx : xs[k]? = some x) (hl : xs.length ≤ 100000) (h : K x { σ with hp := σ.hp.set i (.list (xs.eraseIdx k)) }) : wpBm .pop (.ref i) [.int (k : Nat)] σ K := by rw [pop_is e hx hl]; exact h
theorem app_mk {σ : St} {K : V → St → Prop} {i : Nat} {x : V} {xs : List V} (e : σ.hp[i]? = some (.list xs)) (hl : xs.length ≤ 100000) (h : K .none { σ with hp := σ.hp.set i (.list (xs ++ [x])) }) : wpBm .append (.ref i) [x] σ K := by rw [app_is e hl]; exact h
section
variable {text : List Nat} {hp : List O} {loc : List (Option V)} {K : V → St → Prop}
theorem sub_mk {i k : Nat} {x : V} {xs : List V} (e : hp[i]? = some (.list xs)) (hx : xs[k]? = some x) (hk : k ≤ 100000) (h : K x ⟨loc, hp⟩) : wpSub (.ref i) (.int (k : Nat)) ⟨loc, hp⟩ K := by rw [sub_is e hx hk]; exact h
end
section
variable {G : Stat} {n k : Nat} {σ : St} {K : Fl → St → Prop} {cl : List (Option Nat)} {s : IS} {r : List IS} {e : IE} {t : Tg}
theorem gsNil {KU : St → Prop} : wpTgs G n cl [] [] σ KU = KU σ := rfl
theorem mSt (h : wpS G n cl k s σ (sq G n cl k r K)) : wpSs G n cl k (s :: r) σ K := h
theorem mSq (h : wpSs G n cl k r σ K) : sq G n cl k r K .next σ := h
theorem mNil (h : K .next σ) : wpSs G n cl k [] σ K := h
theorem mAssign (h : wpE G n cl e σ fun v σ => wpTg G n cl t v σ fun σ => wpSs G n cl k r σ K) : wpSs G n cl k (.assign t e :: r) σ K := h
theorem mExpr (h : wpE G n cl e σ fun _ σ => wpSs G n cl k r σ K) : wpSs G n cl k (.expr e :: r) σ K := h
theorem mRet (h : wpE G n cl e σ fun v σ => K (.ret v) σ) : wpSs G n cl k (.ret e :: r) σ K := h
theorem mBrk (h : K .brk σ) : wpSs G n cl k (.brk :: r) σ K := h
theorem mIte {a b : List IS} (h : wpT G n cl e σ fun c σ => if c = true then wpSs G n cl k a σ (sq G n cl k r K) else wpSs G n cl k b σ (sq G n cl k r K)) : wpSs G n cl k (.ite e a b :: r) σ K := h
theorem mFor {b : List IS} (h : wpE G n cl e σ fun v σ => forV (wpTg G n cl t) (fun k σ K => wpSs G n cl k b σ K) k G n v σ (sq G n cl k r K)) : wpSs G n cl k (.for t e b :: r) σ K := h
theorem wIte {a b : List IS} (h : wpT G n cl e σ fun c σ => if c = true then wpSs G n cl k a σ K else wpSs G n cl k b σ K) : wpS G n cl k (.ite e a b) σ K := h
theorem wFor {b : List IS} (h : wpE G n cl e σ fun v σ => forV (wpTg G n cl t) (fun k σ K => wpSs G n cl k b σ K) k G n v σ K) : wpS G n cl k (.for t e b) σ K := h
theorem mAugL {i : Nat} {op : Operator} (h : wpE G n cl (.loc i) σ fun x σ => wpE G n cl e σ fun y σ => wpInp op x y σ fun v σ => wpTg G n cl (.loc i) v σ fun σ => wpSs G n cl k r σ K) : wpSs G n cl k (.aug (.loc i) op e :: r) σ K := h
theorem mAugA {o : IE} {a : At} {op : Operator} (h : wpE G n cl o σ fun ov σ => wpGetA ov a σ fun x σ => wpE G n cl e σ fun y σ => wpInp op x y σ fun v σ => wpSetA ov a v σ fun σ => wpSs G n cl k r σ K) : wpSs G n cl k (.aug (.attr o a) op e :: r) σ K := h
theorem mAugS {o i : IE} {op : Operator} (h : wpE G n cl o σ fun ov σ => wpE G n cl i σ fun iv σ => wpSub ov iv σ fun x σ => wpE G n cl e σ fun y σ => wpInp op x y σ fun v σ => wpSetI ov iv v σ fun σ => wpSs G n cl k r σ K) : wpSs G n cl k (.aug (.sub o i) op e :: r) σ K := h
end
theorem comp_lst {turn : Nat → (St → Prop) → V → St → Prop} {N q : Nat} {σ : St} {K : V → St → Prop} {xs : List V} (h : σ.hp[q]? = some (.list xs)) (I : Nat → St → Prop) (h0 : I 0 ⟨List.replicate N none, σ.hp ++ [.list []]⟩) (hg : ∀ j σ', I j σ' → σ'.hp[q]? = some (.list xs))
    (hs : ∀ (j : Nat) σ' x, xs[j]? = some x → I j σ' → turn σ.hp.length (I (j + 1)) x σ') (he : ∀ σ', I xs.length σ' → K (.ref σ.hp.length) ⟨σ.loc, σ'.hp⟩) : wpIterG turn N (.ref q) σ K := by
  unfold wpIterG
  simp only [h]
  exact ⟨I, h0, fun j σ' hj => ⟨hg j σ' hj, fun x hx => hs j σ' x hx hj, fun e => he σ' (e ▸ hj)⟩⟩
theorem join_mk {σ : St} {K : V → St → Prop} {sep : List Nat} {i : Nat} {ts : List (List Nat)} (h1 : σ.hp[i]? = some (.list (ts.map V.str))) (h2 : (ts.map List.length).sum + ts.length ≤ 1000000) (h3 : sep.length ≤ 16) (h : K (.str (joinS sep ts)) σ) : wpBm .join (.str sep) [.ref i] σ K := by
  show wJoin sep (.ref i) σ K
  exact onL_mk h1 ⟨ts, rfl, h2, h3, h⟩
end Mine
namespace Mine
open PySem PySem.W PySem.Calls PyProof.Rows
noncomputable def is_init : List IS := [
  .assign (.attr (.loc 0) .lineno) (.k (.int 1)),
  .assign (.attr (.loc 0) .instream) (.loc 1),
  .assign (.attr (.loc 0) .whitespace) (.k (.str [10, 9, 13, 32])),
  .assign (.attr (.loc 0) .pushback) (.list [])]
noncomputable def is_read_char : List IS := [
  .assign (.loc 1) (.am .read (.attr (.loc 0) .instream) [(.k (.int 1))]),
  .ite (.cmp .Eq (.loc 1) (.k (.str [10]))) [.aug (.attr (.loc 0) .lineno) .Add (.k (.int 1))] [],
  .ret (.loc 1)]
noncomputable def loopQ : IS := .for (.loc 3) (.loc 2) [
        .ite (.cmp .Eq (.loc 3) (.k (.str [34]))) [.ret (.loc 1)] [.ite (.cmp .Eq (.loc 3) (.k (.str [92]))) [.assign (.loc 3) (.um .readChar (.loc 0) [])] []],
        .aug (.loc 1) .Add (.loc 3)]
noncomputable def loopP : IS := .for (.loc 3) (.loc 2) [
        .ite (.cmp .In (.loc 3) (.attr (.loc 0) .whitespace)) [.ret (.loc 1)] [.ite (.cmp .Eq (.loc 3) (.k (.str [92]))) [.assign (.loc 3) (.um .readChar (.loc 0) [])] []],
        .aug (.loc 1) .Add (.loc 3)]
noncomputable def is_get_token : List IS := [
  .ite (.attr (.loc 0) .pushback) [.ret (.bm .pop (.attr (.loc 0) .pushback) [(.k (.int 0))])] [],
  .assign (.loc 1) (.k (.str [])),
  .assign (.loc 2) (.bf .iter [(.mattr (.loc 0) .readChar), (.k (.str []))]),
  .for (.loc 3) (.loc 2) [
    .ite (.cmp .In (.loc 3) (.attr (.loc 0) .whitespace)) [.cont] [],
    .ite (.cmp .Eq (.loc 3) (.k (.str [34]))) [loopQ] [
      .ite (.cmp .Eq (.loc 3) (.k (.str [92]))) [.assign (.loc 3) (.um .readChar (.loc 0) [])] [],
      .aug (.loc 1) .Add (.loc 3),
      loopP]],
  .ret (.loc 1)]
noncomputable def is_push_token : List IS := [.expr (.bm .append (.attr (.loc 0) .pushback) [(.loc 1)])]
noncomputable def is_law_give : List IS := [
  .assign (.loc 1) (.sli (.cel 3) (some (.sub (.cel 2) (.k (.int 0)))) (some (.bin .Add (.sub (.cel 2) (.k (.int 0))) (.loc 0)))),
  .aug (.sub (.cel 2) (.k (.int 0))) .Add (.bf .len [(.loc 1)]),
  .ret (.loc 1)]
structure Lx (G : Stat) : Prop where
  init : ∀ n a b hp K, wpSs G n [] hp.length is_init ⟨[some a, some b], hp⟩ (RetOk hp K) → CallT G (n + 1) (.stat (.ref (G.mf .init))) [a, b] hp K
  read : ∀ n a hp K, wpSs G n [] hp.length is_read_char ⟨[some a, none], hp⟩ (RetOk hp K) → CallT G (n + 1) (.stat (.ref (G.mf .readChar))) [a] hp K
  get : ∀ n a hp K, wpSs G n [] hp.length is_get_token ⟨[some a, none, none, none, none], hp⟩ (RetOk hp K) → CallT G (n + 1) (.stat (.ref (G.mf .getToken))) [a] hp K
  give : ∀ n i ct ca c v hp K, hp[i]? = some (.fn 0 [("text", ct), ("at", ca)] c) → hp[c]? = some (.code (G.fn 0).qual) →
    wpSs G n [none, none, some ca, some ct, none] hp.length is_law_give ⟨[some v, none, none, none, none], hp⟩ (RetOk hp K) → CallT G (n + 1) (.ref i) [v] hp K
structure Lp (G : Stat) : Prop where
  push : ∀ n a b hp K, wpSs G n [] hp.length is_push_token ⟨[some a, some b], hp⟩ (RetOk hp K) → CallT G (n + 1) (.stat (.ref (G.mf .pushToken))) [a, b] hp K
noncomputable def Ext (l : List Nat) (hp hp' : List O) : Prop := hp.length ≤ hp'.length ∧ ∀ i, i < hp.length → i ∉ l → hp'[i]? = hp[i]?
namespace Ext
theorem refl (l : List Nat) (hp : List O) : Ext l hp hp := ⟨Nat.le_refl _, fun _ _ _ => rfl⟩
theorem get {l : List Nat} {hp hp' : List O} (h : Ext l hp hp') {i : Nat} {o : O} (e : hp[i]? = some o) (hi : i ∉ l) : hp'[i]? = some o := (h.2 i (lt_of_get e) hi).trans e
theorem trans {l : List Nat} {a b c : List O} (h : Ext l a b) (h' : Ext l b c) : Ext l a c :=
  ⟨Nat.le_trans h.1 h'.1, fun i hi hn => (h'.2 i (Nat.lt_of_lt_of_le hi h.1) hn).trans (h.2 i hi hn)⟩
theorem mono {l l' : List Nat} {a b : List O} (h : Ext l a b) (hs : ∀ i ∈ l, i ∈ l') : Ext l' a b := ⟨h.1, fun i hi hn => h.2 i hi fun q => hn (hs i q)⟩
theorem set {l : List Nat} {hp : List O} {i : Nat} {o : O} (hi : i ∈ l) : Ext l hp (hp.set i o) :=
  ⟨by simp, fun j _ hn => List.getElem?_set_ne (fun q : i = j => hn (q ▸ hi))⟩
theorem app {l : List Nat} {hp t : List O} : Ext l hp (hp ++ t) := ⟨by simp, fun j hj _ => List.getElem?_append_left hj⟩
theorem drop {l : List Nat} {a b : List O} {i : Nat} (h : Ext (i :: l) a b) (hi : a.length ≤ i) : Ext l a b :=
  ⟨h.1, fun j hj hn => h.2 j hj (by simp only [List.mem_cons, not_or]; exact ⟨fun q => by omega, hn⟩)⟩
end Ext
structure SA where
  t : Nat
  dt : Nat
  f : Nat
  c : Nat
  ct : Nat
  ca : Nat
  a : Nat
structure Strm (q : Str) (T : SA) (text : List Nat) (hp : List O) (pos : Nat) : Prop where
  t : hp[T.t]? = some (.inst T.dt)
  dt : ∃ fs, hp[T.dt]? = some (.dct fs) ∧ getA .read fs = some (.ref T.f)
  f : hp[T.f]? = some (.fn 0 [("text", T.ct), ("at", T.ca)] T.c)
  c : hp[T.c]? = some (.code q)
  ct : hp[T.ct]? = some (.cell (some (.str text)))
  ca : hp[T.ca]? = some (.cell (some (.ref T.a)))
  a : hp[T.a]? = some (.list [.int pos])
  le : pos ≤ text.length
  sm : text.length ≤ 100000
structure MA where
  s : Nat
  d : Nat
  p : Nat
noncomputable def dctOf (T : SA) (M : MA) (ln : Int) : O := .dct [(.lineno, .int ln), (.instream, .ref T.t), (.whitespace, .str [10, 9, 13, 32]), (.pushback, .ref M.p)]
structure Mc (T : SA) (M : MA) (hp : List O) (ln : Int) : Prop where
  s : hp[M.s]? = some (.inst M.d)
  d : hp[M.d]? = some (dctOf T M ln)
theorem ne_of {hp : List O} {i j : Nat} {a b : O} (h1 : hp[i]? = some a) (h2 : hp[j]? = some b) (h : a ≠ b) : i ≠ j := fun q => h (by subst q; rw [h1] at h2; exact Option.some.inj h2)
theorem Strm.keep {q : Str} {T : SA} {text : List Nat} {hp hp' : List O} {pos : Nat} {l : List Nat} (h : Strm q T text hp pos) (e : Ext l hp hp') (h1 : T.t ∉ l) (h2 : T.dt ∉ l) (h3 : T.f ∉ l) (h4 : T.c ∉ l) (h5 : T.ct ∉ l) (h6 : T.ca ∉ l) (h7 : T.a ∉ l) : Strm q T text hp' pos :=
  let ⟨fs, h8, h9⟩ := h.dt
  ⟨e.get h.t h1, ⟨fs, e.get h8 h2, h9⟩, e.get h.f h3, e.get h.c h4, e.get h.ct h5, e.get h.ca h6, e.get h.a h7, h.le, h.sm⟩
theorem CallT.mono {G : Stat} {n : Nat} {f : V} {args : List V} {hp : List O} {K K' : V → List O → Prop} (h : CallT G n f args hp K) (hk : ∀ v hp, K v hp → K' v hp) : CallT G n f args hp K' :=
  fun cx names ρ loc s Rr f' args' ok r vf va hQ => h cx names ρ loc s Rr f' args' ok r vf va fun v v' hp' ρ' s' p r' vv k st => hQ v v' hp' ρ' s' p r' vv (hk v hp' k) st
section
variable {G : Stat} (lx : Lx G) {T : SA} {text : List Nat}
theorem drop_take1 {pos : Nat} {text : List Nat} : (text.drop pos).take 1 = match text[pos]? with | some c => [c] | none => [] := by
  cases h : text[pos]? with
  | none => rw [List.drop_of_length_le (by simpa using h)]; rfl
  | some c =>
    have hlt := lt_of_get h
    rw [List.drop_eq_getElem_cons hlt]
    have : text[pos] = c := (List.getElem?_eq_some_iff.mp h).2
    simp [this]
theorem cut_at {α : Type} (xs : List α) {i j : Nat} : cutL xs (some (i : Int)) (some (j : Int)) = (xs.drop (min i xs.length)).take (min j xs.length - min i xs.length) := by
  unfold cutL; simp only [Option.elim, clip_nat]
theorem cut_one {text : List Nat} {pos : Nat} (h : pos ≤ text.length) : cutL text (some (pos : Int)) (some ((pos : Int) + 1)) = (text.drop pos).take 1 := by
  have := cut_at text (i := pos) (j := pos + 1)
  rw [show (((pos + 1 : Nat)) : Int) = (pos : Int) + 1 by omega] at this
  rw [this, Nat.min_eq_left h]
  by_cases hp : pos = text.length
  · subst hp; simp
  · rw [Nat.min_eq_left (by omega), Nat.add_sub_cancel_left]
theorem onA_mk {fs : List (At × V)} {a : At} {k : V → Prop} {x : V} (e : getA a fs = some x) (h : hok x = true) (hk : k x) : onA fs a k := by rw [onA_is e h]; exact hk
theorem getA_mk {σ : St} {v x : V} {a : At} {d : Nat} {fs : List (At × V)} {K : V → St → Prop} (e : instAt σ.hp v = some (d, fs)) (e2 : getA a fs = some x) (h : hok x = true) (hk : K x σ) : wpGetA v a σ K := by
  unfold wpGetA
  exact onI_mk e (onA_mk e2 h hk)
theorem celL {G : Stat} {n i j : Nat} {cl : List (Option Nat)} {v : V} {σ : St} {K : V → St → Prop} (h1 : cl[i]? = some (some j)) (h2 : σ.hp[j]? = some (.cell (some v))) (h : K v σ) : wpE G n cl (.cel i) σ K := by
  rw [eCel]; exact onC_mk h1 h2 h
include lx in
theorem give_ok {n pos : Nat} {hp : List O} {K : V → List O → Prop} (S : Strm (G.fn 0).qual T text hp pos)
    (hK : K (.str ((text.drop pos).take 1)) (hp.set T.a (.list [.int ((pos : Int) + ((text.drop pos).take 1).length)]))) : CallT G (n + 1) (.ref T.f) [.int 1] hp K := by
  refine lx.give n T.f T.ct T.ca T.c (.int 1) hp K S.f S.c ?_
  have hb := S.sm
  have hle := S.le
  have hlen1 : ((text.drop pos).take 1).length ≤ 1 := by rw [List.length_take]; exact Nat.min_le_left _ _
  have g0 : ∀ {loc : List (Option V)} {K' : V → St → Prop}, K' (.int (pos : Nat)) ⟨loc, hp⟩ → wpE G n [none, none, some T.ca, some T.ct, none] (.sub (.cel 2) (.k (.int 0))) ⟨loc, hp⟩ K' := fun {loc K'} h => by
    rw [eSub]
    refine celL (j := T.ca) (v := .ref T.a) rfl S.ca ?_
    exact sub_mk (k := 0) S.a rfl (Nat.zero_le _) h
  unfold is_law_give
  refine mAssign ?_
  rw [eSli]
  refine celL (j := T.ct) (v := .str text) rfl S.ct ?_
  rw [oS]
  refine g0 ?_
  rw [oS, eBin]
  refine g0 ?_
  dsimp only [tCmp, tAnd, tOr, tNot, tLc, tAt, eK, eLoc, eStat, eBin, eCmp, eIfe, eList, eTup, eAttr, eMattr, eCall, eNew, eBf, eBm, eUm, eAm, eSub, eSli, esN, esC, oN, oS, gLoc, gCel, gAttr, gSub, gTup, gsC, gsNil, cEq, cNe, cLt, cLe, cGt, cGe, cIn, cNi, ltII, bII, bSS, bRR, bRI, biAdd, biSub, biMul, biMod, biDiv, biPow, adS, adL, mlL, iII, iSS, niAdd, niSub, niDiv, fLen, fAbs, fStr, fMin, fRng, rg1, rg2, fItr, fSum, o1, lnS, lnR, vI, vS, vR, suR, suS, slII, svS, lc0, lcS, List.getElem?_cons_zero, List.getElem?_cons_succ, List.set_cons_zero, List.set_cons_succ, List.length_cons, List.length_nil, qSS, qII, qIS, qSI, nS, inO, o2, hkI, hkS, hkR, hkN, sqN, ssN]
  rw [cut_one hle]
  refine ⟨fun k e => ?_, fun k e => ?_, Nat.le_trans hb (by decide), by decide, ?_⟩
  · cases e; exact fitN (by omega)
  · cases e; unfold fits lim; omega
  refine mAugS ?_
  refine celL (j := T.ca) (v := .ref T.a) rfl S.ca ?_
  rw [eK]
  refine sub_mk (k := 0) S.a rfl (Nat.zero_le _) ?_
  dsimp only [tCmp, tAnd, tOr, tNot, tLc, tAt, eK, eLoc, eStat, eBin, eCmp, eIfe, eList, eTup, eAttr, eMattr, eCall, eNew, eBf, eBm, eUm, eAm, eSub, eSli, esN, esC, oN, oS, gLoc, gCel, gAttr, gSub, gTup, gsC, gsNil, cEq, cNe, cLt, cLe, cGt, cGe, cIn, cNi, ltII, bII, bSS, bRR, bRI, biAdd, biSub, biMul, biMod, biDiv, biPow, adS, adL, mlL, iII, iSS, niAdd, niSub, niDiv, fLen, fAbs, fStr, fMin, fRng, rg1, rg2, fItr, fSum, o1, lnS, lnR, vI, vS, vR, suR, suS, slII, svS, lc0, lcS, List.getElem?_cons_zero, List.getElem?_cons_succ, List.set_cons_zero, List.set_cons_succ, List.length_cons, List.length_nil, qSS, qII, qIS, qSI, nS, inO, o2, hkI, hkS, hkR, hkN, sqN, ssN]
  refine ⟨Nat.le_trans hlen1 (by decide), ?_⟩
  rw [siR]
  refine onL_mk S.a ⟨fitN (Nat.zero_le _), ?_⟩
  exact hK
theorem Strm.step {q : Str} {hp hp' : List O} {pos pos' : Nat} {l : List Nat} (S : Strm q T text hp pos) (e : Ext l hp hp') (h1 : T.t ∉ l) (h2 : T.dt ∉ l) (h3 : T.f ∉ l) (h4 : T.c ∉ l) (h5 : T.ct ∉ l) (h6 : T.ca ∉ l) (ha : hp'[T.a]? = some (.list [.int pos'])) (hle : pos' ≤ text.length) : Strm q T text hp' pos' :=
  let ⟨fs, h8, h9⟩ := S.dt
  ⟨e.get S.t h1, ⟨fs, e.get h8 h2, h9⟩, e.get S.f h3, e.get S.c h4, e.get S.ct h5, e.get S.ca h6, ha, hle, S.sm⟩
variable {M : MA}
theorem Strm.apart {q : Str} {hp : List O} {pos : Nat} {ln : Int} (S : Strm q T text hp pos) (m : Mc T M hp ln) :
    T.t ∉ [T.a, M.d] ∧ T.dt ∉ [T.a, M.d] ∧ T.f ∉ [T.a, M.d] ∧ T.c ∉ [T.a, M.d] ∧ T.ct ∉ [T.a, M.d] ∧ T.ca ∉ [T.a, M.d] ∧ T.a ≠ M.d ∧ M.s ∉ [T.a, M.d] := by
  obtain ⟨fs, h8, h9⟩ := S.dt
  have hd := m.d
  unfold dctOf at hd
  have hdd : T.dt ≠ M.d := ne_of h8 hd (fun q => by
    injection q with q; subst q; simp [getA] at h9)
  simp only [List.mem_cons, List.not_mem_nil, or_false, not_or]
  exact ⟨⟨ne_of S.t S.a (by simp), ne_of S.t hd (by simp)⟩, ⟨ne_of h8 S.a (by simp), hdd⟩, ⟨ne_of S.f S.a (by simp), ne_of S.f hd (by simp)⟩, ⟨ne_of S.c S.a (by simp), ne_of S.c hd (by simp)⟩,
    ⟨ne_of S.ct S.a (by simp), ne_of S.ct hd (by simp)⟩, ⟨ne_of S.ca S.a (by simp), ne_of S.ca hd (by simp)⟩, ne_of S.a hd (by simp), ne_of m.s S.a (by simp), ne_of m.s hd (by simp)⟩
noncomputable def nlOf (c : Nat) : Int := if c = 10 then 1 else 0
theorem instM {hp : List O} {ln : Int} (m : Mc T M hp ln) : instAt hp (.ref M.s) = some (M.d, [(.lineno, .int ln), (.instream, .ref T.t), (.whitespace, .str [10, 9, 13, 32]), (.pushback, .ref M.p)]) := by
  have hd := m.d
  unfold dctOf at hd
  simp only [instAt, m.s, hd]
noncomputable def rdTail (T : SA) (M : MA) (ln : Int) (K : V → List O → Prop) (r : V) (hp : List O) : Prop := ∃ cs : List Nat, r = .str cs ∧ Mc T M hp ln ∧ (cs = [10] → K (.str cs) (hp.set M.d (dctOf T M (ln + 1)))) ∧ (cs ≠ [10] → K (.str cs) hp)
include lx in
theorem read_gen {n N : Nat} {ln : Int} {hp : List O} {dt f : Nat} {fs : List (At × V)} {K : V → List O → Prop} (m : Mc T M hp ln) (ht : instAt hp (.ref T.t) = some (dt, fs)) (hf : getA .read fs = some (.ref f)) (hfn : fnv G hp (.ref f))
    (hr : CallT G (n + N) (.ref f) [.int 1] hp (rdTail T M ln K)) : CallT G (n + N + 1) (.stat (.ref (G.mf .readChar))) [.ref M.s] hp K := by
  refine lx.read (n + N) (.ref M.s) hp K ?_
  unfold is_read_char
  refine mAssign ?_
  dsimp only [tCmp, tAnd, tOr, tNot, tLc, tAt, eK, eLoc, eStat, eBin, eCmp, eIfe, eList, eTup, eAttr, eMattr, eCall, eNew, eBf, eBm, eUm, eAm, eSub, eSli, esN, esC, oN, oS, gLoc, gCel, gAttr, gSub, gTup, gsC, gsNil, cEq, cNe, cLt, cLe, cGt, cGe, cIn, cNi, ltII, bII, bSS, bRR, bRI, biAdd, biSub, biMul, biMod, biDiv, biPow, adS, adL, mlL, iII, iSS, niAdd, niSub, niDiv, fLen, fAbs, fStr, fMin, fRng, rg1, rg2, fItr, fSum, o1, lnS, lnR, vI, vS, vR, suR, suS, slII, svS, lc0, lcS, List.getElem?_cons_zero, List.getElem?_cons_succ, List.set_cons_zero, List.set_cons_succ, List.length_cons, List.length_nil, qSS, qII, qIS, qSI, nS, inO, o2, hkI, hkS, hkR, hkN, sqN, ssN]
  refine getA_mk (x := .ref T.t) (instM m) rfl rfl ?_
  refine onI_mk ht ?_
  refine onA_mk hf rfl ?_
  refine ⟨hfn, hr.mono ?_⟩
  rintro r hp1 ⟨cs, rfl, m1, h1, h2⟩
  dsimp only [tCmp, tAnd, tOr, tNot, tLc, tAt, eK, eLoc, eStat, eBin, eCmp, eIfe, eList, eTup, eAttr, eMattr, eCall, eNew, eBf, eBm, eUm, eAm, eSub, eSli, esN, esC, oN, oS, gLoc, gCel, gAttr, gSub, gTup, gsC, gsNil, cEq, cNe, cLt, cLe, cGt, cGe, cIn, cNi, ltII, bII, bSS, bRR, bRI, biAdd, biSub, biMul, biMod, biDiv, biPow, adS, adL, mlL, iII, iSS, niAdd, niSub, niDiv, fLen, fAbs, fStr, fMin, fRng, rg1, rg2, fItr, fSum, o1, lnS, lnR, vI, vS, vR, suR, suS, slII, svS, lc0, lcS, List.getElem?_cons_zero, List.getElem?_cons_succ, List.set_cons_zero, List.set_cons_succ, List.length_cons, List.length_nil, qSS, qII, qIS, qSI, nS, inO, o2, hkI, hkS, hkR, hkN, sqN, ssN]
  refine ⟨by decide, ?_⟩
  refine mIte ?_
  dsimp only [tCmp, tAnd, tOr, tNot, tLc, tAt, eK, eLoc, eStat, eBin, eCmp, eIfe, eList, eTup, eAttr, eMattr, eCall, eNew, eBf, eBm, eUm, eAm, eSub, eSli, esN, esC, oN, oS, gLoc, gCel, gAttr, gSub, gTup, gsC, gsNil, cEq, cNe, cLt, cLe, cGt, cGe, cIn, cNi, ltII, bII, bSS, bRR, bRI, biAdd, biSub, biMul, biMod, biDiv, biPow, adS, adL, mlL, iII, iSS, niAdd, niSub, niDiv, fLen, fAbs, fStr, fMin, fRng, rg1, rg2, fItr, fSum, o1, lnS, lnR, vI, vS, vR, suR, suS, slII, svS, lc0, lcS, List.getElem?_cons_zero, List.getElem?_cons_succ, List.set_cons_zero, List.set_cons_succ, List.length_cons, List.length_nil, qSS, qII, qIS, qSI, nS, inO, o2, hkI, hkS, hkR, hkN, sqN, ssN]
  by_cases h10 : cs = [10]
  · refine ifp (by simpa using h10) ?_
    refine mAugA ?_
    dsimp only [tCmp, tAnd, tOr, tNot, tLc, tAt, eK, eLoc, eStat, eBin, eCmp, eIfe, eList, eTup, eAttr, eMattr, eCall, eNew, eBf, eBm, eUm, eAm, eSub, eSli, esN, esC, oN, oS, gLoc, gCel, gAttr, gSub, gTup, gsC, gsNil, cEq, cNe, cLt, cLe, cGt, cGe, cIn, cNi, ltII, bII, bSS, bRR, bRI, biAdd, biSub, biMul, biMod, biDiv, biPow, adS, adL, mlL, iII, iSS, niAdd, niSub, niDiv, fLen, fAbs, fStr, fMin, fRng, rg1, rg2, fItr, fSum, o1, lnS, lnR, vI, vS, vR, suR, suS, slII, svS, lc0, lcS, List.getElem?_cons_zero, List.getElem?_cons_succ, List.set_cons_zero, List.set_cons_succ, List.length_cons, List.length_nil, qSS, qII, qIS, qSI, nS, inO, o2, hkI, hkS, hkR, hkN, sqN, ssN]
    refine getA_mk (x := .int ln) (instM m1) rfl rfl ?_
    dsimp only [tCmp, tAnd, tOr, tNot, tLc, tAt, eK, eLoc, eStat, eBin, eCmp, eIfe, eList, eTup, eAttr, eMattr, eCall, eNew, eBf, eBm, eUm, eAm, eSub, eSli, esN, esC, oN, oS, gLoc, gCel, gAttr, gSub, gTup, gsC, gsNil, cEq, cNe, cLt, cLe, cGt, cGe, cIn, cNi, ltII, bII, bSS, bRR, bRI, biAdd, biSub, biMul, biMod, biDiv, biPow, adS, adL, mlL, iII, iSS, niAdd, niSub, niDiv, fLen, fAbs, fStr, fMin, fRng, rg1, rg2, fItr, fSum, o1, lnS, lnR, vI, vS, vR, suR, suS, slII, svS, lc0, lcS, List.getElem?_cons_zero, List.getElem?_cons_succ, List.set_cons_zero, List.set_cons_succ, List.length_cons, List.length_nil, qSS, qII, qIS, qSI, nS, inO, o2, hkI, hkS, hkR, hkN, sqN, ssN]
    unfold wpSetA
    refine onI_mk (instM m1) ?_
    refine ⟨show 4 ≤ 100 by decide, ?_⟩
    exact h1 h10
  · refine ifn (by simpa using h10) ?_
    exact h2 h10
include lx in
theorem read_ok {n pos : Nat} {ln : Int} {hp : List O} {K : V → List O → Prop} (S : Strm (G.fn 0).qual T text hp pos) (m : Mc T M hp ln)
    (hend : text[pos]? = none → ∀ hp', Strm (G.fn 0).qual T text hp' pos → Mc T M hp' ln → Ext [T.a, M.d] hp hp' → K (.str []) hp')
    (hsome : ∀ c, text[pos]? = some c → ∀ hp', Strm (G.fn 0).qual T text hp' (pos + 1) → Mc T M hp' (ln + nlOf c) → Ext [T.a, M.d] hp hp' → K (.str [c]) hp') : CallT G (n + 2) (.stat (.ref (G.mf .readChar))) [.ref M.s] hp K := by
  obtain ⟨fs, h8, h9⟩ := S.dt
  obtain ⟨a1, a2, a3, a4, a5, a6, a7, a8⟩ := S.apart m
  refine read_gen lx (n := n) (N := 1) m (show instAt hp (.ref T.t) = some (T.dt, fs) by simp only [instAt, S.t, h8]) h9 ⟨_, _, _, S.f⟩ (give_ok lx S ?_)
  have e1 : Ext [T.a, M.d] hp (hp.set T.a (O.list [.int ((pos : Int) + ((text.drop pos).take 1).length)])) := .set (.head _)
  have m1 : Mc T M (hp.set T.a (O.list [.int ((pos : Int) + ((text.drop pos).take 1).length)])) ln := ⟨e1.get m.s a8, by rw [List.getElem?_set_ne a7]; exact m.d⟩
  have ha1 : (hp.set T.a (O.list [.int ((pos : Int) + ((text.drop pos).take 1).length)]))[T.a]? = some (.list [.int ((pos : Int) + ((text.drop pos).take 1).length)]) := List.getElem?_set_self (lt_of_get S.a)
  refine ⟨_, rfl, m1, ?_⟩
  generalize hp.set T.a (O.list [.int ((pos : Int) + ((text.drop pos).take 1).length)]) = hp1 at e1 m1 ha1 ⊢
  rw [drop_take1] at ha1 ⊢
  cases hc : text[pos]? with
  | none =>
    rw [hc] at ha1
    refine ⟨fun q => (nomatch q), fun _ => hend hc _ (S.step e1 a1 a2 a3 a4 a5 a6 (by rw [ha1]; simp) S.le) m1 e1⟩
  | some c =>
    rw [hc] at ha1
    have hS : Strm (G.fn 0).qual T text hp1 (pos + 1) := S.step e1 a1 a2 a3 a4 a5 a6 (by rw [ha1]; simp) (lt_of_get hc)
    refine ⟨fun q => ?_, fun q => ?_⟩
    · have q : c = 10 := by simpa using q
      subst q
      have e2 : Ext [T.a, M.d] hp1 (hp1.set M.d (dctOf T M (ln + 1))) := .set (.tail _ (.head _))
      refine hsome 10 hc _ (hS.step e2 a1 a2 a3 a4 a5 a6 ?_ (lt_of_get hc)) ⟨e2.get m1.s a8, List.getElem?_set_self (lt_of_get m1.d)⟩ (e1.trans e2)
      rw [List.getElem?_set_ne (Ne.symm a7)]; exact hS.a
    · refine hsome c hc _ hS ?_ e1
      rw [show ln + nlOf c = ln by unfold nlOf; rw [if_neg (by simpa using q)]; omega]
      exact m1
theorem push_ok (lp : Lp G) {n : Nat} {hp : List O} {ln : Int} {xs : List V} {v : V} {K : V → List O → Prop} (m : Mc T M hp ln) (hp0 : hp[M.p]? = some (.list xs)) (hlen : xs.length ≤ 100000)
    (hK : K .none (hp.set M.p (.list (xs ++ [v])))) : CallT G (n + 1) (.stat (.ref (G.mf .pushToken))) [.ref M.s, v] hp K := by
  refine lp.push n (.ref M.s) v hp K ?_
  unfold is_push_token
  refine mExpr ?_
  dsimp only [tCmp, tAnd, tOr, tNot, tLc, tAt, eK, eLoc, eStat, eBin, eCmp, eIfe, eList, eTup, eAttr, eMattr, eCall, eNew, eBf, eBm, eUm, eAm, eSub, eSli, esN, esC, oN, oS, gLoc, gCel, gAttr, gSub, gTup, gsC, gsNil, cEq, cNe, cLt, cLe, cGt, cGe, cIn, cNi, ltII, bII, bSS, bRR, bRI, biAdd, biSub, biMul, biMod, biDiv, biPow, adS, adL, mlL, iII, iSS, niAdd, niSub, niDiv, fLen, fAbs, fStr, fMin, fRng, rg1, rg2, fItr, fSum, o1, lnS, lnR, vI, vS, vR, suR, suS, slII, svS, lc0, lcS, List.getElem?_cons_zero, List.getElem?_cons_succ, List.set_cons_zero, List.set_cons_succ, List.length_cons, List.length_nil, qSS, qII, qIS, qSI, nS, inO, o2, hkI, hkS, hkR, hkN, sqN, ssN]
  refine getA_mk (x := .ref M.p) (instM m) rfl rfl ?_
  refine ⟨⟨rfl, _, hp0⟩, ?_⟩
  dsimp only [tCmp, tAnd, tOr, tNot, tLc, tAt, eK, eLoc, eStat, eBin, eCmp, eIfe, eList, eTup, eAttr, eMattr, eCall, eNew, eBf, eBm, eUm, eAm, eSub, eSli, esN, esC, oN, oS, gLoc, gCel, gAttr, gSub, gTup, gsC, gsNil, cEq, cNe, cLt, cLe, cGt, cGe, cIn, cNi, ltII, bII, bSS, bRR, bRI, biAdd, biSub, biMul, biMod, biDiv, biPow, adS, adL, mlL, iII, iSS, niAdd, niSub, niDiv, fLen, fAbs, fStr, fMin, fRng, rg1, rg2, fItr, fSum, o1, lnS, lnR, vI, vS, vR, suR, suS, slII, svS, lc0, lcS, List.getElem?_cons_zero, List.getElem?_cons_succ, List.set_cons_zero, List.set_cons_succ, List.length_cons, List.length_nil, qSS, qII, qIS, qSI, nS, inO, o2, hkI, hkS, hkR, hkN, sqN, ssN]
  refine app_mk (σ := ⟨_, hp⟩) hp0 hlen ?_
  exact hK
include lx in
theorem init_ok {n s d : Nat} {hp : List O} {v : V} {K : V → List O → Prop} (h1 : hp[s]? = some (.inst d)) (h2 : hp[d]? = some (.dct []))
    (hK : K .none (hp.set d (.dct [(.lineno, .int 1), (.instream, v), (.whitespace, .str [10, 9, 13, 32]), (.pushback, .ref hp.length)]) ++ [.list []])) : CallT G (n + 1) (.stat (.ref (G.mf .init))) [.ref s, v] hp K := by
  refine lx.init n (.ref s) v hp K ?_
  have hsd : s ≠ d := ne_of h1 h2 (by simp)
  have hd : d < hp.length := lt_of_get h2
  have j1 : ∀ fs, instAt (hp.set d (.dct fs)) (.ref s) = some (d, fs) := fun fs => by
    simp only [instAt]
    rw [List.getElem?_set_ne (Ne.symm hsd), h1]
    simp only
    rw [List.getElem?_set_self hd]
  have j2 : ∀ fs, instAt (hp.set d (.dct fs) ++ [.list []]) (.ref s) = some (d, fs) := fun fs => by
    simp only [instAt]
    rw [List.getElem?_append_left (by simpa using lt_of_get h1), List.getElem?_set_ne (Ne.symm hsd), h1]
    simp only
    rw [List.getElem?_append_left (by simpa using hd), List.getElem?_set_self hd]
  have j0 : instAt hp (.ref s) = some (d, []) := by simp only [instAt, h1, h2]
  simp only [is_init, ssN, ssC, sAssign, sAugL, sAugA, sAugS, sExpr, sIte, sWhl, sFor, sRet, sBrk, sCont, sDefn, eK, eLoc, eCel, eStat, eBin, eCmp, eIfe, eList, eTup, eAttr, eMattr, eCall, eNew, eBf, eBm, eUm, eAm, eSub, eSli, eComp, esN, esC, gLoc, gCel, gAttr, gSub, gTup, wpSetA, List.getElem?_cons_zero, List.getElem?_cons_succ, j0, j1, j2, putA, List.length_cons, List.length_nil, reduceCtorEq, if_false, List.set_set, lc0, lcS, onC, onI, onA, vR, onT, vS, vI, qSS, qII, qIS, qSI, iII, iSS, niAdd, adS, bII, bSS, biAdd, nS, inO, ltII, o1, o2, lnS, lnR, suR, suS, hkI, hkS, hkR, hkN]
  refine ⟨by omega, by omega, by omega, by unfold big; omega, by omega, ?_⟩
  rw [List.length_set, List.set_append_left _ _ (by simpa using hd), List.set_set]
  exact hK
end
end Mine
namespace Mine
open PySem PySem.W PySem.Calls PyProof.Rows
noncomputable def isWs (c : Nat) : Bool := decide (c ∈ [10, 9, 13, 32])
noncomputable def lexQ (tok : List Nat) : List Nat → List Nat × List Nat
  | [] => (tok, [])
  | c :: r => if c = 34 then (tok, r) else if c = 92 then (match r with
      | [] => (tok, [])
      | e :: r' => lexQ (tok ++ [e]) r') else lexQ (tok ++ [c]) r
termination_by l => l.length
decreasing_by all_goals (simp_wf; try omega)
noncomputable def lexP (tok : List Nat) : List Nat → List Nat × List Nat
  | [] => (tok, [])
  | c :: r => if isWs c = true then (tok, r) else if c = 92 then (match r with
      | [] => (tok, [])
      | e :: r' => lexP (tok ++ [e]) r') else lexP (tok ++ [c]) r
termination_by l => l.length
decreasing_by all_goals (simp_wf; try omega)
noncomputable def lexS : List Nat → List Nat × List Nat
  | [] => ([], [])
  | c :: r => if isWs c = true then lexS r else if c = 34 then lexQ [] r else if c = 92 then (match r with
      | [] => ([], [])
      | e :: r' => lexP [e] r') else lexP [c] r
theorem lexQ_nil (tok : List Nat) : lexQ tok [] = (tok, []) := by rw [lexQ]
theorem lexP_nil (tok : List Nat) : lexP tok [] = (tok, []) := by rw [lexP]
theorem lexQ_end (tok r : List Nat) : lexQ tok (34 :: r) = (tok, r) := by cases r <;> rw [lexQ] <;> simp
theorem lexQ_esc (tok r : List Nat) (e : Nat) : lexQ tok (92 :: e :: r) = lexQ (tok ++ [e]) r := by rw [lexQ]; simp
theorem lexQ_esc0 (tok : List Nat) : lexQ tok [92] = (tok, []) := by rw [lexQ]; simp
theorem lexQ_c (tok r : List Nat) {c : Nat} (h1 : c ≠ 34) (h2 : c ≠ 92) : lexQ tok (c :: r) = lexQ (tok ++ [c]) r := by cases r <;> (conv => lhs; rw [lexQ]) <;> rw [if_neg h1, if_neg h2]
theorem lexP_end (tok r : List Nat) {c : Nat} (h : isWs c = true) : lexP tok (c :: r) = (tok, r) := by cases r <;> rw [lexP] <;> simp [h]
theorem lexP_esc (tok r : List Nat) (e : Nat) : lexP tok (92 :: e :: r) = lexP (tok ++ [e]) r := by rw [lexP]; simp [isWs]
theorem lexP_esc0 (tok : List Nat) : lexP tok [92] = (tok, []) := by rw [lexP]; simp [isWs]
theorem lexP_c (tok r : List Nat) {c : Nat} (h1 : isWs c = false) (h2 : c ≠ 92) : lexP tok (c :: r) = lexP (tok ++ [c]) r := by cases r <;> (conv => lhs; rw [lexP]) <;> rw [if_neg (by simp [h1]), if_neg h2]
noncomputable def nl (l : List Nat) : Int := (l.count 10 : Nat)
theorem nl_take {text : List Nat} {pos c : Nat} (h : text[pos]? = some c) : nl (text.take (pos + 1)) = nl (text.take pos) + nlOf c := by
  unfold nl nlOf
  rw [List.take_add_one, h, List.count_append]
  by_cases hc : c = 10
  · subst hc; simp
  · simp [hc]
theorem drop_cons {text : List Nat} {pos c : Nat} (h : text[pos]? = some c) : text.drop pos = c :: text.drop (pos + 1) := by
  have hlt := lt_of_get h
  rw [List.drop_eq_getElem_cons hlt, (List.getElem?_eq_some_iff.mp h).2]
theorem drop_nil {text : List Nat} {pos : Nat} (h : text[pos]? = none) : text.drop pos = [] := List.drop_of_length_le (by simpa using h)
structure Rd (G : Stat) (M : MA) (text : List Nat) (L : List Nat) (N : Nat) (RS : Nat → List O → Prop) : Prop where
  read : ∀ {n pos : Nat} {hp : List O} {K : V → List O → Prop}, N ≤ n → RS pos hp → (text[pos]? = none → ∀ hp', RS pos hp' → Ext L hp hp' → K (.str []) hp') → (∀ c, text[pos]? = some c → ∀ hp', RS (pos + 1) hp' → Ext L hp hp' → K (.str [c]) hp') →
    CallT G n (.stat (.ref (G.mf .readChar))) [.ref M.s] hp K
  keep : ∀ {pos : Nat} {hp hp' : List O}, RS pos hp → ∀ {i : Nat} {f s : V} {d : Bool}, hp[i]? = some (.citer f s d) → Ext [i] hp hp' → RS pos hp'
  app : ∀ {pos : Nat} {hp t : List O}, RS pos hp → RS pos (hp ++ t)
  nin : ∀ {pos : Nat} {hp : List O}, RS pos hp → ∀ {i : Nat} {o : O}, hp[i]? = some o → (∃ f s, o = .meth f s) ∨ (∃ f s d, o = .citer f s d) → i ∉ L
  ins : ∀ {pos : Nat} {hp : List O}, RS pos hp → ∃ fs, instAt hp (.ref M.s) = some (M.d, fs) ∧ getA .whitespace fs = some (.str [10, 9, 13, 32]) ∧ getA .pushback fs = some (.ref M.p)
  le : ∀ {pos : Nat} {hp : List O}, RS pos hp → pos ≤ text.length
  sm : text.length ≤ 100000
section
variable {G : Stat} {M : MA} {text L : List Nat} {N : Nat} {RS : Nat → List O → Prop}
structure Cit (G : Stat) (M : MA) (RS : Nat → List O → Prop) (L : List Nat) (q it : Nat) (hpB : List O) (done : Bool) (pos : Nat) (hp : List O) : Prop where
  rs : RS pos hp
  e : Ext (it :: L) hpB hp
  me : hp[q]? = some (.meth (.stat (.ref (G.mf .readChar))) (.ref M.s))
  ci : hp[it]? = some (.citer (.ref q) (.str []) done)
variable {q it : Nat} {hpB : List O}
theorem Cit.step (R : Rd G M text L N RS) {d : Bool} {pos pos' : Nat} {hp hp' : List O} (h : Cit G M RS L q it hpB d pos hp) (r : RS pos' hp') (e : Ext L hp hp') : Cit G M RS L q it hpB d pos' hp' :=
  ⟨r, h.e.trans (e.mono fun _ hi => .tail _ hi), e.get h.me (R.nin h.rs h.me (.inl ⟨_, _, rfl⟩)), e.get h.ci (R.nin h.rs h.ci (.inr ⟨_, _, _, rfl⟩))⟩
theorem Cit.fin (R : Rd G M text L N RS) {d d' : Bool} {pos : Nat} {hp : List O} (h : Cit G M RS L q it hpB d pos hp) : Cit G M RS L q it hpB d' pos (hp.set it (.citer (.ref q) (.str []) d')) := by
  have e : Ext [it] hp (hp.set it (.citer (.ref q) (.str []) d')) := .set (.head _)
  refine ⟨R.keep h.rs h.ci e, h.e.trans (e.mono fun i hi => ?_), e.get h.me ?_, List.getElem?_set_self (lt_of_get h.ci)⟩
  · rw [List.mem_singleton.mp hi]; exact .head _
  · rw [List.mem_singleton]; exact ne_of h.me h.ci (fun q => nomatch q)
variable {n k : Nat} {K : Fl → St → Prop} {wt : V → St → (St → Prop) → Prop} {wb : Nat → St → (Fl → St → Prop) → Prop}
noncomputable def RdI (G : Stat) (M : MA) (RS : Nat → List O → Prop) (L : List Nat) (q it : Nat) (hpB : List O) (J : Nat → Nat → St → Prop) (D : Nat → St → Prop) (m : Nat) (σ : St) : Prop :=
  (∃ m0, m = m0 + 1 ∧ ∃ pos, Cit G M RS L q it hpB false pos σ.hp ∧ J m0 pos σ) ∨ (m = 0 ∧ ∃ pos, Cit G M RS L q it hpB true pos σ.hp ∧ D pos σ)
noncomputable def RdL (G : Stat) (M : MA) (RS : Nat → List O → Prop) (L : List Nat) (q it : Nat) (hpB : List O) (J : Nat → Nat → St → Prop) (D : Nat → St → Prop) (m : Nat) (σ : St) : Prop := ∃ m', m' < m + 1 ∧ RdI G M RS L q it hpB J D m' σ
theorem RdL.live {J : Nat → Nat → St → Prop} {D : Nat → St → Prop} {m m' pos : Nat} {σ : St} (hm : m' < m) (h : Cit G M RS L q it hpB false pos σ.hp) (hJ : J m' pos σ) : RdL G M RS L q it hpB J D m σ := ⟨m' + 1, Nat.succ_lt_succ hm, .inl ⟨m', rfl, pos, h, hJ⟩⟩
theorem RdL.done {J : Nat → Nat → St → Prop} {D : Nat → St → Prop} {m pos : Nat} {σ : St} (h : Cit G M RS L q it hpB true pos σ.hp) (hD : D pos σ) : RdL G M RS L q it hpB J D m σ := ⟨0, Nat.succ_pos _, .inr ⟨rfl, pos, h, hD⟩⟩
theorem for_rd (R : Rd G M text L N RS) (hn : N + 1 ≤ n) {pos : Nat} {σ : St} (h : Cit G M RS L q it hpB false pos σ.hp) (hk : k ≤ hpB.length) (hq : q < hpB.length) (hit : it < hpB.length) (J : Nat → Nat → St → Prop) (D : Nat → St → Prop) {m : Nat} (h0 : J m pos σ)
    (hdone : ∀ pos σ, Cit G M RS L q it hpB true pos σ.hp → D pos σ → K .next σ)
    (hend : ∀ m pos σ hp', Cit G M RS L q it hpB false pos σ.hp → J m pos σ → text[pos]? = none → Cit G M RS L q it hpB true pos hp' → K .next ⟨σ.loc, hp'⟩)
    (hstep : ∀ m pos σ c hp', Cit G M RS L q it hpB false pos σ.hp → J m pos σ → text[pos]? = some c → Cit G M RS L q it hpB false (pos + 1) hp' → wt (.str [c]) ⟨σ.loc, hp'⟩ fun σ => wb hpB.length σ (aft K (RdL G M RS L q it hpB J D m))) :
    forV wt wb k G n (.ref it) σ K := by
  rw [fvR, h.ci]
  show forO wt wb k G n it _ σ K
  rw [foC]
  refine ⟨hpB.length, RdI G M RS L q it hpB J D, .readChar, .ref M.s, hk, hit, hq, h.e.1, ⟨m + 1, .inl ⟨m, rfl, pos, h, h0⟩⟩, ?_⟩
  rintro m σ (⟨m, rfl, pos, h, hJ⟩ | ⟨rfl, pos, h, hD⟩)
  · refine ⟨h.me, .inr ⟨h.ci, Nat.le_trans (Nat.succ_le_succ (Nat.zero_le _)) hn, callT_meth h.me (R.read (Nat.le_sub_of_add_le hn) h.rs (fun hc hp' r e => ?_) (fun c hc hp' r e => ?_))⟩⟩
    · have h' := h.step R r e
      refine ⟨h'.ci, h'.me, ?_⟩
      rw [vS]
      refine ifp (c := ([] : List Nat) = []) rfl ?_
      exact hend m pos σ _ h hJ hc (h'.fin R)
    · have h' := h.step R r e
      refine ⟨h'.ci, h'.me, ?_⟩
      rw [vS]
      refine ifn (c := ([] : List Nat) = [c]) (fun q => nomatch q) ?_
      exact hstep m pos σ c hp' h hJ hc h'
  · exact ⟨h.me, .inl ⟨h.ci, hdone pos σ h hD⟩⟩
noncomputable def locG (M : MA) (tok : List Nat) (it : Nat) (ch : Option V) : List (Option V) := [some (.ref M.s), some (.str tok), some (.ref it), ch, none]
noncomputable def JG (M : MA) (it : Nat) (text : List Nat) (lex : List Nat → List Nat → List Nat × List Nat) (F : List Nat × List Nat) (m pos : Nat) (σ : St) : Prop := ∃ tok ch, m = text.length - pos ∧ σ.loc = locG M tok it ch ∧ tok.length ≤ pos ∧ lex tok (text.drop pos) = F
noncomputable def tailQ : List IS := [.aug (.loc 1) .Add (.loc 3)]
theorem aug_wp {cl : List (Option Nat)} {tok cs : List Nat} {hp : List O} {n : Nat} {r : List IS} {K : Fl → St → Prop} (hl : tok.length + cs.length ≤ 200000) (h : wpSs G n cl k r ⟨locG M (tok ++ cs) it (some (.str cs)), hp⟩ K) : wpSs G n cl k (.aug (.loc 1) .Add (.loc 3) :: r) ⟨locG M tok it (some (.str cs)), hp⟩ K := by
  unfold locG
  refine mAugL ?_
  dsimp only [tCmp, tAnd, tOr, tNot, tLc, tAt, eK, eLoc, eStat, eBin, eCmp, eIfe, eList, eTup, eAttr, eMattr, eCall, eNew, eBf, eBm, eUm, eAm, eSub, eSli, esN, esC, oN, oS, gLoc, gCel, gAttr, gSub, gTup, gsC, gsNil, cEq, cNe, cLt, cLe, cGt, cGe, cIn, cNi, ltII, bII, bSS, bRR, bRI, biAdd, biSub, biMul, biMod, biDiv, biPow, adS, adL, mlL, iII, iSS, niAdd, niSub, niDiv, fLen, fAbs, fStr, fMin, fRng, rg1, rg2, fItr, fSum, o1, lnS, lnR, vI, vS, vR, suR, suS, slII, svS, lc0, lcS, List.getElem?_cons_zero, List.getElem?_cons_succ, List.set_cons_zero, List.set_cons_succ, List.length_cons, List.length_nil, qSS, qII, qIS, qSI, nS, inO, o2, hkI, hkS, hkR, hkN, sqN, ssN]
  exact ⟨Nat.le_trans hl (by decide), by decide, h⟩
theorem tail_wp {cl : List (Option Nat)} {tok cs : List Nat} {hp : List O} {n : Nat} {K : Fl → St → Prop} (hl : tok.length + cs.length ≤ 200000) (h : K .next ⟨locG M (tok ++ cs) it (some (.str cs)), hp⟩) : wpSs G n cl k tailQ ⟨locG M tok it (some (.str cs)), hp⟩ K := by
  exact aug_wp hl h
noncomputable def escQ : IS := .ite (.cmp .Eq (.loc 3) (.k (.str [92]))) [.assign (.loc 3) (.um .readChar (.loc 0) [])] []
theorem esc_wp (R : Rd G M text L N RS) (hn : N ≤ n) {cl : List (Option Nat)} {tok : List Nat} {c pos : Nat} {hp : List O} {K : Fl → St → Prop} (h : Cit G M RS L q it hpB false pos hp)
    (h1 : c ≠ 92 → K .next ⟨locG M tok it (some (.str [c])), hp⟩)
    (h2 : c = 92 → text[pos]? = none → ∀ hp', Cit G M RS L q it hpB false pos hp' → K .next ⟨locG M tok it (some (.str [])), hp'⟩)
    (h3 : c = 92 → ∀ d, text[pos]? = some d → ∀ hp', Cit G M RS L q it hpB false (pos + 1) hp' → K .next ⟨locG M tok it (some (.str [d])), hp'⟩) : wpS G n cl k escQ ⟨locG M tok it (some (.str [c])), hp⟩ K := by
  unfold escQ locG
  refine wIte ?_
  dsimp only [tCmp, tAnd, tOr, tNot, tLc, tAt, eK, eLoc, eStat, eBin, eCmp, eIfe, eList, eTup, eAttr, eMattr, eCall, eNew, eBf, eBm, eUm, eAm, eSub, eSli, esN, esC, oN, oS, gLoc, gCel, gAttr, gSub, gTup, gsC, gsNil, cEq, cNe, cLt, cLe, cGt, cGe, cIn, cNi, ltII, bII, bSS, bRR, bRI, biAdd, biSub, biMul, biMod, biDiv, biPow, adS, adL, mlL, iII, iSS, niAdd, niSub, niDiv, fLen, fAbs, fStr, fMin, fRng, rg1, rg2, fItr, fSum, o1, lnS, lnR, vI, vS, vR, suR, suS, slII, svS, lc0, lcS, List.getElem?_cons_zero, List.getElem?_cons_succ, List.set_cons_zero, List.set_cons_succ, List.length_cons, List.length_nil, qSS, qII, qIS, qSI, nS, inO, o2, hkI, hkS, hkR, hkN, sqN, ssN]
  by_cases hc : c = 92
  · refine ifp (by simpa using hc) ?_
    refine mAssign ?_
    dsimp only [tCmp, tAnd, tOr, tNot, tLc, tAt, eK, eLoc, eStat, eBin, eCmp, eIfe, eList, eTup, eAttr, eMattr, eCall, eNew, eBf, eBm, eUm, eAm, eSub, eSli, esN, esC, oN, oS, gLoc, gCel, gAttr, gSub, gTup, gsC, gsNil, cEq, cNe, cLt, cLe, cGt, cGe, cIn, cNi, ltII, bII, bSS, bRR, bRI, biAdd, biSub, biMul, biMod, biDiv, biPow, adS, adL, mlL, iII, iSS, niAdd, niSub, niDiv, fLen, fAbs, fStr, fMin, fRng, rg1, rg2, fItr, fSum, o1, lnS, lnR, vI, vS, vR, suR, suS, slII, svS, lc0, lcS, List.getElem?_cons_zero, List.getElem?_cons_succ, List.set_cons_zero, List.set_cons_succ, List.length_cons, List.length_nil, qSS, qII, qIS, qSI, nS, inO, o2, hkI, hkS, hkR, hkN, sqN, ssN]
    obtain ⟨fs, i1, _⟩ := R.ins h.rs
    refine onI_mk i1 (R.read hn h.rs (fun hn hp' r e => ⟨(by decide), ?_⟩) (fun d hd hp' r e => ⟨(by decide), ?_⟩))
    · exact h2 hc hn hp' (h.step R r e)
    · exact h3 hc d hd hp' (h.step R r e)
  · exact ifn (by simpa using hc) (h1 hc)
theorem loopQ_eq : loopQ = .for (.loc 3) (.loc 2) (.ite (.cmp .Eq (.loc 3) (.k (.str [34]))) [.ret (.loc 1)] [escQ] :: tailQ) := rfl
theorem loopP_eq : loopP = .for (.loc 3) (.loc 2) (.ite (.cmp .In (.loc 3) (.attr (.loc 0) .whitespace)) [.ret (.loc 1)] [escQ] :: tailQ) := rfl
structure LexL (lex : List Nat → List Nat → List Nat × List Nat) (stop : Nat → Bool) : Prop where
  nil : ∀ tok, lex tok [] = (tok, [])
  fin : ∀ tok r c, stop c = true → lex tok (c :: r) = (tok, r)
  esc : ∀ tok r e, lex tok (92 :: e :: r) = lex (tok ++ [e]) r
  esc0 : ∀ tok, lex tok [92] = (tok, [])
  c : ∀ tok r c, stop c = false → c ≠ 92 → lex tok (c :: r) = lex (tok ++ [c]) r
  bs : stop 92 = false
theorem lexL_Q : LexL lexQ (fun c => decide (c = 34)) := ⟨lexQ_nil, fun tok r c h => by rw [of_decide_eq_true h]; exact lexQ_end tok r, lexQ_esc, lexQ_esc0, fun tok r c h1 h2 => lexQ_c tok r (of_decide_eq_false h1) h2, rfl⟩
theorem lexL_P : LexL lexP isWs := ⟨lexP_nil, fun tok r c h => lexP_end tok r h, lexP_esc, lexP_esc0, fun tok r c h1 h2 => lexP_c tok r h1 h2, rfl⟩
theorem ssl {p n : Nat} (h : p < n) : n - (p + 1) < n - p := Nat.sub_succ_lt_self _ _ h
theorem le3 {a p n : Nat} (h1 : a ≤ p) (h2 : p < n) (h3 : n ≤ 100000) : a + 1 ≤ 200000 := Nat.le_trans (Nat.succ_le_succ h1) (Nat.le_trans h2 (Nat.le_trans h3 (by decide)))
theorem loop_gen (R : Rd G M text L N RS) (hn : N + 1 ≤ n) {test : IE} {lex : List Nat → List Nat → List Nat × List Nat} {stop : Nat → Bool} (X : LexL lex stop) {pos : Nat} {tok : List Nat} {ch : Option V} {hp : List O} {F : List Nat × List Nat}
    (ht : ∀ {tok : List Nat} {c pos : Nat} {hp : List O} {K' : Bool → St → Prop}, RS pos hp → K' (stop c) ⟨locG M tok it (some (.str [c])), hp⟩ → wpT G n [] test ⟨locG M tok it (some (.str [c])), hp⟩ K')
    (h : Cit G M RS L q it hpB false pos hp) (hk : k ≤ hpB.length) (hq : q < hpB.length) (hit : it < hpB.length) (htl : tok.length ≤ pos) (hF : lex tok (text.drop pos) = F)
    (hret : ∀ σ' pos', Cit G M RS L q it hpB false pos' σ'.hp → text.drop pos' = F.2 → K (.ret (.str F.1)) σ')
    (hnext : ∀ ch hp' pos', Cit G M RS L q it hpB true pos' hp' → text.drop pos' = [] → F.2 = [] → F.1.length ≤ pos' → K .next ⟨locG M F.1 it ch, hp'⟩) :
    wpS G n [] k (.for (.loc 3) (.loc 2) (.ite test [.ret (.loc 1)] [escQ] :: tailQ)) ⟨locG M tok it ch, hp⟩ K := by
  refine wFor ?_
  rw [eLoc]
  refine for_rd (σ := ⟨locG M tok it ch, hp⟩) R hn h hk hq hit (JG M it text lex F) (fun _ _ => False) ⟨tok, ch, rfl, rfl, htl, hF⟩ (fun _ _ _ h => h.elim) ?_ ?_
  · rintro m pos ⟨loc, hp⟩ hp' h ⟨tok, ch, rfl, rfl, htl, hF⟩ hc h'
    rw [drop_nil hc, X.nil] at hF
    subst hF
    exact hnext ch hp' pos h' (drop_nil hc) rfl htl
  · rintro m pos ⟨loc, hp⟩ c hp' h ⟨tok, ch, rfl, rfl, htl, hF⟩ hc h'
    have hlt := lt_of_get hc
    have hsm := R.sm
    rw [drop_cons hc] at hF
    rw [gLoc]
    refine ⟨by show 3 < 5; decide, ?_⟩
    refine mIte ?_
    refine ht h'.rs ?_
    by_cases hs : stop c = true
    · refine ifp hs ?_
      rw [X.fin tok _ c hs] at hF
      subst hF
      exact hret _ (pos + 1) h' rfl
    · refine ifn hs (mSt (esc_wp R (Nat.le_of_succ_le hn) h' (fun hne => ?_) (fun he hn hp2 h2 => ?_) (fun he d hd hp2 h2 => ?_)))
      · refine tail_wp (le3 htl hlt hsm) (RdL.live (m' := text.length - (pos + 1)) (ssl hlt) h' ⟨tok ++ [c], _, rfl, rfl, ?_, ?_⟩)
        · rw [List.length_append]; exact Nat.succ_le_succ htl
        · rw [X.c tok _ c (by simpa using hs) hne] at hF; exact hF
      · refine tail_wp (Nat.le_of_succ_le (le3 htl hlt hsm)) (RdL.live (m' := text.length - (pos + 1)) (ssl hlt) h2 ⟨tok, _, rfl, by rw [List.append_nil], Nat.le_succ_of_le htl, ?_⟩)
        · rw [he, drop_nil hn, X.esc0] at hF
          rw [drop_nil hn, X.nil]; exact hF
      · have := lt_of_get hd
        refine tail_wp (le3 htl hlt hsm) (RdL.live (m' := text.length - (pos + 1 + 1)) (Nat.lt_trans (ssl this) (ssl hlt)) h2 ⟨tok ++ [d], _, rfl, rfl, ?_, ?_⟩)
        · rw [List.length_append]; exact Nat.le_succ_of_le (Nat.succ_le_succ htl)
        · rw [he, drop_cons hd, X.esc] at hF; exact hF
theorem test_Q {tok : List Nat} {c : Nat} {hp : List O} {n : Nat} {cl : List (Option Nat)} {K' : Bool → St → Prop} (h : K' (decide (c = 34)) ⟨locG M tok it (some (.str [c])), hp⟩) : wpT G n cl (.cmp .Eq (.loc 3) (.k (.str [34]))) ⟨locG M tok it (some (.str [c])), hp⟩ K' := by
  have e : ([c] == [34]) = decide (c = 34) := by
    by_cases q : c = 34
    · subst q; rfl
    · rw [decide_eq_false q]; simpa using q
  show K' ([c] == [34]) _
  rw [e]; exact h
theorem test_P (R : Rd G M text L N RS) {tok : List Nat} {c pos : Nat} {hp : List O} {n : Nat} {cl : List (Option Nat)} {K' : Bool → St → Prop} (hr : RS pos hp) (h : K' (isWs c) ⟨locG M tok it (some (.str [c])), hp⟩) : wpT G n cl (.cmp .In (.loc 3) (.attr (.loc 0) .whitespace)) ⟨locG M tok it (some (.str [c])), hp⟩ K' := by
  obtain ⟨fs, i1, i2, _⟩ := R.ins hr
  unfold locG at h ⊢
  dsimp only [tCmp, tAnd, tOr, tNot, tLc, tAt, eK, eLoc, eStat, eBin, eCmp, eIfe, eList, eTup, eAttr, eMattr, eCall, eNew, eBf, eBm, eUm, eAm, eSub, eSli, esN, esC, oN, oS, gLoc, gCel, gAttr, gSub, gTup, gsC, gsNil, cEq, cNe, cLt, cLe, cGt, cGe, cIn, cNi, ltII, bII, bSS, bRR, bRI, biAdd, biSub, biMul, biMod, biDiv, biPow, adS, adL, mlL, iII, iSS, niAdd, niSub, niDiv, fLen, fAbs, fStr, fMin, fRng, rg1, rg2, fItr, fSum, o1, lnS, lnR, vI, vS, vR, suR, suS, slII, svS, lc0, lcS, List.getElem?_cons_zero, List.getElem?_cons_succ, List.set_cons_zero, List.set_cons_succ, List.length_cons, List.length_nil, qSS, qII, qIS, qSI, nS, inO, o2, hkI, hkS, hkR, hkN, sqN, ssN]
  exact getA_mk i1 i2 rfl h
end
end Mine
namespace Mine
open PySem PySem.W PySem.Calls PyProof.Rows
section
variable {G : Stat} (lx : Lx G) {M : MA} {text L : List Nat} {N n : Nat} {RS : Nat → List O → Prop}
theorem lexS_ws {c : Nat} {r : List Nat} (h : isWs c = true) : lexS (c :: r) = lexS r := by cases r <;> (conv => lhs; unfold lexS) <;> rw [if_pos h]
theorem lexS_q {r : List Nat} : lexS (34 :: r) = lexQ [] r := by cases r <;> rfl
theorem lexS_esc {e : Nat} {r : List Nat} : lexS (92 :: e :: r) = lexP [e] r := rfl
theorem lexS_esc0 : lexS [92] = ([], []) := rfl
theorem lexS_c {c : Nat} {r : List Nat} (h : isWs c = false) (h1 : c ≠ 34) (h2 : c ≠ 92) : lexS (c :: r) = lexP [c] r := by cases r <;> (conv => lhs; unfold lexS) <;> rw [if_neg (by simp [h]), if_neg h1, if_neg h2]
theorem truthL {σ : St} {K : Bool → St → Prop} {i : Nat} {xs : List V} (h : σ.hp[i]? = some (.list xs)) (hl : xs.length ≤ 100000) (hK : K (!xs.isEmpty) σ) : wpTruth (.ref i) σ K := by
  rw [trR]; exact onL_mk h ⟨Nat.le_trans hl (by decide), hK⟩
include lx in
theorem get_pb {fs : List (At × V)} {d : Nat} {hp : List O} {x : V} {xs : List V} {K : V → List O → Prop} (hi : instAt hp (.ref M.s) = some (d, fs)) (hg : getA .pushback fs = some (.ref M.p)) (hpb : hp[M.p]? = some (.list (x :: xs))) (hlen : (x :: xs).length ≤ 100000)
    (hK : K x (hp.set M.p (.list xs))) : CallT G (n + 1) (.stat (.ref (G.mf .getToken))) [.ref M.s] hp K := by
  refine lx.get n (.ref M.s) hp K ?_
  unfold is_get_token
  refine mIte ?_
  dsimp only [tCmp, tAnd, tOr, tNot, tLc, tAt, eK, eLoc, eStat, eBin, eCmp, eIfe, eList, eTup, eAttr, eMattr, eCall, eNew, eBf, eBm, eUm, eAm, eSub, eSli, esN, esC, oN, oS, gLoc, gCel, gAttr, gSub, gTup, gsC, gsNil, cEq, cNe, cLt, cLe, cGt, cGe, cIn, cNi, ltII, bII, bSS, bRR, bRI, biAdd, biSub, biMul, biMod, biDiv, biPow, adS, adL, mlL, iII, iSS, niAdd, niSub, niDiv, fLen, fAbs, fStr, fMin, fRng, rg1, rg2, fItr, fSum, o1, lnS, lnR, vI, vS, vR, suR, suS, slII, svS, lc0, lcS, List.getElem?_cons_zero, List.getElem?_cons_succ, List.set_cons_zero, List.set_cons_succ, List.length_cons, List.length_nil, qSS, qII, qIS, qSI, nS, inO, o2, hkI, hkS, hkR, hkN, sqN, ssN]
  refine getA_mk hi hg rfl (truthL hpb hlen ?_)
  refine ifp rfl (mRet ?_)
  dsimp only [tCmp, tAnd, tOr, tNot, tLc, tAt, eK, eLoc, eStat, eBin, eCmp, eIfe, eList, eTup, eAttr, eMattr, eCall, eNew, eBf, eBm, eUm, eAm, eSub, eSli, esN, esC, oN, oS, gLoc, gCel, gAttr, gSub, gTup, gsC, gsNil, cEq, cNe, cLt, cLe, cGt, cGe, cIn, cNi, ltII, bII, bSS, bRR, bRI, biAdd, biSub, biMul, biMod, biDiv, biPow, adS, adL, mlL, iII, iSS, niAdd, niSub, niDiv, fLen, fAbs, fStr, fMin, fRng, rg1, rg2, fItr, fSum, o1, lnS, lnR, vI, vS, vR, suR, suS, slII, svS, lc0, lcS, List.getElem?_cons_zero, List.getElem?_cons_succ, List.set_cons_zero, List.set_cons_succ, List.length_cons, List.length_nil, qSS, qII, qIS, qSI, nS, inO, o2, hkI, hkS, hkR, hkN, sqN, ssN]
  refine getA_mk hi hg rfl ⟨⟨rfl, _, hpb⟩, ?_⟩
  exact pop_mk (σ := ⟨_, hp⟩) (k := 0) hpb rfl hlen hK
noncomputable def bodyG : List IS := [.ite (.cmp .In (.loc 3) (.attr (.loc 0) .whitespace)) [.cont] [], .ite (.cmp .Eq (.loc 3) (.k (.str [34]))) [loopQ] (escQ :: .aug (.loc 1) .Add (.loc 3) :: [loopP])]
theorem get_eq : is_get_token = [
  .ite (.attr (.loc 0) .pushback) [.ret (.bm .pop (.attr (.loc 0) .pushback) [(.k (.int 0))])] [],
  .assign (.loc 1) (.k (.str [])),
  .assign (.loc 2) (.bf .iter [(.mattr (.loc 0) .readChar), (.k (.str []))]),
  .for (.loc 3) (.loc 2) bodyG,
  .ret (.loc 1)] := rfl
noncomputable def JS (M : MA) (it : Nat) (text : List Nat) (F : List Nat × List Nat) (m pos : Nat) (σ : St) : Prop := ∃ ch, m = text.length - pos ∧ σ.loc = locG M [] it ch ∧ lexS (text.drop pos) = F
noncomputable def DS0 (M : MA) (it : Nat) (text : List Nat) (F : List Nat × List Nat) (pos : Nat) (σ : St) : Prop := ∃ ch, σ.loc = locG M F.1 it ch ∧ text.drop pos = [] ∧ F.2 = []
theorem body_wp (R : Rd G M text L N RS) (hn : N + 1 ≤ n) {q it c m pos : Nat} {hp hpB : List O} {F : List Nat × List Nat} {K : Fl → St → Prop} (hq : q < hpB.length) (hit : it < hpB.length) (hlt : pos < text.length) (hm : m = text.length - pos) (h : Cit G M RS L q it hpB false (pos + 1) hp) (hF : lexS (c :: text.drop (pos + 1)) = F)
    (hret : ∀ σ' pos', Cit G M RS L q it hpB false pos' σ'.hp → text.drop pos' = F.2 → K (.ret (.str F.1)) σ') :
    wpSs G n [] hpB.length bodyG ⟨locG M [] it (some (.str [c])), hp⟩ (aft K (RdL G M RS L q it hpB (JS M it text F) (DS0 M it text F) m)) := by
  have hnext : ∀ ch hp' pos', Cit G M RS L q it hpB true pos' hp' → text.drop pos' = [] → F.2 = [] → F.1.length ≤ pos' → RdL G M RS L q it hpB (JS M it text F) (DS0 M it text F) m ⟨locG M F.1 it ch, hp'⟩ := fun ch hp' pos' h' h1 h2 _ => .done h' ⟨ch, rfl, h1, h2⟩
  have P : ∀ {pos2 : Nat} {tok : List Nat} {ch : Option V} {hp2 : List O}, Cit G M RS L q it hpB false pos2 hp2 → tok.length ≤ pos2 → lexP tok (text.drop pos2) = F → wpSs G n [] hpB.length [loopP] ⟨locG M tok it ch, hp2⟩ (aft K (RdL G M RS L q it hpB (JS M it text F) (DS0 M it text F) m)) := fun {pos2 tok ch hp2} h2 htl hF2 => by
    refine mSt ?_
    rw [loopP_eq]
    exact loop_gen R hn lexL_P (fun hr hk => test_P R hr hk) h2 (Nat.le_refl _) hq hit htl hF2 hret hnext
  unfold bodyG
  refine mIte (test_P R h.rs ?_)
  by_cases cw : isWs c = true
  · refine ifp cw ?_
    rw [lexS_ws cw] at hF
    exact RdL.live (m' := text.length - (pos + 1)) (hm ▸ ssl hlt) h ⟨_, rfl, rfl, hF⟩
  · refine ifn cw ?_
    have cw : isWs c = false := by simpa using cw
    refine mIte (test_Q ?_)
    by_cases c34 : c = 34
    · refine ifp (decide_eq_true c34) (mSt ?_)
      rw [c34, lexS_q] at hF
      rw [loopQ_eq]
      exact loop_gen R hn lexL_Q (fun _ hk => test_Q hk) h (Nat.le_refl _) hq hit (Nat.zero_le _) hF hret hnext
    · refine ifn (by simpa using c34) (mSt (esc_wp R (Nat.le_of_succ_le hn) h (fun hne => ?_) (fun he hn2 hp2 h2 => ?_) (fun he d hd hp2 h2 => ?_)))
      · rw [lexS_c cw c34 hne] at hF
        exact aug_wp (show 0 + 1 ≤ 200000 by decide) (P h (by simp) hF)
      · rw [he, drop_nil hn2, lexS_esc0] at hF
        exact aug_wp (by decide) (P h2 (Nat.zero_le _) (by rw [drop_nil hn2, List.append_nil, lexP_nil]; exact hF))
      · rw [he, drop_cons hd, lexS_esc] at hF
        exact aug_wp (show 0 + 1 ≤ 200000 by decide) (P h2 (by simp) hF)
include lx in
theorem get_gen (R : Rd G M text L N RS) (hn : N + 2 ≤ n) {pos : Nat} {hp : List O} {K : V → List O → Prop} (hr : RS pos hp) (hpb : hp[M.p]? = some (.list []))
    (hK : ∀ hp' pos', RS pos' hp' → text.drop pos' = (lexS (text.drop pos)).2 → Ext L hp hp' → K (.str (lexS (text.drop pos)).1) hp') : CallT G n (.stat (.ref (G.mf .getToken))) [.ref M.s] hp K := by
  obtain ⟨n, rfl⟩ : ∃ n', n = n' + 1 := ⟨n - 1, by omega⟩
  have hn : N + 1 ≤ n := Nat.le_of_succ_le_succ hn
  refine lx.get n (.ref M.s) hp K ?_
  obtain ⟨F, hF⟩ : ∃ F, lexS (text.drop pos) = F := ⟨_, rfl⟩
  rw [hF] at hK
  obtain ⟨fs, i1, i2, i3⟩ := R.ins hr
  rw [get_eq]
  refine mIte ?_
  dsimp only [tCmp, tAnd, tOr, tNot, tLc, tAt, eK, eLoc, eStat, eBin, eCmp, eIfe, eList, eTup, eAttr, eMattr, eCall, eNew, eBf, eBm, eUm, eAm, eSub, eSli, esN, esC, oN, oS, gLoc, gCel, gAttr, gSub, gTup, gsC, gsNil, cEq, cNe, cLt, cLe, cGt, cGe, cIn, cNi, ltII, bII, bSS, bRR, bRI, biAdd, biSub, biMul, biMod, biDiv, biPow, adS, adL, mlL, iII, iSS, niAdd, niSub, niDiv, fLen, fAbs, fStr, fMin, fRng, rg1, rg2, fItr, fSum, o1, lnS, lnR, vI, vS, vR, suR, suS, slII, svS, lc0, lcS, List.getElem?_cons_zero, List.getElem?_cons_succ, List.set_cons_zero, List.set_cons_succ, List.length_cons, List.length_nil, qSS, qII, qIS, qSI, nS, inO, o2, hkI, hkS, hkR, hkN, sqN, ssN]
  refine getA_mk i1 i3 rfl (truthL hpb (Nat.zero_le _) ?_)
  refine ifn (by decide) ?_
  refine mAssign ?_
  dsimp only [tCmp, tAnd, tOr, tNot, tLc, tAt, eK, eLoc, eStat, eBin, eCmp, eIfe, eList, eTup, eAttr, eMattr, eCall, eNew, eBf, eBm, eUm, eAm, eSub, eSli, esN, esC, oN, oS, gLoc, gCel, gAttr, gSub, gTup, gsC, gsNil, cEq, cNe, cLt, cLe, cGt, cGe, cIn, cNi, ltII, bII, bSS, bRR, bRI, biAdd, biSub, biMul, biMod, biDiv, biPow, adS, adL, mlL, iII, iSS, niAdd, niSub, niDiv, fLen, fAbs, fStr, fMin, fRng, rg1, rg2, fItr, fSum, o1, lnS, lnR, vI, vS, vR, suR, suS, slII, svS, lc0, lcS, List.getElem?_cons_zero, List.getElem?_cons_succ, List.set_cons_zero, List.set_cons_succ, List.length_cons, List.length_nil, qSS, qII, qIS, qSI, nS, inO, o2, hkI, hkS, hkR, hkN, sqN, ssN]
  refine ⟨by decide, mAssign ?_⟩
  dsimp only [tCmp, tAnd, tOr, tNot, tLc, tAt, eK, eLoc, eStat, eBin, eCmp, eIfe, eList, eTup, eAttr, eMattr, eCall, eNew, eBf, eBm, eUm, eAm, eSub, eSli, esN, esC, oN, oS, gLoc, gCel, gAttr, gSub, gTup, gsC, gsNil, cEq, cNe, cLt, cLe, cGt, cGe, cIn, cNi, ltII, bII, bSS, bRR, bRI, biAdd, biSub, biMul, biMod, biDiv, biPow, adS, adL, mlL, iII, iSS, niAdd, niSub, niDiv, fLen, fAbs, fStr, fMin, fRng, rg1, rg2, fItr, fSum, o1, lnS, lnR, vI, vS, vR, suR, suS, slII, svS, lc0, lcS, List.getElem?_cons_zero, List.getElem?_cons_succ, List.set_cons_zero, List.set_cons_succ, List.length_cons, List.length_nil, qSS, qII, qIS, qSI, nS, inO, o2, hkI, hkS, hkR, hkN, sqN, ssN]
  refine onI_mk i1 ?_
  unfold wIter
  rw [vR, vS, List.getElem?_concat_length]
  have e0 : Ext [] hp (hp ++ [O.meth (.stat (.ref (G.mf .readChar))) (.ref M.s)] ++ [O.citer (.ref hp.length) (.str []) false]) := by rw [List.append_assoc]; exact .app
  have c0 : Cit G M RS L hp.length (hp.length + 1) (hp ++ [O.meth (.stat (.ref (G.mf .readChar))) (.ref M.s)] ++ [O.citer (.ref hp.length) (.str []) false]) false pos (hp ++ [O.meth (.stat (.ref (G.mf .readChar))) (.ref M.s)] ++ [O.citer (.ref hp.length) (.str []) false]) := by
    refine ⟨R.app (R.app hr), .refl _ _, ?_, ?_⟩
    · rw [List.append_assoc]; simp
    · rw [List.append_assoc, List.getElem?_append_right (Nat.le_add_right _ 1), Nat.add_sub_cancel_left]; rfl
  have l0 : (hp ++ [O.meth (.stat (.ref (G.mf .readChar))) (.ref M.s)] ++ [O.citer (.ref hp.length) (.str []) false]).length = hp.length + 2 := by simp
  dsimp only
  rw [show (hp ++ [O.meth (.stat (.ref (G.mf .readChar))) (.ref M.s)]).length = hp.length + 1 by simp]
  generalize hp ++ [O.meth (.stat (.ref (G.mf .readChar))) (.ref M.s)] ++ [O.citer (.ref hp.length) (.str []) false] = hpB at e0 c0 l0 ⊢
  have fin : ∀ {d : Bool} {pos' : Nat} {hp' : List O}, Cit G M RS L hp.length (hp.length + 1) hpB d pos' hp' → text.drop pos' = F.2 → K (.str F.1) hp' := fun h hd =>
    hK _ _ h.rs hd (((e0.mono (fun i hi => (nomatch hi))).trans h.e).drop (Nat.le_succ _))
  refine ⟨by show 2 < 5; decide, mFor ?_⟩
  rw [eLoc]
  refine for_rd (σ := ⟨locG M [] (hp.length + 1) none, hpB⟩) R hn c0 (by omega) (by omega) (by omega) (JS M (hp.length + 1) text F) (DS0 M (hp.length + 1) text F) ⟨none, rfl, rfl, hF⟩ ?_ ?_ ?_
  · rintro pos1 ⟨loc, hp1⟩ h1 ⟨ch, rfl, hd, h2⟩
    exact fin h1 (hd.trans h2.symm)
  · rintro m pos1 ⟨loc, hp1⟩ hp2 h1 ⟨ch, _, rfl, hF1⟩ hc h2
    rw [drop_nil hc] at hF1
    have hF1 : ([], []) = F := hF1
    subst hF1
    exact fin h2 (drop_nil hc)
  · rintro m pos1 ⟨loc, hp1⟩ c hp2 h1 ⟨ch, rfl, rfl, hF1⟩ hc h2
    rw [drop_cons hc] at hF1
    rw [gLoc]
    refine ⟨by show 3 < 5; decide, ?_⟩
    exact body_wp R hn (by omega) (by omega) (lt_of_get hc) rfl h2 hF1 fun σ' pos' h3 hd => fin h3 hd
end
section
variable {G : Stat} (lx : Lx G) {T : SA} {M : MA} {text : List Nat}
noncomputable def RS1 (G : Stat) (T : SA) (M : MA) (text : List Nat) (ln0 : Int) (pos : Nat) (hp : List O) : Prop := Strm (G.fn 0).qual T text hp pos ∧ Mc T M hp (ln0 + nl (text.take pos))
include lx in
theorem rd1 {ln0 : Int} (hsm : text.length ≤ 100000) : Rd G M text [T.a, M.d] 2 (RS1 G T M text ln0) where
  read := fun {n pos hp K} hn h hend hsome => by
    obtain ⟨n, rfl⟩ : ∃ n', n = n' + 2 := ⟨n - 2, by omega⟩
    refine read_ok lx h.1 h.2 (fun hc hp' S m e => hend hc hp' ⟨S, m⟩ e) (fun c hc hp' S m e => hsome c hc hp' ⟨S, ?_⟩ e)
    rw [nl_take hc, ← Int.add_assoc]; exact m
  keep := fun {pos hp hp'} h {i f s d} hi e => by
    obtain ⟨fs, h8, h9⟩ := h.1.dt
    have hd := h.2.d
    unfold dctOf at hd
    have ni : ∀ {j : Nat} {o : O}, hp[j]? = some o → (∀ f s d, o ≠ .citer f s d) → j ∉ [i] := fun h1 h2 => by rw [List.mem_singleton]; exact ne_of h1 hi (h2 _ _ _)
    exact ⟨h.1.keep e (ni h.1.t (by simp)) (ni h8 (by simp)) (ni h.1.f (by simp)) (ni h.1.c (by simp)) (ni h.1.ct (by simp)) (ni h.1.ca (by simp)) (ni h.1.a (by simp)), e.get h.2.s (ni h.2.s (by simp)), e.get h.2.d (ni hd (by simp))⟩
  app := fun {pos hp t} h => by
    have e : Ext [] hp (hp ++ t) := .app
    exact ⟨h.1.keep e (by simp) (by simp) (by simp) (by simp) (by simp) (by simp) (by simp), e.get h.2.s (by simp), e.get h.2.d (by simp)⟩
  nin := fun {pos hp} h {i o} hi ho => by
    have hd := h.2.d
    unfold dctOf at hd
    simp only [List.mem_cons, List.not_mem_nil, or_false, not_or]
    rcases ho with ⟨f, s, rfl⟩ | ⟨f, s, d, rfl⟩
    · exact ⟨ne_of hi h.1.a (by simp), ne_of hi hd (by simp)⟩
    · exact ⟨ne_of hi h.1.a (by simp), ne_of hi hd (by simp)⟩
  ins := fun h => ⟨_, instM h.2, rfl, rfl⟩
  le := fun h => h.1.le
  sm := hsm
end
end Mine
namespace Mine
open PySem PySem.W PySem.Calls PyProof.Rows
noncomputable def figBody (B N : Int) : List IS := [
    .assign (.loc 3) (.bin .Mod (.bf .abs [(.loc 2)]) (.bin .Pow (.k (.int B)) (.k (.int N)))),
    .whl (.cmp .Lt (.bf .len [(.loc 1)]) (.k (.int N))) [
      .expr (.bm .append (.loc 1) [(.bin .Mod (.loc 3) (.k (.int B)))]),
      .aug (.loc 3) .FloorDiv (.k (.int B)),
      .ite (.cmp .Eq (.loc 3) (.k (.int 0))) [.brk] []]]
noncomputable def is_figs (B N : Int) (dflt : List IE) : List IS := [
  .assign (.loc 1) (.list []),
  .for (.loc 2) (.loc 0) (figBody B N),
  .ret (.ife (.cmp .NotEq (.loc 1) (.list [])) (.loc 1) (.list dflt))]
theorem rds_ints (f : V → Option PyData) (hf : ∀ i, f (.int i) = some (.int i)) : ∀ xs : List Int, rds f (xs.map V.int) = some (xs.map PyData.int)
  | [] => rfl
  | x :: xs => by
    show (match f (V.int x), rds f (xs.map V.int) with
      | some d, some ds => some (d :: ds)
      | _, _ => none) = _
    rw [hf, rds_ints f hf xs]; rfl
theorem rd_list {hp : List O} {i n : Nat} {xs : List V} (h : hp[i]? = some (.list xs)) : rd (n + 1) hp (.ref i) = (rds (rd n hp) xs).map PyData.list := by
  show (match hp[i]? with
    | some (O.list xs) => (rds (rd n hp) xs).map PyData.list
    | some (O.tup xs) => (rds (rd n hp) xs).map PyData.tuple
    | _ => none) = _
  rw [h]
theorem rd_tup {hp : List O} {i n : Nat} {xs : List V} (h : hp[i]? = some (.tup xs)) : rd (n + 1) hp (.ref i) = (rds (rd n hp) xs).map PyData.tuple := by
  show (match hp[i]? with
    | some (O.list xs) => (rds (rd n hp) xs).map PyData.list
    | some (O.tup xs) => (rds (rd n hp) xs).map PyData.tuple
    | _ => none) = _
  rw [h]
theorem rd_ints {hp : List O} {i n : Nat} {xs : List Int} (h : hp[i]? = some (.list (xs.map V.int))) : rd (n + 1) hp (.ref i) = some (.list (xs.map PyData.int)) := by
  rw [rd_list h, rds_ints _ (fun i => by cases n <;> rfl)]; rfl
theorem wpEs_consts {G : Stat} {n : Nat} {cl : List (Option Nat)} {σ : St} : ∀ {xs : List Int} {K : List V → St → Prop}, K (xs.map V.int) σ → wpEs G n cl (xs.map fun i => .k (.int i)) σ K
  | [], K, h => h
  | x :: xs, K, h => by
    rw [List.map_cons, esC, eK]
    exact wpEs_consts h
section
variable {G : Stat}
noncomputable def FigOk (B : Int) (mx : Nat) (fs : List Int) : Prop := fs.length ≤ mx ∧ ∀ x ∈ fs, 0 ≤ x ∧ x < B
theorem FigOk.snoc {B x : Int} {mx : Nat} {fs : List Int} (h : FigOk B mx fs) (hl : fs.length < mx) (hx : 0 ≤ x ∧ x < B) : FigOk B mx (fs ++ [x]) :=
  ⟨by rw [List.length_append]; exact hl, fun y hy => (List.mem_append.mp hy).elim (h.2 y) fun q => by rw [List.mem_singleton.mp q]; exact hx⟩
noncomputable def lfg (G : Stat) (f : Nat) (x r : Option V) : List (Option V) := [some (.stat (.ref G.scr)), some (.ref f), x, r, none, none]
theorem big64 {n m : Nat} (h : n ≤ m) (hm : m ≤ 64) : n ≤ 100000 := Nat.le_trans h (Nat.le_trans hm (by decide))
theorem natAbs_B : ∀ {B : Int}, 2 ≤ B ∧ B ≤ 1000 → B ≠ 0 ∧ B.natAbs < 1073741824
  | .ofNat m, h => ⟨fun z => absurd (show (2 : Int) ≤ 0 from z ▸ h.1) (by decide), Nat.lt_of_le_of_lt (Int.ofNat_le.mp h.2) (by decide)⟩
  | .negSucc m, h => absurd h.1 (Int.not_le.mpr (Int.lt_trans (Int.negSucc_lt_zero m) (by decide)))
theorem less {a b : Nat} (h : a < b) : b - (a + 1) < b - a := Nat.sub_succ_lt_self b a h
theorem fig_while {n k : Nat} {B : Int} {Nn : Nat} (hB : 2 ≤ B ∧ B ≤ 1000) (hNb : Nn ≤ 64) {f : Nat} {hpB hp : List O} {K : Fl → St → Prop} {fs : List Int} {r : Int} {x : Option V}
    (hf : hp[f]? = some (.list (fs.map V.int))) (hfs : FigOk B Nn fs) (he : Ext [f] hpB hp)
    (hK : ∀ hp' fs' r', hp'[f]? = some (.list (fs'.map V.int)) → FigOk B Nn fs' → Ext [f] hpB hp' → K .next ⟨lfg G f x (some (.int r')), hp'⟩) :
    wpS G n [] k (.whl (.cmp .Lt (.bf .len [(.loc 1)]) (.k (.int (Nn : Int)))) [
      .expr (.bm .append (.loc 1) [(.bin .Mod (.loc 3) (.k (.int B)))]),
      .aug (.loc 3) .FloorDiv (.k (.int B)),
      .ite (.cmp .Eq (.loc 3) (.k (.int 0))) [.brk] []]) ⟨lfg G f x (some (.int r)), hp⟩ K := by
  rw [sWhl]
  refine ⟨fun m σ' => ∃ fs r hp', m = Nn - fs.length ∧ σ' = ⟨lfg G f x (some (.int r)), hp'⟩ ∧ hp'[f]? = some (.list (fs.map V.int)) ∧ FigOk B Nn fs ∧ Ext [f] hpB hp', ⟨_, fs, r, hp, rfl, rfl, hf, hfs, he⟩, ?_⟩
  rintro m σ1 ⟨fs1, r1, hp1, rfl, rfl, hf1, ho1, he1⟩
  have hle := big64 ho1.1 hNb
  unfold lfg at hK ⊢
  dsimp only [tCmp, tAnd, tOr, tNot, tLc, tAt, eK, eLoc, eStat, eBin, eCmp, eIfe, eList, eTup, eAttr, eMattr, eCall, eNew, eBf, eBm, eUm, eAm, eSub, eSli, esN, esC, oN, oS, gLoc, gCel, gAttr, gSub, gTup, gsC, gsNil, cEq, cNe, cLt, cLe, cGt, cGe, cIn, cNi, ltII, bII, bSS, bRR, bRI, biAdd, biSub, biMul, biMod, biDiv, biPow, adS, adL, mlL, iII, iSS, niAdd, niSub, niDiv, fLen, fAbs, fStr, fMin, fRng, rg1, rg2, fItr, fSum, o1, lnS, lnR, vI, vS, vR, suR, suS, slII, svS, lc0, lcS, List.getElem?_cons_zero, List.getElem?_cons_succ, List.set_cons_zero, List.set_cons_succ, List.length_cons, List.length_nil, qSS, qII, qIS, qSI, nS, inO, o2, hkI, hkS, hkR, hkN, sqN, ssN]
  refine onL_mk hf1 ⟨by rw [List.length_map]; exact Nat.le_trans hle (by decide), ?_⟩
  rw [List.length_map]
  by_cases hlt : fs1.length < Nn
  · refine ifp (decide_eq_true (Int.ofNat_lt.mpr hlt)) (mExpr ?_)
    dsimp only [tCmp, tAnd, tOr, tNot, tLc, tAt, eK, eLoc, eStat, eBin, eCmp, eIfe, eList, eTup, eAttr, eMattr, eCall, eNew, eBf, eBm, eUm, eAm, eSub, eSli, esN, esC, oN, oS, gLoc, gCel, gAttr, gSub, gTup, gsC, gsNil, cEq, cNe, cLt, cLe, cGt, cGe, cIn, cNi, ltII, bII, bSS, bRR, bRI, biAdd, biSub, biMul, biMod, biDiv, biPow, adS, adL, mlL, iII, iSS, niAdd, niSub, niDiv, fLen, fAbs, fStr, fMin, fRng, rg1, rg2, fItr, fSum, o1, lnS, lnR, vI, vS, vR, suR, suS, slII, svS, lc0, lcS, List.getElem?_cons_zero, List.getElem?_cons_succ, List.set_cons_zero, List.set_cons_succ, List.length_cons, List.length_nil, qSS, qII, qIS, qSI, nS, inO, o2, hkI, hkS, hkR, hkN, sqN, ssN]
    refine ⟨⟨rfl, _, hf1⟩, (natAbs_B hB).1, app_mk hf1 (by rw [List.length_map]; exact hle) (mAugL ?_)⟩
    dsimp only [tCmp, tAnd, tOr, tNot, tLc, tAt, eK, eLoc, eStat, eBin, eCmp, eIfe, eList, eTup, eAttr, eMattr, eCall, eNew, eBf, eBm, eUm, eAm, eSub, eSli, esN, esC, oN, oS, gLoc, gCel, gAttr, gSub, gTup, gsC, gsNil, cEq, cNe, cLt, cLe, cGt, cGe, cIn, cNi, ltII, bII, bSS, bRR, bRI, biAdd, biSub, biMul, biMod, biDiv, biPow, adS, adL, mlL, iII, iSS, niAdd, niSub, niDiv, fLen, fAbs, fStr, fMin, fRng, rg1, rg2, fItr, fSum, o1, lnS, lnR, vI, vS, vR, suR, suS, slII, svS, lc0, lcS, List.getElem?_cons_zero, List.getElem?_cons_succ, List.set_cons_zero, List.set_cons_succ, List.length_cons, List.length_nil, qSS, qII, qIS, qSI, nS, inO, o2, hkI, hkS, hkR, hkN, sqN, ssN]
    refine ⟨(natAbs_B hB).1, (natAbs_B hB).2, show 3 < 6 by decide, mIte ?_⟩
    have h0 : 0 < B := Int.lt_of_lt_of_le (by decide) hB.1
    have ha : (hp1.set f (.list (fs1.map V.int ++ [.int (r1.fmod B)])))[f]? = some (.list ((fs1 ++ [r1.fmod B]).map V.int)) := by rw [List.getElem?_set_self (lt_of_get hf1), List.map_append]; rfl
    have hfo := ho1.snoc hlt ⟨Int.fmod_nonneg_of_pos r1 h0, Int.fmod_lt_of_pos r1 h0⟩
    have hee : Ext [f] hpB (hp1.set f (.list (fs1.map V.int ++ [.int (r1.fmod B)]))) := he1.trans (.set (.head _))
    dsimp only [tCmp, tAnd, tOr, tNot, tLc, tAt, eK, eLoc, eStat, eBin, eCmp, eIfe, eList, eTup, eAttr, eMattr, eCall, eNew, eBf, eBm, eUm, eAm, eSub, eSli, esN, esC, oN, oS, gLoc, gCel, gAttr, gSub, gTup, gsC, gsNil, cEq, cNe, cLt, cLe, cGt, cGe, cIn, cNi, ltII, bII, bSS, bRR, bRI, biAdd, biSub, biMul, biMod, biDiv, biPow, adS, adL, mlL, iII, iSS, niAdd, niSub, niDiv, fLen, fAbs, fStr, fMin, fRng, rg1, rg2, fItr, fSum, o1, lnS, lnR, vI, vS, vR, suR, suS, slII, svS, lc0, lcS, List.getElem?_cons_zero, List.getElem?_cons_succ, List.set_cons_zero, List.set_cons_succ, List.length_cons, List.length_nil, qSS, qII, qIS, qSI, nS, inO, o2, hkI, hkS, hkR, hkN, sqN, ssN]
    by_cases hz : (r1.fdiv B == 0) = true
    · exact ifp hz (mBrk (hK _ _ _ ha hfo hee))
    · exact ifn hz ⟨_, by rw [List.length_append]; exact less hlt, fs1 ++ [r1.fmod B], r1.fdiv B, _, rfl, rfl, ha, hfo, hee⟩
  · refine ifn (by rw [decide_eq_false (fun z => hlt (Int.ofNat_lt.mp z))]; decide) ?_
    exact hK hp1 fs1 r1 hf1 ho1 he1
theorem pow_ne {B : Int} (hB : 2 ≤ B ∧ B ≤ 1000) {N : Nat} : B ^ N ≠ 0 := Int.ne_of_gt (Int.pow_pos (Int.lt_of_lt_of_le (by decide) hB.1))
theorem fig_wp {n : Nat} {B N : Int} {Nn mx : Nat} {dflt : List Int} (hB : 2 ≤ B ∧ B ≤ 1000) (hN : N = (Nn : Int)) (hNb : Nn ≤ 64) (hmx : Nn ≤ mx) (hd : FigOk B mx dflt) (hd1 : 1 ≤ dflt.length ∧ dflt.length ≤ 1000) {hp : List O} {K : V → List O → Prop}
    (hK : ∀ i fs hp', hp'[i]? = some (.list (fs.map V.int)) → FigOk B mx fs → 1 ≤ fs.length → Ext [] hp hp' → hp.length ≤ i → K (.ref i) hp') :
    wpSs G n [] hp.length (is_figs B N (dflt.map fun i => .k (.int i))) ⟨[some (.stat (.ref G.scr)), none, none, none, none, none], hp⟩ (RetOk hp K) := by
  subst hN
  have e0 : Ext [] hp (hp ++ [O.list []]) := .app
  have z0 : (hp ++ [O.list []])[hp.length]? = some (.list (([] : List Int).map V.int)) := List.getElem?_concat_length
  unfold is_figs
  refine mAssign ?_
  dsimp only [tCmp, tAnd, tOr, tNot, tLc, tAt, eK, eLoc, eStat, eBin, eCmp, eIfe, eList, eTup, eAttr, eMattr, eCall, eNew, eBf, eBm, eUm, eAm, eSub, eSli, esN, esC, oN, oS, gLoc, gCel, gAttr, gSub, gTup, gsC, gsNil, cEq, cNe, cLt, cLe, cGt, cGe, cIn, cNi, ltII, bII, bSS, bRR, bRI, biAdd, biSub, biMul, biMod, biDiv, biPow, adS, adL, mlL, iII, iSS, niAdd, niSub, niDiv, fLen, fAbs, fStr, fMin, fRng, rg1, rg2, fItr, fSum, o1, lnS, lnR, vI, vS, vR, suR, suS, slII, svS, lc0, lcS, List.getElem?_cons_zero, List.getElem?_cons_succ, List.set_cons_zero, List.set_cons_succ, List.length_cons, List.length_nil, qSS, qII, qIS, qSI, nS, inO, o2, hkI, hkS, hkR, hkN, sqN, ssN]
  refine ⟨Nat.zero_le _, show 1 < 6 by decide, mFor ?_⟩
  dsimp only [tCmp, tAnd, tOr, tNot, tLc, tAt, eK, eLoc, eStat, eBin, eCmp, eIfe, eList, eTup, eAttr, eMattr, eCall, eNew, eBf, eBm, eUm, eAm, eSub, eSli, esN, esC, oN, oS, gLoc, gCel, gAttr, gSub, gTup, gsC, gsNil, cEq, cNe, cLt, cLe, cGt, cGe, cIn, cNi, ltII, bII, bSS, bRR, bRI, biAdd, biSub, biMul, biMod, biDiv, biPow, adS, adL, mlL, iII, iSS, niAdd, niSub, niDiv, fLen, fAbs, fStr, fMin, fRng, rg1, rg2, fItr, fSum, o1, lnS, lnR, vI, vS, vR, suR, suS, slII, svS, lc0, lcS, List.getElem?_cons_zero, List.getElem?_cons_succ, List.set_cons_zero, List.set_cons_succ, List.length_cons, List.length_nil, qSS, qII, qIS, qSI, nS, inO, o2, hkI, hkS, hkR, hkN, sqN, ssN]
  refine ⟨rfl, ?_⟩
  generalize hp ++ [O.list []] = hp1 at e0 z0 ⊢
  refine ⟨fun _ σ' => ∃ fs x r hp', σ' = ⟨lfg G hp.length x r, hp'⟩ ∧ hp'[hp.length]? = some (.list (fs.map V.int)) ∧ FigOk B Nn fs ∧ Ext [hp.length] hp1 hp', ⟨[], none, none, hp1, rfl, z0, ⟨Nat.zero_le _, fun y hy => nomatch hy⟩, .refl _ _⟩, ?_⟩
  rintro j σ1 ⟨fs1, x1, r1, hp2, rfl, hf1, ho1, he1⟩
  unfold lfg
  refine ⟨fun x hx => ?_, fun _ => ?_⟩
  · rw [gLoc]
    refine ⟨show 2 < 6 by decide, ?_⟩
    unfold figBody
    refine mAssign ?_
    dsimp only [tCmp, tAnd, tOr, tNot, tLc, tAt, eK, eLoc, eStat, eBin, eCmp, eIfe, eList, eTup, eAttr, eMattr, eCall, eNew, eBf, eBm, eUm, eAm, eSub, eSli, esN, esC, oN, oS, gLoc, gCel, gAttr, gSub, gTup, gsC, gsNil, cEq, cNe, cLt, cLe, cGt, cGe, cIn, cNi, ltII, bII, bSS, bRR, bRI, biAdd, biSub, biMul, biMod, biDiv, biPow, adS, adL, mlL, iII, iSS, niAdd, niSub, niDiv, fLen, fAbs, fStr, fMin, fRng, rg1, rg2, fItr, fSum, o1, lnS, lnR, vI, vS, vR, suR, suS, slII, svS, lc0, lcS, List.getElem?_cons_zero, List.getElem?_cons_succ, List.set_cons_zero, List.set_cons_succ, List.length_cons, List.length_nil, qSS, qII, qIS, qSI, nS, inO, o2, hkI, hkS, hkR, hkN, sqN, ssN]
    refine ⟨Int.natCast_nonneg _, Int.ofNat_le.mpr hNb, Int.le_trans (by decide) hB.1, hB.2, pow_ne hB, show 3 < 6 by decide, mSt ?_⟩
    exact fig_while hB hNb hf1 ho1 he1 fun hp' fs' r' h2 h3 h4 => mSq (mNil ⟨fs', _, _, hp', rfl, h2, h3, h4⟩)
  · refine mSq (mRet ?_)
    dsimp only [tCmp, tAnd, tOr, tNot, tLc, tAt, eK, eLoc, eStat, eBin, eCmp, eIfe, eList, eTup, eAttr, eMattr, eCall, eNew, eBf, eBm, eUm, eAm, eSub, eSli, esN, esC, oN, oS, gLoc, gCel, gAttr, gSub, gTup, gsC, gsNil, cEq, cNe, cLt, cLe, cGt, cGe, cIn, cNi, ltII, bII, bSS, bRR, bRI, biAdd, biSub, biMul, biMod, biDiv, biPow, adS, adL, mlL, iII, iSS, niAdd, niSub, niDiv, fLen, fAbs, fStr, fMin, fRng, rg1, rg2, fItr, fSum, o1, lnS, lnR, vI, vS, vR, suR, suS, slII, svS, lc0, lcS, List.getElem?_cons_zero, List.getElem?_cons_succ, List.set_cons_zero, List.set_cons_succ, List.length_cons, List.length_nil, qSS, qII, qIS, qSI, nS, inO, o2, hkI, hkS, hkR, hkN, sqN, ssN]
    have e2 : Ext [] hp hp2 := Ext.drop (Ext.trans (l := [hp.length]) (e0.mono fun _ z => nomatch z) he1) (Nat.le_refl _)
    have e3 : Ext [] hp2 (hp2 ++ [O.list []]) := .app
    have hf2 := e3.get hf1 (fun z => nomatch z)
    have hz : (hp2 ++ [O.list []])[hp2.length]? = some (.list (([] : List Int).map V.int)) := List.getElem?_concat_length
    generalize hp2 ++ [O.list []] = hp3 at e3 hf2 hz ⊢
    refine ⟨Nat.zero_le _, _, _, rd_ints hf2, rd_ints hz, ?_⟩
    cases fs1 with
    | nil =>
      refine ifn (by decide) (wpEs_consts ⟨by rw [List.length_map]; exact Nat.le_trans hd1.2 (by decide), hK _ dflt _ List.getElem?_concat_length hd hd1.1 (e2.trans (e3.trans .app)) (Nat.le_trans e2.1 e3.1)⟩)
    | cons y ys =>
      exact ifp rfl (hK _ (y :: ys) _ hf2 ⟨Nat.le_trans ho1.1 hmx, ho1.2⟩ (Nat.le_add_left _ _) (e2.trans e3) (Nat.le_refl _))
end
end Mine
namespace Mine
open PySem PySem.W PySem.Calls PyProof.Rows
section
variable {G : Stat} (lx : Lx G)
end
end Mine
namespace Mine
open PySem PySem.W PySem.Calls PyProof.Rows
noncomputable def nm_give : List (Str × NameKind) := [("size", .local), ("piece", .local), ("at", .free), ("text", .free), ("len", .globalImplicit)]
section
variable {G : Stat}
theorem callT_cells {f : Addr} {fd : FuncData} {oc : Value} {od : Option Addr} {osl : Array (Option Value)} {argn : List Str} {body : List Stmt} {iss : List IS} (hK : G.K.lookup f = some ⟨oc, od, .func fd, osl⟩) (hcd : codeIn G.K fd.code fd.qualname = true) (fo : FnOk G fd argn body iss)
    (hclo : fd.closure = []) {rev : List Str} (hrev : (cellsFrom 0 fd.scope.names []).map (·.1) = rev)
    (hrn : rev.Nodup) (hrk : ∀ x ∈ rev, fd.scope.names.lookup x ≠ some .local)
    (hk : ∀ x ∈ argn, fd.scope.names.lookup x = some .local ∨ (fd.scope.names.lookup x = some .cell ∧ x ∈ rev))
    {n : Nat} {args : List V} {hp : List O} {K : V → List O → Prop} {cl : List (Option Nat)} {cv : List (Option V)}
    (hcl : ∀ (i : Nat) (j : Nat), cl[i]? = some (some j) → ∃ x k t, fd.scope.names[i]? = some (x, k) ∧ j = hp.length + t ∧ rev[t]? = some x)
    (hcvl : cv.length = rev.length) (hcv : ∀ (t : Nat) (x : Str), rev[t]? = some x → (∃ (i : Nat) (v : V), argn[i]? = some x ∧ args[i]? = some v ∧ cv[t]? = some (some v)) ∨ (x ∉ argn ∧ cv[t]? = some none))
    (hlen : args.length = argn.length)
    (hw : wpSs G n cl (hp.length + rev.length) iss ⟨locInit args fd.scope.names.length, hp ++ cv.map .cell⟩ (RetOk hp K)) : CallT G (n + 1) (.stat (.ref f)) args hp K := by
  intro cx names ρ loc s Rr f' args' ok r vf vx hQ
  cases vf
  have X := ok.ok.X.keeps r.keep
  exact call_cells fo hclo hrev hrn hrk hk ok r (X _ _ hK) rfl (codeRec_of X hcd) hcl hcvl hcv vx hlen hw hQ
theorem clos_give {scope : Scope} {env : Env} (hn : scope.names = nm_give) (as : List Addr)
    (h : All2 (fun (p : Str × Nat) a => cellOf env p.1 = pure a) [(("at" : Str), 1), (("text" : Str), 0)] as) : closureFor scope env = pure (([(("at" : Str), 1), (("text" : Str), 0)].zip as).map fun q => (q.1.1, q.2)).reverse := by
  cases h with
  | cons h1 h =>
    cases h with
    | cons h2 h =>
      cases h
      unfold closureFor
      rw [hn, nm_give]
      simp only [List.forIn_cons, List.forIn_nil]
      simp only [show (NameKind.local == NameKind.free) = false from rfl, show (NameKind.free == NameKind.free) = true from rfl, show (NameKind.globalImplicit == NameKind.free) = false from rfl, Bool.false_eq_true, if_false, if_true, pure_bind, lc0, lcS, vS, vI, vR, qSS, qII, qIS, qSI, iII, iSS, niAdd, adS, bII, bSS, biAdd, nS, inO, ltII, o1, o2, lnS, lnR, suR, suS, esN, esC, hkI, hkS, hkR, hkN]
      simp only at h1 h2
      rw [h1]
      simp only [pure_bind]
      rw [h2]
      simp
end
end Mine
namespace Mine
open PySem PySem.W PySem.Calls PyProof.Rows
noncomputable def dummyFd : FuncData := { name := "", qualname := "", params := { posonlyargs := [], args := [], vararg := none, kwonlyargs := [], kw_defaults := [], kwarg := none, defaults := [] }, body := .stmts [], scope := { kind := .function, names := [], isGenerator := false, isCoroutine := false }, globals := 0, closure := [], defaults := .none, kwdefaults := .none, pyModule := .none, code := .none }
noncomputable def fdOf (K : Frag) (a : Addr) : FuncData := match K.lookup a with
  | some ⟨_, _, .func fd, _⟩ => fd
  | _ => dummyFd
noncomputable def bodyOf (fd : FuncData) : List Stmt := match fd.body with
  | .stmts b => b
  | _ => []
noncomputable def nestedOf (fd : FuncData) (i : Nat) (q : Str) : FnI := match (bodyOf fd)[i]? with
  | some (.FunctionDef name params body _ _ _ scope _ _ _) => ⟨name, q, params, body, scope⟩
  | _ => ⟨"", "", dummyFd.params, [], dummyFd.scope⟩
theorem len1 {α : Type} {l : List α} (h : l.length = 1) : ∃ a, l = [a] := by
  cases l with
  | nil => cases h
  | cons a r => cases r with
    | nil => exact ⟨a, rfl⟩
    | cons _ _ => simp at h
theorem bind1 {a : Str} {f : List Value → Sem (List (Str × Value))} (h : ∀ v, f [v] = pure [(a, v)]) : ∀ vals : List Value, vals.length = [a].length → f vals = pure ([a].zip vals) := by
  intro vals hl
  obtain ⟨v, rfl⟩ := len1 hl
  exact h v
theorem bind2 {a b : Str} {f : List Value → Sem (List (Str × Value))} (h : ∀ v u, f [v, u] = pure [(a, v), (b, u)]) : ∀ vals : List Value, vals.length = [a, b].length → f vals = pure ([a, b].zip vals) := by
  intro vals hl
  cases vals with
  | nil => cases hl
  | cons v r =>
    obtain ⟨u, rfl⟩ := len1 (show r.length = 1 by simpa using hl)
    exact h v u
theorem goodT {c : ClaimW} {cl : Str → Option Addr} {mean : ExcName → Option Value} {args : List WData} {sG s' : Shared} (hk : ∀ b o, sG.heap.get? b = some o → s'.heap.get? b = some o) (hos : s'.os = sG.os) (hg : s'.gens = #[]) (hn : ∀ cls, c.raises args cls = false) (hp : c.post args (.bool true) args = true) :
    GoodW c cl mean args sG (.ok (.ret (.bool true))) s' :=
  ⟨.inl ⟨.bool true, .bool true, [], rfl, hn, .bool true, hp, fun _ => ⟨List.nodup_nil, fun a ha => by cases ha⟩⟩, hk, hos, hg⟩
section
variable {G : Stat}
theorem loc_first {ρ : List Addr} {names : List (Str × NameKind)} {N : Nat} {m : Str → Option Value} {v : V} {v' : Value} {x : Str} (h0 : names[0]? = some (x, .local)) (hm : m x = some v') (vv : VR ρ v v') : LocR ρ names (some v :: List.replicate N none) m := by
  intro i y u e1 e2
  cases i with
  | zero => cases e2; rw [h0] at e1; cases e1; exact ⟨v', hm, vv⟩
  | succ i =>
    rw [List.getElem?_cons_succ, List.getElem?_replicate] at e2
    split at e2 <;> cases e2
theorem set_rep {N i : Nat} {x y : V} : ((List.replicate N (none : Option V)).set i (some x)).set i (some y) = (List.replicate N none).set i (some y) := by rw [List.set_set]
theorem comp_pure {n : Nat} {cl fr : List (Option Nat)} {elt it : IE} {i N q : Nat} {σ : St} {K : V → St → Prop} {xs : List V} (f : V → V) (hfr : ∀ p, some p ∈ fr → ∃ j, cl[p]? = some (some j)) (hit : ∀ K' : V → St → Prop, K' (.ref q) σ → wpE G n cl it σ K') (hq : σ.hp[q]? = some (.list xs)) (hlen : xs.length ≤ 100000)
    (helt : ∀ x ∈ xs, ∀ (t : List O) (K' : V → St → Prop), K' (f x) ⟨(List.replicate N none).set i (some x), σ.hp ++ t⟩ → wpE G n (clIn cl fr) elt ⟨(List.replicate N none).set i (some x), σ.hp ++ t⟩ K')
    (hK : K (.ref σ.hp.length) ⟨σ.loc, σ.hp ++ [.list (xs.map f)]⟩) : wpE G n cl (.comp (wpComp elt i it [] N fr)) σ K := by
  refine ⟨hfr, hit _ ?_⟩
  have hb : ∀ m, m ≤ xs.length → m ≤ big := fun m h => Nat.le_trans h (Nat.le_trans hlen (by decide))
  have hIter : (match σ.hp[q]? with
        | some (.rng lo hi) => fits lo ∧ fits hi ∧ ∃ I : Nat → St → Prop, I 0 ⟨List.replicate N none, σ.hp ++ [.list []]⟩ ∧ ∀ (j : Nat) σ', I j σ' →
            (lo + j < hi → wpTurn G n (clIn cl fr) elt i [] σ.hp.length (I (j + 1)) (.int (lo + j)) σ') ∧ (j = (hi - lo).toNat → K (.ref σ.hp.length) ⟨σ.loc, σ'.hp⟩)
        | some (.list xs) => ∃ I : Nat → St → Prop, I 0 ⟨List.replicate N none, σ.hp ++ [.list []]⟩ ∧ ∀ (j : Nat) σ', I j σ' → σ'.hp[q]? = some (.list xs) ∧
            (∀ x, xs[j]? = some x → wpTurn G n (clIn cl fr) elt i [] σ.hp.length (I (j + 1)) x σ') ∧ (j = xs.length → K (.ref σ.hp.length) ⟨σ.loc, σ'.hp⟩)
        | _ => False) := by
    rw [hq]
    refine ⟨fun j σ' => j ≤ xs.length ∧ σ'.hp = σ.hp ++ [.list ((xs.take j).map f)] ∧ (σ'.loc = List.replicate N none ∨ ∃ y, σ'.loc = (List.replicate N none).set i (some y)), ⟨Nat.zero_le _, by simp, .inl rfl⟩, ?_⟩
    rintro j ⟨loc', hp'⟩ ⟨hj, h1, h2⟩
    simp only at h1 h2
    subst h1
    refine ⟨by rw [List.getElem?_append_left (lt_of_get hq)]; exact hq, fun x hx => ?_, fun hj => ?_⟩
    · have hl : loc'.set i (some x) = (List.replicate N none).set i (some x) := by
        rcases h2 with h2 | ⟨y, h2⟩
        · rw [h2]
        · rw [h2, set_rep]
      show wpE G n (clIn cl fr) elt ⟨loc'.set i (some x), _⟩ _
      rw [hl]
      have hlt := lt_of_get hx
      refine helt x (List.mem_of_getElem? hx) _ _ ?_
      show onL (σ.hp ++ [O.list ((xs.take j).map f)]) σ.hp.length _
      rw [onL_is List.getElem?_concat_length]
      refine ⟨hb _ (by rw [List.length_map, List.length_take]; omega), hlt, ?_, .inr ⟨x, rfl⟩⟩
      show (σ.hp ++ [O.list ((xs.take j).map f)]).set σ.hp.length _ = _
      rw [List.set_append_right _ _ (Nat.le_refl _), Nat.sub_self, List.take_add_one, hx]
      simp
    · have : (xs.take j) = xs := by rw [hj]; exact List.take_length
      rw [this]; exact hK
  exact hIter
end
end Mine
namespace Mine
open PySem PySem.W PySem.Calls PyProof.Rows
structure MS (G : Stat) (T : SA) (M : MA) (text : List Nat) (hp : List O) (pos : Nat) (ln : Int) (bk : List V) : Prop where
  S : Strm (G.fn 0).qual T text hp pos
  m : Mc T M hp ln
  B : hp[M.p]? = some (.list bk)
  pa : M.p ≠ T.a
section
variable {G : Stat} {T : SA} {M : MA} {text : List Nat} {hp hp' : List O} {pos : Nat} {ln : Int} {bk : List V}
theorem MS.ext (h : MS G T M text hp pos ln bk) (e : Ext [] hp hp') : MS G T M text hp' pos ln bk :=
  ⟨h.S.keep e (by simp) (by simp) (by simp) (by simp) (by simp) (by simp) (by simp), ⟨e.get h.m.s (by simp), e.get h.m.d (by simp)⟩, e.get h.B (by simp), h.pa⟩
theorem MS.app (h : MS G T M text hp pos ln bk) {t : List O} : MS G T M text (hp ++ t) pos ln bk := h.ext .app
theorem MS.set (h : MS G T M text hp pos ln bk) {i : Nat} {xs ys : List V} (hi : hp[i]? = some (.list xs)) (h1 : i ≠ T.a) (h2 : i ≠ M.p) : MS G T M text (hp.set i (.list ys)) pos ln bk := by
  have hd := h.m.d
  unfold dctOf at hd
  obtain ⟨gs, h8, h9⟩ := h.S.dt
  have e : Ext [i] hp (hp.set i (.list ys)) := .set (by simp)
  have nb : ∀ {j : Nat} {o : O}, hp[j]? = some o → o ≠ .list xs → j ∉ [i] := fun hj ho => by simp only [List.mem_singleton]; exact ne_of hj hi ho
  exact ⟨h.S.keep e (nb h.S.t (by simp)) (nb h8 (by simp)) (nb h.S.f (by simp)) (nb h.S.c (by simp)) (nb h.S.ct (by simp)) (nb h.S.ca (by simp)) (by simpa using Ne.symm h1), ⟨e.get h.m.s (nb h.m.s (by simp)), e.get h.m.d (nb hd (by simp))⟩, e.get h.B (by simpa using Ne.symm h2), h.pa⟩
theorem MS.other (h : MS G T M text hp pos ln bk) (e : Ext [T.a, M.d, M.p] hp hp') {i : Nat} {o : O} (hi : hp[i]? = some o) (h1 : i ≠ T.a) (h2 : i ≠ M.p) (ho : ∀ fs, o ≠ .dct fs) : hp'[i]? = some o := by
  refine e.get hi ?_
  simp only [List.mem_cons, List.not_mem_nil, or_false, not_or]
  exact ⟨h1, ne_of hi h.m.d (ho _), h2⟩
variable (lx : Lx G)
noncomputable def PV : V → Prop
  | .int _ => True
  | .str cs => ∀ c ∈ cs, c < 55296
  | _ => False
theorem all_lt {cs : List Nat} (h : ∀ c ∈ cs, c < 55296) : (cs.all fun c => decide (c < 55296)) = true := List.all_eq_true.mpr fun c hc => decide_eq_true (h c hc)
theorem rds_c {f : V → Option PyData} {x : V} {xs : List V} {d : PyData} {ds : List PyData} (h1 : f x = some d) (h2 : rds f xs = some ds) : rds f (x :: xs) = some (d :: ds) := by
  show (match f x, rds f xs with
    | some d, some ds => some (d :: ds)
    | _, _ => none) = _
  rw [h1, h2]
theorem rd_pv {n : Nat} {hp : List O} {v : V} (h : PV v) : ∃ d, rd n hp v = some d ∧ PyData.eqv d d = true := by
  cases v with
  | int i => exact ⟨.int i, by cases n <;> rfl, by simp [PyData.eqv]⟩
  | str cs => exact ⟨.str ⟨cs.toArray⟩, by cases n <;> exact if_pos (all_lt h), by simp [PyData.eqv]⟩
  | _ => exact h.elim
theorem rds_pv {n : Nat} {hp : List O} : ∀ {xs : List V}, (∀ v ∈ xs, PV v) → ∃ ds, rds (rd n hp) xs = some ds ∧ PyData.eqvAll ds ds = true
  | [], _ => ⟨[], rfl, rfl⟩
  | x :: xs, h => by
    obtain ⟨d, h1, h2⟩ := rd_pv (n := n) (hp := hp) (h x (.head _))
    obtain ⟨ds, h3, h4⟩ := rds_pv (n := n) (hp := hp) (xs := xs) fun v hv => h v (.tail _ hv)
    exact ⟨d :: ds, rds_c h1 h3, by simp [PyData.eqvAll, h2, h4]⟩
noncomputable def Same (n : Nat) (hp : List O) (x y : V) : Prop := ∃ d, rd n hp x = some d ∧ rd n hp y = some d ∧ PyData.eqv d d = true
theorem Same.pv {n : Nat} {hp : List O} {v : V} (h : PV v) : Same n hp v v := let ⟨d, a, b⟩ := rd_pv (n := n) (hp := hp) h; ⟨d, a, a, b⟩
theorem Same.lists {n : Nat} {hp : List O} {p q : Nat} {xs : List V} (h1 : hp[p]? = some (.list xs)) (h2 : hp[q]? = some (.list xs)) (h : ∀ v ∈ xs, PV v) : Same (n + 1) hp (.ref p) (.ref q) := by
  obtain ⟨ds, a, b⟩ := rds_pv (n := n) (hp := hp) h
  exact ⟨.list ds, by rw [rd_list h1, a]; rfl, by rw [rd_list h2, a]; rfl, b⟩
theorem Same.all {n : Nat} {hp : List O} {xs ys : List V} (h : All2 (Same n hp) xs ys) : ∃ ds, rds (rd n hp) xs = some ds ∧ rds (rd n hp) ys = some ds ∧ PyData.eqvAll ds ds = true := by
  induction h with
  | nil => exact ⟨[], rfl, rfl, rfl⟩
  | cons h _ ih =>
    obtain ⟨d, a, b, c⟩ := h
    obtain ⟨ds, a', b', c'⟩ := ih
    exact ⟨d :: ds, rds_c a a', rds_c b b', by simp [PyData.eqvAll, c, c']⟩
theorem Same.tup {n : Nat} {hp : List O} {i j : Nat} {xs ys : List V} (h1 : hp[i]? = some (.tup xs)) (h2 : hp[j]? = some (.tup ys)) (h : All2 (Same n hp) xs ys) : Same (n + 1) hp (.ref i) (.ref j) := by
  obtain ⟨ds, a, b, c⟩ := Same.all h
  exact ⟨.tuple ds, by rw [rd_tup h1, a]; rfl, by rw [rd_tup h2, b]; rfl, c⟩
theorem Same.eq {i j : Nat} {σ : St} {K : Bool → St → Prop} (h : Same 4 σ.hp (.ref i) (.ref j)) (hK : K true σ) : wpEq (.ref i) (.ref j) σ K := by
  obtain ⟨d, a, b, c⟩ := h
  exact ⟨d, d, a, b, by rw [c]; exact hK⟩
end
end Mine
namespace Mine
theorem joinS_nil : ∀ ts : List (List Nat), joinS [] ts = ts.flatten
  | [] => rfl
  | [x] => by simp [joinS]
  | x :: y :: r => by rw [joinS, joinS_nil (y :: r)]; simp
end Mine
namespace Mine
open PySem PySem.W PySem.Calls PyProof.Rows
section
variable {G : Stat} {n k i : Nat} {σ : St} {K : Fl → St → Prop} {wt : V → St → (St → Prop) → Prop} {wb : Nat → St → (Fl → St → Prop) → Prop}
variable {cl : List (Option Nat)} {s : IS} {r : List IS}
end
section
variable {G : Stat} {T : SA} {M : MA} {text : List Nat} {hp : List O} {pos : Nat} {ln : Int} {bk : List V} {loc : List (Option V)} {K : V → St → Prop}
end
theorem cnt_mk {σ : St} {K : V → St → Prop} {cs : List Nat} (h : K (.int (nl cs)) σ) : wpBm .count (.str cs) [.str [10]] σ K := h
section
variable {G : Stat} {T : SA} {M : MA} {text : List Nat} {hp : List O} {pos : Nat} {ln : Int} {bk : List V} {loc : List (Option V)} {K : V → St → Prop}
end
section
variable {G : Stat} {n k : Nat} {σ : St} {K : Fl → St → Prop} {cl : List (Option Nat)} {s : IS} {r : List IS} {e : IE} {t : Tg}
end
end Mine
namespace Mine
open PySem PySem.W PySem.Calls PyProof.Rows
noncomputable def wMin (v : V) (σ : St) (K : V → St → Prop) : Prop := isR v fun i => onL σ.hp i fun xs => ∃ ns : List Int, xs = ns.map V.int ∧ 0 < ns.length ∧ ∀ M, M ∈ ns → (∀ a, a ∈ ns → M ≤ a) → K (.int M) σ
noncomputable def wChr (v : V) (σ : St) (K : V → St → Prop) : Prop := isI v fun i => 0 ≤ i ∧ i ≤ 1114111 ∧ K (.str [i.toNat]) σ
noncomputable def wLst (v : V) (σ : St) (K : V → St → Prop) : Prop := isR v fun i => ∃ lo hi, σ.hp[i]? = some (.rng lo hi) ∧ fits lo ∧ fits hi ∧ hi - lo ≤ 100000 ∧ K (.ref σ.hp.length) { σ with hp := σ.hp ++ [.list (rngL lo hi)] }
noncomputable def wp1 (wB : V → St → (V → St → Prop) → Prop) (a : IE) (G : Stat) (n : Nat) (cl : List (Option Nat)) (σ : St) (K : V → St → Prop) : Prop := wpE G n cl a σ fun v σ => wB v σ K
noncomputable def w1Of : BF → Option (V → St → (V → St → Prop) → Prop)
  | .min => some wMin
  | .chr => some wChr
  | .list => some wLst
  | _ => none
section
variable {G : Stat} {names : List (Str × NameKind)} {gl : List (Str × Value)}
section
variable {cx : Cx} {ρ : List Addr} {σ : St} {s : Shared} {E : Value → Shared → Prop} {n : Nat} {v : V} {v' : Value} {K : V → St → Prop} {Q : Value → Shared → Prop}
theorem min_ok (ok : CxOk G cx n names) (r : R G cx ρ σ s.heap) (vv : VR ρ v v') (h : wMin v σ K) (hQ : Ret G cx VR ρ s K Q) : wpAny (model G.prog G.w) cx.A (call (.builtin "min") [v']) Q E s := by
  obtain ⟨i, rfl, h⟩ := isR_sp h
  obtain ⟨xs, e, ns, rfl, hne, hK⟩ := onL_sp h
  obtain ⟨a, ws, q, ha, hg, hl, hv⟩ := r.list e
  have := vv.same ha
  subst this
  obtain ⟨m₀, news, F, N, back⟩ := r.back
  exact min_list_N ok.hd F N hl (ints_of hv) hne fun h' M t tk F' N' h1 h2 => hQ _ _ _ _ { s with heap := h', toks := tk } (List.prefix_refl ρ) (back h' F' N') .i (hK M h1 h2) .of
theorem chr_ok (r : R G cx ρ σ s.heap) (vv : VR ρ v v') (h : wChr v σ K) (hQ : Ret G cx VR ρ s K Q) : wpAny (model G.prog G.w) cx.A (call (.builtin "chr") [v']) Q E s := by
  obtain ⟨i, rfl, h0, h1, hK⟩ := isI_sp h
  obtain ⟨t, rfl⟩ := vv
  exact chr_of_range h0 h1 (r.tok hQ (.s (cs := [i.toNat])) hK)
theorem lst_items {lo hi : Int} {acc : Array Value} (h : PySem.ItemsOf (fun i v => ∃ t, v = .int (lo + i * 1) t) acc (hi - lo).toNat) : VRs ρ (rngL lo hi) acc.toList := by
  refine All2.of_get (by rw [rngL_len, Array.length_toList]; exact h.1.symm) fun i a b e1 e2 => ?_
  obtain ⟨_, rfl⟩ := rngL_at e1
  rw [Array.getElem?_toList] at e2
  obtain ⟨t, rfl⟩ := h.2 i b e2
  exact ⟨t, by rw [Int.mul_one]⟩
theorem lst_ok (ok : CxOk G cx n names) (r : R G cx ρ σ s.heap) (vv : VR ρ v v') (h : wLst v σ K) (hQ : Ret G cx VR ρ s K Q) : wpAny (model G.prog G.w) cx.A (call (.type "list") [v']) Q E s := by
  obtain ⟨i, rfl, lo, hi, e, hlo, hhi, hsz, hK⟩ := isR_sp h
  obtain ⟨a, o, ha, hg, ⟨t, u, w, rfl⟩, _⟩ := r.at e
  have := vv.same ha
  subst this
  refine call_list_range (n := (hi - lo).toNat) ok.hd hg (small_any hlo hhi) ?_ ?_ fun h' tk acc c hk hS hacc => ?_
  · rw [rangeSize_one]; split <;> omega
  · omega
  · refine hQ _ _ _ _ { s with heap := h', toks := tk } (pre_snoc _ _) ((r.grow hk).take (ao := .list (rngL lo hi)) (Nat.ne_of_gt r.llt) r.base_lt r.notin r.pinlt hS ⟨acc.toList, c, by rw [Array.toArray_toList], lst_items hacc⟩) (VR.snoc r.len) hK .of
theorem w1_ok {b : BF} {wB : V → St → (V → St → Prop) → Prop} (hb : w1Of b = some wB) (ok : CxOk G cx n names) (r : R G cx ρ σ s.heap) (vv : VR ρ v v') (h : wB v σ K) (hQ : Ret G cx VR ρ s K Q) : wpAny (model G.prog G.w) cx.A (call b.val [v']) Q E s := by
  cases b with
  | min => cases hb; exact min_ok ok r vv h hQ
  | chr => cases hb; exact chr_ok r vv h hQ
  | list => cases hb; exact lst_ok ok r vv h hQ
  | _ => exact nos hb
end
theorem DE_w1 {x : Str} {p pos : Pos} {e : Expr} {ie : IE} {b : BF} {wB : V → St → (V → St → Prop) → Prop} (hb : w1Of b = some wB) (h1 : DE G names (.Name x p) (.stat b.val)) (hs : ∀ v p, e ≠ .Starred v p) (h2 : DE G names e ie) : DE G names (.Call (.Name x p) [e] [] pos) (.comp (wp1 wB ie)) := by
  intro n cl σ K hw cx ρ s Q E ok hc r hQ
  show wpAny _ _ (do callWith pos (← eval (.Name x p) cx.env) [] (backTo pos (starEach [e] cx.env)) []) Q E s
  refine wpAny_bind (h1 n cl σ (fun fv σ' => fv = .stat b.val ∧ σ' = σ) ⟨rfl, rfl⟩ cx ρ s _ _ ok hc r ?_)
  rintro f f' σ1 ρ1 s1 p1 r1 vf ⟨rfl, rfl⟩ st1
  cases vf
  refine callWith_ok (DEs_cons hs h2 DEs_nil) ok (hc.mono p1) r1 (K := fun vs σ => one1 vs fun v => wB v σ K) hw ?_
  intro xs xs' σ2 ρ2 s2 p2 r2 vx hw st2
  obtain ⟨v, rfl, hw⟩ := one1_sp hw
  obtain ⟨v', rfl, vv⟩ := vx.one
  exact ⟨keep_builtin (bf_noref b), w1_ok hb ok r2 vv hw (hQ.tail (p1.trans p2) (st1.trans st2))⟩
noncomputable def wRem (ov x : V) (σ : St) (K : V → St → Prop) : Prop := isR ov fun i => isI x fun k => onL σ.hp i fun xs => ∃ ns : List Int, xs = ns.map V.int ∧ k ∈ ns ∧ xs.length ≤ big ∧ K .none { σ with hp := σ.hp.set i (.list ((ns.erase k).map V.int)) }
noncomputable def wpRem (o a : IE) (G : Stat) (n : Nat) (cl : List (Option Nat)) (σ : St) (K : V → St → Prop) : Prop := wpE G n cl o σ fun ov σ => bmOk .remove σ.hp ov ∧ wpE G n cl a σ fun x σ => wRem ov x σ K
noncomputable def isInt (k : Int) : Value → Bool
  | .int m _ => m == k
  | _ => false
theorem int_at {ρ : List Addr} {ns : List Int} {vs : List Value} (h : VRs ρ (ns.map V.int) vs) {i : Nat} {v : Value} (e : vs[i]? = some v) : ∃ m t, ns[i]? = some m ∧ v = .int m t := by
  obtain ⟨a, e1, h1⟩ := h.get' e
  obtain ⟨m, e2, rfl⟩ := map_get e1
  obtain ⟨t, rfl⟩ := h1
  exact ⟨m, t, e2, rfl⟩
theorem map_erase {α β : Type} (f : α → β) : ∀ (l : List α) (i : Nat), (l.map f).eraseIdx i = (l.eraseIdx i).map f
  | [], _ => rfl
  | _ :: _, 0 => rfl
  | a :: l, i + 1 => congrArg (f a :: ·) (map_erase f l i)
theorem rem_ok {cx : Cx} {ρ : List Addr} {σ : St} {s : Shared} {E : Value → Shared → Prop} {ov x : V} {o' x' : Value} {K : V → St → Prop} {Q : Value → Shared → Prop} (r : R G cx ρ σ s.heap) (vo : VR ρ ov o') (vx : VR ρ x x') (h : wRem ov x σ K) (hQ : Ret G cx VR ρ s K Q) : wpAny (model G.prog G.w) cx.A (call (.builtin "list.remove") [o', x']) Q E s := by
  obtain ⟨i, rfl, h⟩ := isR_sp h
  obtain ⟨k, rfl, h⟩ := isI_sp h
  obtain ⟨xs, e, ns, rfl, hk, hz, hK⟩ := onL_sp h
  obtain ⟨a, ws, q, ha, hg, hl, hv⟩ := r.list e
  have := vo.same ha
  subst this
  obtain ⟨t, rfl⟩ := vx
  have hlen := hv.length
  have hj := List.idxOf_lt_length_iff.mpr hk
  rw [List.length_map] at hlen
  have hjw : ns.idxOf k < ws.length := hlen ▸ hj
  refine call_meets PySem.F.slot_list_remove ⟨_, hg, rfl⟩ PySem.F.entry_list_remove (PySem.F.args_list_remove_2 _ _) (PySem.MeetsSeq.list_remove a ws.toArray q (.int k t) (isInt k) (fun y hy => ?_) (ns.idxOf k) hjw ?_ (fun m hm hlt => ?_) (by rw [List.size_toArray, ← hlen]; rw [List.length_map] at hz; exact Nat.le_trans hz sizeLine_big)) ⟨hg, ?_⟩
  · obtain ⟨m, hm⟩ := List.getElem?_of_mem (List.mem_toArray.mp hy)
    obtain ⟨b, u, _, rfl⟩ := int_at hv hm
    exact PySem.MeetsSeq.EqGives.int b k u t
  · obtain ⟨b, u, e1, e2⟩ := int_at hv (List.getElem?_eq_getElem hjw)
    rw [List.getElem_toArray, e2]
    rw [List.getElem?_eq_getElem hj, List.getElem_idxOf] at e1
    cases e1
    exact beq_self_eq_true k
  · rw [List.size_toArray] at hm
    obtain ⟨b, u, e1, e2⟩ := int_at hv (List.getElem?_eq_getElem hm)
    rw [List.getElem_toArray, e2]
    obtain ⟨g, e1⟩ := List.getElem?_eq_some_iff.mp e1
    have := List.not_of_lt_findIdx (p := (· == k)) (xs := ns) hlt
    subst e1
    exact this
  · refine hQ _ _ _ _ { s with heap := _ } (List.prefix_refl ρ) (r.updSeq (f := fun xs => xs.eraseIdxIfInBounds (ns.idxOf k)) (vs' := ws.eraseIdx (ns.idxOf k)) (xs' := (ns.erase k).map V.int) ha hg ?_ ?_) .n hK .of
    · apply Array.toList_inj.mp
      unfold Array.eraseIdxIfInBounds
      rw [dif_pos (show ns.idxOf k < ws.toArray.size from hjw)]
      simp
    · rw [List.erase_eq_eraseIdx_of_idxOf rfl]
      have := hv.erase (ns.idxOf k)
      rw [map_erase] at this
      exact this
theorem DE_rem {o a : Expr} {apos pos : Pos} {io ia : IE} (hb : baseOk o = true) (hl : (apos.endLine == pos.line) = true) (hs : ∀ v p, a ≠ .Starred v p) (h1 : DE G names o io) (h2 : DE G names a ia) : DE G names (.Call (.Attribute o "remove" apos) [a] [] pos) (.comp (wpRem io ia)) := by
  intro n cl σ K hw cx ρ s Q E ok hc r hQ
  have ds : DEs G names [a] [ia] := DEs_cons hs h2 DEs_nil
  refine methCall_rule hb hl (show 1 < 20 by decide) (ds.1 _) fun pl => h1 n cl σ _ hw cx ρ s _ _ ok hc r ?_
  intro x x' σ1 ρ1 s1 p1 r1 vx hw st1
  refine bm_get (m := .remove) r1 vx hw.1 (callWith_ok ds ok (hc.mono p1) r1 (K := fun vs σ => one1 vs fun v => wRem x v σ K) hw.2 ?_)
  intro xs xs' σ2 ρ2 s2 p2 r2 vxs hw st2
  obtain ⟨v, rfl, hw⟩ := one1_sp hw
  obtain ⟨v', rfl, vv⟩ := vxs.one
  exact ⟨keep_builtin (fun _ => (fun q => nomatch q)), rem_ok r2 (vx.mono p2) vv hw (hQ.tail (p1.trans p2) (st1.trans st2))⟩
end
end Mine
namespace Mine
open PySem PySem.W PySem.Calls PyProof.Rows
inductive FX where
  | item (i j : Nat)
  | cat (c : List Nat) (i j : Nat)
  | chr (b : Int) (j : Nat)
noncomputable def wItem (i j : Nat) (loc : List (Option V)) (k : List Nat → Prop) : Prop := onLoc loc i fun o => isS o fun cs => onLoc loc j fun x => isI x fun m => fits m ∧ subS cs m fun v => isS v k
noncomputable def wF : FX → List (Option V) → (List Nat → Prop) → Prop
  | .item i j, loc, k => wItem i j loc k
  | .cat c i j, loc, k => wItem i j loc fun cs => c ≠ [] ∧ cs ≠ [] ∧ c.length + cs.length ≤ big ∧ k (c ++ cs)
  | .chr b j, loc, k => onLoc loc j fun x => isI x fun m => 0 ≤ b + m ∧ b + m ≤ 1114111 ∧ k [(b + m).toNat]
noncomputable def FX.late : FX → Bool
  | .item _ _ => false
  | _ => true
section
variable {G : Stat} {names : List (Str × NameKind)} {gl : List (Str × Value)}
noncomputable def DF (G : Stat) (names : List (Str × NameKind)) (e : Expr) (f : FX) : Prop :=
  ∀ (n : Nat) (σ : St) (k : List Nat → Prop), wF f σ.loc k → ∀ (cx : Cx) (ρ : List Addr) (s : Shared) (Q : Value → Shared → Prop) (E : Value → Shared → Prop), CxOk G cx (n + 1) names → R G cx ρ σ s.heap →
    (∀ cs t ρ' s', ρ <+: ρ' → R G cx ρ' σ s'.heap → Stp s s' → s.toks ≤ t → (f.late = true → s.toks < t) → t < s'.toks → k cs → Q (.str ⟨(cs : List Nat).toArray⟩ t) s') → wpAny (model G.prog G.w) cx.A (eval e cx.env) Q E s
theorem late_no {P : Prop} (h : FX.late (.item 0 0) = true) : P := nomatch h
theorem DF_item {x y : Str} {p q pos : Pos} {i j : Nat} (hx : cName names gl x = some (.loc i)) (hy : cName names gl y = some (.loc j)) : DF G names (.Subscript (.Name x p) (.Name y q) pos) (.item i j) := by
  intro n σ k hw cx ρ s Q E ok r hQ
  obtain ⟨o, e1, h1⟩ := onLoc_sp hw
  obtain ⟨cs, rfl, h2⟩ := isS_sp h1
  obtain ⟨m', e2, h3⟩ := onLoc_sp h2
  obtain ⟨m, rfl, hf, h4⟩ := isI_sp h3
  obtain ⟨i', c, em, ec, h5⟩ := subS_sp h4
  have hf := fits63 hf
  refine Subscript_ (DX_name ⟨_, rfl⟩ hx n [] σ (fun v σ => v = .str cs) (by rw [eLoc]; unfold onLoc; rw [e1]) cx ρ s _ _ ok ⟨fun _ _ _ _ _ e => by simp at e⟩ r fun v v' k1 hk1 vv hv => ?_)
  subst hv
  obtain ⟨t, rfl⟩ := vv
  refine DX_name ⟨_, rfl⟩ hy n [] σ (fun v σ => v = .int m) (by rw [eLoc]; unfold onLoc; rw [e2]) cx ρ { s with toks := k1 } _ _ ok ⟨fun _ _ _ _ _ e => by simp at e⟩ r fun v v' k2 hk2 vv hv => ?_
  subst hv
  obtain ⟨u, rfl⟩ := vv
  refine getItem_slot (s := { s with toks := k2 }) r (o := .str cs) .s (.inl ⟨cs, rfl⟩) (PyProof.Rows.getItem_str (c := c) ?_ ?_ (hQ [c] k2 ρ { s with toks := k2 + 1 } (List.prefix_refl _) r .of (Nat.le_trans hk1 hk2) (fun h => late_no h) (Nat.lt_succ_self _) h5))
  · rw [decide_eq_false (Int.not_lt.mpr hf.1), decide_eq_false (Int.not_le.mpr hf.2)]; rfl
  · have : seqIndex? m (Str.length ⟨cs.toArray⟩) = some i' := idx_seq (by simpa [Str.length] using em)
    rw [this]; simpa using ec
theorem DF_cat {e : Expr} {c : List Nat} {kk : Nat} {p pos : Pos} {i j : Nat} (h : DF G names e (.item i j)) : DF G names (.BinOp (.Constant (.str ⟨c.toArray⟩) kk p) .Add e pos) (.cat c i j) := by
  intro n σ k hw cx ρ s Q E ok r hQ
  refine wpAny_BinOp (wpAny_Constant_str (h n σ _ hw cx ρ { s with toks := s.toks + 1 } _ _ ok r fun cs t ρ' s' pr r' st h1 _ h2 h3 => ?_))
  obtain ⟨g1, g2, g3, g4⟩ := h3
  refine PySem.P.add_str ?_
  rw [if_neg (by simpa [Str.length] using g1), if_neg (by simpa [Str.length] using g2)]
  have hl : s.toks < s'.toks := Nat.lt_trans (Nat.lt_of_succ_le h1) h2
  have e : ((⟨c.toArray⟩ : Str) ++ ⟨cs.toArray⟩) = ⟨(c ++ cs).toArray⟩ := by
    show (⟨c.toArray ++ cs.toArray⟩ : Str) = _
    rw [List.append_toArray]
  rw [e]
  exact ⟨by show (c ++ cs).toArray.size ≤ sizeLine; rw [List.size_toArray, List.length_append]; exact Nat.le_trans g3 sizeLine_big, hQ (c ++ cs) s'.toks ρ' { s' with toks := s'.toks + 1 } pr r' (((Stp.of (s := s) (h := s.heap) (t := s.toks + 1)).trans st).trans .of) (Nat.le_of_lt hl) (fun _ => hl) (Nat.lt_succ_self _) g4⟩
theorem DF_chr {x y : Str} {p q pos bpos : Pos} {b : Int} {kk : Nat} {cp : Pos} {j : Nat} (h1 : DE G names (.Name x p) (.stat (.builtin "chr"))) (hy : cName names gl y = some (.loc j)) :
    DF G names (.Call (.Name x p) [.BinOp (.Constant (.int b) kk cp) .Add (.Name y q) bpos] [] pos) (.chr b j) := by
  intro n σ k hw cx ρ s Q E ok r hQ
  obtain ⟨v, e1, h2⟩ := onLoc_sp hw
  obtain ⟨m, rfl, g1, g2, g3⟩ := isI_sp h2
  show wpAny _ _ (do callWith pos (← eval (.Name x p) cx.env) [] (backTo pos (starEach [.BinOp (.Constant (.int b) kk cp) .Add (.Name y q) bpos] cx.env)) []) Q E s
  refine wpAny_bind (wpAny_with_toks (Nat.le_refl s.toks) (h1 n [] σ (fun fv σ' => fv = .stat (.builtin "chr") ∧ σ' = σ) ⟨rfl, rfl⟩ cx ρ s _ _ ok ⟨fun _ _ _ _ _ e => by simp at e⟩ r ?_))
  rintro f f' σ1 ρ1 s1 p1 r1 vf ⟨rfl, rfl⟩ st1 tk1
  cases vf
  refine callWith_of (P := fun _ => True) (by rfl) (fun h _ => keep_builtin (fun _ => (fun q => nomatch q))) ?_
  refine evalArgs_any rfl ?_
  show wpAny _ _ (do
    let v ← eval (.BinOp (.Constant (.int b) kk cp) .Add (.Name y q) bpos) cx.env
    let here ← pure [v]
    return here ++ (← holding here (spliced []))) _ _ s1
  refine wpAny_bind (wpAny_BinOp (wpAny_Constant_int (DX_name ⟨_, rfl⟩ hy n [] σ1 (fun v _ => v = .int m) (by rw [eLoc]; unfold onLoc; rw [e1]) cx ρ1 { s1 with toks := s1.toks + 1 } _ _ ok ⟨fun _ _ _ _ _ e => by simp at e⟩ r1 fun v v' k2 hk2 vv hv => ?_)))
  subst hv
  obtain ⟨u, rfl⟩ := vv
  refine PyProof.Rows.add_int ?_
  refine wpAny_bind (wpAny_pure (wpAny_bind (wpAny_holding (wpAny_pure (wpAny_pure ⟨trivial, ?_⟩)))))
  refine chr_of_range g1 g2 ?_
  have hl : s.toks < k2 + 1 := Nat.lt_succ_of_le (Nat.le_trans tk1 (Nat.le_of_succ_le hk2))
  exact hQ [(b + m).toNat] (k2 + 1) ρ1 { s1 with toks := k2 + 1 + 1 } p1 r1 (st1.trans .of) (Nat.le_of_lt hl) (fun _ => hl) (Nat.lt_succ_self _) g3
noncomputable def rpl (x y cs : List Nat) : List Nat := (Txt.replace ⟨cs.toArray⟩ ⟨x.toArray⟩ ⟨y.toArray⟩).cps.toList
noncomputable def wpRpl (o : IE) (a b : FX) (G : Stat) (n : Nat) (cl : List (Option Nat)) (σ : St) (K : V → St → Prop) : Prop :=
  wpE G n cl o σ fun ov σ => isS ov fun cs => cs.length ≤ 100000 ∧ wF a σ.loc fun x => wF b σ.loc fun y => x ≠ y ∧ y.length ≤ 14 ∧ K (.str (rpl x y cs)) σ
theorem DE_rpl {o e1 e2 : Expr} {apos pos : Pos} {io : IE} {a b : FX} (hb : baseOk o = true) (hl : (apos.endLine == pos.line) = true) (ha : a.late = true) (n1 : ∀ v p, e1 ≠ .Starred v p) (n2 : ∀ v p, e2 ≠ .Starred v p) (h0 : DE G names o io) (h1 : DF G names e1 a) (h2 : DF G names e2 b) :
    DE G names (.Call (.Attribute o "replace" apos) [e1, e2] [] pos) (.comp (wpRpl io a b)) := by
  intro n cl σ K hw cx ρ s Q E ok hc r hQ
  have star : ∀ env, starEach [e1, e2] env = [(false, eval e1 env), (false, eval e2 env)] := fun env => by rw [star_cons n1, star_cons n2]; rfl
  refine methCall_rule hb hl (show 2 < 20 by decide) (star _) fun pl => h0 n cl σ _ hw cx ρ s _ _ ok hc r ?_
  intro v v' σ1 ρ1 s1 p1 r1 vv hw st1
  obtain ⟨cs, rfl, hz, hw⟩ := isS_sp hw
  obtain ⟨t, rfl⟩ := vv
  refine getMethod_builtin (T := "str") (typeIs_str _ _ _) PySem.F.plainAttrs_str PySem.F.slot_str_replace PySem.F.type_str_replace (fun a e => nomatch e) ?_
  refine callWith_of (P := fun _ => True) (by rw [star]; rfl) (fun h _ => keep_builtin (fun _ => (fun q => nomatch q))) ?_
  refine evalArgs_any (star _) ?_
  rw [star]
  show wpAny _ _ (do
    let v ← eval e1 cx.env
    let here ← pure [v]
    return here ++ (← holding here (do
      let v ← eval e2 cx.env
      let here ← pure [v]
      return here ++ (← holding here (spliced [])))) ) _ _ s1
  refine wpAny_bind (h1 n σ1 _ hw cx ρ1 s1 _ _ ok r1 fun x u ρ2 s2 p2 r2 st2 _ hu1 hu2 hw => ?_)
  refine wpAny_bind (wpAny_pure (wpAny_bind (wpAny_holding (wpAny_bind (h2 n σ1 _ hw cx ρ2 s2 _ _ ok r2 fun y u' ρ3 s3 p3 r3 st3 hv1 _ hv2 hw => ?_)))))
  obtain ⟨g1, g2, hK⟩ := hw
  refine wpAny_bind (wpAny_pure (wpAny_bind (wpAny_holding (wpAny_pure (wpAny_pure (wpAny_pure ⟨trivial, ?_⟩))))))
  have hu := hu1 ha
  refine replace_exact (x := ⟨cs.toArray⟩) (y := ⟨x.toArray⟩) (z := ⟨y.toArray⟩) (Nat.ne_of_gt (Nat.lt_of_le_of_lt (Nat.zero_le _) hu)) (Nat.ne_of_gt (Nat.lt_of_lt_of_le (Nat.lt_of_le_of_lt (Nat.zero_le _) hu2) hv1)) (Nat.ne_of_lt (Nat.lt_of_lt_of_le hu2 hv1)) ?_ hz g2 fun t' k hk => ?_
  · rw [beq_str]; exact beq_eq_false_iff_ne.mpr g1
  · exact hQ (.str (rpl x y cs)) _ σ1 ρ3 { s3 with toks := k } (p1.trans (p2.trans p3)) r3 ⟨t', rfl⟩ hK ((st1.trans (st2.trans st3)).trans .of)
noncomputable def cItem (names : List (Str × NameKind)) (gl : List (Str × Value)) (e : Expr) : Option (Nat × Nat) :=
  (asSub e).bind fun q => (asName q.1.1).bind fun x => (asName q.1.2.1).bind fun y => (cName names gl x.1.1).bind fun a => (tLoc a).bind fun i => (cName names gl y.1.1).bind fun b => (tLoc b).bind fun j => some (i.1, j.1)
theorem DF.eq {e e' : Expr} {f : FX} (h : e = e') (d : DF G names e' f) : DF G names e f := h ▸ d
theorem cItem_ok {e : Expr} {p : Nat × Nat} (h : cItem names gl e = some p) : DF G names e (.item p.1 p.2) := by
  obtain ⟨q, h⟩ := bind_of h
  obtain ⟨x, h⟩ := bind_of h
  obtain ⟨y, h⟩ := bind_of h
  obtain ⟨a, e1, h⟩ := bind_sp h
  obtain ⟨i, h⟩ := bind_of h
  obtain ⟨b, e2, h⟩ := bind_sp h
  obtain ⟨j, h⟩ := bind_of h
  cases h
  exact .eq (q.2.trans (sub_congr x.2 y.2)) (DF_item (e1.trans (congrArg some i.2)) (e2.trans (congrArg some j.2)))
noncomputable def tStat : (a : IE) → Option { v : Value // a = .stat v }
  | .stat v => some ⟨v, rfl⟩
  | _ => none
noncomputable def asCall1 : (e : Expr) → Option { q : Str × Pos × Expr × Pos // e = .Call (.Name q.1 q.2.1) [q.2.2.1] [] q.2.2.2 }
  | .Call (.Name x p) [a] [] pos => some ⟨(x, p, a, pos), rfl⟩
  | _ => none
noncomputable def asIntC : (e : Expr) → Option { q : Int × Nat × Pos // e = .Constant (.int q.1) q.2.1 q.2.2 }
  | .Constant (.int b) k p => some ⟨(b, k, p), rfl⟩
  | _ => none
noncomputable def isChr : (b : BF) → Option (PLift (b = .chr))
  | .chr => some ⟨rfl⟩
  | _ => none
noncomputable def cFX (names : List (Str × NameKind)) (gl : List (Str × Value)) (e : Expr) : Option FX :=
  alt ((cItem names gl e).bind fun p => some (.item p.1 p.2))
    (alt ((asAdd e).bind fun q => (asStrC q.1.1).bind fun c => (cItem names gl q.1.2.1).bind fun p => some (.cat c.1.1 p.1 p.2))
      ((asCall1 e).bind fun q => (cName names gl q.1.1).bind fun v => (tStat v).bind fun v => (BF.of v.1).bind fun b => (isChr b).bind fun _ => (asAdd q.1.2.2.1).bind fun a => (asIntC a.1.1).bind fun c => (asName a.1.2.1).bind fun y => (cName names gl y.1.1).bind fun l => (tLoc l).bind fun j => some (.chr c.1.1 j.1)))
theorem call1_congr {x : Str} {p pos : Pos} {a b : Expr} (h : a = b) : Expr.Call (.Name x p) [a] [] pos = .Call (.Name x p) [b] [] pos := by rw [h]
theorem cFX_ok (hgl : GlOk G gl) {e : Expr} {f : FX} (h : cFX names gl e = some f) : DF G names e f := by
  rcases alt_sp h with h | h
  · obtain ⟨p, e1, h⟩ := bind_sp h
    cases h
    exact cItem_ok e1
  rcases alt_sp h with h | h
  · obtain ⟨q, h⟩ := bind_of h
    obtain ⟨c, h⟩ := bind_of h
    obtain ⟨p, e1, h⟩ := bind_sp h
    cases h
    exact .eq (q.2.trans (bin_congr c.2 rfl)) (DF_cat (cItem_ok e1))
  · obtain ⟨q, h⟩ := bind_of h
    obtain ⟨v, e1, h⟩ := bind_sp h
    obtain ⟨v2, h⟩ := bind_of h
    obtain ⟨b, e2, h⟩ := bind_sp h
    obtain ⟨hb, h⟩ := bind_of h
    obtain ⟨a, h⟩ := bind_of h
    obtain ⟨c, h⟩ := bind_of h
    obtain ⟨y, h⟩ := bind_of h
    obtain ⟨l, e3, h⟩ := bind_sp h
    obtain ⟨j, h⟩ := bind_of h
    cases h
    have e4 := BF.of_spec e2
    rw [hb.1] at e4
    exact .eq (q.2.trans (call1_congr (a.2.trans (bin_congr c.2 y.2)))) (DF_chr (cName_ok hgl (e1.trans (congrArg some (v2.2.trans (congrArg IE.stat e4.symm))))) (e3.trans (congrArg some j.2)))
theorem cFX_star {v : Expr} {p : Pos} : cFX names gl (.Starred v p) = none := rfl
noncomputable def extR (names : List (Str × NameKind)) (gl : List (Str × Value)) (C : Addr) (f : Nat) (e : Expr) : Option IE :=
  (asCall e).bind fun q => (two q.1.2.2.2.1).bind fun xy => when (q.1.2.1 == "replace" && q.1.2.2.1.endLine == q.1.2.2.2.2.line && baseOk q.1.1) ((cE names gl C (fun _ => none) f q.1.1).bind fun io => (cFX names gl xy.1).bind fun a => (cFX names gl xy.2).bind fun b => when a.late (some (.comp (wpRpl io a b))))
theorem call_congr {o : Expr} {m m' : Str} {ap pos : Pos} {as bs : List Expr} (h1 : m = m') (h : as = bs) : Expr.Call (.Attribute o m ap) as [] pos = .Call (.Attribute o m' ap) bs [] pos := by rw [h, h1]
theorem extR_ok (gc : G.Cls) (hgl : GlOk G gl) (f : Nat) : ∀ e ie, extR names gl G.C f e = some ie → DE G names e ie := by
  intro e ie h
  obtain ⟨q, h⟩ := bind_of h
  obtain ⟨xy, e0, h⟩ := bind_sp h
  obtain ⟨hc, h⟩ := when_sp h
  simp only [Bool.and_eq_true] at hc
  obtain ⟨io, e1, h⟩ := bind_sp h
  obtain ⟨a, e2, h⟩ := bind_sp h
  obtain ⟨b, e3, h⟩ := bind_sp h
  obtain ⟨hl, h⟩ := when_sp h
  cases h
  exact .eq (q.2.trans (call_congr (eq_of_beq hc.1.1) (two_sp e0))) (DE_rpl hc.2 hc.1.2 hl (fun v p q => by rw [q, cFX_star] at e2; cases e2) (fun v p q => by rw [q, cFX_star] at e3; cases e3) ((comp_ok gc hgl (fun e ie h => nos h) f).1 _ _ e1) (cFX_ok hgl e2) (cFX_ok hgl e3))
noncomputable def extM (names : List (Str × NameKind)) (gl : List (Str × Value)) (C : Addr) (f : Nat) (e : Expr) : Option IE :=
  (asCall e).bind fun q => (one q.1.2.2.2.1).bind fun x => when (q.1.2.1 == "remove" && q.1.2.2.1.endLine == q.1.2.2.2.2.line && baseOk q.1.1) ((cE names gl C (fun _ => none) f q.1.1).bind fun io => (cE names gl C (fun _ => none) f x).bind fun ia => some (.comp (wpRem io ia)))
theorem extM_ok (gc : G.Cls) (hgl : GlOk G gl) (f : Nat) : ∀ e ie, extM names gl G.C f e = some ie → DE G names e ie := by
  intro e ie h
  obtain ⟨q, h⟩ := bind_of h
  obtain ⟨x, e0, h⟩ := bind_sp h
  obtain ⟨hc, h⟩ := when_sp h
  simp only [Bool.and_eq_true] at hc
  obtain ⟨io, e1, h⟩ := bind_sp h
  obtain ⟨ia, e2, h⟩ := bind_sp h
  cases h
  have co := (comp_ok (names := names) gc hgl (fun e ie h => nos h) f).1
  exact .eq (q.2.trans (call_congr (eq_of_beq hc.1.1) (one_sp e0))) (DE_rem hc.2 hc.1.2 (fun v p q => by rw [q, cE_star] at e2; cases e2) (co _ _ e1) (co _ _ e2))
noncomputable def extW (names : List (Str × NameKind)) (gl : List (Str × Value)) (C : Addr) (f : Nat) (ext : Expr → Option IE) (e : Expr) : Option IE :=
  (asCall1 e).bind fun q => (cName names gl q.1.1).bind fun v => (tStat v).bind fun v => (BF.of v.1).bind fun b => (w1Of b).bind fun wB => (cE names gl C ext f q.1.2.2.1).bind fun ia => some (.comp (wp1 wB ia))
theorem extW_ok (gc : G.Cls) (hgl : GlOk G gl) (f : Nat) {ext : Expr → Option IE} (hext : ∀ e ie, ext e = some ie → DE G names e ie) : ∀ e ie, extW names gl G.C f ext e = some ie → DE G names e ie := by
  intro e ie h
  obtain ⟨q, h⟩ := bind_of h
  obtain ⟨v, e1, h⟩ := bind_sp h
  obtain ⟨v2, h⟩ := bind_of h
  obtain ⟨b, e2, h⟩ := bind_sp h
  obtain ⟨wB, e3, h⟩ := bind_sp h
  obtain ⟨ia, e4, h⟩ := bind_sp h
  cases h
  exact .eq q.2 (DE_w1 e3 (cName_ok hgl (e1.trans (congrArg some (v2.2.trans (congrArg IE.stat (BF.of_spec e2).symm))))) (fun v p q => by rw [q, cE_star] at e4; cases e4) ((comp_ok gc hgl hext f).1 _ _ e4))
end
end Mine
namespace Mine
open PySem PySem.W PySem.Calls PyProof.Rows
section
variable {G : Stat} {names : List (Str × NameKind)} {gl : List (Str × Value)}
theorem DS_assignCell {elt : Expr} {gens : List Comprehension} {scope : Scope} {pos py spos : Pos} {y : Str} {iy : Nat} {ie : IE} (h2 : DE G names (.ListComp elt gens scope pos) ie) (hiy : ix names y = some iy) (hyc : ∃ z, names[iy]? = some (z, .cell)) :
    DS G names (.Assign [.Name y py] (.ListComp elt gens scope pos) spos) (.assign (.cel iy) ie) := by
  intro n cl k σ K hw cx ρ s Q E ok hc hlt hk r hQ
  obtain ⟨kk, g1, g2⟩ := ix_spec hiy
  obtain ⟨z, hz⟩ := id hyc
  rw [g1] at hz; cases hz
  have h1 := DG_cel (G := G) (pos := py) hiy hyc
  have hsw : swapsWith (.ListComp elt gens scope pos) (some (.Name y py)) spos.line cx.env = pure false := by
    show (pure (cx.env.blockKind == .function && cx.env.kindOf y == some .local && py.line == (Expr.ListComp elt gens scope pos).pos.line && !(scope.names.any fun p => p.1 == y && (p.2 == .local || p.2 == .cell))) : Sem Bool) = pure false
    rw [kindOf_of ok g2, show ((some NameKind.cell) == some NameKind.local) = false from rfl, Bool.and_false, Bool.false_and, Bool.false_and]
  refine wpAny_Assign_stores (h2 n cl σ _ hw cx ρ s _ _ ok hc r ?_) hsw (stores_none (.inl rfl) _)
  intro x x' σ1 ρ1 s1 p1 r1 vx hw st1
  rw [show assignEach [.Name y py] cx.env = [(false, assign (.Name y py) cx.env)] from rfl]
  show wpAny _ _ (assign (.Name y py) cx.env x') _ _ _
  refine h1.2 n cl σ1 _ _ hw cx ρ1 s1 _ _ _ ok (hc.mono p1) r1 vx ?_
  intro σ2 ρ2 s2 p2 r2 k2 st2
  exact hQ _ _ _ _ _ (Pk.of_pre (p1.trans p2) hk) r2 .next k2 (st1.trans st2)
noncomputable def asLC : (e : Expr) → Option { q : Expr × List Comprehension × Scope × Pos // e = .ListComp q.1 q.2.1 q.2.2.1 q.2.2.2 }
  | .ListComp a b c d => some ⟨(a, b, c, d), rfl⟩
  | _ => none
noncomputable def asAsg : (s : Stmt) → Option { q : List Expr × Expr × Pos // s = .Assign q.1 q.2.1 q.2.2 }
  | .Assign a b c => some ⟨(a, b, c), rfl⟩
  | _ => none
noncomputable def extSC (names : List (Str × NameKind)) (ext : Expr → Option IE) (st : Stmt) : Option IS :=
  (asAsg st).bind fun q => (one q.1.1).bind fun t => (asName t).bind fun y => (asLC q.1.2.1).bind fun c => (ext (.ListComp c.1.1 c.1.2.1 c.1.2.2.1 c.1.2.2.2)).bind fun ie => (ix names y.1.1).bind fun iy => (names[iy]?).bind fun p => when (p.2 == .cell) (some (.assign (.cel iy) ie))
theorem extSC_ok {ext : Expr → Option IE} (hext : ∀ e ie, ext e = some ie → DE G names e ie) : ∀ s is, extSC names ext s = some is → DS G names s is := by
  intro s is h
  obtain ⟨q, h⟩ := bind_of h
  obtain ⟨t, e0, h⟩ := bind_sp h
  obtain ⟨y, h⟩ := bind_of h
  obtain ⟨c, h⟩ := bind_of h
  obtain ⟨ie, e1, h⟩ := bind_sp h
  obtain ⟨iy, e2, h⟩ := bind_sp h
  obtain ⟨⟨z, k⟩, e3, h⟩ := bind_sp h
  obtain ⟨hk, h⟩ := when_sp h
  cases h
  have hk : k = .cell := eq_of_beq hk
  subst hk
  exact .eq (q.2.trans (asg_congr (one_sp e0) y.2 c.2)) (DS_assignCell (hext _ _ e1) e2 ⟨z, e3⟩)
noncomputable def DSp (G : Stat) (names : List (Str × NameKind)) (st : Stmt) (is : IS) : Prop :=
  ∀ n cl k σ (K : Fl → St → Prop), wpS G n cl k is σ K → ∀ (cx : Cx) (ρ : List Addr) (s : Shared) (Q : Flow → Shared → Prop) (E : Value → Shared → Prop), CxOk G cx (n + 1) names → ClOk cx cl ρ → ClLt cl k → k ≤ ρ.length → R G cx ρ σ s.heap → 1 ≤ s.toks → RetS G cx k ρ s K Q → wpAny (model G.prog G.w) cx.A (exec st cx.env) Q E s
noncomputable def DSsp (G : Stat) (names : List (Str × NameKind)) (st : List Stmt) (is : List IS) : Prop :=
  ∀ n cl k σ (K : Fl → St → Prop), wpSs G n cl k is σ K → ∀ (cx : Cx) (ρ : List Addr) (s : Shared) (Q : Flow → Shared → Prop) (E : Value → Shared → Prop), CxOk G cx (n + 1) names → ClOk cx cl ρ → ClLt cl k → k ≤ ρ.length → R G cx ρ σ s.heap → 1 ≤ s.toks → RetS G cx k ρ s K Q → wpAny (model G.prog G.w) cx.A (execs st cx.env) Q E s
theorem DS.p {st : Stmt} {is : IS} (h : DS G names st is) : DSp G names st is := fun n cl k σ K hw cx ρ s Q E ok hc hlt hk r _ hQ => h n cl k σ K hw cx ρ s Q E ok hc hlt hk r hQ
theorem DSs.p {st : List Stmt} {is : List IS} (h : DSs G names st is) : DSsp G names st is := fun n cl k σ K hw cx ρ s Q E ok hc hlt hk r _ hQ => h n cl k σ K hw cx ρ s Q E ok hc hlt hk r hQ
theorem DSsp_cons {st : Stmt} {sts : List Stmt} {is : IS} {iss : List IS} (h1 : DSp G names st is) (h2 : DSsp G names sts iss) : DSsp G names (st :: sts) (is :: iss) := by
  intro n cl k σ K hw cx ρ s Q E ok hc hlt hk r tk hQ
  refine wpAny_execs_cons (wpAny_with_toks tk (h1 n cl k σ (sq G n cl k iss K) hw cx ρ s _ _ ok hc hlt hk r tk ?_))
  intro fl fl' σ1 ρ1 s1 p1 r1 f1 hw st1 tk1
  cases f1 with
  | next => exact h2 n cl k σ1 K hw cx ρ1 s1 Q _ ok (hc.pk hlt p1) hlt p1.2 r1 tk1 (hQ.tail p1 st1)
  | brk => exact hQ _ _ _ _ _ p1 r1 .brk hw st1
  | cont => exact hQ _ _ _ _ _ p1 r1 .cont hw st1
  | ret v => exact hQ _ _ _ _ _ p1 r1 (.ret v) hw st1
theorem DSs_first {x : Str} {p pos cp : Pos} {c : Str} {kk : Nat} {it : Tg} {sts : List Stmt} {iss : List IS} (h1 : DG G names (.Name x p) it) (h2 : DSsp G names sts iss) : DSs G names (.Assign [.Name x p] (.Constant (.str c) kk cp) pos :: sts) (.assign it (.k (.str c.cps.toList)) :: iss) := by
  intro n cl k σ K hw cx ρ s Q E ok hc hlt hk r hQ
  refine wpAny_execs_cons (wpAny_Assign_stores (wpAny_Constant_str ?_) rfl (stores_none (.inl rfl) _))
  rw [show assignEach [.Name x p] cx.env = [(false, assign (.Name x p) cx.env)] from rfl]
  show wpAny _ _ (assign (.Name x p) cx.env (.str c s.toks)) _ _ _
  refine wpAny_with_toks (n := 1) (Nat.succ_le_succ (Nat.zero_le _)) (h1.2 n cl σ _ _ hw cx ρ { s with toks := s.toks + 1 } _ _ (.str c s.toks) ok hc r .s ?_)
  intro σ2 ρ2 s2 p2 r2 k2 st2 tk2
  have pk := Pk.of_pre p2 hk
  exact h2 n cl k σ2 K k2 cx ρ2 s2 Q _ ok (hc.pk hlt pk) hlt pk.2 r2 tk2 (hQ.tail pk ((Stp.of (s := s) (h := s.heap) (t := s.toks + 1)).trans st2))
theorem DEp_repE {e X : Expr} {x : IE} {c : Nat} {b : List Nat} (hX : DE G names X x) (h : IsRepl e X c b) : DEp G names e (.comp (wpRep x c b)) := by
  intro n cl σ K hw cx ρ s Q E ok hc r tk hQ
  refine repl_rule (G := G) h (wpAny_with_toks tk (hX n cl σ _ hw cx ρ s _ _ ok hc r ?_))
  intro v v' σ1 ρ1 s1 p1 r1 vv hw st1 tk1
  obtain ⟨cs, rfl, hlen, hK⟩ := isS_sp hw
  obtain ⟨t, rfl⟩ := vv
  exact ⟨cs, t, rfl, hlen, tk1, fun t' k' _ => hQ (.str (rep c b cs)) _ σ1 ρ1 { s1 with toks := k' } p1 r1 ⟨t', rfl⟩ hK (st1.trans .of)⟩
theorem IsRepl.plain {e o : Expr} {c : Nat} {b : List Nat} (h : IsRepl e o c b) : noComp e = true ∧ isTupE e = false := by
  obtain ⟨⟨_, _, _, _, _, _, rfl, _⟩, _⟩ := h
  exact ⟨rfl, rfl⟩
theorem DSp_assign {t v : Expr} {pos : Pos} {it : Tg} {iv : IE} (hn : noComp v = true) (ht : isTupE v = false) (h1 : DG G names t it) (h2 : DEp G names v iv) : DSp G names (.Assign [t] v pos) (.assign it iv) := by
  intro n cl k σ K hw cx ρ s Q E ok hc hlt hk r tk hQ
  refine wpAny_Assign_stores (h2 n cl σ _ hw cx ρ s _ _ ok hc r tk ?_) (swaps_none hn _ _ _) (stores_none (.inl ht) _)
  intro x x' σ1 ρ1 s1 p1 r1 vx hw st1
  have he : assignEach [t] cx.env = [(false, assign t cx.env)] := assign_each (.cons h1 .nil) cx.env
  rw [he]
  show wpAny _ _ (assign t cx.env x') _ _ _
  refine h1.2 n cl σ1 _ _ hw cx ρ1 s1 _ _ _ ok (hc.mono p1) r1 vx ?_
  intro σ2 ρ2 s2 p2 r2 k2 st2
  exact hQ _ _ _ _ _ (Pk.of_pre (p1.trans p2) hk) r2 .next k2 (st1.trans st2)
noncomputable def cP (names : List (Str × NameKind)) (gl : List (Str × Value)) (C : Addr) (f : Nat) (st : Stmt) : Option IS :=
  (asAsg st).bind fun q => (one q.1.1).bind fun t => (asRepl q.1.2.1).bind fun r => (cG names gl C (fun _ => none) f t).bind fun g => (cE names gl C (fun _ => none) f r.1.1).bind fun x => some (.assign g (.comp (wpRep x r.1.2.1 r.1.2.2)))
theorem DSp.eq {s s' : Stmt} {is : IS} (h : s = s') (d : DSp G names s' is) : DSp G names s is := h ▸ d
theorem cP_ok (gc : G.Cls) (hgl : GlOk G gl) (hnd : (names.map (·.1)).Nodup) {f : Nat} {st : Stmt} {is : IS} (h : cP names gl G.C f st = some is) : DSp G names st is := by
  obtain ⟨q, h⟩ := bind_of h
  obtain ⟨t, e0, h⟩ := bind_sp h
  obtain ⟨r, h⟩ := bind_of h
  obtain ⟨g, e1, h⟩ := bind_sp h
  obtain ⟨x, e2, h⟩ := bind_sp h
  cases h
  have no : ∀ e ie, (fun _ : Expr => (none : Option IE)) e = some ie → DE G names e ie := fun e ie h => nos h
  exact .eq (q.2.trans (asg_congr (one_sp e0) rfl rfl)) (DSp_assign r.2.plain.1 r.2.plain.2 (DG_of gc hgl no hnd f _ _ e1) (DEp_repE ((comp_ok gc hgl no f).1 _ _ e2) r.2))
end
end Mine
namespace Mine
open PySem PySem.W PySem.Calls PyProof.Rows
noncomputable def is_mk (i fid : Nat) (P : Addr) (pos : Pos) (fr : List (Str × Nat)) : List IS := [.assign (.loc i) (.new [(.k .none)]), .defn (i + 1) fid P pos fr, .assign (.attr (.loc i) .read) (.loc (i + 1)), .ret (.loc i)]
noncomputable def TabIs (G : Stat) (tb : Nat) (P : Addr) (pos : Pos) (fid : Nat) (hp : List O) : Prop := hp[tb]? = some (.tab P none) ∨ ∃ c, hp[tb]? = some (.tab P (some (pos, c))) ∧ hp[c]? = some (.code (G.fn fid).qual)
theorem TabIs.at {G : Stat} {tb fid : Nat} {P : Addr} {pos : Pos} {hp : List O} (h : TabIs G tb P pos fid hp) : ∃ e, hp[tb]? = some (.tab P e) := by
  rcases h with h | ⟨c, h, _⟩ <;> exact ⟨_, h⟩
theorem TabIs.ext {G : Stat} {tb fid : Nat} {P : Addr} {pos : Pos} {hp hp' : List O} {l : List Nat} (h : TabIs G tb P pos fid hp) (e : Ext l hp hp') (hl : ∀ i ∈ l, ∀ o, hp[i]? = some o → (∀ P x, o ≠ .tab P x) ∧ ∀ q, o ≠ .code q) : TabIs G tb P pos fid hp' := by
  rcases h with h | ⟨c, h, h2⟩
  · exact .inl (e.get h fun q => (hl tb q _ h).1 _ _ rfl)
  · exact .inr ⟨c, e.get h fun q => (hl tb q _ h).1 _ _ rfl, e.get h2 fun q => (hl c q _ h2).2 _ rfl⟩
theorem TabIs.ext0 {G : Stat} {tb fid : Nat} {P : Addr} {pos : Pos} {hp hp' : List O} (h : TabIs G tb P pos fid hp) (e : Ext [] hp hp') : TabIs G tb P pos fid hp' := h.ext e fun i hi => nomatch hi
theorem mem_lk {i j : Nat} : ∀ {ps : List (Nat × Nat)}, ps.lookup i = some j → (i, j) ∈ ps
  | [], h => nomatch h
  | (a, b) :: ps, h => by
    rw [List.lookup_cons] at h
    cases q : i == a with
    | true => rw [q] at h; cases h; rw [eq_of_beq q]; exact .head _
    | false => rw [q] at h; exact .tail _ (mem_lk h)
theorem lkR {N : Nat} {ps : List (Nat × Nat)} {i j : Nat} (e : ((List.range N).map fun i => ps.lookup i)[i]? = some (some j)) : (i, j) ∈ ps := by
  rw [List.getElem?_map] at e
  cases h : (List.range N)[i]? with
  | none => rw [h] at e; cases e
  | some m =>
    rw [h] at e
    have hm : m = i := by
      obtain ⟨_, q⟩ := List.getElem?_eq_some_iff.mp h
      rw [List.getElem_range] at q; exact q.symm
    subst hm
    exact mem_lk (Option.some.inj (show some (ps.lookup m) = some (some j) from e))
theorem cells_of {names : List (Str × NameKind)} {rev : List Str} {ps : List (Nat × Nat)} {N h : Nat} (hk : ∀ p ∈ ps, (∃ x k, names[p.1]? = some (x, k) ∧ rev[p.2]? = some x)) {cl : List (Option Nat)} (hcl : cl = (List.range N).map fun i => (ps.map fun p => (p.1, h + p.2)).lookup i) :
    ∀ (i j : Nat), cl[i]? = some (some j) → ∃ x k t, names[i]? = some (x, k) ∧ j = h + t ∧ rev[t]? = some x := fun i j e => by
  subst hcl
  obtain ⟨p, hp, e⟩ := List.mem_map.mp (lkR e)
  cases e
  obtain ⟨x, k, h1, h2⟩ := hk p hp
  exact ⟨x, k, p.2, h1, rfl, h2⟩
theorem inst_mk {hp : List O} {i d : Nat} {fs : List (At × V)} (h1 : hp[i]? = some (.inst d)) (h2 : hp[d]? = some (.dct fs)) : instAt hp (.ref i) = some (d, fs) := by simp only [instAt, h1, h2]
theorem turn_mk {G : Stat} {n : Nat} {cl : List (Option Nat)} {elt : IE} {i a : Nat} {I : St → Prop} {x : V} {σ : St} (h : wpE G n cl elt ⟨σ.loc.set i (some x), σ.hp⟩ fun y σ => onL σ.hp a (fun ys => ys.length ≤ big ∧ I ⟨σ.loc, σ.hp.set a (.list (ys ++ [y]))⟩)) : turn1 elt i [] G n cl a I x σ := h
theorem onLoc_mk {loc : List (Option V)} {i : Nat} {v : V} {k : V → Prop} (e : loc[i]? = some (some v)) (h : k v) : onLoc loc i k := by unfold onLoc; rw [e]; exact h
section
variable {G : Stat} (lx : Lx G)
include lx in
theorem new_mk {n : Nat} {fp : V} {hp : List O} {K : List O → Prop}
    (hK : ∀ s d p hp', hp'[s]? = some (.inst d) → hp'[d]? = some (.dct [(.lineno, .int 1), (.instream, fp), (.whitespace, .str [10, 9, 13, 32]), (.pushback, .ref p)]) → hp'[p]? = some (.list []) → hp.length ≤ d → hp.length ≤ p → s = hp.length + 1 → Ext [] hp hp' → K hp') :
    1 ≤ n + 2 ∧ CallT G (n + 2 - 1) (.stat (.ref (G.mf .init))) [.ref (hp.length + 1), fp] (hp ++ [.dct [], .inst hp.length]) fun v hp' => v = .none ∧ K hp' := by
  refine ⟨Nat.le_add_left _ _, ?_⟩
  have e7 : Ext [] hp (hp ++ [O.dct [], O.inst hp.length]) := .app
  have s7 : (hp ++ [O.dct [], O.inst hp.length])[hp.length + 1]? = some (.inst hp.length) := by rw [List.getElem?_append_right (Nat.le_add_right _ 1), Nat.add_sub_cancel_left]; rfl
  have d7 : (hp ++ [O.dct [], O.inst hp.length])[hp.length]? = some (.dct []) := by rw [List.getElem?_append_right (Nat.le_refl _), Nat.sub_self]; rfl
  have l7 : hp.length ≤ (hp ++ [O.dct [], O.inst hp.length]).length := e7.1
  refine init_ok lx (n := n) s7 d7 ⟨rfl, ?_⟩
  generalize hp ++ [O.dct [], O.inst hp.length] = hp7 at e7 s7 d7 l7 ⊢
  have e8 : Ext [hp.length] hp7 (hp7.set hp.length (.dct [(.lineno, .int 1), (.instream, fp), (.whitespace, .str [10, 9, 13, 32]), (.pushback, .ref hp7.length)]) ++ [O.list []]) := Ext.trans (.set (.head _)) .app
  refine hK (hp.length + 1) hp.length hp7.length _ (e8.get s7 (by simp)) ?_ ?_ (Nat.le_refl _) l7 rfl (Ext.drop (i := hp.length) ((e7.mono (fun _ h => nomatch h)).trans e8) (Nat.le_refl _))
  · rw [List.getElem?_append_left (by rw [List.length_set]; exact lt_of_get d7), List.getElem?_set_self (lt_of_get d7)]
  · rw [List.getElem?_append_right (by rw [List.length_set]; exact Nat.le_refl _), List.length_set, Nat.sub_self]; rfl
include lx in
theorem mk_wp {n i fid tb k : Nat} {P : Addr} {pos : Pos} {fr js : List (Str × Nat)} {cl : List (Option Nat)} {loc : List (Option V)} {hp hp0 : List O} {K : V → List O → Prop} (hi : i + 1 < loc.length) (hfr : frJ cl fr = some js) (ht : TabIs G tb P pos fid hp)
    (hK : ∀ t dt f c fs hp', hp'[t]? = some (.inst dt) → hp'[dt]? = some (.dct fs) → getA .read fs = some (.ref f) → hp'[f]? = some (.fn fid js.reverse c) → hp'[c]? = some (.code (G.fn fid).qual) → TabIs G tb P pos fid hp' → Ext [tb] hp hp' → hp.length ≤ t → hp.length ≤ dt → hp.length ≤ f → K (.ref t) hp') :
    wpSs G (n + 2) cl k (is_mk i fid P pos fr) ⟨loc, hp⟩ (RetOk hp0 K) := by
  unfold is_mk
  refine mAssign ?_
  dsimp only [tCmp, tAnd, tOr, tNot, tLc, tAt, eK, eLoc, eStat, eBin, eCmp, eIfe, eList, eTup, eAttr, eMattr, eCall, eNew, eBf, eBm, eUm, eAm, eSub, eSli, esN, esC, oN, oS, gLoc, gCel, gAttr, gSub, gTup, gsC, cEq, cNe, cLt, cLe, cGt, cGe, cIn, cNi, ltII, bII, bSS, bRR, bRI, biAdd, biSub, biMul, biMod, biDiv, biPow, adS, adL, mlL, iII, iSS, niAdd, niSub, niDiv, fLen, fAbs, fStr, fMin, fRng, rg1, rg2, fItr, fSum, o1, lnS, lnR, vI, vS, vR, lc0, lcS, List.getElem?_cons_zero, List.getElem?_cons_succ, List.set_cons_zero, List.set_cons_succ, List.length_cons, List.length_nil, qSS, qII, qIS, qSI, nS, inO, o2, hkI, hkS, hkR, hkN, sqN, ssN]
  refine new_mk lx (n := n) fun s d p hp1 h1 h2 h3 q1 q2 q3 e1 => ⟨Nat.lt_of_succ_lt hi, ?_⟩
  rw [← q3]
  have ht1 := ht.ext0 e1
  have hs : hp.length ≤ s := q3 ▸ Nat.le_succ _
  have tail : ∀ f c hp2, hp2[f]? = some (.fn fid js.reverse c) → hp2[c]? = some (.code (G.fn fid).qual) → TabIs G tb P pos fid hp2 → Ext [tb] hp1 hp2 → hp.length ≤ f →
      wpSs G (n + 2) cl k [.assign (.attr (.loc i) .read) (.loc (i + 1)), .ret (.loc i)] ⟨(loc.set i (some (.ref s))).set (i + 1) (some (.ref f)), hp2⟩ (RetOk hp0 K) := fun f c hp2 f1 f2 f3 e2 lf => by
    have g1 : ((loc.set i (some (.ref s))).set (i + 1) (some (.ref f)))[i + 1]? = some (some (.ref f)) := List.getElem?_set_self (by rw [List.length_set]; exact hi)
    have g2 : ((loc.set i (some (.ref s))).set (i + 1) (some (.ref f)))[i]? = some (some (.ref s)) := by rw [List.getElem?_set_ne (Nat.succ_ne_self i), List.getElem?_set_self (Nat.lt_of_succ_lt hi)]
    generalize (loc.set i (some (.ref s))).set (i + 1) (some (.ref f)) = loc2 at g1 g2 ⊢
    obtain ⟨x, hx⟩ := ht1.at
    have s2 := e2.get h1 (by rw [List.mem_singleton]; exact ne_of h1 hx (fun q => nomatch q))
    have d2 := e2.get h2 (by rw [List.mem_singleton]; exact ne_of h2 hx (fun q => nomatch q))
    refine mAssign ?_
    rw [eLoc]
    refine onLoc_mk g1 ?_
    rw [gAttr, eLoc]
    refine onLoc_mk g2 ?_
    unfold wpSetA
    refine onI_mk (inst_mk s2 d2) ⟨show 4 ≤ 100 by decide, ?_⟩
    refine mRet ?_
    rw [eLoc]
    refine onLoc_mk g2 ?_
    have e3 : Ext [d] hp2 (hp2.set d (.dct (putA .read (.ref f) [(.lineno, .int 1), (.instream, .none), (.whitespace, .str [10, 9, 13, 32]), (.pushback, .ref p)]))) := .set (.head _)
    have nd : ∀ {j : Nat} {o : O}, hp2[j]? = some o → (∀ x, o ≠ .dct x) → j ∉ [d] := fun hj ho => by rw [List.mem_singleton]; exact ne_of hj d2 (ho _)
    refine hK s d f c _ _ (e3.get s2 (nd s2 fun x q => nomatch q)) (List.getElem?_set_self (lt_of_get d2)) rfl (e3.get f1 (nd f1 fun x q => nomatch q)) (e3.get f2 (nd f2 fun x q => nomatch q)) (f3.ext e3 fun j hj o ho => ?_) ?_ hs q1 lf
    · rw [List.mem_singleton.mp hj, d2] at ho
      cases ho
      exact ⟨fun _ _ q => (nomatch q), fun _ q => (nomatch q)⟩
    · refine (((e1.mono (fun _ h => nomatch h)).trans (e2.mono (l' := [d, tb]) fun _ h => .tail _ h)).trans (e3.mono (fun j hj => by rw [List.mem_singleton.mp hj]; exact .head _))).drop q1
  refine mSt ?_
  rw [sDefn]
  refine ⟨tb, js, hfr, by rw [List.length_set]; exact hi, ?_⟩
  rcases ht1 with h | ⟨c, h, hc⟩
  · refine .inl ⟨h, mSq (tail (hp1.length + 1) hp1.length _ ?_ ?_ (.inr ⟨hp1.length, ?_, ?_⟩) (Ext.trans (.set (.head _)) .app) (Nat.le_succ_of_le e1.1))⟩
    · rw [List.getElem?_append_right (by rw [List.length_set]; exact Nat.le_succ _), List.length_set, Nat.add_sub_cancel_left]; rfl
    · rw [List.getElem?_append_right (by rw [List.length_set]; exact Nat.le_refl _), List.length_set, Nat.sub_self]; rfl
    · rw [List.getElem?_append_left (by rw [List.length_set]; exact lt_of_get h), List.getElem?_set_self (lt_of_get h)]
    · rw [List.getElem?_append_right (by rw [List.length_set]; exact Nat.le_refl _), List.length_set, Nat.sub_self]; rfl
  · have ea : Ext [] hp1 (hp1 ++ [O.fn fid js.reverse c]) := .app
    exact .inr ⟨c, h, mSq (tail hp1.length c _ List.getElem?_concat_length (ea.get hc (fun q => nomatch q)) (.inr ⟨c, ea.get h (fun q => nomatch q), ea.get hc (fun q => nomatch q)⟩) (ea.mono (fun _ q => nomatch q)) e1.1)⟩
noncomputable def is_stream4 (P : Addr) (pos : Pos) : List IS := is_mk 2 0 P pos [("at", 1), ("text", 0)]
noncomputable def is_through (P : Addr) (pos : Pos) : List IS := is_mk 1 1 P pos [("lower", 0)]
include lx in
theorem stream_wp2 {n tb a k : Nat} {P : Addr} {pos : Pos} {text : List Nat} {hp : List O} {K : V → List O → Prop} (ht : hp[tb]? = some (.tab P none)) (ha : hp[a]? = some (.list [.int 0])) (hsm : text.length ≤ 100000)
    (hK : ∀ T hp', T.a = a → hp.length ≤ T.ct → hp.length ≤ T.ca → Strm (G.fn 0).qual T text hp' 0 → Ext [tb] hp hp' → (∃ e, hp'[tb]? = some (.tab P e)) → K (.ref T.t) hp') :
    wpSs G (n + 2) [some (hp.length + 1), some hp.length, none, none, none] k (is_stream4 P pos) ⟨[some (.str text), some (.ref a), none, none, none], hp ++ [.cell (some (.ref a)), .cell (some (.str text))]⟩ (RetOk hp K) := by
  have e0 : Ext [] hp (hp ++ [O.cell (some (.ref a)), .cell (some (.str text))]) := .app
  have c0 : (hp ++ [O.cell (some (.ref a)), .cell (some (.str text))])[hp.length]? = some (.cell (some (.ref a))) := by rw [List.getElem?_append_right (Nat.le_refl _), Nat.sub_self]; rfl
  have c1 : (hp ++ [O.cell (some (.ref a)), .cell (some (.str text))])[hp.length + 1]? = some (.cell (some (.str text))) := by rw [List.getElem?_append_right (Nat.le_add_right _ 1), Nat.add_sub_cancel_left]; rfl
  have ht0 := e0.get ht (fun q => nomatch q)
  have ha0 := e0.get ha (fun q => nomatch q)
  generalize hp ++ [O.cell (some (.ref a)), .cell (some (.str text))] = hp1 at e0 c0 c1 ht0 ha0 ⊢
  refine mk_wp lx (js := [("at", hp.length), ("text", hp.length + 1)]) (show 3 < 5 by decide) rfl (.inl ht0) fun t dt f c fs hp' h1 h2 h3 h4 h5 h6 e _ _ _ => ?_
  have nb : ∀ {j : Nat} {o : O}, hp1[j]? = some o → (∀ x, o ≠ .tab P x) → j ∉ [tb] := fun hj ho => by rw [List.mem_singleton]; exact ne_of hj ht0 (ho _)
  exact hK ⟨t, dt, f, c, hp.length + 1, hp.length, a⟩ hp' rfl (Nat.le_succ _) (Nat.le_refl _) ⟨h1, ⟨fs, h2, h3⟩, h4, h5, e.get c1 (nb c1 fun x q => nomatch q), e.get c0 (nb c0 fun x q => nomatch q), e.get ha0 (nb ha0 fun x q => nomatch q), Nat.zero_le _, hsm⟩ ((e0.mono (fun _ q => nomatch q)).trans e) h6.at
structure UA where
  t : Nat
  dt : Nat
  f : Nat
  c : Nat
  cl : Nat
structure Up (G : Stat) (u : UA) (v : V) (hp : List O) : Prop where
  t : hp[u.t]? = some (.inst u.dt)
  dt : ∃ fs, hp[u.dt]? = some (.dct fs) ∧ getA .read fs = some (.ref u.f)
  f : hp[u.f]? = some (.fn 1 [("lower", u.cl)] u.c)
  c : hp[u.c]? = some (.code (G.fn 1).qual)
  cl : hp[u.cl]? = some (.cell (some v))
theorem Up.ext {u : UA} {v : V} {hp hp' : List O} {l : List Nat} (h : Up G u v hp) (e : Ext l hp hp') (hl : ∀ i ∈ [u.t, u.dt, u.f, u.c, u.cl], i ∉ l) : Up G u v hp' :=
  let ⟨fs, h1, h2⟩ := h.dt
  ⟨e.get h.t (hl _ (.head _)), ⟨fs, e.get h1 (hl _ (.tail _ (.head _))), h2⟩, e.get h.f (hl _ (.tail _ (.tail _ (.head _)))), e.get h.c (hl _ (.tail _ (.tail _ (.tail _ (.head _))))), e.get h.cl (hl _ (.tail _ (.tail _ (.tail _ (.tail _ (.head _))))))⟩
include lx in
theorem through_wp {n tb k : Nat} {P : Addr} {pos : Pos} {v : V} {hp : List O} {K : V → List O → Prop} (ht : TabIs G tb P pos 1 hp)
    (hK : ∀ u hp', Up G u v hp' → hp.length ≤ u.t → hp.length ≤ u.dt → hp.length ≤ u.f → hp.length ≤ u.cl → TabIs G tb P pos 1 hp' → Ext [tb] hp hp' → K (.ref u.t) hp') :
    wpSs G (n + 2) [some hp.length, none, none, none] k (is_through P pos) ⟨[some v, none, none, none], hp ++ [.cell (some v)]⟩ (RetOk hp K) := by
  have e0 : Ext [] hp (hp ++ [O.cell (some v)]) := .app
  have c0 : (hp ++ [O.cell (some v)])[hp.length]? = some (.cell (some v)) := List.getElem?_concat_length
  have ht0 := ht.ext0 e0
  generalize hp ++ [O.cell (some v)] = hp1 at e0 c0 ht0 ⊢
  refine mk_wp lx (js := [("lower", hp.length)]) (show 2 < 4 by decide) rfl ht0 fun t dt f c fs hp' h1 h2 h3 h4 h5 h6 e l1 l2 l3 => ?_
  obtain ⟨x, hx⟩ := ht0.at
  exact hK ⟨t, dt, f, c, hp.length⟩ hp' ⟨h1, ⟨fs, h2, h3⟩, h4, h5, e.get c0 (by rw [List.mem_singleton]; exact ne_of c0 hx (fun q => nomatch q))⟩ (Nat.le_trans e0.1 l1) (Nat.le_trans e0.1 l2) (Nat.le_trans e0.1 l3) (Nat.le_refl _) h6 ((e0.mono (fun _ q => nomatch q)).trans e)
end
noncomputable def nm_give2 : List (Str × NameKind) := [("size", .local), ("lower", .free), ("range", .globalImplicit)]
theorem clos_give2 {scope : Scope} {env : Env} (hn : scope.names = nm_give2) (as : List Addr)
    (h : All2 (fun (p : Str × Nat) a => cellOf env p.1 = pure a) [(("lower" : Str), 0)] as) : closureFor scope env = pure (([(("lower" : Str), 0)].zip as).map fun q => (q.1.1, q.2)).reverse := by
  cases h with
  | cons h1 h =>
    cases h
    unfold closureFor
    rw [hn, nm_give2]
    simp only [List.forIn_cons, List.forIn_nil, show (NameKind.local == NameKind.free) = false from rfl, show (NameKind.free == NameKind.free) = true from rfl, show (NameKind.globalImplicit == NameKind.free) = false from rfl, Bool.false_eq_true, if_false, if_true, pure_bind]
    simp only at h1
    rw [h1]
    simp
noncomputable def is_law_give2 : List IS := [.ret (.bm .join (.k (.str [])) [(.comp (wpComp (.um .readChar (.cel 2) []) 1 (.bf .range [(.loc 0)]) [] 3 [none, none, some 1]))])]
structure Lt2 (G : Stat) : Prop where
  give : ∀ n i ct c v hp K, hp[i]? = some (.fn 1 [("lower", ct)] c) → hp[c]? = some (.code (G.fn 1).qual) →
    wpSs G n [none, some ct, none] hp.length is_law_give2 ⟨[some v, none, none], hp⟩ (RetOk hp K) → CallT G (n + 1) (.ref i) [v] hp K
theorem give2_ok {G : Stat} (l2 : Lt2 G) {n s : Nat} {u : UA} {hp : List O} {K : V → List O → Prop} (U : Up G u (.ref s) hp) (hi : ∃ d fs, instAt (hp ++ [.rng 0 1, .list []]) (.ref s) = some (d, fs))
    (hr : CallT G n (.stat (.ref (G.mf .readChar))) [.ref s] (hp ++ [.rng 0 1, .list []]) fun r hp' => ∃ cs : List Nat, r = .str cs ∧ cs.length ≤ 1 ∧ hp'[hp.length + 1]? = some (.list []) ∧ K (.str cs) (hp'.set (hp.length + 1) (.list [.str cs]))) :
    CallT G (n + 1) (.ref u.f) [.int 1] hp K := by
  refine l2.give n u.f u.cl u.c (.int 1) hp K U.f U.c ?_
  unfold is_law_give2
  refine mRet ?_
  dsimp only [tCmp, tAnd, tOr, tNot, tLc, tAt, eK, eLoc, eStat, eBin, eCmp, eIfe, eList, eTup, eAttr, eMattr, eCall, eNew, eBf, eBm, eUm, eAm, eSub, eSli, esN, esC, oN, oS, gLoc, gCel, gAttr, gSub, gTup, gsC, cEq, cNe, cLt, cLe, cGt, cGe, cIn, cNi, ltII, bII, bSS, bRR, bRI, biAdd, biSub, biMul, biMod, biDiv, biPow, adS, adL, mlL, iII, iSS, niAdd, niSub, niDiv, fLen, fAbs, fStr, fMin, fRng, rg1, rg2, fItr, fSum, o1, lnS, lnR, vI, vS, vR, lc0, lcS, List.getElem?_cons_zero, List.getElem?_cons_succ, List.set_cons_zero, List.set_cons_succ, List.length_cons, List.length_nil, qSS, qII, qIS, qSI, nS, inO, o2, hkI, hkS, hkR, hkN, sqN, ssN]
  refine ⟨rfl, fun q hq => ?_, ?_⟩
  · simp only [List.mem_cons, Option.some.injEq, reduceCtorEq, List.not_mem_nil, or_false, false_or] at hq
    subst hq; exact ⟨_, rfl⟩
  dsimp only [tCmp, tAnd, tOr, tNot, tLc, tAt, eK, eLoc, eStat, eBin, eCmp, eIfe, eList, eTup, eAttr, eMattr, eCall, eNew, eBf, eBm, eUm, eAm, eSub, eSli, esN, esC, oN, oS, gLoc, gCel, gAttr, gSub, gTup, gsC, cEq, cNe, cLt, cLe, cGt, cGe, cIn, cNi, ltII, bII, bSS, bRR, bRI, biAdd, biSub, biMul, biMod, biDiv, biPow, adS, adL, mlL, iII, iSS, niAdd, niSub, niDiv, fLen, fAbs, fStr, fMin, fRng, rg1, rg2, fItr, fSum, o1, lnS, lnR, vI, vS, vR, lc0, lcS, List.getElem?_cons_zero, List.getElem?_cons_succ, List.set_cons_zero, List.set_cons_succ, List.length_cons, List.length_nil, qSS, qII, qIS, qSI, nS, inO, o2, hkI, hkS, hkR, hkN, sqN, ssN]
  refine ⟨fit1000 (by decide) (by decide), ?_⟩
  have q1 : (hp ++ [O.rng 0 1])[hp.length]? = some (.rng 0 1) := List.getElem?_concat_length
  have l1 : (hp ++ [O.rng 0 1]).length = hp.length + 1 := by rw [List.length_append]; rfl
  unfold wpIterG
  simp only [q1]
  rw [l1, List.append_assoc]
  refine ⟨fit1000 (by decide) (by decide), fit1000 (by decide) (by decide), fun j σ' => (j = 0 ∧ σ' = ⟨[none, none, none], hp ++ [.rng 0 1, .list []]⟩) ∨ (j = 1 ∧ ∃ (cs : List Nat) (hp' : List O), σ'.hp = hp'.set (hp.length + 1) (.list [.str cs]) ∧ cs.length ≤ 1 ∧ hp'[hp.length + 1]? = some (.list []) ∧ K (.str cs) (hp'.set (hp.length + 1) (.list [.str cs]))), .inl ⟨rfl, rfl⟩, ?_⟩
  rintro j ⟨loc, hp2⟩ (⟨rfl, h⟩ | ⟨rfl, cs, hp', h, h1, h2, h3⟩)
  · cases h
    refine ⟨fun _ => ?_, fun q => nomatch q⟩
    refine turn_mk ?_
    show wpE G n [none, none, some u.cl] (.um .readChar (.cel 2) []) ⟨[none, some (.int (0 + ((0 : Nat) : Int))), none], hp ++ [.rng 0 1, .list []]⟩ _
    rw [eUm]
    refine celL (cl := [none, none, some u.cl]) (i := 2) (σ := ⟨[none, some (.int (0 + ((0 : Nat) : Int))), none], hp ++ [.rng 0 1, .list []]⟩) (j := u.cl) (v := .ref s) rfl (by rw [List.getElem?_append_left (lt_of_get U.cl)]; exact U.cl) ?_
    obtain ⟨d, fs, hi⟩ := hi
    refine onI_mk hi ?_
    rw [esN]
    refine hr.mono ?_
    rintro r hp' ⟨cs, rfl, h1, h2, h3⟩
    refine onL_mk h2 ⟨by decide, .inr ⟨rfl, cs, hp', rfl, h1, h2, h3⟩⟩
  · refine ⟨fun q => absurd q (by decide), fun _ => ?_⟩
    simp only at h
    subst h
    dsimp only [tCmp, tAnd, tOr, tNot, tLc, tAt, eK, eLoc, eStat, eBin, eCmp, eIfe, eList, eTup, eAttr, eMattr, eCall, eNew, eBf, eBm, eUm, eAm, eSub, eSli, esN, esC, oN, oS, gLoc, gCel, gAttr, gSub, gTup, gsC, cEq, cNe, cLt, cLe, cGt, cGe, cIn, cNi, ltII, bII, bSS, bRR, bRI, biAdd, biSub, biMul, biMod, biDiv, biPow, adS, adL, mlL, iII, iSS, niAdd, niSub, niDiv, fLen, fAbs, fStr, fMin, fRng, rg1, rg2, fItr, fSum, o1, lnS, lnR, vI, vS, vR, lc0, lcS, List.getElem?_cons_zero, List.getElem?_cons_succ, List.set_cons_zero, List.set_cons_succ, List.length_cons, List.length_nil, qSS, qII, qIS, qSI, nS, inO, o2, hkI, hkS, hkR, hkN, sqN, ssN]
    refine join_mk (ts := [cs]) (σ := ⟨_, hp'.set (hp.length + 1) (.list [.str cs])⟩) (List.getElem?_set_self (lt_of_get h2)) ?_ (by decide) ?_
    · exact Nat.le_trans (Nat.add_le_add_right (show cs.length + 0 ≤ 1 from h1) 1) (by decide)
    · exact h3
end Mine
namespace Mine
open PySem PySem.W PySem.Calls PyProof.Rows
noncomputable def Nc (a lo i : Nat) (o : O) : Prop := match o with
  | .meth _ _ => False
  | .citer _ _ _ => False
  | .tab _ _ => False
  | .list _ => i = a
  | .cell _ => lo ≤ i
  | _ => True
structure RdF (a lo : Nat) (G : Stat) (M : MA) (text L F : List Nat) (N : Nat) (RS : Nat → List O → Prop) : Prop where
  rd : Rd G M text L N RS
  lf : ∀ i ∈ L, i ∈ F
  kd : ∀ {pos : Nat} {hp : List O}, RS pos hp → ∀ i ∈ F, ∃ o, hp[i]? = some o ∧ Nc a lo i o
  kp : ∀ {pos : Nat} {hp hp' : List O} {l : List Nat}, RS pos hp → Ext l hp hp' → (∀ i ∈ l, i ∉ F) → RS pos hp'
section
variable {a lo : Nat} {G : Stat} {M : MA} {text L F : List Nat} {N : Nat} {RS : Nat → List O → Prop}
theorem RdF.lt (R : RdF a lo G M text L F N RS) {pos : Nat} {hp : List O} (h : RS pos hp) {i : Nat} (hi : i ∈ F) : i < hp.length := let ⟨_, ho, _⟩ := R.kd h i hi; lt_of_get ho
theorem RdF.mk4 (read : ∀ {n pos : Nat} {hp : List O} {K : V → List O → Prop}, N ≤ n → RS pos hp → (text[pos]? = none → ∀ hp', RS pos hp' → Ext L hp hp' → K (.str []) hp') → (∀ c, text[pos]? = some c → ∀ hp', RS (pos + 1) hp' → Ext L hp hp' → K (.str [c]) hp') → CallT G n (.stat (.ref (G.mf .readChar))) [.ref M.s] hp K)
    (ins : ∀ {pos : Nat} {hp : List O}, RS pos hp → ∃ fs, instAt hp (.ref M.s) = some (M.d, fs) ∧ getA .whitespace fs = some (.str [10, 9, 13, 32]) ∧ getA .pushback fs = some (.ref M.p)) (le : ∀ {pos : Nat} {hp : List O}, RS pos hp → pos ≤ text.length) (sm : text.length ≤ 100000)
    (lf : ∀ i ∈ L, i ∈ F) (kd : ∀ {pos : Nat} {hp : List O}, RS pos hp → ∀ i ∈ F, ∃ o, hp[i]? = some o ∧ Nc a lo i o)
    (kp : ∀ {pos : Nat} {hp hp' : List O} {l : List Nat}, RS pos hp → Ext l hp hp' → (∀ i ∈ l, i ∉ F) → RS pos hp') : RdF a lo G M text L F N RS where
  rd := {
    read := read
    keep := fun {pos hp hp'} h {i f s d} hi e => kp h e fun j hj q => by
      obtain ⟨o, ho, hn⟩ := kd h j q
      rw [List.mem_singleton.mp hj, hi] at ho
      cases ho
      exact hn
    app := fun {pos hp t} h => kp h (.app (l := [])) fun _ q => nomatch q
    nin := fun {pos hp} h {i o} hi ho q => by
      obtain ⟨o', ho', hn⟩ := kd h i (lf i q)
      rw [hi] at ho'
      cases ho'
      rcases ho with ⟨f, s, rfl⟩ | ⟨f, s, d, rfl⟩
      · exact hn
      · exact hn
    ins := ins
    le := le
    sm := sm }
  lf := lf
  kd := kd
  kp := kp
end
noncomputable def tSA (t : Nat) : SA := ⟨t, 0, 0, 0, 0, 0, 0⟩
theorem Mc.ext {T : SA} {M : MA} {hp hp' : List O} {ln : Int} {l : List Nat} (h : Mc T M hp ln) (e : Ext l hp hp') (h1 : M.s ∉ l) (h2 : M.d ∉ l) : Mc T M hp' ln := ⟨e.get h.s h1, e.get h.d h2⟩
section
variable {a lo : Nat} {G : Stat} (lx : Lx G) (lt : Lt2 G) {text : List Nat}
noncomputable def F0 (T : SA) (M : MA) : List Nat := [T.t, T.dt, T.f, T.c, T.ct, T.ca, T.a, M.s, M.d]
include lx in
theorem rdf0 {T : SA} {M : MA} {ln0 : Int} (hsm : text.length ≤ 100000) (h1 : lo ≤ T.ct) (h2 : lo ≤ T.ca) : RdF T.a lo G M text [T.a, M.d] (F0 T M) 2 (RS1 G T M text ln0) := by
  have R := rd1 lx (T := T) (M := M) (ln0 := ln0) hsm
  refine .mk4 R.read R.ins R.le R.sm (fun i hi => ?_) (fun {pos hp} h i hi => ?_) (fun {pos hp hp' l} h e hl => ?_)
  · rcases List.mem_cons.mp hi with rfl | hi
    · exact List.mem_of_getElem? (l := F0 T M) (i := 6) rfl
    · rw [List.mem_singleton.mp hi]; exact List.mem_of_getElem? (l := F0 T M) (i := 8) rfl
  · obtain ⟨fs, h8, h9⟩ := h.1.dt
    simp only [F0, List.mem_cons, List.not_mem_nil, or_false] at hi
    rcases hi with rfl | rfl | rfl | rfl | rfl | rfl | rfl | rfl | rfl
    · exact ⟨_, h.1.t, trivial⟩
    · exact ⟨_, h8, trivial⟩
    · exact ⟨_, h.1.f, trivial⟩
    · exact ⟨_, h.1.c, trivial⟩
    · exact ⟨_, h.1.ct, h1⟩
    · exact ⟨_, h.1.ca, h2⟩
    · exact ⟨_, h.1.a, rfl⟩
    · exact ⟨_, h.2.s, trivial⟩
    · exact ⟨_, h.2.d, trivial⟩
  · have nl : ∀ i ∈ F0 T M, i ∉ l := fun i hi q => hl i q hi
    exact ⟨h.1.keep e (nl _ (List.mem_of_getElem? (i := 0) rfl)) (nl _ (List.mem_of_getElem? (i := 1) rfl)) (nl _ (List.mem_of_getElem? (i := 2) rfl)) (nl _ (List.mem_of_getElem? (i := 3) rfl)) (nl _ (List.mem_of_getElem? (i := 4) rfl)) (nl _ (List.mem_of_getElem? (i := 5) rfl)) (nl _ (List.mem_of_getElem? (i := 6) rfl)), h.2.ext e (nl _ (List.mem_of_getElem? (i := 7) rfl)) (nl _ (List.mem_of_getElem? (i := 8) rfl))⟩
noncomputable def FU (u : UA) (M : MA) : List Nat := [u.t, u.dt, u.f, u.c, u.cl, M.s, M.d]
noncomputable def RSup (G : Stat) (u : UA) (M : MA) (s : Nat) (text : List Nat) (ln0 : Int) (RS : Nat → List O → Prop) (pos : Nat) (hp : List O) : Prop := RS pos hp ∧ Up G u (.ref s) hp ∧ Mc (tSA u.t) M hp (ln0 + nl (text.take pos))
theorem Up.kd {u : UA} {v : V} {hp : List O} (U : Up G u v hp) (hlo : lo ≤ u.cl) {T : SA} {M : MA} {ln : Int} (m : Mc T M hp ln) : ∀ i ∈ FU u M, ∃ o, hp[i]? = some o ∧ Nc a lo i o := by
  intro i hi
  obtain ⟨fs, h8, h9⟩ := U.dt
  simp only [FU, List.mem_cons, List.not_mem_nil, or_false] at hi
  rcases hi with rfl | rfl | rfl | rfl | rfl | rfl | rfl
  · exact ⟨_, U.t, trivial⟩
  · exact ⟨_, h8, trivial⟩
  · exact ⟨_, U.f, trivial⟩
  · exact ⟨_, U.c, trivial⟩
  · exact ⟨_, U.cl, hlo⟩
  · exact ⟨_, m.s, trivial⟩
  · exact ⟨_, m.d, trivial⟩
structure Apt (lo : Nat) (u : UA) (M : MA) (L F : List Nat) : Prop where
  a : ∀ i ∈ FU u M, i ∉ L
  b : M.d ∉ F
  c : M.d ∉ [u.t, u.dt, u.f, u.c, u.cl, M.s]
  lo : lo ≤ u.cl
theorem um_ext {u : UA} {M : MA} {v : V} {ln : Int} {hp hp' : List O} {l : List Nat} (U : Up G u v hp) (m : Mc (tSA u.t) M hp ln) (e : Ext l hp hp') (hl : ∀ i ∈ FU u M, i ∉ l) : Up G u v hp' ∧ Mc (tSA u.t) M hp' ln :=
  ⟨U.ext e fun i hi => hl i (List.mem_append_left [M.s, M.d] hi), m.ext e (hl _ (List.mem_of_getElem? (l := FU u M) (i := 5) rfl)) (hl _ (List.mem_of_getElem? (l := FU u M) (i := 6) rfl))⟩
include lx lt in
theorem rdf_up {M ML : MA} {u : UA} {L F : List Nat} {N : Nat} {RS : Nat → List O → Prop} {ln0 : Int} (R : RdF a lo G ML text L F N RS) (A : Apt lo u M L F) : RdF a lo G M text (M.d :: L) (FU u M ++ F) (N + 2) (RSup G u M ML.s text ln0 RS) := by
  refine .mk4 (fun {n pos hp K} hn h hend hsome => ?_) (fun {pos hp} h => ⟨_, instM h.2.2, rfl, rfl⟩) (fun h => R.rd.le h.1) R.rd.sm (fun i hi => ?_) (fun {pos hp} h i hi => ?_) (fun {pos hp hp' l} h e hl => ?_)
  · obtain ⟨m, rfl⟩ : ∃ m, n = m + 1 + 1 := ⟨n - 2, (Nat.sub_add_cancel (Nat.le_trans (Nat.le_add_left 2 N) hn)).symm⟩
    have hm : N ≤ m := Nat.le_of_add_le_add_right hn
    obtain ⟨h0, U, m0⟩ := h
    obtain ⟨fs, h8, h9⟩ := U.dt
    have e0 : Ext [] hp (hp ++ [O.rng 0 1, O.list []]) := .app
    have r0 : (hp ++ [O.rng 0 1, O.list []])[hp.length + 1]? = some (.list []) := by rw [List.getElem?_append_right (Nat.le_add_right _ 1), Nat.add_sub_cancel_left]; rfl
    have h1 := R.kp h0 e0 (fun _ q => nomatch q)
    have um := um_ext U m0 e0 (fun _ _ q => nomatch q)
    have hj : hp.length + 1 ∉ F := fun q => absurd (R.lt h0 q) (Nat.not_lt.mpr (Nat.le_succ _))
    have hju : ∀ i ∈ FU u M, i ≠ hp.length + 1 := fun i hi => by
      obtain ⟨o, ho, _⟩ := U.kd (a := a) A.lo m0 i hi
      exact Nat.ne_of_lt (Nat.lt_succ_of_lt (lt_of_get ho))
    obtain ⟨gs, i1, _⟩ := R.rd.ins h1
    refine read_gen lx (n := m + 1) (N := 0) m0 (inst_mk U.t h8) h9 ⟨_, _, _, U.f⟩ (give2_ok lt U ⟨_, gs, i1⟩ ?_)
    generalize hp ++ [O.rng 0 1, O.list []] = hp1 at e0 r0 h1 um ⊢
    have go : ∀ (cs : List Nat) (pos' : Nat) (hp2 : List O), cs.length ≤ 1 → RS pos' hp2 → Ext L hp1 hp2 → (cs = [10] → nl (text.take pos') = nl (text.take pos) + 1) → (cs ≠ [10] → nl (text.take pos') = nl (text.take pos)) →
        (∀ hp', RSup G u M ML.s text ln0 RS pos' hp' → Ext (M.d :: L) hp hp' → K (.str cs) hp') →
        ∃ ds : List Nat, V.str cs = .str ds ∧ ds.length ≤ 1 ∧ hp2[hp.length + 1]? = some (.list []) ∧ rdTail (tSA u.t) M (ln0 + nl (text.take pos)) K (.str ds) (hp2.set (hp.length + 1) (.list [.str ds])) := fun cs pos' hp2 hc r2 e2 hy hn hK => by
      refine ⟨cs, rfl, hc, e2.get r0 (fun q => hj (R.lf _ q)), cs, rfl, ?_⟩
      have e3 : Ext [hp.length + 1] hp2 (hp2.set (hp.length + 1) (.list [.str cs])) := .set (.head _)
      have r3 := R.kp r2 e3 (fun i hi => by rw [List.mem_singleton.mp hi]; exact hj)
      have um2 := um_ext um.1 um.2 e2 A.a
      have um3 := um_ext um2.1 um2.2 e3 (fun i hi => by rw [List.mem_singleton]; exact hju i hi)
      have e4 : Ext (M.d :: L) hp (hp2.set (hp.length + 1) (.list [.str cs])) := (((e0.mono (l' := (hp.length + 1) :: L) (fun _ q => nomatch q)).trans (e2.mono fun _ q => .tail _ q)).trans (e3.mono fun i hi => by rw [List.mem_singleton.mp hi]; exact .head _)).drop (Nat.le_succ _) |>.mono fun _ q => .tail _ q
      generalize hp2.set (hp.length + 1) (.list [.str cs]) = hp3 at r3 um3 e4 ⊢
      refine ⟨um3.2, fun q => ?_, fun q => ?_⟩
      · have e5 : Ext [M.d] hp3 (hp3.set M.d (dctOf (tSA u.t) M (ln0 + nl (text.take pos) + 1))) := .set (.head _)
        refine hK _ ⟨R.kp r3 e5 (fun i hi => by rw [List.mem_singleton.mp hi]; exact A.b), um3.1.ext e5 (fun i hi q => ?_), e5.get um3.2.s (fun q => ?_), ?_⟩ (e4.trans (e5.mono fun i hi => by rw [List.mem_singleton.mp hi]; exact .head _))
        · exact A.c (List.mem_singleton.mp q ▸ List.mem_append_left [M.s] hi)
        · exact A.c (List.mem_singleton.mp q ▸ List.mem_of_getElem? (i := 5) rfl)
        · rw [hy q, ← Int.add_assoc]
          exact List.getElem?_set_self (lt_of_get um3.2.d)
      · refine hK _ ⟨r3, um3.1, ?_⟩ e4
        rw [hn q]; exact um3.2
    refine R.rd.read hm h1 (fun hc hp2 r2 e2 => go [] pos hp2 (Nat.zero_le _) r2 e2 (fun q => nomatch q) (fun _ => rfl) fun hp' h' e' => hend hc hp' h' e') (fun c hc hp2 r2 e2 => go [c] (pos + 1) hp2 (Nat.le_refl _) r2 e2 (fun q => ?_) (fun q => ?_) fun hp' h' e' => hsome c hc hp' h' e')
    · rw [nl_take hc, show c = 10 by injection q]; rfl
    · rw [nl_take hc]; unfold nlOf; rw [if_neg (fun z => q (by rw [z])), Int.add_zero]
  · rcases List.mem_cons.mp hi with rfl | hi
    · exact List.mem_append_left _ (List.mem_of_getElem? (l := FU u M) (i := 6) rfl)
    · exact List.mem_append_right _ (R.lf i hi)
  · rcases List.mem_append.mp hi with hi | hi
    · exact h.2.1.kd A.lo h.2.2 i hi
    · exact R.kd h.1 i hi
  · have um := um_ext h.2.1 h.2.2 e (fun i hi q => hl i q (List.mem_append_left _ hi))
    exact ⟨R.kp h.1 e (fun i hi q => hl i hi (List.mem_append_right _ q)), um.1, um.2⟩
end
end Mine
namespace Mine
open PySem PySem.W PySem.Calls PyProof.Rows
noncomputable abbrev UM := UA × MA
noncomputable def RSc (G : Stat) (T : SA) (text : List Nat) (f : Nat → Int) : UM → List UM → Nat → List O → Prop
  | X, [] => RS1 G T X.2 text (f 0)
  | X, Y :: r => RSup G X.1 X.2 Y.2.s text (f (r.length + 1)) (RSc G T text f Y r)
noncomputable def Lc (T : SA) : UM → List UM → List Nat
  | X, [] => [T.a, X.2.d]
  | X, Y :: r => X.2.d :: Lc T Y r
noncomputable def Fc (T : SA) : UM → List UM → List Nat
  | X, [] => F0 T X.2
  | X, Y :: r => FU X.1 X.2 ++ Fc T Y r
noncomputable def Nn : List UM → Nat
  | [] => 2
  | _ :: r => Nn r + 2
noncomputable def Sc (lo : Nat) (T : SA) : UM → List UM → Prop
  | _, [] => lo ≤ T.ct ∧ lo ≤ T.ca
  | X, Y :: r => Apt lo X.1 X.2 (Lc T Y r) (Fc T Y r) ∧ Sc lo T Y r
noncomputable def sh (k : Nat) (d : Int) (f : Nat → Int) (j : Nat) : Int := if j ≤ k then f j else f j - d
section
variable {lo : Nat} {G : Stat} {T : SA} {text : List Nat} {f g : Nat → Int}
theorem rdc (lx : Lx G) (lt : Lt2 G) (hsm : text.length ≤ 100000) : ∀ (r : List UM) (X : UM), Sc lo T X r → RdF T.a lo G X.2 text (Lc T X r) (Fc T X r) (Nn r) (RSc G T text f X r)
  | [], _, h => rdf0 lx hsm h.1 h.2
  | _ :: r, _, h => rdf_up lx lt (rdc lx lt hsm r _ h.2) h.1
theorem RSc.congr : ∀ (r : List UM) (X : UM) {pos : Nat} {hp : List O}, (∀ j, j ≤ r.length → f j = g j) → RSc G T text f X r pos hp → RSc G T text g X r pos hp
  | [], X, _, _, h, q => by
    unfold RSc at q ⊢
    rw [← h 0 (Nat.le_refl _)]; exact q
  | Y :: r, X, _, _, h, q => by
    unfold RSc at q ⊢
    rw [← h (r.length + 1) (Nat.le_refl _)]
    exact ⟨RSc.congr r Y (fun j hj => h j (Nat.le_succ_of_le hj)) q.1, q.2⟩
structure Sub (lo : Nat) (G : Stat) (T : SA) (text : List Nat) (X : UM) (r : List UM) (k : Nat) (Y : UM) (s : List UM) : Prop where
  sc : Sc lo T X r → Sc lo T Y s
  nn : Nn s ≤ Nn r
  dn : ∀ f pos hp, RSc G T text f X r pos hp → RSc G T text f Y s pos hp
  lc : ∀ i ∈ Lc T Y s, i ∈ Lc T X r
  up : ∀ f pos pos' hp hp', Sc lo T X r → RSc G T text f X r pos hp → RSc G T text f Y s pos' hp' → Ext (Lc T Y s) hp hp' → RSc G T text (sh k (nl (text.take pos') - nl (text.take pos)) f) X r pos' hp'
  ln : ∀ f pos hp, RSc G T text f X r pos hp → ∃ t, Mc (tSA t) Y.2 hp (f k + nl (text.take pos))
theorem rev_get {α : Type} {X : α} {r : List α} {k : Nat} {Y : α} (h : (X :: r).reverse[k]? = some Y) : (k = r.length ∧ Y = X) ∨ (k < r.length ∧ r.reverse[k]? = some Y) := by
  rw [List.reverse_cons] at h
  rcases Nat.lt_trichotomy k r.length with q | q | q
  · rw [List.getElem?_append_left (by rw [List.length_reverse]; exact q)] at h; exact .inr ⟨q, h⟩
  · subst q
    rw [List.getElem?_append_right (by rw [List.length_reverse]; exact Nat.le_refl _), List.length_reverse, Nat.sub_self] at h
    exact .inl ⟨rfl, (Option.some.inj h).symm⟩
  · rw [List.getElem?_eq_none (by rw [List.length_append, List.length_reverse]; exact q)] at h; cases h
theorem sub_self (X : UM) (r : List UM) : Sub lo G T text X r r.length X r where
  sc := id
  nn := Nat.le_refl _
  dn := fun _ _ _ => id
  lc := fun _ => id
  up := fun f pos pos' hp hp' _ _ h _ => h.congr r X fun j hj => (if_pos hj).symm
  ln := fun f pos hp h => by
    cases r with
    | nil => exact ⟨T.t, h.2.s, h.2.d⟩
    | cons Y r => exact ⟨X.1.t, h.2.2⟩
theorem sub_of : ∀ (r : List UM) (X : UM) {k : Nat} {Y : UM}, (X :: r).reverse[k]? = some Y → ∃ s, Sub lo G T text X r k Y s
  | [], X, k, Y, h => by
    rcases rev_get h with ⟨rfl, rfl⟩ | ⟨q, _⟩
    · exact ⟨[], sub_self _ _⟩
    · exact absurd q (Nat.not_lt_zero _)
  | Z :: r, X, k, Y, h => by
    rcases rev_get h with ⟨rfl, rfl⟩ | ⟨q, h⟩
    · exact ⟨_, sub_self _ _⟩
    · obtain ⟨s, S⟩ := sub_of r Z h
      refine ⟨s, fun a => S.sc a.2, Nat.le_trans S.nn (Nat.le_add_right _ 2), fun f pos hp a => S.dn f pos hp a.1, fun i hi => .tail _ (S.lc i hi), fun f pos pos' hp hp' a b c e => ?_, fun f pos hp a => S.ln f pos hp a.1⟩
      have um := um_ext b.2.1 b.2.2 e fun i hi q => a.1.a i hi (S.lc i q)
      refine ⟨S.up f pos pos' hp hp' a.2 b.1 c e, um.1, ?_⟩
      unfold sh
      rw [if_neg (show ¬ r.length + 1 ≤ k from Nat.not_le.mpr q), show f (r.length + 1) - (nl (text.take pos') - nl (text.take pos)) + nl (text.take pos') = f (r.length + 1) + nl (text.take pos) by omega]
      exact um.2
structure Q4 (lo : Nat) (G : Stat) (T : SA) (text : List Nat) (f : Nat → Int) (X : UM) (r : List UM) (bk : Nat → List V) (pos : Nat) (hp : List O) : Prop where
  rs : RSc G T text f X r pos hp
  sc : Sc lo T X r
  pb : ∀ (k : Nat) (Y : UM), (X :: r).reverse[k]? = some Y → hp[Y.2.p]? = some (.list (bk k)) ∧ Y.2.p ≠ T.a
  np : ∀ (i j : Nat) (Y Z : UM), (X :: r).reverse[i]? = some Y → (X :: r).reverse[j]? = some Z → i ≠ j → Y.2.p ≠ Z.2.p
  sm : text.length ≤ 100000
variable {X Y : UM} {r : List UM} {bk : Nat → List V} {pos k n : Nat} {hp hp' : List O} (lx : Lx G) (lt : Lt2 G)
noncomputable def upd (bk : Nat → List V) (k : Nat) (xs : List V) (j : Nat) : List V := if j = k then xs else bk j
include lx lt in
theorem Q4.nin (q : Q4 lo G T text f X r bk pos hp) {i : Nat} {o : O} (hi : hp[i]? = some o) (h : ¬ Nc T.a lo i o) : i ∉ Fc T X r := fun hm => by
  obtain ⟨o', ho, hn⟩ := (rdc (f := f) lx lt q.sm r X q.sc).kd q.rs i hm
  rw [hi] at ho; cases ho
  exact h hn
include lx lt in
theorem Q4.keep (q : Q4 lo G T text f X r bk pos hp) {l : List Nat} (e : Ext l hp hp') (h1 : ∀ i ∈ l, i ∉ Fc T X r) (h2 : ∀ i ∈ l, ∀ (k : Nat) (Y : UM), (X :: r).reverse[k]? = some Y → Y.2.p ≠ i) : Q4 lo G T text f X r bk pos hp' :=
  ⟨(rdc lx lt q.sm r X q.sc).kp q.rs e h1, q.sc, fun k Y hY => ⟨e.get (q.pb k Y hY).1 fun m => h2 _ m k Y hY rfl, (q.pb k Y hY).2⟩, q.np, q.sm⟩
include lx lt in
theorem Q4.ext0 (q : Q4 lo G T text f X r bk pos hp) (e : Ext [] hp hp') : Q4 lo G T text f X r bk pos hp' := q.keep lx lt e (fun _ h => nomatch h) fun _ h => nomatch h
include lx lt in
theorem Q4.cell (q : Q4 lo G T text f X r bk pos hp) {i : Nat} {v : Option V} (hi : hp[i]? = some (.cell v)) (hl : i < lo) (o : O) : Q4 lo G T text f X r bk pos (hp.set i o) :=
  q.keep lx lt (.set (.head _)) (fun j hj => by rw [List.mem_singleton.mp hj]; exact q.nin lx lt hi (Nat.not_le.mpr hl)) fun j hj k Y hY => by rw [List.mem_singleton.mp hj]; exact ne_of (q.pb k Y hY).1 hi fun z => nomatch z
include lx lt in
theorem Q4.list (q : Q4 lo G T text f X r bk pos hp) {i : Nat} {xs : List V} (hi : hp[i]? = some (.list xs)) (h1 : i ≠ T.a) (h2 : ∀ (k : Nat) (Y : UM), (X :: r).reverse[k]? = some Y → Y.2.p ≠ i) (o : O) : Q4 lo G T text f X r bk pos (hp.set i o) :=
  q.keep lx lt (.set (.head _)) (fun j hj => by rw [List.mem_singleton.mp hj]; exact q.nin lx lt hi h1) fun j hj k Y hY => by rw [List.mem_singleton.mp hj]; exact h2 k Y hY
theorem RSc.ck : ∀ (r : List UM) (X : UM) {pos : Nat} {hp : List O}, RSc G T text f X r pos hp → ∀ i ∈ Lc T X r, i = T.a ∨ ∃ fs, hp[i]? = some (.dct fs)
  | [], X, _, _, h, i, hi => by
    rcases List.mem_cons.mp hi with rfl | hi
    · exact .inl rfl
    · rw [List.mem_singleton.mp hi]; exact .inr ⟨_, h.2.d⟩
  | Y :: r, X, _, _, h, i, hi => by
    rcases List.mem_cons.mp hi with rfl | hi
    · exact .inr ⟨_, h.2.2.d⟩
    · exact RSc.ck r Y h.1 i hi
theorem Q4.other (q : Q4 lo G T text f X r bk pos hp) (e : Ext (Lc T X r) hp hp') {i : Nat} {o : O} (hi : hp[i]? = some o) (h1 : i ≠ T.a) (h2 : ∀ fs, o ≠ .dct fs) : hp'[i]? = some o := by
  refine e.get hi fun m => ?_
  rcases q.rs.ck r X i m with z | ⟨fs, z⟩
  · exact h1 z
  · rw [hi] at z; cases z; exact h2 _ rfl
theorem Q4.pbs (q : Q4 lo G T text f X r bk pos hp) (e : Ext (Lc T X r) hp hp') : ∀ (k : Nat) (Y : UM), (X :: r).reverse[k]? = some Y → hp'[Y.2.p]? = some (.list (bk k)) ∧ Y.2.p ≠ T.a := fun k Y hY =>
  ⟨q.other e (q.pb k Y hY).1 (q.pb k Y hY).2 (fun _ z => (nomatch z)), (q.pb k Y hY).2⟩
include lx lt in
theorem Q4.read {K : V → List O → Prop} (q : Q4 lo G T text f X r bk pos hp) (hY : (X :: r).reverse[k]? = some Y) (hn : Nn r ≤ n)
    (hK : ∀ hp', Q4 lo G T text (sh k (nl (text.take (pos + ((text.drop pos).take 1).length)) - nl (text.take pos)) f) X r bk (pos + ((text.drop pos).take 1).length) hp' → Ext (Lc T X r) hp hp' → K (.str ((text.drop pos).take 1)) hp') :
    CallT G n (.stat (.ref (G.mf .readChar))) [.ref Y.2.s] hp K := by
  obtain ⟨s, S⟩ := sub_of (lo := lo) (G := G) (T := T) (text := text) r X hY
  have R := rdc (f := f) lx lt q.sm s Y (S.sc q.sc)
  rw [drop_take1] at hK
  have fin : ∀ {pos' : Nat} {hp' : List O}, RSc G T text f Y s pos' hp' → Ext (Lc T Y s) hp hp' → Q4 lo G T text (sh k (nl (text.take pos') - nl (text.take pos)) f) X r bk pos' hp' ∧ Ext (Lc T X r) hp hp' := fun h e =>
    ⟨⟨S.up f pos _ hp _ q.sc q.rs h e, q.sc, q.pbs (e.mono S.lc), q.np, q.sm⟩, e.mono S.lc⟩
  refine R.rd.read (Nat.le_trans S.nn hn) (S.dn f pos hp q.rs) (fun hc hp' h e => ?_) (fun c hc hp' h e => ?_)
  · rw [hc] at hK
    exact hK hp' (fin h e).1 (fin h e).2
  · rw [hc] at hK
    exact hK hp' (fin h e).1 (fin h e).2
include lx lt in
theorem Q4.get0 {K : V → List O → Prop} (q : Q4 lo G T text f X r bk pos hp) (hY : (X :: r).reverse[k]? = some Y) (hb : bk k = []) (hn : Nn r + 2 ≤ n)
    (hK : ∀ hp' pos', text.drop pos' = (lexS (text.drop pos)).2 → pos' ≤ text.length → Q4 lo G T text (sh k (nl (text.take pos') - nl (text.take pos)) f) X r bk pos' hp' → Ext (Lc T X r) hp hp' → K (.str (lexS (text.drop pos)).1) hp') :
    CallT G n (.stat (.ref (G.mf .getToken))) [.ref Y.2.s] hp K := by
  obtain ⟨s, S⟩ := sub_of (lo := lo) (G := G) (T := T) (text := text) r X hY
  have R := rdc (f := f) lx lt q.sm s Y (S.sc q.sc)
  have hp0 := (q.pb k Y hY).1
  rw [hb] at hp0
  refine get_gen lx R.rd (Nat.le_trans (Nat.add_le_add_right S.nn 2) hn) (S.dn f pos hp q.rs) hp0 fun hp' pos' h hd e => ?_
  exact hK hp' pos' hd (R.rd.le h) ⟨S.up f pos pos' hp hp' q.sc q.rs h e, q.sc, q.pbs (e.mono S.lc), q.np, q.sm⟩ (e.mono S.lc)
theorem Q4.ins (q : Q4 lo G T text f X r bk pos hp) (hY : (X :: r).reverse[k]? = some Y) : ∃ t, Mc (tSA t) Y.2 hp (f k + nl (text.take pos)) := by
  obtain ⟨s, S⟩ := sub_of (lo := lo) (G := G) (T := T) (text := text) r X hY
  exact S.ln f pos hp q.rs
include lx lt in
theorem Q4.setp (q : Q4 lo G T text f X r bk pos hp) (hY : (X :: r).reverse[k]? = some Y) (xs : List V) : Q4 lo G T text f X r (upd bk k xs) pos (hp.set Y.2.p (.list xs)) := by
  obtain ⟨h1, h2⟩ := q.pb k Y hY
  refine ⟨(rdc lx lt q.sm r X q.sc).kp q.rs (.set (.head _)) (fun j hj => by rw [List.mem_singleton.mp hj]; exact q.nin lx lt h1 h2), q.sc, fun j Z hZ => ⟨?_, (q.pb j Z hZ).2⟩, q.np, q.sm⟩
  unfold upd
  by_cases hj : j = k
  · subst hj
    rw [hY] at hZ; cases hZ
    rw [if_pos rfl]; exact List.getElem?_set_self (lt_of_get h1)
  · rw [if_neg hj, List.getElem?_set_ne (Ne.symm (q.np j k Z Y hZ hY hj))]; exact (q.pb j Z hZ).1
include lx lt in
theorem Q4.get1 {K : V → List O → Prop} {x : V} {xs : List V} (q : Q4 lo G T text f X r bk pos hp) (hY : (X :: r).reverse[k]? = some Y) (hb : bk k = x :: xs) (hl : xs.length ≤ 1000)
    (hK : Q4 lo G T text f X r (upd bk k xs) pos (hp.set Y.2.p (.list xs)) → K x (hp.set Y.2.p (.list xs))) : CallT G (n + 1) (.stat (.ref (G.mf .getToken))) [.ref Y.2.s] hp K := by
  obtain ⟨t, m⟩ := q.ins hY
  have h1 := (q.pb k Y hY).1
  rw [hb] at h1
  exact get_pb lx (instM m) rfl h1 (Nat.le_trans (Nat.succ_le_succ hl) (by decide)) (hK (q.setp lx lt hY xs))
include lx lt in
theorem Q4.push {K : V → List O → Prop} {v : V} (lp : Lp G) (q : Q4 lo G T text f X r bk pos hp) (hY : (X :: r).reverse[k]? = some Y) (hl : (bk k).length ≤ 1000)
    (hK : Q4 lo G T text f X r (upd bk k (bk k ++ [v])) pos (hp.set Y.2.p (.list (bk k ++ [v]))) → K .none (hp.set Y.2.p (.list (bk k ++ [v])))) : CallT G (n + 1) (.stat (.ref (G.mf .pushToken))) [.ref Y.2.s, v] hp K := by
  obtain ⟨t, m⟩ := q.ins hY
  exact push_ok lp m (q.pb k Y hY).1 (Nat.le_trans hl (by decide)) (hK (q.setp lx lt hY _))
end
end Mine
namespace Mine
open PySem PySem.W PySem.Calls PyProof.Rows
namespace L03
noncomputable def restE (es : List Nat) : List Nat → List Nat × List Nat
  | [] => ([], [])
  | c :: r => if c ∈ es then ([], r) else if c = 92 then (match r with
      | [] => ([], [])
      | e :: r' => (e :: (restE es r').1, (restE es r').2)) else (c :: (restE es r).1, (restE es r).2)
termination_by l => l.length
decreasing_by all_goals (simp_wf; try omega)
section
variable {es : List Nat}
theorem restE_nil : restE es [] = ([], []) := by rw [restE]
theorem restE_end {c : Nat} {r : List Nat} (h : c ∈ es) : restE es (c :: r) = ([], r) := by cases r <;> rw [restE] <;> simp [h]
theorem restE_esc0 (h : 92 ∉ es) : restE es [92] = ([], []) := by rw [restE]; simp [h]
theorem restE_esc {e : Nat} {r : List Nat} (h : 92 ∉ es) : restE es (92 :: e :: r) = (e :: (restE es r).1, (restE es r).2) := by rw [restE]; simp [h]
theorem restE_c {c : Nat} {r : List Nat} (h : c ∉ es) (h2 : c ≠ 92) : restE es (c :: r) = (c :: (restE es r).1, (restE es r).2) := by cases r <;> (conv => lhs; rw [restE]) <;> rw [if_neg h, if_neg h2]
end
theorem lexQ_rest : ∀ (m : Nat) (l tok : List Nat), l.length ≤ m → lexQ tok l = (tok ++ (restE [34] l).1, (restE [34] l).2) := by
  intro m
  induction m with
  | zero => intro l tok h; have : l = [] := List.length_eq_zero_iff.mp (Nat.le_zero.mp h); subst this; rw [lexQ_nil, restE_nil]; simp
  | succ m ih =>
    intro l tok h
    cases l with
    | nil => rw [lexQ_nil, restE_nil]; simp
    | cons c r =>
      have hr : r.length ≤ m := by simpa using h
      by_cases h1 : c = 34
      · subst h1; rw [lexQ_end, restE_end (by simp)]; simp
      · by_cases h2 : c = 92
        · subst h2
          cases r with
          | nil => rw [lexQ_esc0, restE_esc0 (by simp)]; simp
          | cons e r => rw [lexQ_esc, restE_esc (by simp), ih r _ (by simp at hr; omega)]; simp
        · rw [lexQ_c _ _ h1 h2, restE_c (by simpa using h1) h2, ih r _ hr]; simp
noncomputable def wsE : List Nat := [32, 9, 13, 10]
theorem ws_iff (c : Nat) : isWs c = decide (c ∈ wsE) := by
  unfold isWs wsE
  refine decide_eq_decide.mpr ?_
  simp only [List.mem_cons, List.not_mem_nil, or_false]
  constructor
  · rintro (h | h | h | h) <;> simp [h]
  · rintro (h | h | h | h) <;> simp [h]
theorem lexP_rest : ∀ (m : Nat) (l tok : List Nat), l.length ≤ m → lexP tok l = (tok ++ (restE wsE l).1, (restE wsE l).2) := by
  intro m
  induction m with
  | zero => intro l tok h; have : l = [] := List.length_eq_zero_iff.mp (Nat.le_zero.mp h); subst this; rw [lexP_nil, restE_nil]; simp
  | succ m ih =>
    intro l tok h
    cases l with
    | nil => rw [lexP_nil, restE_nil]; simp
    | cons c r =>
      have hr : r.length ≤ m := by simpa using h
      by_cases h1 : c ∈ wsE
      · rw [lexP_end _ _ (by rw [ws_iff]; simpa using h1), restE_end h1]; simp
      · have h1' : isWs c = false := by rw [ws_iff]; simpa using h1
        by_cases h2 : c = 92
        · subst h2
          cases r with
          | nil => rw [lexP_esc0, restE_esc0 h1]; simp
          | cons e r => rw [lexP_esc, restE_esc h1, ih r _ (by simp at hr; omega)]; simp
        · rw [lexP_c _ _ h1' h2, restE_c h1 h2, ih r _ hr]; simp
noncomputable def skipW : List Nat → List Nat
  | [] => []
  | c :: r => if c ∈ wsE then skipW r else c :: r
noncomputable def tokE (l : List Nat) : List Nat × List Nat := if (skipW l).head? = some 34 then restE [34] ((skipW l).drop 1) else restE wsE (skipW l)
theorem lexS_tok : ∀ l : List Nat, lexS l = tokE l := by
  intro l
  induction l with
  | nil => unfold tokE; simp [skipW, lexS, restE_nil]
  | cons c r ih =>
    by_cases h1 : c ∈ wsE
    · rw [lexS_ws (by rw [ws_iff]; simpa using h1), ih]; unfold tokE; simp [skipW, h1]
    · have h1' : isWs c = false := by rw [ws_iff]; simpa using h1
      have e : skipW (c :: r) = c :: r := by simp [skipW, h1]
      unfold tokE
      rw [e]
      by_cases h3 : c = 34
      · subst h3; rw [lexS_q, lexQ_rest _ r [] (Nat.le_refl _)]; simp
      · rw [if_neg (by simpa using h3)]
        by_cases h2 : c = 92
        · subst h2
          cases r with
          | nil => rw [lexS_esc0, restE_esc0 h1]
          | cons e r => rw [lexS_esc, restE_esc h1, lexP_rest _ r _ (Nat.le_refl _)]; simp
        · rw [lexS_c h1' h3 h2, restE_c h1 h2, lexP_rest _ r _ (Nat.le_refl _)]; simp
end L03
end Mine
namespace Mine
open PySem PySem.W PySem.Calls PyProof.Rows
open PySem.Builtin.Str (occurrences subAt strSub partsBetween strKind)
namespace L04
noncomputable def rp (s z : Nat) : List Nat → List Nat
  | [] => []
  | c :: r => if c = 92 ∧ r.head? = some s then z :: rp s z (r.drop 1) else c :: rp s z r
termination_by l => l.length
decreasing_by all_goals (simp_wf; try omega)
theorem rp_nil (s z : Nat) : rp s z [] = [] := by rw [rp]
theorem rp_p (s z : Nat) (r : List Nat) : rp s z (92 :: s :: r) = z :: rp s z r := by rw [rp]; simp
theorem rp_c (s z : Nat) {c : Nat} {r : List Nat} (h : ¬ (c = 92 ∧ r.head? = some s)) : rp s z (c :: r) = c :: rp s z r := by rw [rp, if_neg h]
noncomputable def go (s : Nat) : List Nat → Nat → Bool → List Nat
  | [], _, _ => []
  | _ :: r, i, true => go s r (i + 1) false
  | c :: r, i, false => if c = 92 ∧ r.head? = some s then i :: go s r (i + 1) true else go s r (i + 1) false
theorem bs_at {cs : List Nat} {i s : Nat} : ((cs.drop i).take 2 == [92, s]) = decide (cs[i]? = some 92 ∧ cs[i + 1]? = some s) := by
  rw [← List.getElem?_drop (i := i) (j := 1), show cs[i]? = (cs.drop i)[0]? by rw [List.getElem?_drop]; rfl]
  generalize cs.drop i = l
  match l with
  | [] => rfl
  | [c] => simp
  | c :: d :: r =>
    show ([c, d] == [92, s]) = decide (some c = some 92 ∧ some d = some s)
    by_cases h1 : c = 92
    · by_cases h2 : d = s
      · subst h1; subst h2; rw [decide_eq_true ⟨rfl, rfl⟩]; exact beq_self_eq_true _
      · rw [decide_eq_false (fun h => h2 (Option.some.inj h.2))]; exact beq_eq_false_iff_ne.mpr (fun h => h2 (by injection h with _ h; injection h))
    · rw [decide_eq_false (fun h => h1 (Option.some.inj h.1))]; exact beq_eq_false_iff_ne.mpr (fun h => h1 (by injection h))
theorem ar1 {m n i : Nat} (h : m + 1 = n + 1 - i) (hi : i = n) : m = 0 := by rw [hi, Nat.add_sub_cancel_left] at h; exact Nat.succ.inj h
theorem ar2 {m n i : Nat} (h : m + 1 = n + 1 - i) : m = n + 1 - (i + 1) := by rw [Nat.sub_add_eq, ← h]; rfl
theorem ar3 {f i : Nat} (h : f ≤ i ∨ f = i + 1) : f ≤ i + 1 := h.elim Nat.le_succ_of_le Nat.le_of_eq
theorem ar4 {i a : Nat} (h : a ≤ i) : i + 1 - a = (i - a) + 1 := Nat.succ_sub h
theorem ar5 {n i m : Nat} (h : n - i ≤ m + 1) : n - (i + 1) ≤ m := by rw [Nat.sub_add_eq]; exact Nat.sub_le_of_le_add h
theorem ar6 {n i m : Nat} (h : n - i ≤ m + 1) : n - (i + 2) ≤ m := Nat.le_trans (Nat.sub_le_sub_left (Nat.le_succ _) n) (ar5 h)
theorem occ_go (s : Nat) (cs : List Nat) (limit : Nat) : ∀ (m i : Nat) (st : Array Nat × Nat), m = cs.length + 1 - i → i ≤ cs.length → (st.snd ≤ i ∨ st.snd = i + 1) → st.fst.size ≤ i → cs.length < limit →
    (forIn (List.range' i m) st (StrLaws.occBody ⟨cs.toArray⟩ ⟨#[92, s]⟩ cs.length limit)).run.fst.toList = st.fst.toList ++ go s (cs.drop i) i (decide (i < st.snd)) := by
  intro m
  induction m with
  | zero => intro i st hm hi hs hz hl; exact absurd hm (Nat.ne_of_lt (Nat.sub_pos_of_lt (Nat.lt_succ_of_le hi)))
  | succ m ih =>
    intro i st hm hi hs hz hl
    rw [List.range'_succ, List.forIn_cons]
    unfold StrLaws.occBody
    have hsub : subAt ⟨cs.toArray⟩ ⟨#[92, s]⟩ i = decide (cs[i]? = some 92 ∧ cs[i + 1]? = some s) := by
      rw [StrLaws.subAt_eq]; exact bs_at
    rw [hsub]
    by_cases hend : i = cs.length
    · have hm0 : m = 0 := ar1 hm hend
      subst hm0
      rw [if_neg (by rintro ⟨⟨⟨_, _⟩, h⟩, _⟩; exact Nat.lt_irrefl _ (Nat.lt_of_lt_of_le (Nat.lt_add_of_pos_right (k := 2) (by decide)) (hend ▸ (show i + 2 ≤ cs.length from h)))) ]
      rw [hend, List.drop_length]
      simp [go]
    · have hi' : i < cs.length := Nat.lt_of_le_of_ne hi hend
      have hd : cs.drop i = cs[i] :: cs.drop (i + 1) := List.drop_eq_getElem_cons hi'
      have hh : (cs.drop (i + 1)).head? = cs[i + 1]? := by rw [List.head?_drop]
      by_cases hc : ((st.fst.size < limit ∧ st.snd ≤ i) ∧ i + Str.length ⟨#[92, s]⟩ ≤ cs.length) ∧ decide (cs[i]? = some 92 ∧ cs[i + 1]? = some s) = true
      · rw [if_pos hc]
        obtain ⟨⟨⟨c1, c2⟩, c3⟩, c4⟩ := hc
        have c4 := of_decide_eq_true c4
        have := ih (i + 1) (st.fst.push i, i + Str.length ⟨#[92, s]⟩) (ar2 hm) hi' (.inr rfl) (by show (st.fst.push i).size ≤ i + 1; rw [Array.size_push]; exact Nat.succ_le_succ hz) hl
        refine Eq.trans this ?_
        rw [hd]
        have e1 : decide (i < st.snd) = false := decide_eq_false (Nat.not_lt.mpr c2)
        have e2 : decide (i + 1 < i + Str.length ⟨#[92, s]⟩) = true := decide_eq_true (Nat.lt_succ_self (i + 1))
        have e3 : cs[i] = 92 := by have := c4.1; rw [List.getElem?_eq_getElem hi'] at this; exact Option.some.inj this
        rw [e1]
        show (st.fst.push i).toList ++ go s (cs.drop (i + 1)) (i + 1) (decide (i + 1 < i + Str.length ⟨#[92, s]⟩)) = _
        rw [e2, go, if_pos ⟨e3, by rw [hh]; exact c4.2⟩]
        simp
      · rw [if_neg hc]
        have := ih (i + 1) (st.fst, st.snd) (ar2 hm) hi' (.inl (ar3 hs)) (Nat.le_succ_of_le hz) hl
        refine Eq.trans this ?_
        rw [hd]
        have e2 : decide (i + 1 < st.snd) = false := decide_eq_false (Nat.not_lt.mpr (ar3 hs))
        show st.fst.toList ++ go s (cs.drop (i + 1)) (i + 1) (decide (i + 1 < st.snd)) = _
        rw [e2]
        congr 1
        by_cases hb : i < st.snd
        · rw [decide_eq_true hb, go]
        · rw [decide_eq_false hb, go, if_neg]
          rintro ⟨h1, h2⟩
          rw [hh] at h2
          have := (List.getElem?_eq_some_iff.mp h2).1
          exact hc ⟨⟨⟨Nat.lt_of_le_of_lt hz (Nat.lt_trans hi' hl), Nat.not_lt.mp hb⟩, this⟩, decide_eq_true ⟨by rw [List.getElem?_eq_getElem hi', h1], h2⟩⟩
noncomputable def jn (z : Nat) (l : List Str) : List Nat := (Str.join ⟨#[z]⟩ l).cps.toList
theorem jn_cons (z : Nat) (p q : Str) (r : List Str) : jn z (p :: q :: r) = p.cps.toList ++ z :: jn z (q :: r) := by
  show ((p ++ ⟨#[z]⟩ ++ Str.join ⟨#[z]⟩ (q :: r)) : Str).cps.toList = _
  simp only [Str.cps_append, Array.toList_append]
  rw [List.append_assoc]; rfl
theorem parts_go (s z : Nat) (cs : List Nat) : ∀ (m i a : Nat), cs.length - i ≤ m → a ≤ i → i ≤ cs.length →
    jn z (StrLaws.partsFrom ⟨cs.toArray⟩ 2 a (go s (cs.drop i) i false)) = (cs.drop a).take (i - a) ++ rp s z (cs.drop i) := by
  intro m
  have last : ∀ a, a ≤ cs.length → jn z (StrLaws.partsFrom ⟨cs.toArray⟩ 2 a (go s (cs.drop cs.length) cs.length false)) = (cs.drop a).take (cs.length - a) ++ rp s z (cs.drop cs.length) := fun a ha => by
    rw [List.drop_length, rp_nil, List.append_nil]
    show (strSub ⟨cs.toArray⟩ a (Str.length ⟨cs.toArray⟩)).cps.toList = _
    rw [StrLaws.strSub_toList]; rfl
  induction m with
  | zero =>
    intro i a hm ha hi
    have : i = cs.length := Nat.le_antisymm hi (Nat.le_of_sub_eq_zero (Nat.le_zero.mp hm))
    subst this
    exact last a ha
  | succ m ih =>
    intro i a hm ha hi
    by_cases hend : i = cs.length
    · subst hend; exact last a ha
    · have hi' : i < cs.length := Nat.lt_of_le_of_ne hi hend
      have hd : cs.drop i = cs[i] :: cs.drop (i + 1) := List.drop_eq_getElem_cons hi'
      by_cases hc : cs[i] = 92 ∧ (cs.drop (i + 1)).head? = some s
      · rw [hd, rp, if_pos hc, go, if_pos hc]
        rw [List.head?_drop] at hc
        have hi2 := (List.getElem?_eq_some_iff.mp hc.2).1
        have hd2 : cs.drop (i + 1) = cs[i + 1] :: cs.drop (i + 2) := List.drop_eq_getElem_cons hi2
        rw [List.drop_drop, show go s (cs.drop (i + 1)) (i + 1) true = go s (cs.drop (i + 2)) (i + 2) false by rw [hd2, go]]
        obtain ⟨p, q, e⟩ := StrLaws.partsFrom_ne ⟨cs.toArray⟩ 2 (i + 2) (go s (cs.drop (i + 2)) (i + 2) false)
        have := ih (i + 2) (i + 2) (ar6 hm) (Nat.le_refl _) hi2
        rw [e, Nat.sub_self, List.take_zero, List.nil_append] at this
        show jn z (strSub ⟨cs.toArray⟩ a i :: StrLaws.partsFrom ⟨cs.toArray⟩ 2 (i + 2) _) = _
        rw [e, jn_cons, this, StrLaws.strSub_toList]
      · rw [hd, rp_c s z hc, go, if_neg hc, ih (i + 1) a (ar5 hm) (Nat.le_succ_of_le ha) hi']
        rw [ar4 ha, List.take_add_one, List.getElem?_drop, Nat.add_sub_of_le ha, List.getElem?_eq_getElem hi', List.append_assoc]; rfl
theorem rpl_pair (s z : Nat) (cs : List Nat) : rpl [92, s] [z] cs = rp s z cs := by
  have key : jn z (partsBetween ⟨cs.toArray⟩ (occurrences ⟨cs.toArray⟩ ⟨#[92, s]⟩ 0 (Str.length ⟨cs.toArray⟩) (Str.length ⟨cs.toArray⟩ + 1)) 2) = rp s z cs := by
    rw [StrLaws.partsBetween_eq, StrLaws.occ_eq]
    have := occ_go s cs (cs.length + 1) (cs.length + 1) 0 (#[], 0) rfl (Nat.zero_le _) (.inl (Nat.le_refl _)) (Nat.le_refl _) (Nat.lt_succ_self _)
    have e : (Str.length ⟨cs.toArray⟩) = cs.length := rfl
    rw [e, Nat.sub_zero, this]
    show jn z (StrLaws.partsFrom ⟨cs.toArray⟩ 2 0 (go s (cs.drop 0) 0 false)) = _
    rw [parts_go s z cs cs.length 0 0 (Nat.sub_le _ _) (Nat.le_refl _) (Nat.zero_le _)]
    rfl
  show (Txt.replace ⟨cs.toArray⟩ ⟨#[92, s]⟩ ⟨#[z]⟩).cps.toList = _
  unfold Txt.replace
  by_cases h2 : (occurrences ⟨cs.toArray⟩ ⟨#[92, s]⟩ 0 (Str.length ⟨cs.toArray⟩) (Str.length ⟨cs.toArray⟩ + 1)).isEmpty = true
  · rw [if_pos (by rw [h2]; rfl)]
    rw [List.isEmpty_iff.mp h2, StrLaws.partsBetween_eq] at key
    rw [← key]
    show _ = (strSub ⟨cs.toArray⟩ 0 (Str.length ⟨cs.toArray⟩)).cps.toList
    rw [StrLaws.sub_whole]
  · rw [if_neg (by rw [Bool.eq_false_iff.mpr h2]; exact Bool.false_ne_true), StrLaws.glued_eq_join]
    exact key
theorem rpl_one (c : Nat) (b cs : List Nat) : rpl [c] b cs = rep c b cs := by
  unfold rpl
  rw [show ([c].toArray : Array Nat) = #[c] from rfl, replace_rep]
end L04
end Mine
namespace Mine
open PySem PySem.W PySem.Calls PyProof.Rows
namespace L04
noncomputable def hd (S : Nat → Option Nat) : List Nat → List Nat
  | [] => []
  | c :: r => if c = 92 then (match r with
      | [] => [92]
      | e :: r' => match S e with
        | some z => z :: hd S r'
        | none => 92 :: e :: hd S r') else c :: hd S r
termination_by l => l.length
decreasing_by all_goals (simp_wf; try omega)
section
variable {S S' : Nat → Option Nat}
theorem hd_nil : hd S [] = [] := by rw [hd]
theorem hd_0 : hd S [92] = [92] := by rw [hd, if_pos rfl]
theorem hd_s {e z : Nat} {r : List Nat} (h : S e = some z) : hd S (92 :: e :: r) = z :: hd S r := by rw [hd, if_pos rfl]; simp only [h]
theorem hd_n {e : Nat} {r : List Nat} (h : S e = none) : hd S (92 :: e :: r) = 92 :: e :: hd S r := by rw [hd, if_pos rfl]; simp only [h]
theorem hd_c {c : Nat} {r : List Nat} (h : c ≠ 92) : hd S (c :: r) = c :: hd S r := by cases r <;> (conv => lhs; rw [hd]) <;> rw [if_neg h]
theorem four {P : List Nat → Prop} (h0 : P []) (h1 : P [92]) (h2 : ∀ e r, P r → P (92 :: e :: r)) (h3 : ∀ c r, c ≠ 92 → P r → P (c :: r)) : ∀ (m : Nat) (l : List Nat), l.length ≤ m → P l
  | 0, [], _ => h0
  | 0, _ :: _, h => absurd h (Nat.not_succ_le_zero _)
  | _ + 1, [], _ => h0
  | m + 1, c :: r, h => by
    by_cases hc : c = 92
    · subst hc
      match r, h with
      | [], _ => exact h1
      | e :: r, h => exact h2 e r (four h0 h1 h2 h3 m r (Nat.le_of_succ_le (Nat.le_of_succ_le_succ h)))
    · exact h3 c r hc (four h0 h1 h2 h3 m r (Nat.le_of_succ_le_succ h))
theorem rp_hd {s z : Nat} (hs : S s = none) (hz : ∀ e y, S e = some y → y ≠ 92) (hn : ∀ e, S e = none → e ≠ s → e ≠ 92) (hs' : ∀ e, S' e = if e = s then some z else S e) (l : List Nat) : rp s z (hd S l) = hd S' l := by
  refine four (P := fun l => rp s z (hd S l) = hd S' l) (by rw [hd_nil, hd_nil, rp_nil]) (by rw [hd_0, hd_0, rp_c s z (by simp), rp_nil]) (fun e r ih => ?_) (fun c r hc ih => ?_) l.length l (Nat.le_refl _)
  · cases he : S e with
    | some y =>
      have hne : e ≠ s := fun q => by rw [q, hs] at he; cases he
      rw [hd_s he, rp_c s z (fun h => hz e y he h.1), ih, hd_s ((hs' e).trans ((if_neg hne).trans he))]
    | none =>
      rw [hd_n he]
      by_cases q : e = s
      · subst q
        rw [rp_p, ih, hd_s ((hs' e).trans (if_pos rfl))]
      · rw [rp_c s z (c := 92) (r := e :: hd S r) (fun h => q (Option.some.inj h.2)), rp_c s z (fun h => hn e he q h.1), ih, hd_n ((hs' e).trans ((if_neg q).trans he))]
  · rw [hd_c hc, rp_c s z (fun h => hc h.1), ih, hd_c hc]
end
noncomputable def sg : List Nat := [92, 110, 34, 32, 10, 9, 13, 39, 12, 160]
noncomputable def SK (k e : Nat) : Option Nat := if sg.idxOf e < k then some (57344 + sg.idxOf e) else none
theorem hd_SK0 (l : List Nat) : hd (SK 0) l = l := by
  have h0 : ∀ e, SK 0 e = none := fun e => if_neg (Nat.not_lt_zero _)
  exact four (P := fun l => hd (SK 0) l = l) hd_nil hd_0 (fun e r ih => by rw [hd_n (h0 e), ih]) (fun c r hc ih => by rw [hd_c hc, ih]) l.length l (Nat.le_refl _)
theorem sg_idx : ∀ k : Nat, k < 10 → sg.idxOf (sg.getD k 0) = k := by decide
theorem idx_sg {e k : Nat} (h : sg.idxOf e = k) (hk : k < 10) : e = sg.getD k 0 := by
  subst h
  rw [List.getD_eq_getElem?_getD, List.getElem?_eq_getElem (show sg.idxOf e < sg.length from hk), List.getElem_idxOf]; rfl
theorem hide_step {k : Nat} (hk : k < 10) (l : List Nat) : rpl [92, sg.getD k 0] [57344 + k] (hd (SK k) l) = hd (SK (k + 1)) l := by
  rw [rpl_pair]
  refine rp_hd (if_neg (by rw [sg_idx k hk]; exact Nat.lt_irrefl _)) (fun e y h => ?_) (fun e h q => ?_) (fun e => ?_) l
  · unfold SK at h
    split at h
    · cases h; omega
    · cases h
  · unfold SK at h
    split at h
    · cases h
    · rename_i hlt
      rintro rfl
      have h0 : sg.idxOf 92 = 0 := rfl
      rw [h0] at hlt
      have : k = 0 := Nat.le_zero.mp (Nat.not_lt.mp hlt)
      subst this
      exact q rfl
  · unfold SK
    by_cases q : e = sg.getD k 0
    · rw [if_pos q, q, sg_idx k hk, if_pos (Nat.lt_succ_self k)]
    · rw [if_neg q]
      have hne : sg.idxOf e ≠ k := fun z => q (idx_sg z hk)
      by_cases h : sg.idxOf e < k
      · rw [if_pos h, if_pos (Nat.lt_succ_of_lt h)]
      · rw [if_neg h, if_neg (fun z => hne (Nat.le_antisymm (Nat.le_of_lt_succ z) (Nat.not_lt.mp h)))]
noncomputable def H (l : List Nat) : List Nat := hd (SK 10) l
noncomputable def In (l : List Nat) : Prop := ∀ c ∈ l, c ∈ sg
theorem SK_in {e : Nat} (h : e ∈ sg) : SK 10 e = some (57344 + sg.idxOf e) := if_pos (show sg.idxOf e < sg.length from List.idxOf_lt_length_iff.mpr h)
noncomputable def un (k c : Nat) : Nat := if 57344 ≤ c ∧ c < 57344 + k then sg.getD (c - 57344) 0 else c
noncomputable def zs (k : Nat) (l : List Nat) : Nat := l.countP fun c => decide (57344 ≤ c ∧ c < 57344 + k)
theorem sg_lt : ∀ c ∈ sg, c < 57344 := by decide
theorem un_sg {c : Nat} (h : c ∈ sg) (k : Nat) : un k c = c := if_neg fun z => absurd (sg_lt c h) (Nat.not_lt.mpr z.1)
theorem un_z {e : Nat} (h : e ∈ sg) : un 10 (57344 + sg.idxOf e) = e := by
  have hl : sg.idxOf e < 10 := List.idxOf_lt_length_iff.mpr h
  unfold un
  rw [if_pos ⟨Nat.le_add_right _ _, Nat.add_lt_add_left hl _⟩, Nat.add_sub_cancel_left]
  exact (idx_sg rfl hl).symm
theorem zs_sg {c : Nat} {l : List Nat} (h : c ∈ sg) : zs 10 (c :: l) = zs 10 l := List.countP_cons_of_neg (by simpa using fun z => absurd (sg_lt c h) (Nat.not_lt.mpr z))
theorem zs_z {e : Nat} {l : List Nat} (h : e ∈ sg) : zs 10 ((57344 + sg.idxOf e) :: l) = zs 10 l + 1 := List.countP_cons_of_pos (decide_eq_true ⟨Nat.le_add_right _ _, Nat.add_lt_add_left (show sg.idxOf e < sg.length from List.idxOf_lt_length_iff.mpr h) _⟩)
theorem In.tail {c : Nat} {r : List Nat} (h : In (c :: r)) : In r := fun d hd => h d (.tail _ hd)
theorem H_s {e : Nat} {r : List Nat} (h : e ∈ sg) : H (92 :: e :: r) = (57344 + sg.idxOf e) :: H r := hd_s (SK_in h)
theorem H_c {c : Nat} {r : List Nat} (h : c ≠ 92) : H (c :: r) = c :: H r := hd_c h
theorem H_0 : H [92] = [92] := hd_0
theorem H_nil : H [] = [] := hd_nil
theorem rep_d {c : Nat} {b : List Nat} {x : Nat} {l : List Nat} (h : x ≠ c) : rep c b (x :: l) = x :: rep c b l := by unfold rep; rw [List.flatMap_cons, if_neg h]; rfl
theorem rep_e {c : Nat} {l : List Nat} : rep c [] (c :: l) = rep c [] l := by unfold rep; rw [List.flatMap_cons, if_pos rfl]; rfl
noncomputable def fi (es : List Nat) (l : List Nat) : Nat := l.findIdx fun c => decide (c ∈ es)
theorem fi_p {es : List Nat} {c : Nat} {l : List Nat} (h : c ∈ es) : fi es (c :: l) = 0 := by unfold fi; rw [List.findIdx_cons, decide_eq_true h]; rfl
theorem fi_n {es : List Nat} {c : Nat} {l : List Nat} (h : c ∉ es) : fi es (c :: l) = fi es l + 1 := by unfold fi; rw [List.findIdx_cons, decide_eq_false h]; rfl
theorem rest_H {es : List Nat} (h9 : 92 ∉ es) (hes : ∀ c ∈ es, c < 57344) (l : List Nat) (hl : In l) : (L03.restE es l).1 = (rep 92 [] ((H l).take (fi es (H l)))).map (un 10) ∧
    (L03.restE es l).2.length + (((H l).take (fi es (H l) + 1)).length + zs 10 ((H l).take (fi es (H l)))) = l.length := by
  have big : ∀ k, 57344 + k ∉ es := fun k q => absurd (hes _ q) (Nat.not_lt.mpr (Nat.le_add_right _ _))
  have b92 : ∀ k, 57344 + k ≠ 92 := fun k => Nat.ne_of_gt (Nat.lt_of_lt_of_le (by decide) (Nat.le_add_right 57344 k))
  refine four (P := fun l => In l → (L03.restE es l).1 = (rep 92 [] ((H l).take (fi es (H l)))).map (un 10) ∧ (L03.restE es l).2.length + (((H l).take (fi es (H l) + 1)).length + zs 10 ((H l).take (fi es (H l)))) = l.length) (fun _ => ?_) (fun _ => ?_) (fun e r ih hl => ?_) (fun c r hc ih hl => ?_) l.length l (Nat.le_refl _) hl
  · rw [L03.restE_nil, H_nil]; exact ⟨rfl, rfl⟩
  · rw [L03.restE_esc0 h9, H_0, fi_n h9]; exact ⟨rfl, rfl⟩
  · have he := hl e (.tail _ (.head _))
    obtain ⟨i1, i2⟩ := ih hl.tail.tail
    rw [L03.restE_esc h9, H_s he, fi_n (big _), List.take_succ_cons, List.take_succ_cons, rep_d (b92 _), List.map_cons, un_z he, zs_z he, ← i1]
    refine ⟨rfl, ?_⟩
    show (L03.restE es r).2.length + _ = r.length + 1 + 1
    rw [← i2, List.length_cons]; omega
  · have hcs := hl c (.head _)
    rw [H_c hc]
    by_cases h1 : c ∈ es
    · rw [L03.restE_end h1, fi_p h1]; exact ⟨rfl, rfl⟩
    · obtain ⟨i1, i2⟩ := ih hl.tail
      rw [L03.restE_c h1 hc, fi_n h1, List.take_succ_cons, List.take_succ_cons, rep_d hc, List.map_cons, un_sg hcs, zs_sg hcs, ← i1]
      refine ⟨rfl, ?_⟩
      show (L03.restE es r).2.length + _ = r.length + 1
      rw [← i2, List.length_cons]; omega
noncomputable def fw (l : List Nat) : Nat := l.findIdx fun c => !decide (c ∈ L03.wsE)
theorem fw_p {c : Nat} {l : List Nat} (h : c ∈ L03.wsE) : fw (c :: l) = fw l + 1 := by unfold fw; rw [List.findIdx_cons, decide_eq_true h]; rfl
theorem fw_n {c : Nat} {l : List Nat} (h : c ∉ L03.wsE) : fw (c :: l) = 0 := by unfold fw; rw [List.findIdx_cons, decide_eq_false h]; rfl
theorem ws_sg : ∀ c ∈ L03.wsE, c ∈ sg ∧ c ≠ 92 := by decide
theorem H_head {l : List Nat} (hl : In l) : (H l).take 1 = [34] ↔ l.head? = some 34 := by
  refine four (P := fun l => In l → ((H l).take 1 = [34] ↔ l.head? = some 34)) (fun _ => by rw [H_nil]; simp) (fun _ => by rw [H_0]; simp) (fun e r _ hl => ?_) (fun c r hc _ _ => by rw [H_c hc]; simp) l.length l (Nat.le_refl _) hl
  rw [H_s (hl e (.tail _ (.head _)))]
  refine ⟨fun q => ?_, fun q => nomatch (Option.some.inj q)⟩
  injection q with q
  exact absurd q (Nat.ne_of_gt (Nat.lt_of_lt_of_le (by decide) (Nat.le_add_right 57344 _)))
theorem skip_H (l : List Nat) (hl : In l) : L03.skipW l = l.drop (fw (H l)) ∧ (H l).drop (fw (H l)) = H (l.drop (fw (H l))) ∧ zs 10 ((H l).take (fw (H l))) = 0 ∧ fw (H l) ≤ (H l).length ∧ fw (H l) ≤ l.length := by
  have z0 : ∀ k, 57344 + k ∉ L03.wsE := fun k q => absurd (sg_lt _ (ws_sg _ q).1) (Nat.not_lt.mpr (Nat.le_add_right _ _))
  refine four (P := fun l => In l → L03.skipW l = l.drop (fw (H l)) ∧ (H l).drop (fw (H l)) = H (l.drop (fw (H l))) ∧ zs 10 ((H l).take (fw (H l))) = 0 ∧ fw (H l) ≤ (H l).length ∧ fw (H l) ≤ l.length) (fun _ => ?_) (fun _ => ?_) (fun e r _ hl => ?_) (fun c r hc ih hl => ?_) l.length l (Nat.le_refl _) hl
  · rw [H_nil]; exact ⟨rfl, H_nil.symm, rfl, Nat.le_refl _, Nat.le_refl _⟩
  · rw [H_0]; exact ⟨rfl, H_0.symm, rfl, Nat.zero_le _, Nat.zero_le _⟩
  · have he := H_s (r := r) (hl e (.tail _ (.head _)))
    rw [he, fw_n (z0 _)]
    exact ⟨rfl, he.symm, rfl, Nat.zero_le _, Nat.zero_le _⟩
  · rw [H_c hc]
    by_cases h1 : c ∈ L03.wsE
    · obtain ⟨i1, i2, i3, i4, i5⟩ := ih hl.tail
      rw [fw_p h1, L03.skipW, if_pos h1, List.take_succ_cons, zs_sg (ws_sg c h1).1]
      exact ⟨i1, i2, i3, Nat.succ_le_succ i4, Nat.succ_le_succ i5⟩
    · rw [fw_n h1, L03.skipW, if_neg h1]
      exact ⟨rfl, (H_c hc).symm, rfl, Nat.zero_le _, Nat.zero_le _⟩
end L04
end Mine
namespace Mine
open PySem PySem.W PySem.Calls PyProof.Rows
namespace L04
theorem zs_app (k : Nat) (a b : List Nat) : zs k (a ++ b) = zs k a + zs k b := List.countP_append
theorem In.drop {l : List Nat} (h : In l) (n : Nat) : In (l.drop n) := fun c hc => h c (List.mem_of_mem_drop hc)
theorem tok_from {es l : List Nat} (h9 : 92 ∉ es) (hes : ∀ c ∈ es, c < 57344) (hl : In l) {b : Nat} (h1 : (H l).drop b = H (l.drop b)) (h2 : zs 10 ((H l).take b) = 0) (h3 : b ≤ (H l).length) (h4 : b ≤ l.length) :
    (L03.restE es (l.drop b)).1 = (rep 92 [] (((H l).drop b).take (fi es ((H l).drop b)))).map (un 10) ∧
    (L03.restE es (l.drop b)).2.length + (((H l).take (b + fi es ((H l).drop b) + 1)).length + zs 10 ((H l).take (b + fi es ((H l).drop b)))) = l.length := by
  obtain ⟨i1, i2⟩ := rest_H h9 hes (l.drop b) (hl.drop b)
  rw [← h1] at i1 i2
  refine ⟨i1, ?_⟩
  rw [Nat.add_assoc b, List.take_add (i := b) (j := fi es ((H l).drop b) + 1), List.take_add (i := b) (j := fi es ((H l).drop b)), zs_app, h2, List.length_append, List.length_take, Nat.min_eq_left h3]
  rw [Nat.zero_add, Nat.add_assoc, Nat.add_left_comm, i2, List.length_drop, Nat.add_sub_of_le h4]
theorem take1_cons {l : List Nat} (h : l.take 1 = [34]) : ∃ r, l = 34 :: r := by
  cases l with
  | nil => cases h
  | cons c r => injection h with h; subst h; exact ⟨r, rfl⟩
theorem lt_of_drop {l r : List Nat} {n c : Nat} (h : l.drop n = c :: r) : n + 1 ≤ l.length := Nat.lt_of_not_le fun z => by rw [List.drop_eq_nil_of_le z] at h; cases h
theorem hd_34 {l : List Nat} (h : l.head? = some 34) : ∃ r, l = 34 :: r := by
  cases l with
  | nil => cases h
  | cons c r => cases h; exact ⟨r, rfl⟩
noncomputable def bg (l : List Nat) : Nat := if ((H l).drop (fw (H l))).take 1 = [34] then fw (H l) + 1 else fw (H l)
noncomputable def en (l : List Nat) : List Nat := if ((H l).drop (fw (H l))).take 1 = [34] then [34] else L03.wsE
noncomputable def ed (l : List Nat) : Nat := bg l + fi (en l) ((H l).drop (bg l))
theorem tok4 {l : List Nat} (hl : In l) : (lexS l).1 = (rep 92 [] (((H l).drop (bg l)).take (ed l - bg l))).map (un 10) ∧ (lexS l).2.length + (((H l).take (ed l + 1)).length + zs 10 ((H l).take (ed l))) = l.length ∧ bg l ≤ (H l).length := by
  obtain ⟨s1, s2, s3, s4, s5⟩ := skip_H l hl
  rw [L03.lexS_tok]
  unfold L03.tokE ed
  rw [s1, Nat.add_sub_cancel_left]
  have hh := H_head (hl.drop (fw (H l)))
  rw [← s2] at hh
  by_cases q : ((H l).drop (fw (H l))).take 1 = [34]
  · rw [if_pos (hh.mp q)]
    unfold bg en
    rw [if_pos q, if_pos q, List.drop_drop]
    obtain ⟨r, hr⟩ := take1_cons q
    obtain ⟨r2, hr2⟩ := hd_34 (hh.mp q)
    have b1 := lt_of_drop hr
    have b2 := lt_of_drop hr2
    have h1 : (H l).drop (fw (H l) + 1) = H (l.drop (fw (H l) + 1)) := by
      rw [← List.drop_drop, ← List.drop_drop, s2, hr2, H_c (by decide)]; rfl
    have h2 : zs 10 ((H l).take (fw (H l) + 1)) = 0 := by
      rw [List.take_add, zs_app, s3, hr]; rfl
    obtain ⟨t1, t2⟩ := tok_from (es := [34]) (by decide) (by decide) hl h1 h2 b1 b2
    exact ⟨t1, t2, b1⟩
  · rw [if_neg (fun z => q (hh.mpr z))]
    unfold bg en
    rw [if_neg q, if_neg q]
    obtain ⟨t1, t2⟩ := tok_from (es := L03.wsE) (by decide) (by decide) hl s2 s3 s4 s5
    exact ⟨t1, t2, s4⟩
noncomputable def pick (p : Nat → Bool) (X : List Nat) (lo : Nat) : List Int := ((List.range' lo (X.length - lo)).filter fun i => p (X.getD i 0)).map Int.ofNat ++ [(X.length : Int)]
theorem pick_pos (p : Nat → Bool) (X : List Nat) (lo : Nat) : 0 < (pick p X lo).length := by unfold pick; rw [List.length_append]; exact Nat.lt_of_lt_of_le Nat.zero_lt_one (Nat.le_add_left _ _)
theorem pick_i {p : Nat → Bool} {X : List Nat} {lo i : Nat} (a : lo ≤ i) (b : i < X.length) (c : p (X.getD i 0) = true) : (i : Int) ∈ pick p X lo :=
  List.mem_append_left _ (List.mem_map.mpr ⟨i, List.mem_filter.mpr ⟨List.mem_range'_1.mpr ⟨a, by rw [Nat.add_sub_of_le (Nat.le_trans a (Nat.le_of_lt b))]; exact b⟩, c⟩, rfl⟩)
theorem pick_n {p : Nat → Bool} {X : List Nat} {lo : Nat} : (X.length : Int) ∈ pick p X lo := List.mem_append_right _ (.head _)
theorem mem_pick {p : Nat → Bool} {X : List Nat} {lo : Nat} {M : Int} (h : M ∈ pick p X lo) : (∃ i, lo ≤ i ∧ p (X.getD i 0) = true ∧ M = (i : Nat)) ∨ M = (X.length : Nat) := by
  rcases List.mem_append.mp h with h | h
  · obtain ⟨i, hi, rfl⟩ := List.mem_map.mp h
    obtain ⟨h1, h2⟩ := List.mem_filter.mp hi
    exact .inl ⟨i, (List.mem_range'_1.mp h1).1, h2, rfl⟩
  · exact .inr (List.mem_singleton.mp h)
theorem getD_at {X : List Nat} {i : Nat} (h : i < X.length) : X.getD i 0 = X[i] := by rw [List.getD_eq_getElem?_getD, List.getElem?_eq_getElem h]; rfl
theorem getD_drop {X : List Nat} {lo i : Nat} (h : i < (X.drop lo).length) : (X.drop lo)[i] = X.getD (lo + i) 0 := by
  rw [List.getElem_drop, List.getD_eq_getElem?_getD, List.getElem?_eq_getElem]; rfl
theorem pick_min {p : Nat → Bool} {X : List Nat} {lo : Nat} (hlo : lo ≤ X.length) {M : Int} (h1 : M ∈ pick p X lo) (h2 : ∀ a, a ∈ pick p X lo → M ≤ a) : M = ((lo + (X.drop lo).findIdx p : Nat) : Int) := by
  have len : lo + (X.drop lo).length = X.length := by rw [List.length_drop, Nat.add_sub_of_le hlo]
  refine Int.le_antisymm ?_ ?_
  · rcases Nat.lt_or_ge ((X.drop lo).findIdx p) (X.drop lo).length with hq | hq
    · refine h2 _ (pick_i (Nat.le_add_right _ _) (len ▸ Nat.add_lt_add_left hq lo) ?_)
      rw [← getD_drop hq]; exact List.findIdx_getElem
    · rw [Nat.le_antisymm List.findIdx_le_length hq, len]; exact h2 _ pick_n
  · rcases mem_pick h1 with ⟨i, a, c, rfl⟩ | rfl
    · refine Int.ofNat_le.mpr (Nat.le_of_not_lt fun hlt => ?_)
      obtain ⟨d, rfl⟩ := Nat.exists_eq_add_of_le a
      have hd := Nat.lt_of_add_lt_add_left hlt
      have := List.not_of_lt_findIdx hd
      rw [getD_drop, c] at this
      cases this
    · exact Int.ofNat_le.mpr (len ▸ Nat.add_le_add_left List.findIdx_le_length lo)
theorem zs_0 (l : List Nat) : zs 0 l = 0 := List.countP_eq_zero.mpr fun c _ h => absurd (of_decide_eq_true h).2 (Nat.not_lt.mpr (of_decide_eq_true h).1)
theorem zs_e (k c : Nat) : (if decide (57344 ≤ c ∧ c < 57344 + (k + 1)) = true then 1 else 0) = (if decide (57344 ≤ c ∧ c < 57344 + k) = true then 1 else 0) + (if (c == 57344 + k) = true then 1 else 0) := by
  rcases Nat.lt_trichotomy c (57344 + k) with h | rfl | h
  · rw [if_neg (c := (c == 57344 + k) = true) (fun z => absurd (eq_of_beq z) (Nat.ne_of_lt h)), show decide (57344 ≤ c ∧ c < 57344 + (k + 1)) = decide (57344 ≤ c ∧ c < 57344 + k) from decide_eq_decide.mpr ⟨fun z => ⟨z.1, h⟩, fun z => ⟨z.1, Nat.lt_succ_of_lt z.2⟩⟩]; exact (Nat.add_zero _).symm
  · rw [if_pos (decide_eq_true ⟨Nat.le_add_right _ _, Nat.lt_succ_self _⟩), if_neg (fun z => absurd (of_decide_eq_true z).2 (Nat.lt_irrefl _)), if_pos (beq_self_eq_true _)]
  · rw [if_neg (fun z => absurd (of_decide_eq_true z).2 (Nat.not_lt.mpr h)), if_neg (fun z => absurd (of_decide_eq_true z).2 (Nat.not_lt.mpr (Nat.le_of_lt h))), if_neg (fun z => absurd (eq_of_beq z) (Nat.ne_of_gt h))]
theorem zs_s (k : Nat) : ∀ l : List Nat, zs (k + 1) l = zs k l + l.count (57344 + k)
  | [] => rfl
  | c :: l => by
    have ih := zs_s k l
    unfold zs at ih ⊢
    rw [List.countP_cons, List.countP_cons, List.count_cons, ih, zs_e, Nat.add_add_add_comm]
theorem un_in {k c : Nat} (h0 : 57344 ≤ c) (h : c < 57344 + k) : un k c = sg.getD (c - 57344) 0 := if_pos ⟨h0, h⟩
theorem un_lo {k c : Nat} (h : c < 57344) : un k c = c := if_neg fun z => absurd z.1 (Nat.not_le.mpr h)
theorem un_hi {k c : Nat} (h : 57344 + k ≤ c) : un k c = c := if_neg fun z => absurd z.2 (Nat.not_lt.mpr h)
theorem un_0 : ∀ l : List Nat, l.map (un 0) = l
  | [] => rfl
  | c :: l => by rw [List.map_cons, un_0 l]; exact congrArg (· :: l) ((Nat.lt_or_ge c 57344).elim un_lo fun q => un_hi (k := 0) q)
theorem sgD_lt : ∀ k, k < 10 → sg.getD k 0 < 57344 := by decide
theorem rep_map {d : Nat} {s : List Nat} {f g : Nat → Nat} (h : ∀ c, (if f c = d then s else [f c]) = [g c]) : ∀ l : List Nat, rep d s (l.map f) = l.map g
  | [] => rfl
  | c :: l => by
    show (if f c = d then s else [f c]) ++ rep d s (l.map f) = g c :: l.map g
    rw [h, rep_map h l]; rfl
theorem un_s {k : Nat} (hk : k < 10) (l : List Nat) : rep (57344 + k) [sg.getD k 0] (l.map (un k)) = l.map (un (k + 1)) :=
  rep_map (fun c => by
    rcases Nat.lt_trichotomy c (57344 + k) with h | rfl | h
    · rcases Nat.lt_or_ge c 57344 with q | q
      · rw [un_lo q, un_lo q, if_neg (Nat.ne_of_lt h)]
      · rw [un_in q h, un_in q (Nat.lt_succ_of_lt h), if_neg (Nat.ne_of_lt (Nat.lt_of_lt_of_le (sgD_lt _ (Nat.lt_trans (Nat.sub_lt_left_of_lt_add q h) hk)) (Nat.le_add_right _ _)))]
    · rw [un_hi (Nat.le_refl _), if_pos rfl, un_in (Nat.le_add_right _ _) (Nat.lt_succ_self _), Nat.add_sub_cancel_left]
    · rw [un_hi (Nat.le_of_lt h), un_hi h, if_neg (Nat.ne_of_gt h)]) l
end L04
end Mine
namespace Mine
open PySem PySem.W PySem.Calls PyProof.Rows
namespace L04
noncomputable def picked (p : Nat → Bool) (X : List Nat) (lo j : Nat) : List V := ((List.range' lo j).filter fun i => p (X.getD i 0)).map fun i : Nat => V.int i
theorem picked_s (p : Nat → Bool) (X : List Nat) (lo j : Nat) : picked p X lo (j + 1) = if p (X.getD (lo + j) 0) = true then picked p X lo j ++ [.int ((lo + j : Nat))] else picked p X lo j := by
  unfold picked
  rw [List.range'_1_concat, List.filter_append, List.map_append]
  by_cases h : p (X.getD (lo + j) 0) = true
  · rw [if_pos h, List.filter_cons_of_pos (p := fun i => p (X.getD i 0)) h]; rfl
  · rw [if_neg h, List.filter_cons_of_neg (p := fun i => p (X.getD i 0)) h]; exact List.append_nil _
theorem picked_len (p : Nat → Bool) (X : List Nat) (lo j : Nat) : (picked p X lo j).length ≤ j := by
  unfold picked
  rw [List.length_map]
  exact Nat.le_trans (List.length_filter_le _ _) (Nat.le_of_eq List.length_range')
theorem picked_pick (p : Nat → Bool) (X : List Nat) (lo : Nat) : picked p X lo (X.length - lo) ++ [.int (X.length : Nat)] = (pick p X lo).map V.int := by
  unfold picked pick
  rw [List.map_append, List.map_map]; rfl
section
variable {G : Stat} {n : Nat}
theorem ifs_nil {cl : List (Option Nat)} {σ : St} {K : Bool → St → Prop} (h : K true σ) : wpIfs G n cl [] σ K := h
theorem comp_filt {cl : List (Option Nat)} {test : IE} {N q lo : Nat} {X : List Nat} (p : Nat → Bool) {σ : St} {K : V → St → Prop} (hq : σ.hp[q]? = some (.rng (lo : Nat) (X.length : Nat))) (hlo : lo ≤ X.length) (hX : X.length ≤ 1000)
    (ht : ∀ i, i < X.length → ∀ t (K' : Bool → St → Prop), K' (p (X.getD i 0)) ⟨(List.replicate (N + 2) none).set 1 (some (.int (i : Nat))), σ.hp ++ t⟩ → wpT G n cl test ⟨(List.replicate (N + 2) none).set 1 (some (.int (i : Nat))), σ.hp ++ t⟩ K')
    (hK : K (.ref σ.hp.length) ⟨σ.loc, σ.hp ++ [.list (picked p X lo (X.length - lo))]⟩) : wpIterG (turn1 (.loc 1) 1 [test] G n cl) (N + 2) (.ref q) σ K := by
  unfold wpIterG
  simp only [hq]
  refine ⟨fitN (Nat.le_trans hlo (Nat.le_trans hX (by decide))), fitN (Nat.le_trans hX (by decide)), fun j σ' => j ≤ 1000 ∧ σ'.hp = σ.hp ++ [.list (picked p X lo j)] ∧ (σ'.loc = List.replicate (N + 2) none ∨ ∃ y, σ'.loc = (List.replicate (N + 2) none).set 1 (some y)), ⟨Nat.zero_le _, rfl, .inl rfl⟩, ?_⟩
  rintro j ⟨loc', hp'⟩ ⟨hj, h1, h2⟩
  simp only at h1 h2
  subst h1
  refine ⟨fun hlt => ?_, fun hj' => ?_⟩
  · have hlt : lo + j < X.length := Int.ofNat_lt.mp hlt
    have hl : loc'.set 1 (some (.int ((lo : Int) + (j : Int)))) = (List.replicate (N + 2) none).set 1 (some (.int ((lo + j : Nat)))) := by
      rcases h2 with h2 | ⟨y, h2⟩
      · rw [h2]; rfl
      · rw [h2, set_rep]; rfl
    show wpT G n cl test ⟨loc'.set 1 (some (.int ((lo : Int) + (j : Int)))), _⟩ _
    rw [hl]
    have hs := picked_s p X lo j
    have hj1 : j + 1 ≤ 1000 := Nat.le_trans (Nat.le_trans (Nat.le_add_left _ lo) hlt) hX
    refine ht (lo + j) hlt _ _ ?_
    by_cases hp : p (X.getD (lo + j) 0) = true
    · rw [if_pos hp] at hs
      refine ifp hp ?_
      refine ifs_nil ?_
      refine ifp rfl ?_
      rw [eLoc]
      refine onLoc_mk (v := .int ((lo + j : Nat))) rfl ?_
      refine onL_mk List.getElem?_concat_length ⟨Nat.le_trans (picked_len p X lo j) (Nat.le_trans hj (by decide)), hj1, ?_, .inr ⟨_, rfl⟩⟩
      show (σ.hp ++ [O.list (picked p X lo j)]).set σ.hp.length _ = _
      rw [List.set_append_right _ _ (Nat.le_refl _), Nat.sub_self, hs]; rfl
    · rw [if_neg hp] at hs
      refine ifn hp ?_
      refine ifn (c := false = true) (by decide) ⟨hj1, by rw [hs], .inr ⟨_, rfl⟩⟩
  · have : j = X.length - lo := by omega
    subst this
    exact hK
theorem len_mk {cl : List (Option Nat)} {σ : St} {K : V → St → Prop} {b : Nat} {X : List Nat} (hc : cl[3]? = some (some b)) (hb : σ.hp[b]? = some (.cell (some (.str X)))) (hX : X.length ≤ 1000) (h : K (.int (X.length : Nat)) σ) : wpE G n cl (.bf .len [.cel 3]) σ K := by
  rw [eBf, esC]
  refine celL hc hb ?_
  rw [esN]
  exact ⟨Nat.le_trans hX (by decide), h⟩
theorem min_wp {cl fr : List (Option Nat)} {it test : IE} {N lo b : Nat} {X : List Nat} (p : Nat → Bool) {σ : St} {K : V → St → Prop} (hfr : ∀ q, some q ∈ fr → ∃ j, cl[q]? = some (some j))
    (hit : ∀ K' : V → St → Prop, K' (.ref σ.hp.length) ⟨σ.loc, σ.hp ++ [.rng (lo : Nat) (X.length : Nat)]⟩ → wpE G n cl it σ K') (hc : cl[3]? = some (some b)) (hb : σ.hp[b]? = some (.cell (some (.str X)))) (hX : X.length ≤ 1000) (hlo : lo ≤ X.length)
    (ht : ∀ i, i < X.length → ∀ t (K' : Bool → St → Prop), K' (p (X.getD i 0)) ⟨(List.replicate (N + 2) none).set 1 (some (.int (i : Nat))), σ.hp ++ t⟩ → wpT G n (clIn cl fr) test ⟨(List.replicate (N + 2) none).set 1 (some (.int (i : Nat))), σ.hp ++ t⟩ K')
    (hK : ∀ hp', Ext [] σ.hp hp' → K (.int ((lo + (X.drop lo).findIdx p : Nat))) ⟨σ.loc, hp'⟩) :
    wpE G n cl (.comp (wp1 wMin (.bin .Add (.comp (wpComp (.loc 1) 1 it [test] (N + 2) fr)) (.list [.bf .len [.cel 3]])))) σ K := by
  show wpE G n cl (.bin .Add _ _) σ _
  rw [eBin]
  refine ⟨hfr, hit _ ?_⟩
  have e1 : Ext [] σ.hp (σ.hp ++ [O.rng (lo : Nat) (X.length : Nat)]) := .app
  refine comp_filt (σ := ⟨σ.loc, σ.hp ++ [.rng (lo : Nat) (X.length : Nat)]⟩) p List.getElem?_concat_length hlo hX (fun i hi t K' h => ?_) ?_
  · show wpT G n (clIn cl fr) test ⟨_, σ.hp ++ [.rng (lo : Nat) (X.length : Nat)] ++ t⟩ K'
    rw [List.append_assoc]
    refine ht i hi _ K' ?_
    rw [← List.append_assoc]; exact h
  dsimp only
  generalize σ.hp ++ [O.rng (lo : Nat) (X.length : Nat)] = hp1 at e1 ⊢
  have e2 : Ext [] hp1 (hp1 ++ [O.list (picked p X lo (X.length - lo))]) := .app
  have l2 : (hp1 ++ [O.list (picked p X lo (X.length - lo))])[hp1.length]? = some (.list (picked p X lo (X.length - lo))) := List.getElem?_concat_length
  have e2 := e1.trans e2
  generalize hp1 ++ [O.list (picked p X lo (X.length - lo))] = hp2 at e2 l2 ⊢
  generalize hp1.length = q at l2 ⊢
  rw [eList, esC]
  refine len_mk (σ := ⟨σ.loc, hp2⟩) hc (e2.get hb (fun z => nomatch z)) hX ?_
  rw [esN]
  refine ⟨show 1 ≤ big by decide, ?_⟩
  have e3 : Ext [] hp2 (hp2 ++ [O.list [.int (X.length : Nat)]]) := .app
  have l3 := e3.get l2 (fun z => nomatch z)
  have m3 : (hp2 ++ [O.list [.int (X.length : Nat)]])[hp2.length]? = some (.list [.int (X.length : Nat)]) := List.getElem?_concat_length
  have e3 := e2.trans e3
  dsimp only
  generalize hp2 ++ [O.list [.int (X.length : Nat)]] = hp3 at e3 l3 m3 ⊢
  generalize hp2.length = q3 at m3 ⊢
  refine onL_mk l3 (onL_mk m3 ⟨Nat.le_trans (Nat.succ_le_succ (Nat.le_trans (picked_len p X lo _) (Nat.le_trans (Nat.sub_le _ _) hX))) (by decide), ?_⟩)
  have e4 : Ext [] hp3 (hp3 ++ [O.list (picked p X lo (X.length - lo) ++ [.int (X.length : Nat)])]) := .app
  show onL (hp3 ++ [O.list (picked p X lo (X.length - lo) ++ [.int (X.length : Nat)])]) hp3.length _
  refine onL_mk List.getElem?_concat_length ⟨pick p X lo, picked_pick p X lo, pick_pos p X lo, fun M h1 h2 => ?_⟩
  rw [pick_min hlo h1 h2]
  exact hK _ (e3.trans e4)
end
end L04
end Mine
namespace Mine
open PySem PySem.W PySem.Calls PyProof.Rows
namespace L04
theorem hd_len (S : Nat → Option Nat) (l : List Nat) : (hd S l).length ≤ l.length := by
  refine four (P := fun l => (hd S l).length ≤ l.length) (by rw [hd_nil]; exact Nat.le_refl _) (by rw [hd_0]; exact Nat.le_refl _) (fun e r ih => ?_) (fun c r hc ih => by rw [hd_c hc]; exact Nat.succ_le_succ ih) l.length l (Nat.le_refl _)
  cases h : S e with
  | some z => rw [hd_s h]; exact Nat.succ_le_succ (Nat.le_succ_of_le ih)
  | none => rw [hd_n h]; exact Nat.succ_le_succ (Nat.succ_le_succ ih)
theorem H_len (l : List Nat) : (H l).length ≤ l.length := hd_len _ l
theorem cut_take {α : Type} (xs : List α) (j : Nat) : cutL xs none (some (j : Int)) = xs.take j := by
  unfold cutL
  simp only [Option.elim, clip_nat, Nat.sub_zero, List.drop_zero]
  exact (List.take_eq_take_iff.mpr (by rw [Nat.min_assoc, Nat.min_self]))
theorem cut_drop {α : Type} {xs : List α} {p : Nat} (h : p ≤ xs.length) : cutL xs (some (p : Int)) none = xs.drop p := by
  unfold cutL
  simp only [Option.elim, clip_small h]
  exact List.take_of_length_le (by rw [List.length_drop]; exact Nat.le_refl _)
noncomputable def lt4 (text : List Nat) (pos : Nat) (kv bv ev tv hv : Option V) : List (Option V) := [some (.str text), some (.int (pos : Nat)), some (.str sg), none, kv, bv, none, ev, tv, hv, none, none, none, none]
noncomputable def cT4 (a b : Nat) : List (Option Nat) := [none, none, none, some b, none, none, some a, none, none, none, none, none, none, none]
theorem sg_at {j : Nat} (h : j < 10) : sg[j]? = some (sg.getD j 0) := by rw [List.getD_eq_getElem?_getD, List.getElem?_eq_getElem (show j < sg.length from h)]; rfl
theorem item_mk {loc : List (Option V)} {j : Nat} {k : List Nat → Prop} (hj : j < 10) (h2 : loc[2]? = some (some (.str sg))) (h4 : loc[4]? = some (some (.int (j : Nat)))) (h : k [sg.getD j 0]) : wItem 2 4 loc k := by
  unfold wItem
  refine onLoc_mk h2 (onLoc_mk h4 ⟨fitN (Nat.le_trans (Nat.le_of_lt hj) (by decide)), subS_mk (sg_at hj) h⟩)
theorem chr_mk {loc : List (Option V)} {j : Nat} {k : List Nat → Prop} (hj : j < 10) (h4 : loc[4]? = some (some (.int (j : Nat)))) (h : k [57344 + j]) : wF (.chr 57344 4) loc k := by
  refine onLoc_mk h4 ⟨?_, ?_, h⟩
  · exact Int.natCast_nonneg (57344 + j)
  · exact Int.ofNat_le.mpr (Nat.le_trans (Nat.add_le_add_left (Nat.le_of_lt hj) 57344) (by decide))
theorem ne_sg {j : Nat} (hj : j < 10) : [57344 + j] ≠ [sg.getD j 0] := fun q => by
  injection q with q
  exact absurd (q ▸ sgD_lt j hj) (Nat.not_lt.mpr (Nat.le_add_right 57344 j))
section
variable {G : Stat} {n k : Nat} {text : List Nat} {pos a b : Nat} {hp : List O} {K : Fl → St → Prop}
theorem hide_wp {l : List Nat} (hl : l.length ≤ 1000) (hb : hp[b]? = some (.cell (some (.str l)))) (hK : ∀ kv hp', hp'[b]? = some (.cell (some (.str (H l)))) → Ext [b] hp hp' → K .next ⟨lt4 text pos kv none none none none, hp'⟩) :
    wpS G n (cT4 a b) k (.for (.loc 4) (.bf .range [(.bf .len [(.loc 2)])]) [.assign (.cel 3) (.comp (wpRpl (.cel 3) (.cat [92] 2 4) (.chr 57344 4)))]) ⟨lt4 text pos none none none none none, hp⟩ K := by
  unfold lt4 at hK ⊢
  refine wFor ?_
  dsimp only [tCmp, tAnd, tOr, tNot, tLc, tAt, eK, eLoc, eStat, eBin, eCmp, eIfe, eList, eTup, eAttr, eMattr, eCall, eNew, eBf, eBm, eUm, eAm, eSub, eSli, esN, esC, oN, oS, gLoc, gCel, gAttr, gSub, gTup, gsC, cEq, cNe, cLt, cLe, cGt, cGe, cIn, cNi, ltII, bII, bSS, bRR, bRI, biAdd, biSub, biMul, biMod, biDiv, biPow, adS, adL, mlL, iII, iSS, niAdd, niSub, niDiv, fLen, fAbs, fStr, fMin, fRng, rg1, rg2, fItr, fSum, o1, lnS, lnR, vI, vS, vR, lc0, lcS, List.getElem?_cons_zero, List.getElem?_cons_succ, List.set_cons_zero, List.set_cons_succ, List.length_cons, List.length_nil, qSS, qII, qIS, qSI, nS, inO, o2, hkI, hkS, hkR, hkN, sqN, ssN]
  refine ⟨show 10 ≤ big by decide, show fits (10 : Int) from fit1000 (by decide) (by decide), ?_⟩
  have e1 : Ext [b] hp (hp ++ [O.rng 0 (10 : Nat)]) := .app
  have r1 : (hp ++ [O.rng 0 (10 : Nat)])[hp.length]? = some (.rng 0 (10 : Nat)) := List.getElem?_concat_length
  have b1 : (hp ++ [O.rng 0 (10 : Nat)])[b]? = some (.cell (some (.str (hd (SK 0) l)))) := by rw [hd_SK0, List.getElem?_append_left (lt_of_get hb)]; exact hb
  change forV _ _ k G n (.ref hp.length) ⟨_, hp ++ [O.rng 0 (10 : Nat)]⟩ K
  generalize hp ++ [O.rng 0 (10 : Nat)] = hp1 at e1 r1 b1 ⊢
  generalize hp.length = q at r1 ⊢
  refine for_nat (σ := ⟨_, hp1⟩) r1 (by decide) (fun j σ => ∃ kv hp', σ = ⟨lt4 text pos kv none none none none, hp'⟩ ∧ hp'[b]? = some (.cell (some (.str (hd (SK j) l)))) ∧ Ext [b] hp hp') ⟨none, hp1, rfl, b1, e1⟩ ?_ ?_
  · rintro j σ hj ⟨kv, hp2, rfl, b2, e2⟩
    unfold lt4
    dsimp only [tCmp, tAnd, tOr, tNot, tLc, tAt, eK, eLoc, eStat, eBin, eCmp, eIfe, eList, eTup, eAttr, eMattr, eCall, eNew, eBf, eBm, eUm, eAm, eSub, eSli, esN, esC, oN, oS, gLoc, gCel, gAttr, gSub, gTup, gsC, cEq, cNe, cLt, cLe, cGt, cGe, cIn, cNi, ltII, bII, bSS, bRR, bRI, biAdd, biSub, biMul, biMod, biDiv, biPow, adS, adL, mlL, iII, iSS, niAdd, niSub, niDiv, fLen, fAbs, fStr, fMin, fRng, rg1, rg2, fItr, fSum, o1, lnS, lnR, vI, vS, vR, lc0, lcS, List.getElem?_cons_zero, List.getElem?_cons_succ, List.set_cons_zero, List.set_cons_succ, List.length_cons, List.length_nil, qSS, qII, qIS, qSI, nS, inO, o2, hkI, hkS, hkR, hkN, sqN, ssN]
    refine ⟨by decide, mAssign ?_⟩
    rw [eComp]
    unfold wpRpl
    refine celL (cl := cT4 a b) (i := 3) (σ := ⟨_, hp2⟩) rfl b2 ?_
    refine ⟨Nat.le_trans (hd_len _ _) (Nat.le_trans hl (by decide)), item_mk hj rfl rfl ⟨by simp, by simp, show 1 + 1 ≤ big by decide, chr_mk hj rfl ⟨by simp, show 1 ≤ 14 by decide, ?_⟩⟩⟩
    show wpTg G n (cT4 a b) (.cel 3) (.str (rpl [92, sg.getD j 0] [57344 + j] (hd (SK j) l))) _ _
    rw [hide_step hj, gCel]
    refine onC_mk rfl b2 ?_
    exact ⟨_, _, rfl, List.getElem?_set_self (lt_of_get b2), e2.trans (.set (.head _))⟩
  · rintro σ ⟨kv, hp2, rfl, b2, e2⟩
    exact hK kv hp2 b2 e2
theorem sliN {cs : List Nat} {j : Nat} {σ : St} {K : V → St → Prop} (h1 : cs.length ≤ 1000) (h2 : j ≤ 10000) (h : K (.str (cs.take j)) σ) : wpSli (.str cs) none (some (.int (j : Nat))) σ K := by
  rw [slNI, svS, cut_take]
  exact ⟨fun k e => (nomatch e), fun k e => by cases e; exact fitN (Nat.le_trans h2 (by decide)), Nat.le_trans h1 (by decide), h⟩
theorem sliM {cs : List Nat} {i j : Nat} {σ : St} {K : V → St → Prop} (h1 : cs.length ≤ 1000) (hi : i ≤ cs.length) (h2 : j ≤ 10000) (h : K (.str ((cs.drop i).take (min j cs.length - i))) σ) : wpSli (.str cs) (some (.int (i : Nat))) (some (.int (j : Nat))) σ K := by
  rw [slII, svS, cut_at, Nat.min_eq_left hi]
  exact ⟨fun k e => by cases e; exact fitN (Nat.le_trans hi (Nat.le_trans h1 (by decide))), fun k e => by cases e; exact fitN (Nat.le_trans h2 (by decide)), Nat.le_trans h1 (by decide), h⟩
theorem cnt_mk4 {cs : List Nat} {c : Nat} {σ : St} {K : V → St → Prop} (h : K (.int (cs.count c : Nat)) σ) : wpBm .count (.str cs) [.str [c]] σ K := h
theorem undo_wp {X t0 : List Nat} {kv0 bv : Option V} {e h0 : Nat} (hX : X.length ≤ 1000) (ht : t0.length ≤ 1000) (he : e ≤ 1000) (hb : hp[b]? = some (.cell (some (.str X)))) (hK : ∀ kv hp', Ext [] hp hp' → K .next ⟨lt4 text pos kv bv (some (.int (e : Nat))) (some (.str (t0.map (un 10)))) (some (.int ((h0 + zs 10 (X.take e) : Nat)))), hp'⟩) :
    wpS G n (cT4 a b) k (.for (.loc 4) (.bf .range [(.bf .len [(.loc 2)])]) [
    .aug (.loc 9) .Add (.bm .count (.sli (.cel 3) none (some (.loc 7))) [(.comp (wp1 wChr (.bin .Add (.k (.int 57344)) (.loc 4))))]),
    .assign (.loc 8) (.comp (wpRpl (.loc 8) (.chr 57344 4) (.item 2 4)))]) ⟨lt4 text pos kv0 bv (some (.int (e : Nat))) (some (.str t0)) (some (.int (h0 : Nat))), hp⟩ K := by
  unfold lt4 at hK ⊢
  refine wFor ?_
  dsimp only [tCmp, tAnd, tOr, tNot, tLc, tAt, eK, eLoc, eStat, eBin, eCmp, eIfe, eList, eTup, eAttr, eMattr, eCall, eNew, eBf, eBm, eUm, eAm, eSub, eSli, esN, esC, oN, oS, gLoc, gCel, gAttr, gSub, gTup, gsC, cEq, cNe, cLt, cLe, cGt, cGe, cIn, cNi, ltII, bII, bSS, bRR, bRI, biAdd, biSub, biMul, biMod, biDiv, biPow, adS, adL, mlL, iII, iSS, niAdd, niSub, niDiv, fLen, fAbs, fStr, fMin, fRng, rg1, rg2, fItr, fSum, o1, lnS, lnR, vI, vS, vR, lc0, lcS, List.getElem?_cons_zero, List.getElem?_cons_succ, List.set_cons_zero, List.set_cons_succ, List.length_cons, List.length_nil, qSS, qII, qIS, qSI, nS, inO, o2, hkI, hkS, hkR, hkN, sqN, ssN]
  refine ⟨show 10 ≤ big by decide, show fits (10 : Int) from fit1000 (by decide) (by decide), ?_⟩
  have e1 : Ext [] hp (hp ++ [O.rng 0 (10 : Nat)]) := .app
  have r1 : (hp ++ [O.rng 0 (10 : Nat)])[hp.length]? = some (.rng 0 (10 : Nat)) := List.getElem?_concat_length
  have b1 := e1.get hb (fun z => nomatch z)
  change forV _ _ k G n (.ref hp.length) ⟨_, hp ++ [O.rng 0 (10 : Nat)]⟩ K
  generalize hp ++ [O.rng 0 (10 : Nat)] = hp1 at e1 r1 b1 ⊢
  generalize hp.length = q at r1 ⊢
  refine for_nat (σ := ⟨_, hp1⟩) r1 (by decide) (fun j σ => ∃ kv, σ = ⟨lt4 text pos kv bv (some (.int (e : Nat))) (some (.str (t0.map (un j)))) (some (.int ((h0 + zs j (X.take e) : Nat)))), hp1⟩) ⟨kv0, by rw [un_0, zs_0]; rfl⟩ ?_ ?_
  · rintro j σ hj ⟨kv, rfl⟩
    unfold lt4
    dsimp only [tCmp, tAnd, tOr, tNot, tLc, tAt, eK, eLoc, eStat, eBin, eCmp, eIfe, eList, eTup, eAttr, eMattr, eCall, eNew, eBf, eBm, eUm, eAm, eSub, eSli, esN, esC, oN, oS, gLoc, gCel, gAttr, gSub, gTup, gsC, cEq, cNe, cLt, cLe, cGt, cGe, cIn, cNi, ltII, bII, bSS, bRR, bRI, biAdd, biSub, biMul, biMod, biDiv, biPow, adS, adL, mlL, iII, iSS, niAdd, niSub, niDiv, fLen, fAbs, fStr, fMin, fRng, rg1, rg2, fItr, fSum, o1, lnS, lnR, vI, vS, vR, lc0, lcS, List.getElem?_cons_zero, List.getElem?_cons_succ, List.set_cons_zero, List.set_cons_succ, List.length_cons, List.length_nil, qSS, qII, qIS, qSI, nS, inO, o2, hkI, hkS, hkR, hkN, sqN, ssN]
    refine ⟨by decide, mAugL ?_⟩
    dsimp only [tCmp, tAnd, tOr, tNot, tLc, tAt, eK, eLoc, eStat, eBin, eCmp, eIfe, eList, eTup, eAttr, eMattr, eCall, eNew, eBf, eBm, eUm, eAm, eSub, eSli, esN, esC, oN, oS, gLoc, gCel, gAttr, gSub, gTup, gsC, cEq, cNe, cLt, cLe, cGt, cGe, cIn, cNi, ltII, bII, bSS, bRR, bRI, biAdd, biSub, biMul, biMod, biDiv, biPow, adS, adL, mlL, iII, iSS, niAdd, niSub, niDiv, fLen, fAbs, fStr, fMin, fRng, rg1, rg2, fItr, fSum, o1, lnS, lnR, vI, vS, vR, lc0, lcS, List.getElem?_cons_zero, List.getElem?_cons_succ, List.set_cons_zero, List.set_cons_succ, List.length_cons, List.length_nil, qSS, qII, qIS, qSI, nS, inO, o2, hkI, hkS, hkR, hkN, sqN, ssN]
    refine celL (cl := cT4 a b) (i := 3) (σ := ⟨_, hp1⟩) rfl b1 ?_
    dsimp only [tCmp, tAnd, tOr, tNot, tLc, tAt, eK, eLoc, eStat, eBin, eCmp, eIfe, eList, eTup, eAttr, eMattr, eCall, eNew, eBf, eBm, eUm, eAm, eSub, eSli, esN, esC, oN, oS, gLoc, gCel, gAttr, gSub, gTup, gsC, cEq, cNe, cLt, cLe, cGt, cGe, cIn, cNi, ltII, bII, bSS, bRR, bRI, biAdd, biSub, biMul, biMod, biDiv, biPow, adS, adL, mlL, iII, iSS, niAdd, niSub, niDiv, fLen, fAbs, fStr, fMin, fRng, rg1, rg2, fItr, fSum, o1, lnS, lnR, vI, vS, vR, lc0, lcS, List.getElem?_cons_zero, List.getElem?_cons_succ, List.set_cons_zero, List.set_cons_succ, List.length_cons, List.length_nil, qSS, qII, qIS, qSI, nS, inO, o2, hkI, hkS, hkR, hkN, sqN, ssN]
    refine sliN hX (Nat.le_trans he (by decide)) ⟨rfl, ?_⟩
    show wpE G n (cT4 a b) (.bin .Add (.k (.int 57344)) (.loc 4)) _ _
    dsimp only [tCmp, tAnd, tOr, tNot, tLc, tAt, eK, eLoc, eStat, eBin, eCmp, eIfe, eList, eTup, eAttr, eMattr, eCall, eNew, eBf, eBm, eUm, eAm, eSub, eSli, esN, esC, oN, oS, gLoc, gCel, gAttr, gSub, gTup, gsC, cEq, cNe, cLt, cLe, cGt, cGe, cIn, cNi, ltII, bII, bSS, bRR, bRI, biAdd, biSub, biMul, biMod, biDiv, biPow, adS, adL, mlL, iII, iSS, niAdd, niSub, niDiv, fLen, fAbs, fStr, fMin, fRng, rg1, rg2, fItr, fSum, o1, lnS, lnR, vI, vS, vR, lc0, lcS, List.getElem?_cons_zero, List.getElem?_cons_succ, List.set_cons_zero, List.set_cons_succ, List.length_cons, List.length_nil, qSS, qII, qIS, qSI, nS, inO, o2, hkI, hkS, hkR, hkN, sqN, ssN]
    refine ⟨Int.natCast_nonneg (57344 + j), Int.ofNat_le.mpr (Nat.le_trans (Nat.add_le_add_left (Nat.le_of_lt hj) 57344) (by decide)), ?_⟩
    refine cnt_mk4 (c := 57344 + j) ?_
    dsimp only [tCmp, tAnd, tOr, tNot, tLc, tAt, eK, eLoc, eStat, eBin, eCmp, eIfe, eList, eTup, eAttr, eMattr, eCall, eNew, eBf, eBm, eUm, eAm, eSub, eSli, esN, esC, oN, oS, gLoc, gCel, gAttr, gSub, gTup, gsC, cEq, cNe, cLt, cLe, cGt, cGe, cIn, cNi, ltII, bII, bSS, bRR, bRI, biAdd, biSub, biMul, biMod, biDiv, biPow, adS, adL, mlL, iII, iSS, niAdd, niSub, niDiv, fLen, fAbs, fStr, fMin, fRng, rg1, rg2, fItr, fSum, o1, lnS, lnR, vI, vS, vR, lc0, lcS, List.getElem?_cons_zero, List.getElem?_cons_succ, List.set_cons_zero, List.set_cons_succ, List.length_cons, List.length_nil, qSS, qII, qIS, qSI, nS, inO, o2, hkI, hkS, hkR, hkN, sqN, ssN]
    refine ⟨by decide, mAssign ?_⟩
    rw [eComp]
    unfold wpRpl
    dsimp only [tCmp, tAnd, tOr, tNot, tLc, tAt, eK, eLoc, eStat, eBin, eCmp, eIfe, eList, eTup, eAttr, eMattr, eCall, eNew, eBf, eBm, eUm, eAm, eSub, eSli, esN, esC, oN, oS, gLoc, gCel, gAttr, gSub, gTup, gsC, cEq, cNe, cLt, cLe, cGt, cGe, cIn, cNi, ltII, bII, bSS, bRR, bRI, biAdd, biSub, biMul, biMod, biDiv, biPow, adS, adL, mlL, iII, iSS, niAdd, niSub, niDiv, fLen, fAbs, fStr, fMin, fRng, rg1, rg2, fItr, fSum, o1, lnS, lnR, vI, vS, vR, lc0, lcS, List.getElem?_cons_zero, List.getElem?_cons_succ, List.set_cons_zero, List.set_cons_succ, List.length_cons, List.length_nil, qSS, qII, qIS, qSI, nS, inO, o2, hkI, hkS, hkR, hkN, sqN, ssN]
    refine ⟨by rw [List.length_map]; exact Nat.le_trans ht (by decide), chr_mk hj rfl (item_mk hj rfl rfl ⟨ne_sg hj, show 1 ≤ 14 by decide, ?_⟩)⟩
    rw [rpl_one, un_s hj]
    refine ⟨by decide, some (.int (j : Nat)), ?_⟩
    rw [zs_s, ← Nat.add_assoc]; rfl
  · rintro σ ⟨kv, rfl⟩
    exact hK kv hp1 e1
end
end L04
end Mine
namespace Mine
open PySem PySem.W PySem.Calls PyProof.Rows
namespace L04
noncomputable def is_tokB : List IS := [
  .assign (.loc 7) (.comp (wp1 wMin (.bin .Add (.comp (wpComp (.loc 1) 1 (.bf .range [(.loc 5), (.bf .len [(.cel 3)])]) [(.cmp .In (.sub (.cel 3) (.loc 1)) (.cel 2))] 4 [none, none, some 6, some 3])) (.list [(.bf .len [(.cel 3)])])))),
  .assign (.loc 8) (.comp (wpRep (.sli (.cel 3) (some (.loc 5)) (some (.loc 7))) 92 [])),
  .assign (.loc 9) (.bin .Add (.loc 1) (.bf .len [(.sli (.cel 3) none (some (.bin .Add (.loc 7) (.k (.int 1)))))])),
  .for (.loc 4) (.bf .range [(.bf .len [(.loc 2)])]) [
    .aug (.loc 9) .Add (.bm .count (.sli (.cel 3) none (some (.loc 7))) [(.comp (wp1 wChr (.bin .Add (.k (.int 57344)) (.loc 4))))]),
    .assign (.loc 8) (.comp (wpRpl (.loc 8) (.chr 57344 4) (.item 2 4)))],
  .ret (.tup [(.loc 8), (.loc 9)])]
noncomputable def is_tok4 : List IS :=
  .assign (.loc 2) (.k (.str sg)) ::
  .assign (.cel 3) (.sli (.loc 0) (some (.loc 1)) none) ::
  .for (.loc 4) (.bf .range [(.bf .len [(.loc 2)])]) [.assign (.cel 3) (.comp (wpRpl (.cel 3) (.cat [92] 2 4) (.chr 57344 4)))] ::
  .assign (.loc 5) (.comp (wp1 wMin (.bin .Add (.comp (wpComp (.loc 1) 1 (.bf .range [(.bf .len [(.cel 3)])]) [(.cmp .NotIn (.sub (.cel 2) (.loc 1)) (.k (.str L03.wsE)))] 3 [none, none, some 3])) (.list [(.bf .len [(.cel 3)])])))) ::
  .assign (.cel 6) (.k (.str L03.wsE)) ::
  .ite (.cmp .Eq (.sli (.cel 3) (some (.loc 5)) (some (.bin .Add (.loc 5) (.k (.int 1))))) (.k (.str [34]))) [
    .aug (.loc 5) .Add (.k (.int 1)),
    .assign (.cel 6) (.k (.str [34]))] [] :: is_tokB
theorem at_get {X : List Nat} {i : Nat} (h : i < X.length) : X[i]? = some (X.getD i 0) := by rw [getD_at h]; exact List.getElem?_eq_getElem h
theorem small {a b : Nat} (h : a ≤ b) (hb : b ≤ 1000) : a ≤ 100000 := Nat.le_trans h (Nat.le_trans hb (by decide))
theorem out_len {p t R A Z L : Nat} (hp : p ≤ t) (h : R + (A + Z) = L) (hL : L = t - p) : p + A + Z = t - R :=
  Nat.eq_sub_of_add_eq (by rw [Nat.add_assoc p, Nat.add_assoc p, Nat.add_comm (A + Z), h, hL, Nat.add_sub_of_le hp])
section
variable {G : Stat} {n k : Nat} {text : List Nat} {pos a b : Nat} {hp hp0 : List O}
theorem tokB_wp {K : V → List O → Prop} {X es : List Nat} {bgn : Nat} {kv tv hv ev : Option V} (hX : X.length ≤ 1000) (hbg : bgn ≤ X.length) (hb : hp[b]? = some (.cell (some (.str X)))) (ha : hp[a]? = some (.cell (some (.str es)))) (e0 : Ext [] hp0 hp)
    (hK : ∀ i hp', hp'[i]? = some (.tup [.str ((rep 92 [] ((X.drop bgn).take (fi es (X.drop bgn)))).map (un 10)), .int ((pos + (X.take (bgn + fi es (X.drop bgn) + 1)).length + zs 10 (X.take (bgn + fi es (X.drop bgn))) : Nat))]) → Ext [] hp0 hp' → K (.ref i) hp') :
    wpSs G n (cT4 a b) k is_tokB ⟨lt4 text pos kv (some (.int (bgn : Nat))) ev tv hv, hp⟩ (RetOk hp0 K) := by
  have hfi : bgn + fi es (X.drop bgn) ≤ X.length := by
    have := List.findIdx_le_length (p := fun c => decide (c ∈ es)) (xs := X.drop bgn)
    rw [List.length_drop] at this
    exact Nat.add_le_of_le_sub' hbg this
  unfold is_tokB
  refine mAssign ?_
  refine min_wp (fr := [none, none, some 6, some 3]) (N := 2) (lo := bgn) (b := b) (X := X) (σ := ⟨lt4 text pos kv (some (.int (bgn : Nat))) ev tv hv, hp⟩) (fun c => decide (c ∈ es)) (fun q hq => ?_) (fun K' h => ?_) rfl hb hX hbg (fun i hi t K' h => ?_) fun hp1 e1 => ?_
  · simp only [List.mem_cons, Option.some.injEq, reduceCtorEq, List.not_mem_nil, or_false, false_or] at hq
    rcases hq with rfl | rfl
    · exact ⟨_, rfl⟩
    · exact ⟨_, rfl⟩
  · rw [eBf, esC, eLoc]
    refine onLoc_mk (v := .int (bgn : Nat)) rfl ?_
    rw [esC]
    refine len_mk (σ := ⟨lt4 text pos kv (some (.int (bgn : Nat))) ev tv hv, hp⟩) rfl hb hX ?_
    rw [esN]
    exact ⟨fitN (small hbg hX), fitN (small (Nat.le_refl _) hX), h⟩
  · show wpT G n [none, none, some a, some b] _ ⟨[none, some (.int (i : Nat)), none, none], hp ++ t⟩ K'
    have h : K' (decide (X.getD i 0 ∈ es)) ⟨[none, some (.int (i : Nat)), none, none], hp ++ t⟩ := h
    have ea : Ext [] hp (hp ++ t) := .app
    dsimp only [tCmp, tAnd, tOr, tNot, tLc, tAt, eK, eLoc, eStat, eBin, eCmp, eIfe, eList, eTup, eAttr, eMattr, eCall, eNew, eBf, eBm, eUm, eAm, eSub, eSli, esN, esC, oN, oS, gLoc, gCel, gAttr, gSub, gTup, gsC, cEq, cNe, cLt, cLe, cGt, cGe, cIn, cNi, ltII, bII, bSS, bRR, bRI, biAdd, biSub, biMul, biMod, biDiv, biPow, adS, adL, mlL, iII, iSS, niAdd, niSub, niDiv, fLen, fAbs, fStr, fMin, fRng, rg1, rg2, fItr, fSum, o1, lnS, lnR, vI, vS, vR, lc0, lcS, List.getElem?_cons_zero, List.getElem?_cons_succ, List.set_cons_zero, List.set_cons_succ, List.length_cons, List.length_nil, qSS, qII, qIS, qSI, nS, inO, o2, hkI, hkS, hkR, hkN, sqN, ssN]
    refine celL (cl := [none, none, some a, some b]) (i := 3) (σ := ⟨_, hp ++ t⟩) rfl (ea.get hb (fun z => nomatch z)) ?_
    dsimp only [tCmp, tAnd, tOr, tNot, tLc, tAt, eK, eLoc, eStat, eBin, eCmp, eIfe, eList, eTup, eAttr, eMattr, eCall, eNew, eBf, eBm, eUm, eAm, eSub, eSli, esN, esC, oN, oS, gLoc, gCel, gAttr, gSub, gTup, gsC, cEq, cNe, cLt, cLe, cGt, cGe, cIn, cNi, ltII, bII, bSS, bRR, bRI, biAdd, biSub, biMul, biMod, biDiv, biPow, adS, adL, mlL, iII, iSS, niAdd, niSub, niDiv, fLen, fAbs, fStr, fMin, fRng, rg1, rg2, fItr, fSum, o1, lnS, lnR, vI, vS, vR, lc0, lcS, List.getElem?_cons_zero, List.getElem?_cons_succ, List.set_cons_zero, List.set_cons_succ, List.length_cons, List.length_nil, qSS, qII, qIS, qSI, nS, inO, o2, hkI, hkS, hkR, hkN, sqN, ssN]
    rw [suS]
    refine ⟨fitN (small (Nat.le_of_lt hi) hX), subS_mk (at_get hi) ?_⟩
    refine celL (cl := [none, none, some a, some b]) (i := 2) (σ := ⟨_, hp ++ t⟩) rfl (ea.get ha (fun z => nomatch z)) ?_
    exact h
  have e1 : Ext [] hp hp1 := e1
  have hb1 := e1.get hb (fun z => nomatch z)
  have e1 := e0.trans e1
  show 7 < 14 ∧ wpSs G n (cT4 a b) k _ ⟨lt4 text pos kv (some (.int (bgn : Nat))) (some (.int ((bgn + fi es (X.drop bgn) : Nat)))) tv hv, hp1⟩ _
  refine ⟨by decide, ?_⟩
  unfold lt4
  refine mAssign ?_
  rw [eComp]
  unfold wpRep
  dsimp only [tCmp, tAnd, tOr, tNot, tLc, tAt, eK, eLoc, eStat, eBin, eCmp, eIfe, eList, eTup, eAttr, eMattr, eCall, eNew, eBf, eBm, eUm, eAm, eSub, eSli, esN, esC, oN, oS, gLoc, gCel, gAttr, gSub, gTup, gsC, cEq, cNe, cLt, cLe, cGt, cGe, cIn, cNi, ltII, bII, bSS, bRR, bRI, biAdd, biSub, biMul, biMod, biDiv, biPow, adS, adL, mlL, iII, iSS, niAdd, niSub, niDiv, fLen, fAbs, fStr, fMin, fRng, rg1, rg2, fItr, fSum, o1, lnS, lnR, vI, vS, vR, lc0, lcS, List.getElem?_cons_zero, List.getElem?_cons_succ, List.set_cons_zero, List.set_cons_succ, List.length_cons, List.length_nil, qSS, qII, qIS, qSI, nS, inO, o2, hkI, hkS, hkR, hkN, sqN, ssN]
  refine celL (cl := cT4 a b) (i := 3) (σ := ⟨_, hp1⟩) rfl hb1 ?_
  dsimp only [tCmp, tAnd, tOr, tNot, tLc, tAt, eK, eLoc, eStat, eBin, eCmp, eIfe, eList, eTup, eAttr, eMattr, eCall, eNew, eBf, eBm, eUm, eAm, eSub, eSli, esN, esC, oN, oS, gLoc, gCel, gAttr, gSub, gTup, gsC, cEq, cNe, cLt, cLe, cGt, cGe, cIn, cNi, ltII, bII, bSS, bRR, bRI, biAdd, biSub, biMul, biMod, biDiv, biPow, adS, adL, mlL, iII, iSS, niAdd, niSub, niDiv, fLen, fAbs, fStr, fMin, fRng, rg1, rg2, fItr, fSum, o1, lnS, lnR, vI, vS, vR, lc0, lcS, List.getElem?_cons_zero, List.getElem?_cons_succ, List.set_cons_zero, List.set_cons_succ, List.length_cons, List.length_nil, qSS, qII, qIS, qSI, nS, inO, o2, hkI, hkS, hkR, hkN, sqN, ssN]
  refine sliM hX hbg (Nat.le_trans hfi (Nat.le_trans hX (by decide))) ?_
  rw [Nat.min_eq_left hfi, Nat.add_sub_cancel_left]
  have hsl : ((X.drop bgn).take (fi es (X.drop bgn))).length ≤ 1000 := by rw [List.length_take, List.length_drop]; exact Nat.le_trans (Nat.min_le_right _ _) (Nat.le_trans (Nat.sub_le _ _) hX)
  refine ⟨Nat.le_trans hsl (by decide), show 8 < 14 by decide, ?_⟩
  refine mAssign ?_
  dsimp only [tCmp, tAnd, tOr, tNot, tLc, tAt, eK, eLoc, eStat, eBin, eCmp, eIfe, eList, eTup, eAttr, eMattr, eCall, eNew, eBf, eBm, eUm, eAm, eSub, eSli, esN, esC, oN, oS, gLoc, gCel, gAttr, gSub, gTup, gsC, cEq, cNe, cLt, cLe, cGt, cGe, cIn, cNi, ltII, bII, bSS, bRR, bRI, biAdd, biSub, biMul, biMod, biDiv, biPow, adS, adL, mlL, iII, iSS, niAdd, niSub, niDiv, fLen, fAbs, fStr, fMin, fRng, rg1, rg2, fItr, fSum, o1, lnS, lnR, vI, vS, vR, lc0, lcS, List.getElem?_cons_zero, List.getElem?_cons_succ, List.set_cons_zero, List.set_cons_succ, List.length_cons, List.length_nil, qSS, qII, qIS, qSI, nS, inO, o2, hkI, hkS, hkR, hkN, sqN, ssN]
  refine celL (cl := cT4 a b) (i := 3) (σ := ⟨_, hp1⟩) rfl hb1 ?_
  dsimp only [tCmp, tAnd, tOr, tNot, tLc, tAt, eK, eLoc, eStat, eBin, eCmp, eIfe, eList, eTup, eAttr, eMattr, eCall, eNew, eBf, eBm, eUm, eAm, eSub, eSli, esN, esC, oN, oS, gLoc, gCel, gAttr, gSub, gTup, gsC, cEq, cNe, cLt, cLe, cGt, cGe, cIn, cNi, ltII, bII, bSS, bRR, bRI, biAdd, biSub, biMul, biMod, biDiv, biPow, adS, adL, mlL, iII, iSS, niAdd, niSub, niDiv, fLen, fAbs, fStr, fMin, fRng, rg1, rg2, fItr, fSum, o1, lnS, lnR, vI, vS, vR, lc0, lcS, List.getElem?_cons_zero, List.getElem?_cons_succ, List.set_cons_zero, List.set_cons_succ, List.length_cons, List.length_nil, qSS, qII, qIS, qSI, nS, inO, o2, hkI, hkS, hkR, hkN, sqN, ssN]
  refine sliN (j := bgn + fi es (X.drop bgn) + 1) hX (Nat.succ_le_succ (Nat.le_trans hfi (Nat.le_trans hX (by decide)))) ?_
  dsimp only [tCmp, tAnd, tOr, tNot, tLc, tAt, eK, eLoc, eStat, eBin, eCmp, eIfe, eList, eTup, eAttr, eMattr, eCall, eNew, eBf, eBm, eUm, eAm, eSub, eSli, esN, esC, oN, oS, gLoc, gCel, gAttr, gSub, gTup, gsC, cEq, cNe, cLt, cLe, cGt, cGe, cIn, cNi, ltII, bII, bSS, bRR, bRI, biAdd, biSub, biMul, biMod, biDiv, biPow, adS, adL, mlL, iII, iSS, niAdd, niSub, niDiv, fLen, fAbs, fStr, fMin, fRng, rg1, rg2, fItr, fSum, o1, lnS, lnR, vI, vS, vR, lc0, lcS, List.getElem?_cons_zero, List.getElem?_cons_succ, List.set_cons_zero, List.set_cons_succ, List.length_cons, List.length_nil, qSS, qII, qIS, qSI, nS, inO, o2, hkI, hkS, hkR, hkN, sqN, ssN]
  have htl : (X.take (bgn + fi es (X.drop bgn) + 1)).length ≤ 1000 := by rw [List.length_take]; exact Nat.le_trans (Nat.min_le_right _ _) hX
  refine ⟨Nat.le_trans htl (by decide), by decide, ?_⟩
  refine mSt ?_
  refine undo_wp (kv0 := kv) (bv := some (.int (bgn : Nat))) (t0 := rep 92 [] ((X.drop bgn).take (fi es (X.drop bgn)))) (h0 := pos + (X.take (bgn + fi es (X.drop bgn) + 1)).length) (e := bgn + fi es (X.drop bgn)) hX ?_ (Nat.le_trans hfi hX) hb1 fun kv' hp2 e2 => ?_
  · refine Nat.le_trans ?_ hsl
    generalize (X.drop bgn).take (fi es (X.drop bgn)) = sl
    induction sl with
    | nil => exact Nat.le_refl _
    | cons c r ih =>
      by_cases h : c = 92
      · subst h; rw [rep_e]; exact Nat.le_succ_of_le ih
      · rw [rep_d h]; exact Nat.succ_le_succ ih
  refine mSq (mRet ?_)
  unfold lt4
  dsimp only [tCmp, tAnd, tOr, tNot, tLc, tAt, eK, eLoc, eStat, eBin, eCmp, eIfe, eList, eTup, eAttr, eMattr, eCall, eNew, eBf, eBm, eUm, eAm, eSub, eSli, esN, esC, oN, oS, gLoc, gCel, gAttr, gSub, gTup, gsC, cEq, cNe, cLt, cLe, cGt, cGe, cIn, cNi, ltII, bII, bSS, bRR, bRI, biAdd, biSub, biMul, biMod, biDiv, biPow, adS, adL, mlL, iII, iSS, niAdd, niSub, niDiv, fLen, fAbs, fStr, fMin, fRng, rg1, rg2, fItr, fSum, o1, lnS, lnR, vI, vS, vR, lc0, lcS, List.getElem?_cons_zero, List.getElem?_cons_succ, List.set_cons_zero, List.set_cons_succ, List.length_cons, List.length_nil, qSS, qII, qIS, qSI, nS, inO, o2, hkI, hkS, hkR, hkN, sqN, ssN]
  refine ⟨show 2 ≤ big by decide, ?_⟩
  exact hK _ _ List.getElem?_concat_length ((e1.trans e2).trans .app)
theorem tokA_wp {K : V → List O → Prop} (hpos : pos ≤ text.length) (hsm : text.length ≤ 1000) (hin : In text) {hp1 : List O} (x0 : Ext [] hp hp1) (a0 : hp1[a]? = some (.cell none)) (b0 : hp1[b]? = some (.cell none)) (la : hp.length ≤ a) (lb : hp.length ≤ b) (hab : a ≠ b)
    (hK : ∀ i hp', hp'[i]? = some (.tup [.str (lexS (text.drop pos)).1, .int ((text.length - (lexS (text.drop pos)).2.length : Nat))]) → Ext [] hp hp' → K (.ref i) hp') :
    wpSs G n (cT4 a b) k is_tok4 ⟨[some (.str text), some (.int (pos : Nat)), none, none, none, none, none, none, none, none, none, none, none, none], hp1⟩ (RetOk hp K) := by
  obtain ⟨q1, q2, q3⟩ := tok4 (hin.drop pos)
  have hlen : (text.drop pos).length = text.length - pos := List.length_drop
  have hl1 : (text.drop pos).length ≤ 1000 := hlen ▸ Nat.le_trans (Nat.sub_le _ _) hsm
  rw [q1, ← out_len hpos q2 hlen] at hK
  clear q1 q2 q3
  have hX : (H (text.drop pos)).length ≤ 1000 := Nat.le_trans (H_len _) hl1
  have x0 : Ext [a, b] hp hp1 := x0.mono fun _ z => nomatch z
  have fin : ∀ {hp' : List O}, Ext [a, b] hp hp' → Ext [] hp hp' := fun e => (e.drop la).drop lb
  unfold is_tok4
  refine mAssign ?_
  dsimp only [tCmp, tAnd, tOr, tNot, tLc, tAt, eK, eLoc, eStat, eBin, eCmp, eIfe, eList, eTup, eAttr, eMattr, eCall, eNew, eBf, eBm, eUm, eAm, eSub, eSli, esN, esC, oN, oS, gLoc, gCel, gAttr, gSub, gTup, gsC, cEq, cNe, cLt, cLe, cGt, cGe, cIn, cNi, ltII, bII, bSS, bRR, bRI, biAdd, biSub, biMul, biMod, biDiv, biPow, adS, adL, mlL, iII, iSS, niAdd, niSub, niDiv, fLen, fAbs, fStr, fMin, fRng, rg1, rg2, fItr, fSum, o1, lnS, lnR, vI, vS, vR, lc0, lcS, List.getElem?_cons_zero, List.getElem?_cons_succ, List.set_cons_zero, List.set_cons_succ, List.length_cons, List.length_nil, qSS, qII, qIS, qSI, nS, inO, o2, hkI, hkS, hkR, hkN, sqN, ssN]
  refine ⟨by decide, mAssign ?_⟩
  dsimp only [tCmp, tAnd, tOr, tNot, tLc, tAt, eK, eLoc, eStat, eBin, eCmp, eIfe, eList, eTup, eAttr, eMattr, eCall, eNew, eBf, eBm, eUm, eAm, eSub, eSli, esN, esC, oN, oS, gLoc, gCel, gAttr, gSub, gTup, gsC, cEq, cNe, cLt, cLe, cGt, cGe, cIn, cNi, ltII, bII, bSS, bRR, bRI, biAdd, biSub, biMul, biMod, biDiv, biPow, adS, adL, mlL, iII, iSS, niAdd, niSub, niDiv, fLen, fAbs, fStr, fMin, fRng, rg1, rg2, fItr, fSum, o1, lnS, lnR, vI, vS, vR, lc0, lcS, List.getElem?_cons_zero, List.getElem?_cons_succ, List.set_cons_zero, List.set_cons_succ, List.length_cons, List.length_nil, qSS, qII, qIS, qSI, nS, inO, o2, hkI, hkS, hkR, hkN, sqN, ssN]
  rw [show wpSli (.str text) (some (.int (pos : Nat))) none = sliV (.str text) (some (pos : Nat)) none from rfl, svS, cut_drop hpos]
  refine ⟨fun k e => by cases e; exact fitN (small hpos hsm), fun k e => (nomatch e), Nat.le_trans hsm (by decide), ?_⟩
  refine onC_mk rfl b0 ?_
  have x1 : Ext [a, b] hp (hp1.set b (.cell (some (.str (text.drop pos))))) := x0.trans (.set (.tail _ (.head _)))
  have b1 : (hp1.set b (.cell (some (.str (text.drop pos)))))[b]? = some (.cell (some (.str (text.drop pos)))) := List.getElem?_set_self (lt_of_get b0)
  have a1 : (hp1.set b (.cell (some (.str (text.drop pos)))))[a]? = some (.cell none) := (List.getElem?_set_ne (Ne.symm hab)).trans a0
  dsimp only
  generalize hp1.set b (.cell (some (.str (text.drop pos)))) = hp2 at x1 b1 a1 ⊢
  refine mSt (hide_wp (pos := pos) (text := text) hl1 b1 fun kv hp3 b3 e3 => mSq (mAssign ?_))
  have a3 := e3.get a1 (fun z => hab (List.mem_singleton.mp z))
  have x3 := x1.trans (e3.mono fun i hi => by rw [List.mem_singleton.mp hi]; exact .tail _ (.head _))
  generalize hH : H (text.drop pos) = X at hX b3
  have hbg : bg (text.drop pos) = if (X.drop (fw X)).take 1 = [34] then fw X + 1 else fw X := by unfold bg; rw [hH]
  have hen : en (text.drop pos) = if (X.drop (fw X)).take 1 = [34] then [34] else L03.wsE := by unfold en; rw [hH]
  have hed : ed (text.drop pos) = bg (text.drop pos) + fi (en (text.drop pos)) (X.drop (bg (text.drop pos))) := by unfold ed; rw [hH]
  rw [hH, hed, Nat.add_sub_cancel_left] at hK
  have hfw : fw X ≤ X.length := List.findIdx_le_length
  refine min_wp (fr := [none, none, some 3]) (N := 1) (lo := 0) (b := b) (X := X) (σ := ⟨lt4 text pos kv none none none none, hp3⟩) (fun c => !decide (c ∈ L03.wsE)) (fun q hq => ?_) (fun K' h => ?_) rfl b3 hX (Nat.zero_le _) (fun i hi t K' h => ?_) fun hp4 e4 => ?_
  · simp only [List.mem_cons, Option.some.injEq, reduceCtorEq, List.not_mem_nil, or_false, false_or] at hq
    subst hq; exact ⟨_, rfl⟩
  · rw [eBf, esC]
    refine len_mk (σ := ⟨lt4 text pos kv none none none none, hp3⟩) rfl b3 hX ?_
    rw [esN]
    exact ⟨fitN (small (Nat.le_refl _) hX), h⟩
  · show wpT G n [none, none, some b] _ ⟨[none, some (.int (i : Nat)), none], hp3 ++ t⟩ K'
    have h : K' (!decide (X.getD i 0 ∈ L03.wsE)) ⟨[none, some (.int (i : Nat)), none], hp3 ++ t⟩ := h
    have ea : Ext [] hp3 (hp3 ++ t) := .app
    dsimp only [tCmp, tAnd, tOr, tNot, tLc, tAt, eK, eLoc, eStat, eBin, eCmp, eIfe, eList, eTup, eAttr, eMattr, eCall, eNew, eBf, eBm, eUm, eAm, eSub, eSli, esN, esC, oN, oS, gLoc, gCel, gAttr, gSub, gTup, gsC, cEq, cNe, cLt, cLe, cGt, cGe, cIn, cNi, ltII, bII, bSS, bRR, bRI, biAdd, biSub, biMul, biMod, biDiv, biPow, adS, adL, mlL, iII, iSS, niAdd, niSub, niDiv, fLen, fAbs, fStr, fMin, fRng, rg1, rg2, fItr, fSum, o1, lnS, lnR, vI, vS, vR, lc0, lcS, List.getElem?_cons_zero, List.getElem?_cons_succ, List.set_cons_zero, List.set_cons_succ, List.length_cons, List.length_nil, qSS, qII, qIS, qSI, nS, inO, o2, hkI, hkS, hkR, hkN, sqN, ssN]
    refine celL (cl := [none, none, some b]) (i := 2) (σ := ⟨_, hp3 ++ t⟩) rfl (ea.get b3 (fun z => nomatch z)) ?_
    dsimp only [tCmp, tAnd, tOr, tNot, tLc, tAt, eK, eLoc, eStat, eBin, eCmp, eIfe, eList, eTup, eAttr, eMattr, eCall, eNew, eBf, eBm, eUm, eAm, eSub, eSli, esN, esC, oN, oS, gLoc, gCel, gAttr, gSub, gTup, gsC, cEq, cNe, cLt, cLe, cGt, cGe, cIn, cNi, ltII, bII, bSS, bRR, bRI, biAdd, biSub, biMul, biMod, biDiv, biPow, adS, adL, mlL, iII, iSS, niAdd, niSub, niDiv, fLen, fAbs, fStr, fMin, fRng, rg1, rg2, fItr, fSum, o1, lnS, lnR, vI, vS, vR, lc0, lcS, List.getElem?_cons_zero, List.getElem?_cons_succ, List.set_cons_zero, List.set_cons_succ, List.length_cons, List.length_nil, qSS, qII, qIS, qSI, nS, inO, o2, hkI, hkS, hkR, hkN, sqN, ssN]
    rw [suS]
    refine ⟨fitN (small (Nat.le_of_lt hi) hX), subS_mk (at_get hi) ?_⟩
    dsimp only [tCmp, tAnd, tOr, tNot, tLc, tAt, eK, eLoc, eStat, eBin, eCmp, eIfe, eList, eTup, eAttr, eMattr, eCall, eNew, eBf, eBm, eUm, eAm, eSub, eSli, esN, esC, oN, oS, gLoc, gCel, gAttr, gSub, gTup, gsC, cEq, cNe, cLt, cLe, cGt, cGe, cIn, cNi, ltII, bII, bSS, bRR, bRI, biAdd, biSub, biMul, biMod, biDiv, biPow, adS, adL, mlL, iII, iSS, niAdd, niSub, niDiv, fLen, fAbs, fStr, fMin, fRng, rg1, rg2, fItr, fSum, o1, lnS, lnR, vI, vS, vR, lc0, lcS, List.getElem?_cons_zero, List.getElem?_cons_succ, List.set_cons_zero, List.set_cons_succ, List.length_cons, List.length_nil, qSS, qII, qIS, qSI, nS, inO, o2, hkI, hkS, hkR, hkN, sqN, ssN]
    exact h
  have e4 : Ext [] hp3 hp4 := e4
  have a4 := e4.get a3 (fun z => nomatch z)
  have b4 := e4.get b3 (fun z => nomatch z)
  have x4 := x3.trans (e4.mono fun _ z => nomatch z)
  rw [List.drop_zero, Nat.zero_add]
  show 5 < 14 ∧ wpSs G n (cT4 a b) k _ ⟨lt4 text pos kv (some (.int (fw X : Nat))) none none none, hp4⟩ _
  refine ⟨by decide, mAssign ?_⟩
  unfold lt4
  dsimp only [tCmp, tAnd, tOr, tNot, tLc, tAt, eK, eLoc, eStat, eBin, eCmp, eIfe, eList, eTup, eAttr, eMattr, eCall, eNew, eBf, eBm, eUm, eAm, eSub, eSli, esN, esC, oN, oS, gLoc, gCel, gAttr, gSub, gTup, gsC, cEq, cNe, cLt, cLe, cGt, cGe, cIn, cNi, ltII, bII, bSS, bRR, bRI, biAdd, biSub, biMul, biMod, biDiv, biPow, adS, adL, mlL, iII, iSS, niAdd, niSub, niDiv, fLen, fAbs, fStr, fMin, fRng, rg1, rg2, fItr, fSum, o1, lnS, lnR, vI, vS, vR, lc0, lcS, List.getElem?_cons_zero, List.getElem?_cons_succ, List.set_cons_zero, List.set_cons_succ, List.length_cons, List.length_nil, qSS, qII, qIS, qSI, nS, inO, o2, hkI, hkS, hkR, hkN, sqN, ssN]
  refine onC_mk rfl a4 ?_
  have x5 : Ext [a, b] hp (hp4.set a (.cell (some (.str L03.wsE)))) := x4.trans (.set (.head _))
  have a5 : (hp4.set a (.cell (some (.str L03.wsE))))[a]? = some (.cell (some (.str L03.wsE))) := List.getElem?_set_self (lt_of_get a4)
  have b5 : (hp4.set a (.cell (some (.str L03.wsE))))[b]? = some (.cell (some (.str X))) := (List.getElem?_set_ne hab).trans b4
  generalize hp4.set a (.cell (some (.str L03.wsE))) = hp5 at x5 a5 b5 ⊢
  refine mIte ?_
  dsimp only [tCmp, tAnd, tOr, tNot, tLc, tAt, eK, eLoc, eStat, eBin, eCmp, eIfe, eList, eTup, eAttr, eMattr, eCall, eNew, eBf, eBm, eUm, eAm, eSub, eSli, esN, esC, oN, oS, gLoc, gCel, gAttr, gSub, gTup, gsC, cEq, cNe, cLt, cLe, cGt, cGe, cIn, cNi, ltII, bII, bSS, bRR, bRI, biAdd, biSub, biMul, biMod, biDiv, biPow, adS, adL, mlL, iII, iSS, niAdd, niSub, niDiv, fLen, fAbs, fStr, fMin, fRng, rg1, rg2, fItr, fSum, o1, lnS, lnR, vI, vS, vR, lc0, lcS, List.getElem?_cons_zero, List.getElem?_cons_succ, List.set_cons_zero, List.set_cons_succ, List.length_cons, List.length_nil, qSS, qII, qIS, qSI, nS, inO, o2, hkI, hkS, hkR, hkN, sqN, ssN]
  refine celL (cl := cT4 a b) (i := 3) (σ := ⟨_, hp5⟩) rfl b5 ?_
  dsimp only [tCmp, tAnd, tOr, tNot, tLc, tAt, eK, eLoc, eStat, eBin, eCmp, eIfe, eList, eTup, eAttr, eMattr, eCall, eNew, eBf, eBm, eUm, eAm, eSub, eSli, esN, esC, oN, oS, gLoc, gCel, gAttr, gSub, gTup, gsC, cEq, cNe, cLt, cLe, cGt, cGe, cIn, cNi, ltII, bII, bSS, bRR, bRI, biAdd, biSub, biMul, biMod, biDiv, biPow, adS, adL, mlL, iII, iSS, niAdd, niSub, niDiv, fLen, fAbs, fStr, fMin, fRng, rg1, rg2, fItr, fSum, o1, lnS, lnR, vI, vS, vR, lc0, lcS, List.getElem?_cons_zero, List.getElem?_cons_succ, List.set_cons_zero, List.set_cons_succ, List.length_cons, List.length_nil, qSS, qII, qIS, qSI, nS, inO, o2, hkI, hkS, hkR, hkN, sqN, ssN]
  rw [slII, svS, cut_one hfw]
  refine ⟨fun k e => by cases e; exact fitN (small hfw hX), fun k e => by cases e; exact fitN (i := fw X + 1) (Nat.le_trans (Nat.succ_le_succ (Nat.le_trans hfw hX)) (by decide)), Nat.le_trans hX (by decide), ?_⟩
  dsimp only [tCmp, tAnd, tOr, tNot, tLc, tAt, eK, eLoc, eStat, eBin, eCmp, eIfe, eList, eTup, eAttr, eMattr, eCall, eNew, eBf, eBm, eUm, eAm, eSub, eSli, esN, esC, oN, oS, gLoc, gCel, gAttr, gSub, gTup, gsC, cEq, cNe, cLt, cLe, cGt, cGe, cIn, cNi, ltII, bII, bSS, bRR, bRI, biAdd, biSub, biMul, biMod, biDiv, biPow, adS, adL, mlL, iII, iSS, niAdd, niSub, niDiv, fLen, fAbs, fStr, fMin, fRng, rg1, rg2, fItr, fSum, o1, lnS, lnR, vI, vS, vR, lc0, lcS, List.getElem?_cons_zero, List.getElem?_cons_succ, List.set_cons_zero, List.set_cons_succ, List.length_cons, List.length_nil, qSS, qII, qIS, qSI, nS, inO, o2, hkI, hkS, hkR, hkN, sqN, ssN]
  by_cases hq : (X.drop (fw X)).take 1 = [34]
  · rw [if_pos hq] at hbg hen
    rw [hbg, hen] at hK
    have hb1 : fw X + 1 ≤ X.length := by
      obtain ⟨r, hr⟩ := take1_cons hq
      exact lt_of_drop hr
    refine ifp (by rw [hq]; rfl) ?_
    refine mAugL ?_
    dsimp only [tCmp, tAnd, tOr, tNot, tLc, tAt, eK, eLoc, eStat, eBin, eCmp, eIfe, eList, eTup, eAttr, eMattr, eCall, eNew, eBf, eBm, eUm, eAm, eSub, eSli, esN, esC, oN, oS, gLoc, gCel, gAttr, gSub, gTup, gsC, cEq, cNe, cLt, cLe, cGt, cGe, cIn, cNi, ltII, bII, bSS, bRR, bRI, biAdd, biSub, biMul, biMod, biDiv, biPow, adS, adL, mlL, iII, iSS, niAdd, niSub, niDiv, fLen, fAbs, fStr, fMin, fRng, rg1, rg2, fItr, fSum, o1, lnS, lnR, vI, vS, vR, lc0, lcS, List.getElem?_cons_zero, List.getElem?_cons_succ, List.set_cons_zero, List.set_cons_succ, List.length_cons, List.length_nil, qSS, qII, qIS, qSI, nS, inO, o2, hkI, hkS, hkR, hkN, sqN, ssN]
    refine ⟨by decide, mAssign ?_⟩
    dsimp only [tCmp, tAnd, tOr, tNot, tLc, tAt, eK, eLoc, eStat, eBin, eCmp, eIfe, eList, eTup, eAttr, eMattr, eCall, eNew, eBf, eBm, eUm, eAm, eSub, eSli, esN, esC, oN, oS, gLoc, gCel, gAttr, gSub, gTup, gsC, cEq, cNe, cLt, cLe, cGt, cGe, cIn, cNi, ltII, bII, bSS, bRR, bRI, biAdd, biSub, biMul, biMod, biDiv, biPow, adS, adL, mlL, iII, iSS, niAdd, niSub, niDiv, fLen, fAbs, fStr, fMin, fRng, rg1, rg2, fItr, fSum, o1, lnS, lnR, vI, vS, vR, lc0, lcS, List.getElem?_cons_zero, List.getElem?_cons_succ, List.set_cons_zero, List.set_cons_succ, List.length_cons, List.length_nil, qSS, qII, qIS, qSI, nS, inO, o2, hkI, hkS, hkR, hkN, sqN, ssN]
    refine onC_mk rfl a5 ?_
    have x6 : Ext [a, b] hp (hp5.set a (.cell (some (.str [34])))) := x5.trans (.set (.head _))
    have a6 : (hp5.set a (.cell (some (.str [34]))))[a]? = some (.cell (some (.str [34]))) := List.getElem?_set_self (lt_of_get a5)
    have b6 : (hp5.set a (.cell (some (.str [34]))))[b]? = some (.cell (some (.str X))) := (List.getElem?_set_ne hab).trans b5
    exact tokB_wp (bgn := fw X + 1) hX hb1 b6 a6 (fin x6) hK
  · rw [if_neg hq] at hbg hen
    rw [hbg, hen] at hK
    refine ifn (by simpa using hq) ?_
    exact tokB_wp (bgn := fw X) hX hfw b5 a5 (fin x5) hK
theorem tok4_wp {K : V → List O → Prop} (hpos : pos ≤ text.length) (hsm : text.length ≤ 1000) (hin : In text)
    (hK : ∀ i hp', hp'[i]? = some (.tup [.str (lexS (text.drop pos)).1, .int ((text.length - (lexS (text.drop pos)).2.length : Nat))]) → Ext [] hp hp' → K (.ref i) hp') :
    wpSs G n (cT4 hp.length (hp.length + 1)) k is_tok4 ⟨[some (.str text), some (.int (pos : Nat)), none, none, none, none, none, none, none, none, none, none, none, none], hp ++ [.cell none, .cell none]⟩ (RetOk hp K) :=
  tokA_wp hpos hsm hin .app (by rw [List.getElem?_append_right (Nat.le_refl _), Nat.sub_self]; rfl) (by rw [List.getElem?_append_right (Nat.le_add_right _ 1), Nat.add_sub_cancel_left]; rfl) (Nat.le_refl _) (Nat.le_succ _) (Nat.ne_of_lt (Nat.lt_succ_self _)) hK
end
end L04
end Mine
namespace Mine
open PySem PySem.W PySem.Calls PyProof.Rows
namespace L04
noncomputable def upto (g : Nat → V) (j : Nat) : List V := (List.range j).map g
theorem upto_s (g : Nat → V) (j : Nat) : upto g (j + 1) = upto g j ++ [g j] := by unfold upto; rw [List.range_succ, List.map_append]; rfl
theorem upto_len (g : Nat → V) (j : Nat) : (upto g j).length = j := by unfold upto; rw [List.length_map, List.length_range]
section
variable {G : Stat} {n : Nat}
noncomputable def Pu (g : Nat → V) (N : Nat) (σ : St) (j : Nat) (σ' : St) : Prop := j ≤ 1000 ∧ σ'.hp = σ.hp ++ [.list (upto g j)] ∧ (σ'.loc = List.replicate (N + 2) none ∨ ∃ y, σ'.loc = (List.replicate (N + 2) none).set 1 (some y))
theorem Pu.turn {cl : List (Option Nat)} {elt : IE} {N j : Nat} {g : Nat → V} {x : V} {σ σ' : St} (h : Pu g N σ j σ') (hj : j < 1000)
    (he : ∀ t (K' : V → St → Prop), K' (g j) ⟨(List.replicate (N + 2) none).set 1 (some x), σ.hp ++ t⟩ → wpE G n cl elt ⟨(List.replicate (N + 2) none).set 1 (some x), σ.hp ++ t⟩ K') : turn1 elt 1 [] G n cl σ.hp.length (Pu g N σ (j + 1)) x σ' := by
  obtain ⟨loc', hp'⟩ := σ'
  obtain ⟨_, h1, h2⟩ := h
  simp only at h1 h2
  subst h1
  refine turn_mk ?_
  have hl : loc'.set 1 (some x) = (List.replicate (N + 2) none).set 1 (some x) := by
    rcases h2 with h2 | ⟨y, h2⟩
    · rw [h2]
    · rw [h2, set_rep]
  show wpE G n cl elt ⟨loc'.set 1 (some x), _⟩ _
  rw [hl]
  refine he _ _ (onL_mk List.getElem?_concat_length ⟨?_, hj, ?_, .inr ⟨_, rfl⟩⟩)
  · rw [upto_len]; exact Nat.le_trans (Nat.le_of_lt hj) (by decide)
  · show (σ.hp ++ [O.list (upto g j)]).set σ.hp.length _ = _
    rw [List.set_append_right _ _ (Nat.le_refl _), Nat.sub_self, upto_s]; rfl
theorem comp_rng {cl : List (Option Nat)} {elt : IE} {N q M : Nat} (g : Nat → V) {σ : St} {K : V → St → Prop} (hq : σ.hp[q]? = some (.rng 0 (M : Nat))) (hM : M ≤ 1000)
    (he : ∀ j, j < M → ∀ t (K' : V → St → Prop), K' (g j) ⟨(List.replicate (N + 2) none).set 1 (some (.int (j : Nat))), σ.hp ++ t⟩ → wpE G n cl elt ⟨(List.replicate (N + 2) none).set 1 (some (.int (j : Nat))), σ.hp ++ t⟩ K')
    (hK : K (.ref σ.hp.length) ⟨σ.loc, σ.hp ++ [.list (upto g M)]⟩) : wpIterG (turn1 elt 1 [] G n cl) (N + 2) (.ref q) σ K := by
  unfold wpIterG
  simp only [hq]
  refine ⟨fit1000 (by decide) (by decide), fitN (Nat.le_trans hM (by decide)), Pu g N σ, ⟨Nat.zero_le _, rfl, .inl rfl⟩, fun j σ' h => ⟨fun hlt => ?_, fun hj => ?_⟩⟩
  · have hlt : j < M := by rw [Int.zero_add] at hlt; exact Int.ofNat_lt.mp hlt
    rw [Int.zero_add]
    exact h.turn (Nat.lt_of_lt_of_le hlt hM) (he j hlt)
  · have hj : j = M := by rw [Int.sub_zero, Int.toNat_natCast] at hj; exact hj
    subst hj
    rw [h.2.1]; exact hK
theorem comp_idx {cl : List (Option Nat)} {elt : IE} {N q : Nat} {xs : List V} (g : Nat → V) {σ : St} {K : V → St → Prop} (hq : σ.hp[q]? = some (.list xs)) (hM : xs.length ≤ 1000)
    (he : ∀ j x, xs[j]? = some x → ∀ t (K' : V → St → Prop), K' (g j) ⟨(List.replicate (N + 2) none).set 1 (some x), σ.hp ++ t⟩ → wpE G n cl elt ⟨(List.replicate (N + 2) none).set 1 (some x), σ.hp ++ t⟩ K')
    (hK : K (.ref σ.hp.length) ⟨σ.loc, σ.hp ++ [.list (upto g xs.length)]⟩) : wpIterG (turn1 elt 1 [] G n cl) (N + 2) (.ref q) σ K := by
  refine comp_lst hq (Pu g N σ) ⟨Nat.zero_le _, rfl, .inl rfl⟩ (fun j σ' h => ?_) (fun j σ' x hx h => h.turn (Nat.lt_of_lt_of_le (lt_of_get hx) hM) (he j x hx)) (fun σ' h => by rw [h.2.1]; exact hK)
  rw [h.2.1, List.getElem?_append_left (lt_of_get hq)]; exact hq
end
theorem any_ints (x : Int) : ∀ ws : List Int, ((ws.map PyData.int).any fun e => PyData.eqv e (.int x)) = decide (x ∈ ws)
  | [] => rfl
  | y :: ws => by
    rw [List.map_cons, List.any_cons, any_ints x ws]
    by_cases h : y = x
    · subst h; simp [PyData.eqv]
    · simp [PyData.eqv, h, Ne.symm h]
theorem in_mk {σ : St} {K : Bool → St → Prop} {i : Nat} {x : Int} {ws : List Int} (h : σ.hp[i]? = some (.list (ws.map V.int))) (hK : K (decide (x ∈ ws)) σ) : wpIn (.int x) (.ref i) σ K := by
  rw [nR]
  exact ⟨.int x, ws.map PyData.int, rfl, .inr (rd_ints h), by rw [any_ints]; exact hK⟩
theorem nl_cut {text : List Nat} {a b : Nat} (h : a ≤ b) (hb : b ≤ text.length) : nl (cutL text (some (a : Int)) (some (b : Int))) = nl (text.take b) - nl (text.take a) := by
  rw [cut_at, Nat.min_eq_left (Nat.le_trans h hb), Nat.min_eq_left hb]
  have e : text.take b = text.take a ++ (text.drop a).take (b - a) := by
    conv => lhs; rw [← Nat.add_sub_of_le h, List.take_add]
  rw [e]
  unfold nl
  rw [List.count_append]
  omega
theorem RSc.at {G : Stat} {T : SA} {text : List Nat} {f : Nat → Int} : ∀ (r : List UM) (X : UM) {pos : Nat} {hp : List O}, RSc G T text f X r pos hp → hp[T.a]? = some (.list [.int (pos : Nat)]) ∧ pos ≤ text.length
  | [], _, _, _, h => ⟨h.1.a, h.1.le⟩
  | _ :: r, _, _, _, h => RSc.at r _ h.1
structure S4 (T : SA) (X : UM) (r : List UM) (W : Nat) (Ps : List (Nat × O)) : Prop where
  ap : ∀ p ∈ Ps, p.1 ≠ T.a ∧ p.1 ≠ W ∧ (p.1 ≠ 3 ∧ p.1 ≠ 4 ∧ p.1 ≠ 5) ∧ (∀ (k : Nat) (Y : UM), (X :: r).reverse[k]? = some Y → Y.2.p ≠ p.1) ∧ ∀ fs, p.2 ≠ .dct fs
  w : W ≠ T.a ∧ ∀ (k : Nat) (Y : UM), (X :: r).reverse[k]? = some Y → Y.2.p ≠ W
structure C4 (G : Stat) (T : SA) (text : List Nat) (W : Nat) (Ps : List (Nat × O)) (X : UM) (r : List UM) (f : Nat → Int) (bk : Nat → List V) (pos : Nat) (ws : List Int) (pl : Nat) (ls : List V) (c : Nat → Option V) (hp : List O) : Prop where
  q : Q4 6 G T text f X r bk pos hp
  st : S4 T X r W Ps
  pin : ∀ p ∈ Ps, hp[p.1]? = some p.2
  wai : hp[W]? = some (.list (ws.map .int))
  lin : hp[pl]? = some (.list ls)
  pa : pl ≠ T.a ∧ pl ≠ W ∧ ∀ (k : Nat) (Y : UM), (X :: r).reverse[k]? = some Y → Y.2.p ≠ pl
  cel : ∀ i, i = 3 ∨ i = 4 ∨ i = 5 → hp[i]? = some (.cell (c i))
section
variable {G : Stat} {T : SA} {text : List Nat} {W : Nat} {Ps : List (Nat × O)} {X : UM} {r : List UM} {f f' : Nat → Int} {bk bk' : Nat → List V} {pos pos' : Nat} {ws : List Int} {pl : Nat} {ls : List V} {c : Nat → Option V} {hp hp' : List O} (lx : Lx G) (lt : Lt2 G)
theorem C4.go (h : C4 G T text W Ps X r f bk pos ws pl ls c hp) (q' : Q4 6 G T text f' X r bk' pos' hp') {l : List Nat} (e : Ext l hp hp') (hl : ∀ i ∈ l, (∀ p ∈ Ps, p.1 ≠ i) ∧ W ≠ i ∧ pl ≠ i ∧ ∀ v, hp[i]? ≠ some (.cell v)) : C4 G T text W Ps X r f' bk' pos' ws pl ls c hp' :=
  ⟨q', h.st, fun p hp => e.get (h.pin p hp) fun m => (hl _ m).1 p hp rfl, e.get h.wai fun m => (hl _ m).2.1 rfl, e.get h.lin fun m => (hl _ m).2.2.1 rfl, h.pa, fun i hi => e.get (h.cel i hi) fun m => (hl _ m).2.2.2 _ (h.cel i hi)⟩
include lx lt in
theorem C4.ext0 (h : C4 G T text W Ps X r f bk pos ws pl ls c hp) (e : Ext [] hp hp') : C4 G T text W Ps X r f bk pos ws pl ls c hp' := h.go (h.q.ext0 lx lt e) e fun _ z => nomatch z
theorem C4.ask (h : C4 G T text W Ps X r f bk pos ws pl ls c hp) (q' : Q4 6 G T text f' X r bk pos' hp') (e : Ext (Lc T X r) hp hp') : C4 G T text W Ps X r f' bk pos' ws pl ls c hp' := by
  refine h.go q' e fun i hi => ?_
  rcases h.q.rs.ck r X i hi with rfl | ⟨fs, hd⟩
  · exact ⟨fun p hp => (h.st.ap p hp).1, h.st.w.1, h.pa.1, fun v z => by rw [(RSc.at r X h.q.rs).1] at z; cases z⟩
  · exact ⟨fun p hp q => (h.st.ap p hp).2.2.2.2 fs (by have := h.pin p hp; rw [q, hd] at this; exact (Option.some.inj this).symm), ne_of h.wai hd (fun z => nomatch z), ne_of h.lin hd (fun z => nomatch z), fun v z => by rw [hd] at z; cases z⟩
include lx lt in
theorem C4.pop {x : V} {xs : List V} {Y : UM} {k n : Nat} {K : V → List O → Prop} (h : C4 G T text W Ps X r f bk pos ws pl ls c hp) (hY : (X :: r).reverse[k]? = some Y) (hb : bk k = x :: xs) (hl : xs.length ≤ 1000)
    (hK : ∀ hp', C4 G T text W Ps X r f (upd bk k xs) pos ws pl ls c hp' → K x hp') : CallT G (n + 1) (.stat (.ref (G.mf .getToken))) [.ref Y.2.s] hp K :=
  h.q.get1 lx lt hY hb hl fun q' => hK _ (h.go q' (.set (.head _)) fun i hi => by
    rw [List.mem_singleton.mp hi]
    exact ⟨fun p hp q => (h.st.ap p hp).2.2.2.1 k Y hY q.symm, fun q => h.st.w.2 k Y hY q.symm, fun q => h.pa.2.2 k Y hY q.symm, fun v z => by rw [(h.q.pb k Y hY).1] at z; cases z⟩)
theorem i345 {i : Nat} (h : i = 3 ∨ i = 4 ∨ i = 5) : i < 6 := by rcases h with rfl | rfl | rfl <;> decide
include lx lt in
theorem C4.cel1 (h : C4 G T text W Ps X r f bk pos ws pl ls c hp) {i : Nat} (hi : i = 3 ∨ i = 4 ∨ i = 5) (v : Option V) : C4 G T text W Ps X r f bk pos ws pl ls (fun j => if j = i then v else c j) (hp.set i (.cell v)) := by
  have e : Ext [i] hp (hp.set i (.cell v)) := .set (.head _)
  have hc := h.cel i hi
  refine ⟨h.q.cell lx lt hc (i345 hi) _, h.st, fun p hp => e.get (h.pin p hp) fun m => ?_, e.get h.wai (by rw [List.mem_singleton]; exact ne_of h.wai hc (fun z => nomatch z)), e.get h.lin (by rw [List.mem_singleton]; exact ne_of h.lin hc (fun z => nomatch z)), h.pa, fun j hj => ?_⟩
  · have := (h.st.ap p hp).2.2.1
    rw [List.mem_singleton.mp m] at this
    rcases hi with rfl | rfl | rfl
    · exact this.1 rfl
    · exact this.2.1 rfl
    · exact this.2.2 rfl
  · by_cases q : j = i
    · subst q
      rw [if_pos rfl]; exact List.getElem?_set_self (lt_of_get hc)
    · rw [if_neg q, List.getElem?_set_ne (Ne.symm q)]; exact h.cel j hj
include lx lt in
theorem C4.wset (h : C4 G T text W Ps X r f bk pos ws pl ls c hp) (ws' : List Int) : C4 G T text W Ps X r f bk pos ws' pl ls c (hp.set W (.list (ws'.map .int))) := by
  have e : Ext [W] hp (hp.set W (.list (ws'.map .int))) := .set (.head _)
  exact ⟨h.q.list lx lt h.wai h.st.w.1 h.st.w.2 _, h.st, fun p hp => e.get (h.pin p hp) fun m => (h.st.ap p hp).2.1 (List.mem_singleton.mp m), List.getElem?_set_self (lt_of_get h.wai), e.get h.lin fun m => h.pa.2.1 (List.mem_singleton.mp m), h.pa, fun i hi => e.get (h.cel i hi) (by rw [List.mem_singleton]; exact ne_of (h.cel i hi) h.wai (fun z => nomatch z))⟩
theorem C4.lset (h : C4 G T text W Ps X r f bk pos ws pl ls c hp) {pl' : Nat} {ls' : List V} (h1 : hp[pl']? = some (.list ls')) (h2 : pl' ≠ T.a ∧ pl' ≠ W ∧ ∀ (k : Nat) (Y : UM), (X :: r).reverse[k]? = some Y → Y.2.p ≠ pl') : C4 G T text W Ps X r f bk pos ws pl' ls' c hp :=
  ⟨h.q, h.st, h.pin, h.wai, h1, h2, h.cel⟩
theorem C4.fresh (h : C4 G T text W Ps X r f bk pos ws pl ls c hp) {i : Nat} (hi : hp.length ≤ i) : i ≠ T.a ∧ i ≠ W ∧ ∀ (k : Nat) (Y : UM), (X :: r).reverse[k]? = some Y → Y.2.p ≠ i :=
  ⟨Nat.ne_of_gt (Nat.lt_of_lt_of_le (lt_of_get (RSc.at r X h.q.rs).1) hi), Nat.ne_of_gt (Nat.lt_of_lt_of_le (lt_of_get h.wai) hi), fun k Y hY => Nat.ne_of_lt (Nat.lt_of_lt_of_le (lt_of_get (h.q.pb k Y hY).1) hi)⟩
end
end L04
end Mine
namespace Mine
open PySem PySem.W PySem.Calls PyProof.Rows
namespace L04
noncomputable def Wt (ws : List Int) (bk : Nat → List V) : Prop := ws.Nodup ∧ ws.length ≤ 8 ∧ ∀ j : Nat, j < 4 →
  ((j : Int) ∈ ws ∧ (j : Int) + 4 ∈ ws ∧ bk j = [.int j, .int ((j : Int) + 4)]) ∨ ((j : Int) ∉ ws ∧ (j : Int) + 4 ∈ ws ∧ bk j = [.int ((j : Int) + 4)]) ∨ ((j : Int) ∉ ws ∧ (j : Int) + 4 ∉ ws ∧ bk j = [])
theorem Wt.step {ws : List Int} {bk : Nat → List V} (h : Wt ws bk) {w : Nat} {xs : List V} {d : Int}
    (hx : ((w : Int) ∉ ws.erase d ∧ (w : Int) + 4 ∈ ws.erase d ∧ xs = [.int ((w : Int) + 4)]) ∨ ((w : Int) ∉ ws.erase d ∧ (w : Int) + 4 ∉ ws.erase d ∧ xs = [])) (hd : d = w ∨ d = (w : Int) + 4) (hw : w < 4) : Wt (ws.erase d) (upd bk w xs) := by
  refine ⟨h.1.erase d, Nat.le_trans (List.length_erase_le) h.2.1, fun j hj => ?_⟩
  unfold upd
  by_cases q : j = w
  · subst q
    rw [if_pos rfl]; exact .inr hx
  · rw [if_neg q, List.mem_erase_of_ne (show (j : Int) ≠ d by omega), List.mem_erase_of_ne (show (j : Int) + 4 ≠ d by omega)]; exact h.2.2 j hj
noncomputable def lc4 (v0 v2 : V) (text : List Nat) (T : SA) (C R W pos : Nat) (v5 v12 v13 v14 v15 : Option V) : List (Option V) :=
  [some v0, none, some v2, some (.str text), some (.ref C), v5, some (.ref T.a), some (.ref R), some (.ref W), some (.int (pos : Nat)), none, none, v12, v13, v14, v15, none, none, none, none, none, none, none, none, none]
noncomputable def cL4 : List (Option Nat) := [none, some 2, none, none, none, none, none, none, none, none, some 3, some 4, none, none, none, none, some 5]
noncomputable def rowOf (X : UM) (r : List UM) : List V := (X :: r).reverse.map fun Y => .ref Y.2.s
noncomputable def TokOk4 (G : Stat) (A : Addr) : Prop := keepIn G.K (.ref A) = true ∧ ∀ (n pos : Nat) (text : List Nat) (hp : List O) (K : V → List O → Prop), pos ≤ text.length → text.length ≤ 1000 → In text →
  (∀ i hp', hp'[i]? = some (.tup [.str (lexS (text.drop pos)).1, .int ((text.length - (lexS (text.drop pos)).2.length : Nat))]) → Ext [] hp hp' → K (.ref i) hp') → CallT G (n + 1) (.stat (.ref A)) [.str text, .int (pos : Nat)] hp K
theorem In.lt {l : List Nat} (h : In l) : ∀ c ∈ l, c < 55296 := fun c hc => by
  have : ∀ c ∈ sg, c < 55296 := by decide
  exact this c (h c hc)
theorem lexS_len (l : List Nat) (hl : In l) : (lexS l).2.length ≤ l.length := by
  rw [← (tok4 hl).2.1]; exact Nat.le_add_right _ _
theorem un_mem {t : List Nat} (h : ∀ c ∈ t, c ∈ sg ∨ ∃ e ∈ sg, c = 57344 + sg.idxOf e) : ∀ c ∈ t.map (un 10), c ∈ sg := fun c hc => by
  obtain ⟨d, hd, rfl⟩ := List.mem_map.mp hc
  rcases h d hd with q | ⟨e, he, rfl⟩
  · rw [un_sg q]; exact q
  · rw [un_z he]; exact he
theorem H_mem (l : List Nat) (hl : In l) : ∀ c ∈ H l, c ∈ sg ∨ ∃ e ∈ sg, c = 57344 + sg.idxOf e := by
  refine four (P := fun l => In l → ∀ c ∈ H l, c ∈ sg ∨ ∃ e ∈ sg, c = 57344 + sg.idxOf e) (fun _ c hc => by rw [H_nil] at hc; cases hc) (fun hl c hc => by rw [H_0] at hc; exact .inl (hl c hc)) (fun e r ih hl c hc => ?_) (fun d r hd ih hl c hc => ?_) l.length l (Nat.le_refl _) hl
  · have he := hl e (.tail _ (.head _))
    rw [H_s he] at hc
    rcases List.mem_cons.mp hc with q | q
    · exact .inr ⟨e, he, q⟩
    · exact ih hl.tail.tail c q
  · rw [H_c hd] at hc
    rcases List.mem_cons.mp hc with q | q
    · exact .inl (q ▸ hl d (.head _))
    · exact ih hl.tail c q
theorem rep_mem {t : List Nat} : ∀ c ∈ rep 92 [] t, c ∈ t := fun c hc => by
  obtain ⟨d, hd, h⟩ := List.mem_flatMap.mp hc
  split at h
  · cases h
  · exact List.mem_singleton.mp h ▸ hd
theorem lexS_in (l : List Nat) (hl : In l) : In (lexS l).1 := by
  rw [(tok4 hl).1]
  exact un_mem fun c hc => H_mem l hl c (List.mem_of_mem_drop (List.mem_of_mem_take (rep_mem c hc)))
theorem sh_0 (k : Nat) (f : Nat → Int) : sh k 0 f = f := by
  funext j
  unfold sh
  split
  · rfl
  · exact Int.sub_zero _
noncomputable def is_read4 : List IS := [
      .assign (.loc 14) (.um .readChar (.sub (.loc 7) (.cel 11)) []),
      .assign (.loc 15) (.sli (.loc 3) (some (.loc 9)) (some (.bin .Add (.loc 9) (.k (.int 1))))),
      .aug (.loc 13) .Add (.bf .len [(.loc 15)])]
noncomputable def is_rest4 (A : Addr) : List IS := [
      .assign (.loc 15) (.ife (.cmp .In (.cel 11) (.loc 8)) (.cel 11) (.bin .Add (.cel 11) (.k (.int 4)))),
      .ite (.cmp .In (.loc 15) (.loc 8)) [.expr (.comp (wpRem (.loc 8) (.loc 15)))] [.assign (.tup [(.loc 15), (.loc 13)]) (.call (.stat (.ref A)) [(.loc 3), (.loc 9)])]]
noncomputable def is_get4 (A : Addr) : List IS := .assign (.loc 14) (.um .getToken (.sub (.loc 7) (.cel 11)) []) :: is_rest4 A
section
variable {G : Stat} {T : SA} {text : List Nat} {C R W : Nat} {Ps : List (Nat × O)} {X Y : UM} {r : List UM} {f : Nat → Int} {bk : Nat → List V} {pos w : Nat} {ws : List Int} {pl : Nat} {ls : List V} {c : Nat → Option V} {hp : List O} (lx : Lx G) (lt : Lt2 G)
  {n k : Nat} {v0 v2 : V} {v5 v12 v14 v15 : Option V} {K : Fl → St → Prop} {A : Addr}
theorem w4 {w : Nat} (h : w < 4) : w ≤ 100000 := Nat.le_trans (Nat.le_of_lt h) (by decide)
theorem row_mk {loc : List (Option V)} {K : V → St → Prop} (h : C4 G T text W Ps X r f bk pos ws pl ls c hp) (hR : (R, O.list (rowOf X r)) ∈ Ps) (hc : c 4 = some (.int (w : Nat))) (hw : w < 4) (hY : (X :: r).reverse[w]? = some Y) (h7 : loc[7]? = some (some (.ref R))) (hK : K (.ref Y.2.s) ⟨loc, hp⟩) :
    wpE G n cL4 (.sub (.loc 7) (.cel 11)) ⟨loc, hp⟩ K := by
  rw [eSub, eLoc]
  refine onLoc_mk h7 ?_
  refine celL (j := 4) rfl ((h.cel 4 (.inr (.inl rfl))).trans (by rw [hc])) ?_
  exact sub_mk (h.pin _ hR) (get_map hY) (w4 hw) hK
theorem due_wp (h : C4 G T text W Ps X r f bk pos ws pl ls c hp) (hc : c 4 = some (.int (w : Nat))) (hwl : ws.length ≤ 8) {d : Int} (hd : d ∈ ws) (hdw : ((w : Int) ∈ ws ∧ d = w) ∨ ((w : Int) ∉ ws ∧ d = (w : Int) + 4))
    (hK : ∀ hp', C4 G T text W Ps X r f bk pos (ws.erase d) pl ls c hp' → K .next ⟨lc4 v0 v2 text T C R W pos v5 v12 (some (.int (pos : Nat))) v14 (some (.int d)), hp'⟩) (lx : Lx G) (lt : Lt2 G) :
    wpSs G n cL4 k (is_rest4 A) ⟨lc4 v0 v2 text T C R W pos v5 v12 (some (.int (pos : Nat))) v14 v15, hp⟩ K := by
  unfold is_rest4
  unfold lc4 at hK ⊢
  have h4 : hp[4]? = some (.cell (some (.int (w : Nat)))) := (h.cel 4 (.inr (.inl rfl))).trans (by rw [hc])
  have fin : wpSs G n cL4 k [.ite (.cmp .In (.loc 15) (.loc 8)) [.expr (.comp (wpRem (.loc 8) (.loc 15)))] [.assign (.tup [(.loc 15), (.loc 13)]) (.call (.stat (.ref A)) [(.loc 3), (.loc 9)])]]
      ⟨[some v0, none, some v2, some (.str text), some (.ref C), v5, some (.ref T.a), some (.ref R), some (.ref W), some (.int (pos : Nat)), none, none, v12, some (.int (pos : Nat)), v14, some (.int d), none, none, none, none, none, none, none, none, none], hp⟩ K := by
    refine mIte ?_
    dsimp only [tCmp, tAnd, tOr, tNot, tLc, tAt, eK, eLoc, eStat, eBin, eCmp, eIfe, eList, eTup, eAttr, eMattr, eCall, eNew, eBf, eBm, eUm, eAm, eSub, eSli, esN, esC, oN, oS, gLoc, gCel, gAttr, gSub, gTup, gsC, cEq, cNe, cLt, cLe, cGt, cGe, cIn, cNi, ltII, bII, bSS, bRR, bRI, biAdd, biSub, biMul, biMod, biDiv, biPow, adS, adL, mlL, iII, iSS, niAdd, niSub, niDiv, fLen, fAbs, fStr, fMin, fRng, rg1, rg2, fItr, fSum, o1, lnS, lnR, vI, vS, vR, lc0, lcS, List.getElem?_cons_zero, List.getElem?_cons_succ, List.set_cons_zero, List.set_cons_succ, List.length_cons, List.length_nil, qSS, qII, qIS, qSI, nS, inO, o2, hkI, hkS, hkR, hkN, sqN, ssN]
    refine in_mk (σ := ⟨_, hp⟩) h.wai (ifp (decide_eq_true hd) (mExpr ?_))
    rw [eComp]
    unfold wpRem
    dsimp only [tCmp, tAnd, tOr, tNot, tLc, tAt, eK, eLoc, eStat, eBin, eCmp, eIfe, eList, eTup, eAttr, eMattr, eCall, eNew, eBf, eBm, eUm, eAm, eSub, eSli, esN, esC, oN, oS, gLoc, gCel, gAttr, gSub, gTup, gsC, cEq, cNe, cLt, cLe, cGt, cGe, cIn, cNi, ltII, bII, bSS, bRR, bRI, biAdd, biSub, biMul, biMod, biDiv, biPow, adS, adL, mlL, iII, iSS, niAdd, niSub, niDiv, fLen, fAbs, fStr, fMin, fRng, rg1, rg2, fItr, fSum, o1, lnS, lnR, vI, vS, vR, lc0, lcS, List.getElem?_cons_zero, List.getElem?_cons_succ, List.set_cons_zero, List.set_cons_succ, List.length_cons, List.length_nil, qSS, qII, qIS, qSI, nS, inO, o2, hkI, hkS, hkR, hkN, sqN, ssN]
    refine ⟨⟨rfl, _, h.wai⟩, onL_mk h.wai ⟨ws, rfl, hd, ?_, hK _ (h.wset lx lt _)⟩⟩
    rw [List.length_map]; exact Nat.le_trans hwl (by decide)
  refine mAssign ?_
  dsimp only [tCmp, tAnd, tOr, tNot, tLc, tAt, eK, eLoc, eStat, eBin, eCmp, eIfe, eList, eTup, eAttr, eMattr, eCall, eNew, eBf, eBm, eUm, eAm, eSub, eSli, esN, esC, oN, oS, gLoc, gCel, gAttr, gSub, gTup, gsC, cEq, cNe, cLt, cLe, cGt, cGe, cIn, cNi, ltII, bII, bSS, bRR, bRI, biAdd, biSub, biMul, biMod, biDiv, biPow, adS, adL, mlL, iII, iSS, niAdd, niSub, niDiv, fLen, fAbs, fStr, fMin, fRng, rg1, rg2, fItr, fSum, o1, lnS, lnR, vI, vS, vR, lc0, lcS, List.getElem?_cons_zero, List.getElem?_cons_succ, List.set_cons_zero, List.set_cons_succ, List.length_cons, List.length_nil, qSS, qII, qIS, qSI, nS, inO, o2, hkI, hkS, hkR, hkN, sqN, ssN]
  refine celL (cl := cL4) (i := 11) (j := 4) (σ := ⟨_, hp⟩) rfl h4 (onLoc_mk (v := .ref W) rfl (in_mk (σ := ⟨_, hp⟩) h.wai ?_))
  rcases hdw with ⟨q, rfl⟩ | ⟨q, rfl⟩
  · refine ifp (decide_eq_true q) (celL (cl := cL4) (i := 11) (j := 4) (σ := ⟨_, hp⟩) rfl h4 ?_)
    exact ⟨show 15 < 25 by decide, fin⟩
  · refine ifn (by simpa using q) (celL (cl := cL4) (i := 11) (j := 4) (σ := ⟨_, hp⟩) rfl h4 ?_)
    exact ⟨show 15 < 25 by decide, fin⟩
end
end L04
end Mine
namespace Mine
open PySem PySem.W PySem.Calls PyProof.Rows
namespace L04
noncomputable def lnv (f : Nat → Int) (text : List Nat) (pos j : Nat) : V := .int (f j + nl (text.take pos))
section
variable {G : Stat} {T : SA} {text : List Nat} {C R W : Nat} {Ps : List (Nat × O)} {X Y : UM} {r : List UM} {f f' : Nat → Int} {bk : Nat → List V} {pos pos' w : Nat} {ws : List Int} {pl : Nat} {ls : List V} {c : Nat → Option V} {hp : List O} (lx : Lx G) (lt : Lt2 G)
  {n k : Nat} {v0 v2 : V} {v5 v12 v13 v14 v15 : Option V} {K : Fl → St → Prop} {A : Addr}
noncomputable def Mid (G : Stat) (T : SA) (text : List Nat) (W : Nat) (Ps : List (Nat × O)) (X : UM) (r : List UM) (f : Nat → Int) (pos w pl : Nat) (ls : List V) (c : Nat → Option V) (v : V) (pos' : Nat) (hp' : List O) : Prop :=
  ∃ bk' ws', C4 G T text W Ps X r (sh w (nl (text.take pos') - nl (text.take pos)) f) bk' pos' ws' pl ls c hp' ∧ Wt ws' bk' ∧ pos ≤ pos' ∧ PV v
variable (h : C4 G T text W Ps X r f bk pos ws pl ls c hp) (hc : c 4 = some (.int (w : Nat))) (hw : w < 4) (hY : (X :: r).reverse[w]? = some Y) (hR : (R, O.list (rowOf X r)) ∈ Ps) (hwt : Wt ws bk) (hin : In text) (hsm : text.length ≤ 1000) (hn : Nn r + 2 ≤ n)
  (hK : ∀ v pos' hp', Mid G T text W Ps X r f pos w pl ls c v pos' hp' → K .next ⟨lc4 v0 v2 text T C R W pos v5 v12 (some (.int (pos' : Nat))) (some v) (some v), hp'⟩)
include lx lt h hc hw hY hR hwt hin hsm hn hK
theorem read_wp : wpSs G n cL4 k is_read4 ⟨lc4 v0 v2 text T C R W pos v5 v12 (some (.int (pos : Nat))) v14 v15, hp⟩ K := by
  have hle := (RSc.at r X h.q.rs).2
  obtain ⟨t, m⟩ := h.q.ins hY
  unfold is_read4
  unfold lc4 at hK ⊢
  refine mAssign ?_
  rw [eUm]
  refine row_mk h hR hc hw hY rfl (onI_mk (instM m) ?_)
  rw [esN]
  refine h.q.read lx lt hY (Nat.le_of_add_right_le hn) fun hp1 q1 e1 => ⟨show 14 < 25 by decide, mAssign ?_⟩
  have h1 := h.ask q1 e1
  dsimp only [tCmp, tAnd, tOr, tNot, tLc, tAt, eK, eLoc, eStat, eBin, eCmp, eIfe, eList, eTup, eAttr, eMattr, eCall, eNew, eBf, eBm, eUm, eAm, eSub, eSli, esN, esC, oN, oS, gLoc, gCel, gAttr, gSub, gTup, gsC, cEq, cNe, cLt, cLe, cGt, cGe, cIn, cNi, ltII, bII, bSS, bRR, bRI, biAdd, biSub, biMul, biMod, biDiv, biPow, adS, adL, mlL, iII, iSS, niAdd, niSub, niDiv, fLen, fAbs, fStr, fMin, fRng, rg1, rg2, fItr, fSum, o1, lnS, lnR, vI, vS, vR, lc0, lcS, List.getElem?_cons_zero, List.getElem?_cons_succ, List.set_cons_zero, List.set_cons_succ, List.length_cons, List.length_nil, qSS, qII, qIS, qSI, nS, inO, o2, hkI, hkS, hkR, hkN, sqN, ssN]
  rw [slII, svS, cut_one hle]
  refine ⟨fun k e => by cases e; exact fitN (small hle hsm), fun k e => by cases e; exact fitN (i := pos + 1) (Nat.le_trans (Nat.succ_le_succ (Nat.le_trans hle hsm)) (by decide)), Nat.le_trans hsm (by decide), show 15 < 25 by decide, mAugL ?_⟩
  dsimp only [tCmp, tAnd, tOr, tNot, tLc, tAt, eK, eLoc, eStat, eBin, eCmp, eIfe, eList, eTup, eAttr, eMattr, eCall, eNew, eBf, eBm, eUm, eAm, eSub, eSli, esN, esC, oN, oS, gLoc, gCel, gAttr, gSub, gTup, gsC, cEq, cNe, cLt, cLe, cGt, cGe, cIn, cNi, ltII, bII, bSS, bRR, bRI, biAdd, biSub, biMul, biMod, biDiv, biPow, adS, adL, mlL, iII, iSS, niAdd, niSub, niDiv, fLen, fAbs, fStr, fMin, fRng, rg1, rg2, fItr, fSum, o1, lnS, lnR, vI, vS, vR, lc0, lcS, List.getElem?_cons_zero, List.getElem?_cons_succ, List.set_cons_zero, List.set_cons_succ, List.length_cons, List.length_nil, qSS, qII, qIS, qSI, nS, inO, o2, hkI, hkS, hkR, hkN, sqN, ssN]
  have hl1 : ((text.drop pos).take 1).length ≤ 1 := by rw [List.length_take]; exact Nat.min_le_left _ _
  refine ⟨Nat.le_trans hl1 (by decide), show 13 < 25 by decide, ?_⟩
  exact hK (.str ((text.drop pos).take 1)) (pos + ((text.drop pos).take 1).length) hp1 ⟨bk, ws, h1, hwt, Nat.le_add_right _ _, fun c hc => hin.lt c (List.mem_of_mem_drop (List.mem_of_mem_take hc))⟩
theorem get_wp (hT : TokOk4 G A) : wpSs G n cL4 k (is_get4 A) ⟨lc4 v0 v2 text T C R W pos v5 v12 (some (.int (pos : Nat))) v14 v15, hp⟩ K := by
  have hle := (RSc.at r X h.q.rs).2
  obtain ⟨t, m⟩ := h.q.ins hY
  obtain ⟨n, rfl⟩ : ∃ n', n = n' + 1 := ⟨n - 1, (Nat.sub_add_cancel (Nat.le_trans (Nat.le_add_left 1 (Nn r + 1)) hn)).symm⟩
  have popped : ∀ {d : Int} {xs : List V}, bk w = .int d :: xs → xs.length ≤ 1 → d ∈ ws → (((w : Int) ∈ ws ∧ d = w) ∨ ((w : Int) ∉ ws ∧ d = (w : Int) + 4)) → Wt (ws.erase d) (upd bk w xs) → wpSs G (n + 1) cL4 k (is_get4 A) ⟨lc4 v0 v2 text T C R W pos v5 v12 (some (.int (pos : Nat))) v14 v15, hp⟩ K := fun {d xs} hb hxl hd hdw hwt' => by
    unfold is_get4
    unfold lc4 at hK ⊢
    refine mAssign ?_
    rw [eUm]
    refine row_mk h hR hc hw hY rfl (onI_mk (instM m) ?_)
    rw [esN]
    refine h.pop lx lt hY hb (Nat.le_trans hxl (by decide)) fun hp1 h1 => ⟨show 14 < 25 by decide, ?_⟩
    refine due_wp (v14 := some (.int d)) h1 hc hwt.2.1 hd hdw (fun hp2 h2 => hK (.int d) pos hp2 ⟨_, _, ?_, hwt', Nat.le_refl _, trivial⟩) lx lt
    rw [Int.sub_self, sh_0]; exact h2
  rcases hwt.2.2 w hw with ⟨a1, a2, hb⟩ | ⟨a1, a2, hb⟩ | ⟨a1, a2, hb⟩
  · exact popped hb (Nat.le_refl _) a1 (.inl ⟨a1, rfl⟩) (hwt.step (.inl ⟨fun z => (hwt.1.mem_erase_iff.mp z).1 rfl, (List.mem_erase_of_ne (by omega)).mpr a2, rfl⟩) (.inl rfl) hw)
  · exact popped hb (Nat.zero_le _) a2 (.inr ⟨a1, rfl⟩) (hwt.step (.inr ⟨fun z => a1 (List.mem_of_mem_erase z), fun z => (hwt.1.mem_erase_iff.mp z).1 rfl, rfl⟩) (.inr rfl) hw)
  · unfold is_get4 is_rest4
    unfold lc4 at hK ⊢
    refine mAssign ?_
    rw [eUm]
    refine row_mk h hR hc hw hY rfl (onI_mk (instM m) ?_)
    rw [esN]
    refine h.q.get0 lx lt hY hb hn fun hp1 pos' hd hle' q1 e1 => ⟨show 14 < 25 by decide, ?_⟩
    have h1 := h.ask q1 e1
    have h4 : hp1[4]? = some (.cell (some (.int (w : Nat)))) := (h1.cel 4 (.inr (.inl rfl))).trans (by rw [hc])
    refine mAssign ?_
    dsimp only [tCmp, tAnd, tOr, tNot, tLc, tAt, eK, eLoc, eStat, eBin, eCmp, eIfe, eList, eTup, eAttr, eMattr, eCall, eNew, eBf, eBm, eUm, eAm, eSub, eSli, esN, esC, oN, oS, gLoc, gCel, gAttr, gSub, gTup, gsC, cEq, cNe, cLt, cLe, cGt, cGe, cIn, cNi, ltII, bII, bSS, bRR, bRI, biAdd, biSub, biMul, biMod, biDiv, biPow, adS, adL, mlL, iII, iSS, niAdd, niSub, niDiv, fLen, fAbs, fStr, fMin, fRng, rg1, rg2, fItr, fSum, o1, lnS, lnR, vI, vS, vR, lc0, lcS, List.getElem?_cons_zero, List.getElem?_cons_succ, List.set_cons_zero, List.set_cons_succ, List.length_cons, List.length_nil, qSS, qII, qIS, qSI, nS, inO, o2, hkI, hkS, hkR, hkN, sqN, ssN]
    refine celL (cl := cL4) (i := 11) (j := 4) (σ := ⟨_, hp1⟩) rfl h4 (onLoc_mk (v := .ref W) rfl (in_mk (σ := ⟨_, hp1⟩) h1.wai ?_))
    refine ifn (by simpa using a1) (celL (cl := cL4) (i := 11) (j := 4) (σ := ⟨_, hp1⟩) rfl h4 ?_)
    refine ⟨show 15 < 25 by decide, mIte ?_⟩
    dsimp only [tCmp, tAnd, tOr, tNot, tLc, tAt, eK, eLoc, eStat, eBin, eCmp, eIfe, eList, eTup, eAttr, eMattr, eCall, eNew, eBf, eBm, eUm, eAm, eSub, eSli, esN, esC, oN, oS, gLoc, gCel, gAttr, gSub, gTup, gsC, cEq, cNe, cLt, cLe, cGt, cGe, cIn, cNi, ltII, bII, bSS, bRR, bRI, biAdd, biSub, biMul, biMod, biDiv, biPow, adS, adL, mlL, iII, iSS, niAdd, niSub, niDiv, fLen, fAbs, fStr, fMin, fRng, rg1, rg2, fItr, fSum, o1, lnS, lnR, vI, vS, vR, lc0, lcS, List.getElem?_cons_zero, List.getElem?_cons_succ, List.set_cons_zero, List.set_cons_succ, List.length_cons, List.length_nil, qSS, qII, qIS, qSI, nS, inO, o2, hkI, hkS, hkR, hkN, sqN, ssN]
    refine in_mk (σ := ⟨_, hp1⟩) h1.wai (ifn (by simpa using a2) (mAssign ?_))
    dsimp only [tCmp, tAnd, tOr, tNot, tLc, tAt, eK, eLoc, eStat, eBin, eCmp, eIfe, eList, eTup, eAttr, eMattr, eCall, eNew, eBf, eBm, eUm, eAm, eSub, eSli, esN, esC, oN, oS, gLoc, gCel, gAttr, gSub, gTup, gsC, cEq, cNe, cLt, cLe, cGt, cGe, cIn, cNi, ltII, bII, bSS, bRR, bRI, biAdd, biSub, biMul, biMod, biDiv, biPow, adS, adL, mlL, iII, iSS, niAdd, niSub, niDiv, fLen, fAbs, fStr, fMin, fRng, rg1, rg2, fItr, fSum, o1, lnS, lnR, vI, vS, vR, lc0, lcS, List.getElem?_cons_zero, List.getElem?_cons_succ, List.set_cons_zero, List.set_cons_succ, List.length_cons, List.length_nil, qSS, qII, qIS, qSI, nS, inO, o2, hkI, hkS, hkR, hkN, sqN, ssN]
    refine ⟨hT.1, hT.2 n pos text hp1 _ hle hsm hin fun i hp2 hi e2 => ?_⟩
    rw [vR]
    have hpos : text.length - (lexS (text.drop pos)).2.length = pos' := by
      have := congrArg List.length hd
      rw [List.length_drop] at this
      rw [← this]; exact Nat.sub_sub_self hle'
    have hlx := lexS_len (text.drop pos) (hin.drop pos)
    rw [List.length_drop] at hlx
    rw [hpos] at hi
    refine onT_mkT hi ⟨rfl, ?_⟩
    dsimp only [tCmp, tAnd, tOr, tNot, tLc, tAt, eK, eLoc, eStat, eBin, eCmp, eIfe, eList, eTup, eAttr, eMattr, eCall, eNew, eBf, eBm, eUm, eAm, eSub, eSli, esN, esC, oN, oS, gLoc, gCel, gAttr, gSub, gTup, gsC, cEq, cNe, cLt, cLe, cGt, cGe, cIn, cNi, ltII, bII, bSS, bRR, bRI, biAdd, biSub, biMul, biMod, biDiv, biPow, adS, adL, mlL, iII, iSS, niAdd, niSub, niDiv, fLen, fAbs, fStr, fMin, fRng, rg1, rg2, fItr, fSum, o1, lnS, lnR, vI, vS, vR, lc0, lcS, List.getElem?_cons_zero, List.getElem?_cons_succ, List.set_cons_zero, List.set_cons_succ, List.length_cons, List.length_nil, qSS, qII, qIS, qSI, nS, inO, o2, hkI, hkS, hkR, hkN, sqN, ssN]
    refine ⟨show 15 < 25 by decide, show 13 < 25 by decide, ?_⟩
    exact hK (.str (lexS (text.drop pos)).1) pos' hp2 ⟨bk, ws, h1.ext0 lx lt e2, hwt, by omega, (lexS_in _ (hin.drop pos)).lt⟩
end
end L04
end Mine
namespace Mine
open PySem PySem.W PySem.Calls PyProof.Rows
namespace L04
noncomputable def is_tl4 : List IS := [
    .assign (.cel 16) (.bm .count (.sli (.loc 3) (some (.loc 9)) (some (.loc 13))) [(.k (.str [10]))]),
    .assign (.cel 10) (.comp (wpComp (.ife (.cmp .LtE (.loc 1) (.cel 4)) (.bin .Add (.sub (.cel 2) (.loc 1)) (.cel 3)) (.sub (.cel 2) (.loc 1))) 1 (.bf .range [(.k (.int 4))]) [] 5 [none, none, some 10, some 16, some 11])),
    .assign (.loc 9) (.loc 13),
    .ite (.cmp .NotEq (.tup [(.loc 14), (.sub (.loc 6) (.k (.int 0))), (.comp (wpComp (.attr (.loc 1) .lineno) 1 (.loc 7) [] 2 [none, none]))]) (.tup [(.loc 15), (.loc 9), (.cel 10)])) [.ret (.k (.bool false))] []]
noncomputable def is_turn4 (A : Addr) : List IS := .assign (.loc 13) (.loc 9) :: .ite (.cmp .Eq (.loc 12) (.k (.int 1))) is_read4 (is_get4 A) :: is_tl4
theorem lnv_sh {f : Nat → Int} {text : List Nat} {p p' w j : Nat} : lnv (sh w (nl (text.take p') - nl (text.take p)) f) text p' j = if j ≤ w then .int (f j + nl (text.take p) + (nl (text.take p') - nl (text.take p))) else .int (f j + nl (text.take p)) := by
  unfold lnv sh
  by_cases h : j ≤ w
  · rw [if_pos h, if_pos h, Int.add_assoc, Int.add_comm (nl (text.take p)), Int.sub_add_cancel]
  · rw [if_neg h, if_neg h, Int.sub_eq_add_neg, Int.neg_sub, Int.add_assoc, Int.sub_add_cancel]
theorem upto_at {g : Nat → V} {m j : Nat} (h : j < m) : (upto g m)[j]? = some (g j) := by unfold upto; rw [List.getElem?_map, List.getElem?_range h]; rfl
theorem upto_pv {g : Nat → V} {m : Nat} (h : ∀ j, PV (g j)) : ∀ v ∈ upto g m, PV v := fun v hv => by
  obtain ⟨j, _, rfl⟩ := List.mem_map.mp hv
  exact h j
section
variable {G : Stat} {T : SA} {text : List Nat} {C R W : Nat} {Ps : List (Nat × O)} {X : UM} {r : List UM} {f f' : Nat → Int} {bk : Nat → List V} {pos pos' w : Nat} {ws : List Int} {pl : Nat} {ls : List V} {c : Nat → Option V} {hp : List O} (lx : Lx G) (lt : Lt2 G)
  {n k : Nat} {v0 v2 v : V} {v5 v12 v13 v14 v15 : Option V} {K : Fl → St → Prop} {A : Addr}
include lx lt in
theorem tl_wp (h : C4 G T text W Ps X r (sh w (nl (text.take pos') - nl (text.take pos)) f) bk pos' ws pl (upto (lnv f text pos) 4) c hp) (hc4 : c 4 = some (.int (w : Nat))) (hc3 : c 3 = some (.ref pl)) (hle : pos ≤ pos') (hv : PV v) (hR : (R, O.list (rowOf X r)) ∈ Ps) (hr : r.length = 3) (hsm : text.length ≤ 1000)
    (hK : ∀ pl' c' hp', C4 G T text W Ps X r (sh w (nl (text.take pos') - nl (text.take pos)) f) bk pos' ws pl' (upto (lnv (sh w (nl (text.take pos') - nl (text.take pos)) f) text pos') 4) c' hp' → c' 3 = some (.ref pl') → K .next ⟨lc4 v0 v2 text T C R W pos' v5 v12 (some (.int (pos' : Nat))) (some v) (some v), hp'⟩) :
    wpSs G n cL4 k is_tl4 ⟨lc4 v0 v2 text T C R W pos v5 v12 (some (.int (pos' : Nat))) (some v) (some v), hp⟩ K := by
  have hp'l := (RSc.at r X h.q.rs).2
  unfold is_tl4
  unfold lc4 at hK ⊢
  refine mAssign ?_
  dsimp only [tCmp, tAnd, tOr, tNot, tLc, tAt, eK, eLoc, eStat, eBin, eCmp, eIfe, eList, eTup, eAttr, eMattr, eCall, eNew, eBf, eBm, eUm, eAm, eSub, eSli, esN, esC, oN, oS, gLoc, gCel, gAttr, gSub, gTup, gsC, cEq, cNe, cLt, cLe, cGt, cGe, cIn, cNi, ltII, bII, bSS, bRR, bRI, biAdd, biSub, biMul, biMod, biDiv, biPow, adS, adL, mlL, iII, iSS, niAdd, niSub, niDiv, fLen, fAbs, fStr, fMin, fRng, rg1, rg2, fItr, fSum, o1, lnS, lnR, vI, vS, vR, lc0, lcS, List.getElem?_cons_zero, List.getElem?_cons_succ, List.set_cons_zero, List.set_cons_succ, List.length_cons, List.length_nil, qSS, qII, qIS, qSI, nS, inO, o2, hkI, hkS, hkR, hkN, sqN, ssN]
  rw [slII, svS]
  refine ⟨fun k e => by cases e; exact fitN (small (Nat.le_trans hle hp'l) hsm), fun k e => by cases e; exact fitN (small hp'l hsm), Nat.le_trans hsm (by decide), rfl, cnt_mk ?_⟩
  rw [nl_cut hle hp'l]
  refine onC_mk (j := 5) rfl (h.cel 5 (.inr (.inr rfl))) ?_
  have h1 := h.cel1 lx lt (.inr (.inr rfl)) (i := 5) (some (.int (nl (text.take pos') - nl (text.take pos))))
  have hd4 : (fun j => if j = 5 then some (V.int (nl (text.take pos') - nl (text.take pos))) else c j) 4 = some (.int (w : Nat)) := hc4
  have hd3 : (fun j => if j = 5 then some (V.int (nl (text.take pos') - nl (text.take pos))) else c j) 3 = some (.ref pl) := hc3
  have hd5 : (fun j => if j = 5 then some (V.int (nl (text.take pos') - nl (text.take pos))) else c j) 5 = some (V.int (nl (text.take pos') - nl (text.take pos))) := rfl
  dsimp only
  generalize hp.set 5 (.cell (some (.int (nl (text.take pos') - nl (text.take pos))))) = hp1 at h1 ⊢
  generalize (fun j => if j = 5 then some (V.int (nl (text.take pos') - nl (text.take pos))) else c j) = c1 at h1 hd4 hd3 hd5
  clear h hc4 hc3
  refine mAssign ?_
  rw [eComp]
  refine ⟨fun q hq => ?_, ?_⟩
  · simp only [List.mem_cons, Option.some.injEq, reduceCtorEq, List.not_mem_nil, or_false, false_or] at hq
    rcases hq with rfl | rfl | rfl
    · exact ⟨_, rfl⟩
    · exact ⟨_, rfl⟩
    · exact ⟨_, rfl⟩
  dsimp only [tCmp, tAnd, tOr, tNot, tLc, tAt, eK, eLoc, eStat, eBin, eCmp, eIfe, eList, eTup, eAttr, eMattr, eCall, eNew, eBf, eBm, eUm, eAm, eSub, eSli, esN, esC, oN, oS, gLoc, gCel, gAttr, gSub, gTup, gsC, cEq, cNe, cLt, cLe, cGt, cGe, cIn, cNi, ltII, bII, bSS, bRR, bRI, biAdd, biSub, biMul, biMod, biDiv, biPow, adS, adL, mlL, iII, iSS, niAdd, niSub, niDiv, fLen, fAbs, fStr, fMin, fRng, rg1, rg2, fItr, fSum, o1, lnS, lnR, vI, vS, vR, lc0, lcS, List.getElem?_cons_zero, List.getElem?_cons_succ, List.set_cons_zero, List.set_cons_succ, List.length_cons, List.length_nil, qSS, qII, qIS, qSI, nS, inO, o2, hkI, hkS, hkR, hkN, sqN, ssN]
  refine ⟨fit1000 (by decide) (by decide), ?_⟩
  have e2 : Ext [] hp1 (hp1 ++ [O.rng 0 (4 : Nat)]) := .app
  have r2 : (hp1 ++ [O.rng 0 (4 : Nat)])[hp1.length]? = some (.rng 0 (4 : Nat)) := List.getElem?_concat_length
  have h2 := h1.ext0 lx lt e2
  change wpIterG _ 5 (.ref hp1.length) ⟨_, hp1 ++ [O.rng 0 (4 : Nat)]⟩ _
  generalize hp1 ++ [O.rng 0 (4 : Nat)] = hp2 at h2 r2 ⊢
  generalize hp1.length = q2 at r2 ⊢
  have k3 := h2.cel 3 (.inl rfl)
  have k4 := h2.cel 4 (.inr (.inl rfl))
  have k5 := h2.cel 5 (.inr (.inr rfl))
  rw [hd3] at k3
  rw [hd4] at k4
  rw [hd5] at k5
  refine comp_rng (N := 3) (lnv (sh w (nl (text.take pos') - nl (text.take pos)) f) text pos') (σ := ⟨_, hp2⟩) r2 (by decide) (fun j hj t K' hk => ?_) ?_
  · have ea : Ext [] hp2 (hp2 ++ t) := .app
    rw [lnv_sh] at hk
    have sub : ∀ K'' : V → St → Prop, K'' (lnv f text pos j) ⟨[none, some (.int (j : Nat)), none, none, none], hp2 ++ t⟩ → wpE G n [none, none, some 3, some 5, some 4] (.sub (.cel 2) (.loc 1)) ⟨[none, some (.int (j : Nat)), none, none, none], hp2 ++ t⟩ K'' := fun K'' hk => by
      rw [eSub]
      refine celL (cl := [none, none, some 3, some 5, some 4]) (i := 2) (j := 3) (σ := ⟨_, hp2 ++ t⟩) rfl (ea.get k3 (fun z => nomatch z)) ?_
      exact sub_mk (ea.get h2.lin (fun z => nomatch z)) (upto_at hj) (w4 hj) hk
    show wpE G n [none, none, some 3, some 5, some 4] _ ⟨[none, some (.int (j : Nat)), none, none, none], hp2 ++ t⟩ K'
    rw [eIfe, tCmp, eLoc]
    refine onLoc_mk (v := .int (j : Nat)) rfl (celL (cl := [none, none, some 3, some 5, some 4]) (i := 4) (j := 4) (σ := ⟨_, hp2 ++ t⟩) rfl (ea.get k4 (fun z => nomatch z)) ?_)
    show (if decide ((j : Int) ≤ (w : Int)) = true then _ else _)
    by_cases hjw : j ≤ w
    · rw [if_pos hjw] at hk
      refine ifp (decide_eq_true (Int.ofNat_le.mpr hjw)) ?_
      rw [eBin]
      refine sub _ ?_
      exact celL (cl := [none, none, some 3, some 5, some 4]) (i := 3) (j := 5) (σ := ⟨_, hp2 ++ t⟩) rfl (ea.get k5 (fun z => nomatch z)) hk
    · rw [if_neg hjw] at hk
      exact ifn (by rw [decide_eq_false (fun z => hjw (Int.ofNat_le.mp z))]; decide) (sub _ hk)
  have e3 : Ext [] hp2 (hp2 ++ [O.list (upto (lnv (sh w (nl (text.take pos') - nl (text.take pos)) f) text pos') 4)]) := .app
  have h3 := (h2.ext0 lx lt e3).lset List.getElem?_concat_length (h2.fresh (Nat.le_refl _))
  dsimp only
  generalize sh w (nl (text.take pos') - nl (text.take pos)) f = f' at hK h3 ⊢
  generalize hp2 ++ [O.list (upto (lnv f' text pos') 4)] = hp3 at h3 ⊢
  generalize hp2.length = pl' at h3 ⊢
  clear k3 k4 k5 h1 h2
  refine onC_mk (j := 3) rfl (h3.cel 3 (.inl rfl)) ?_
  have h4 := h3.cel1 lx lt (.inl rfl) (i := 3) (some (.ref pl'))
  have hg3 : (fun j => if j = 3 then some (V.ref pl') else c1 j) 3 = some (.ref pl') := rfl
  generalize hp3.set 3 (.cell (some (.ref pl'))) = hp4 at h4 ⊢
  generalize (fun j => if j = 3 then some (V.ref pl') else c1 j) = c4 at h4 hg3
  clear h3 hd3 hd4 hd5
  refine mAssign ?_
  dsimp only [tCmp, tAnd, tOr, tNot, tLc, tAt, eK, eLoc, eStat, eBin, eCmp, eIfe, eList, eTup, eAttr, eMattr, eCall, eNew, eBf, eBm, eUm, eAm, eSub, eSli, esN, esC, oN, oS, gLoc, gCel, gAttr, gSub, gTup, gsC, cEq, cNe, cLt, cLe, cGt, cGe, cIn, cNi, ltII, bII, bSS, bRR, bRI, biAdd, biSub, biMul, biMod, biDiv, biPow, adS, adL, mlL, iII, iSS, niAdd, niSub, niDiv, fLen, fAbs, fStr, fMin, fRng, rg1, rg2, fItr, fSum, o1, lnS, lnR, vI, vS, vR, lc0, lcS, List.getElem?_cons_zero, List.getElem?_cons_succ, List.set_cons_zero, List.set_cons_succ, List.length_cons, List.length_nil, qSS, qII, qIS, qSI, nS, inO, o2, hkI, hkS, hkR, hkN, sqN, ssN]
  refine ⟨show 9 < 25 by decide, mIte ?_⟩
  dsimp only [tCmp, tAnd, tOr, tNot, tLc, tAt, eK, eLoc, eStat, eBin, eCmp, eIfe, eList, eTup, eAttr, eMattr, eCall, eNew, eBf, eBm, eUm, eAm, eSub, eSli, esN, esC, oN, oS, gLoc, gCel, gAttr, gSub, gTup, gsC, cEq, cNe, cLt, cLe, cGt, cGe, cIn, cNi, ltII, bII, bSS, bRR, bRI, biAdd, biSub, biMul, biMod, biDiv, biPow, adS, adL, mlL, iII, iSS, niAdd, niSub, niDiv, fLen, fAbs, fStr, fMin, fRng, rg1, rg2, fItr, fSum, o1, lnS, lnR, vI, vS, vR, lc0, lcS, List.getElem?_cons_zero, List.getElem?_cons_succ, List.set_cons_zero, List.set_cons_succ, List.length_cons, List.length_nil, qSS, qII, qIS, qSI, nS, inO, o2, hkI, hkS, hkR, hkN, sqN, ssN]
  refine sub_mk (k := 0) (RSc.at r X h4.q.rs).1 rfl (Nat.zero_le _) ?_
  rw [eComp]
  refine ⟨fun q hq => by simp at hq, ?_⟩
  rw [eLoc]
  refine onLoc_mk (v := .ref R) rfl ?_
  have hrl : (rowOf X r).length = 4 := by unfold rowOf; rw [List.length_map, List.length_reverse, List.length_cons, hr]
  refine comp_idx (N := 0) (lnv f' text pos') (σ := ⟨_, hp4⟩) (h4.pin _ hR) (by rw [hrl]; decide) (fun j x hx t K' hk => ?_) ?_
  · obtain ⟨Y, hY, rfl⟩ := map_get hx
    obtain ⟨tt, m⟩ := h4.q.ins hY
    have ea : Ext [] hp4 (hp4 ++ t) := .app
    show wpE G n _ _ ⟨[none, some (.ref Y.2.s)], hp4 ++ t⟩ K'
    rw [eAttr, eLoc]
    refine onLoc_mk (v := .ref Y.2.s) rfl ?_
    exact getA_mk (σ := ⟨_, hp4 ++ t⟩) (x := lnv f' text pos' j) (instM (m.ext ea (fun z => nomatch z) (fun z => nomatch z))) rfl rfl hk
  rw [hrl]
  have e5 : Ext [] hp4 (hp4 ++ [O.list (upto (lnv f' text pos') 4)]) := .app
  have b5 : (hp4 ++ [O.list (upto (lnv f' text pos') 4)])[hp4.length]? = some (.list (upto (lnv f' text pos') 4)) := List.getElem?_concat_length
  have h5 := h4.ext0 lx lt e5
  dsimp only
  generalize hp4 ++ [O.list (upto (lnv f' text pos') 4)] = hp5 at h5 b5 ⊢
  generalize hp4.length = iS at b5 ⊢
  refine ⟨show 3 ≤ big by decide, ?_⟩
  have e6 : Ext [] hp5 (hp5 ++ [O.tup [v, .int (pos' : Nat), .ref iS]]) := .app
  have t6 : (hp5 ++ [O.tup [v, .int (pos' : Nat), .ref iS]])[hp5.length]? = some (.tup [v, .int (pos' : Nat), .ref iS]) := List.getElem?_concat_length
  have h6 := h5.ext0 lx lt e6
  have b6 := e6.get b5 (fun z => nomatch z)
  generalize hp5 ++ [O.tup [v, .int (pos' : Nat), .ref iS]] = hp6 at h6 t6 b6 ⊢
  generalize hp5.length = t1 at t6 ⊢
  dsimp only [tCmp, tAnd, tOr, tNot, tLc, tAt, eK, eLoc, eStat, eBin, eCmp, eIfe, eList, eTup, eAttr, eMattr, eCall, eNew, eBf, eBm, eUm, eAm, eSub, eSli, esN, esC, oN, oS, gLoc, gCel, gAttr, gSub, gTup, gsC, cEq, cNe, cLt, cLe, cGt, cGe, cIn, cNi, ltII, bII, bSS, bRR, bRI, biAdd, biSub, biMul, biMod, biDiv, biPow, adS, adL, mlL, iII, iSS, niAdd, niSub, niDiv, fLen, fAbs, fStr, fMin, fRng, rg1, rg2, fItr, fSum, o1, lnS, lnR, vI, vS, vR, lc0, lcS, List.getElem?_cons_zero, List.getElem?_cons_succ, List.set_cons_zero, List.set_cons_succ, List.length_cons, List.length_nil, qSS, qII, qIS, qSI, nS, inO, o2, hkI, hkS, hkR, hkN, sqN, ssN]
  refine celL (cl := cL4) (i := 10) (j := 3) (σ := ⟨_, hp6⟩) rfl ((h6.cel 3 (.inl rfl)).trans (by rw [hg3])) ?_
  refine ⟨show 3 ≤ big by decide, ?_⟩
  have e7 : Ext [] hp6 (hp6 ++ [O.tup [v, .int (pos' : Nat), .ref pl']]) := .app
  have h7 := h6.ext0 lx lt e7
  have pv : ∀ x ∈ upto (lnv f' text pos') 4, PV x := upto_pv fun j => trivial
  have sm : Same 4 (hp6 ++ [O.tup [v, .int (pos' : Nat), .ref pl']]) (.ref t1) (.ref hp6.length) := Same.tup (e7.get t6 (fun z => nomatch z)) List.getElem?_concat_length (.cons (Same.pv hv) (.cons (Same.pv trivial) (.cons (Same.lists (e7.get b6 (fun z => nomatch z)) h7.lin pv) .nil)))
  refine Same.eq sm ?_
  refine ifn (by decide) ?_
  exact hK pl' c4 _ h7 hg3
end
end L04
end Mine
namespace Mine
open PySem PySem.W PySem.Calls PyProof.Rows
namespace L04
noncomputable def Cs4 (C : Nat) (Ps : List (Nat × O)) (cs : List V) : Prop := (C, O.list cs) ∈ Ps ∧ ∀ v ∈ cs, ∃ (i a : Nat) (b : Int), v = .ref i ∧ (i, O.tup [.int (a : Nat), .int b]) ∈ Ps ∧ a < 4
theorem row_get {X : UM} {r : List UM} {w : Nat} (hr : r.length = 3) (h : w < 4) : ∃ Y, (X :: r).reverse[w]? = some Y := ⟨_, List.getElem?_eq_getElem (by rw [List.length_reverse, List.length_cons, hr]; exact h)⟩
section
variable {G : Stat} {T : SA} {text : List Nat} {C R W : Nat} {Ps : List (Nat × O)} {X : UM} {r : List UM} {f : Nat → Int} {bk : Nat → List V} {pos : Nat} {ws : List Int} {pl : Nat} {cs : List V} {c : Nat → Option V} {hp : List O} (lx : Lx G) (lt : Lt2 G)
  {n k : Nat} {v0 v2 : V} {v5 v12 v13 v14 v15 : Option V} {K : Fl → St → Prop} {A : Addr}
noncomputable def It4 (G : Stat) (T : SA) (text : List Nat) (C R W : Nat) (Ps : List (Nat × O)) (X : UM) (r : List UM) (v0 v2 : V) (v5 : Option V) (L : Nat) (_ : Nat) (σ : St) : Prop :=
  ∃ f bk pos ws pl c v12 v13 v14 v15 hp, σ = ⟨lc4 v0 v2 text T C R W pos v5 v12 v13 v14 v15, hp⟩ ∧ C4 G T text W Ps X r f bk pos ws pl (upto (lnv f text pos) 4) c hp ∧ c 3 = some (.ref pl) ∧ Wt ws bk
include lx lt in
theorem loop_wp (h : C4 G T text W Ps X r f bk pos ws pl (upto (lnv f text pos) 4) c hp) (hc3 : c 3 = some (.ref pl)) (hwt : Wt ws bk) (hC : Cs4 C Ps cs) (hR : (R, O.list (rowOf X r)) ∈ Ps) (hr : r.length = 3) (hin : In text) (hsm : text.length ≤ 1000) (hn : Nn r + 2 ≤ n) (hT : TokOk4 G A) (hk : k ≤ hp.length)
    (hK : ∀ σ', (∀ p ∈ Ps, σ'.hp[p.1]? = some p.2) → K .next σ') : wpS G n cL4 k (.for (.tup [(.cel 11), (.loc 12)]) (.loc 4) (is_turn4 A)) ⟨lc4 v0 v2 text T C R W pos v5 v12 v13 v14 v15, hp⟩ K := by
  refine wFor ?_
  rw [eLoc]
  refine onLoc_mk (v := .ref C) rfl ?_
  have hcs := h.pin _ hC.1
  refine for_list (σ := ⟨lc4 v0 v2 text T C R W pos v5 v12 v13 v14 v15, hp⟩) hcs hp.length hk (lt_of_get hcs) (Nat.le_refl _) (fun v hv => ?_) (It4 G T text C R W Ps X r v0 v2 v5 0) ⟨f, bk, pos, ws, pl, c, v12, v13, v14, v15, hp, rfl, h, hc3, hwt⟩ ?_ ?_ ?_
  · obtain ⟨i, a, b, rfl, hi, _⟩ := hC.2 v hv
    exact lt_of_get (h.pin _ hi)
  · rintro j σ ⟨f, bk, pos, ws, pl, c, v12, v13, v14, v15, hp, rfl, h, _⟩
    exact h.pin _ hC.1
  · rintro j σ v hv ⟨f, bk, pos, ws, pl, c, v12, v13, v14, v15, hp1, rfl, h, hc3, hwt⟩
    obtain ⟨i, a, b, rfl, hi, ha⟩ := hC.2 v (List.mem_of_getElem? hv)
    obtain ⟨Y, hY⟩ := row_get (X := X) hr ha
    rw [gTup, vR]
    refine onT_mkT (h.pin _ hi) ⟨rfl, ?_⟩
    rw [gsC, gCel]
    refine onC_mk (j := 4) rfl (h.cel 4 (.inr (.inl rfl))) ?_
    have h1 := h.cel1 lx lt (.inr (.inl rfl)) (i := 4) (some (.int (a : Nat)))
    have g3 : (fun j => if j = 4 then some (V.int (a : Nat)) else c j) 3 = some (.ref pl) := hc3
    have g4 : (fun j => if j = 4 then some (V.int (a : Nat)) else c j) 4 = some (.int (a : Nat)) := rfl
    dsimp only
    generalize hp1.set 4 (.cell (some (.int (a : Nat)))) = hp2 at h1 ⊢
    generalize (fun j => if j = 4 then some (V.int (a : Nat)) else c j) = c1 at h1 g3 g4
    rw [gsC, gLoc]
    refine ⟨show 12 < 25 by decide, ?_⟩
    rw [gsN]
    show wpSs G n cL4 hp.length (is_turn4 A) ⟨lc4 v0 v2 text T C R W pos v5 (some (.int b)) v13 v14 v15, hp2⟩ _
    unfold is_turn4
    refine mAssign ?_
    rw [eLoc]
    refine onLoc_mk (v := .int (pos : Nat)) rfl ⟨show 13 < 25 by decide, ?_⟩
    show wpSs G n cL4 hp.length _ ⟨lc4 v0 v2 text T C R W pos v5 (some (.int b)) (some (.int (pos : Nat))) v14 v15, hp2⟩ _
    refine mIte ?_
    have next : ∀ v pos' hp', Mid G T text W Ps X r f pos a pl (upto (lnv f text pos) 4) c1 v pos' hp' → sq G n cL4 hp.length is_tl4 (aft K (It4 G T text C R W Ps X r v0 v2 v5 0 (j + 1))) .next ⟨lc4 v0 v2 text T C R W pos v5 (some (.int b)) (some (.int (pos' : Nat))) (some v) (some v), hp'⟩ := fun v pos' hp' ⟨bk', ws', m, hwt', hle, hv⟩ =>
      mSq (tl_wp lx lt m g4 g3 hle hv hR hr hsm fun pl' c' hp'' m' g' => ⟨_, _, _, _, _, _, _, _, _, _, _, rfl, m', g', hwt'⟩)
    rw [tCmp, eLoc]
    refine onLoc_mk (v := .int b) rfl ?_
    show (if (b == 1) = true then _ else _)
    by_cases hb : b = 1
    · exact ifp (by rw [hb]; rfl) (read_wp lx lt h1 g4 ha hY hR hwt hin hsm hn next)
    · exact ifn (by simpa using hb) (get_wp lx lt h1 g4 ha hY hR hwt hin hsm hn next hT)
  · rintro σ ⟨f, bk, pos, ws, pl, c, v12, v13, v14, v15, hp1, rfl, h, _⟩
    exact hK _ h.pin
end
end L04
end Mine
namespace Mine
open PySem PySem.W PySem.Calls PyProof.Rows
namespace L04
noncomputable def tups (g : Nat → List V) (j : Nat) : List O := (List.range j).map fun i => .tup (g i)
theorem tups_s (g : Nat → List V) (j : Nat) : tups g (j + 1) = tups g j ++ [.tup (g j)] := by unfold tups; rw [List.range_succ, List.map_append]; rfl
theorem tups_len (g : Nat → List V) (j : Nat) : (tups g j).length = j := by unfold tups; rw [List.length_map, List.length_range]
theorem tups_at {g : Nat → List V} {m j : Nat} (h : j < m) : (tups g m)[j]? = some (.tup (g j)) := by unfold tups; rw [List.getElem?_map, List.getElem?_range h]; rfl
section
variable {G : Stat} {n : Nat}
noncomputable def Pt (g : Nat → List V) (N : Nat) (σ : St) (j : Nat) (σ' : St) : Prop := j ≤ 1000 ∧ σ'.hp = σ.hp ++ (.list (upto (fun i => .ref (σ.hp.length + 1 + i)) j) :: tups g j) ∧ (σ'.loc = List.replicate (N + 2) none ∨ ∃ y, σ'.loc = (List.replicate (N + 2) none).set 1 (some y))
theorem Pt.turn {cl : List (Option Nat)} {es : List IE} {N j : Nat} {g : Nat → List V} {x : V} {σ σ' : St} (h : Pt g N σ j σ') (hj : j < 1000) (hg : (g j).length ≤ 1000)
    (he : ∀ t (K' : List V → St → Prop), K' (g j) ⟨(List.replicate (N + 2) none).set 1 (some x), σ.hp ++ t⟩ → wpEs G n cl es ⟨(List.replicate (N + 2) none).set 1 (some x), σ.hp ++ t⟩ K') : turn1 (.tup es) 1 [] G n cl σ.hp.length (Pt g N σ (j + 1)) x σ' := by
  obtain ⟨loc', hp'⟩ := σ'
  obtain ⟨_, h1, h2⟩ := h
  simp only at h1 h2
  subst h1
  refine turn_mk ?_
  have hl : loc'.set 1 (some x) = (List.replicate (N + 2) none).set 1 (some x) := by
    rcases h2 with h2 | ⟨y, h2⟩
    · rw [h2]
    · rw [h2, set_rep]
  show wpE G n cl (.tup es) ⟨loc'.set 1 (some x), _⟩ _
  rw [hl, eTup]
  refine he _ _ ⟨Nat.le_trans hg (by decide), ?_⟩
  have hacc : (σ.hp ++ (O.list (upto (fun i => .ref (σ.hp.length + 1 + i)) j) :: tups g j) ++ [O.tup (g j)])[σ.hp.length]? = some (.list (upto (fun i => .ref (σ.hp.length + 1 + i)) j)) := by
    rw [List.append_assoc, List.getElem?_append_right (Nat.le_refl _), Nat.sub_self]; rfl
  refine onL_mk hacc ⟨?_, hj, ?_, .inr ⟨_, rfl⟩⟩
  · rw [upto_len]; exact Nat.le_trans (Nat.le_of_lt hj) (by decide)
  · have hlen : (σ.hp ++ (O.list (upto (fun i => V.ref (σ.hp.length + 1 + i)) j) :: tups g j)).length = σ.hp.length + 1 + j := by
      rw [List.length_append, List.length_cons, tups_len]; omega
    show (σ.hp ++ (O.list (upto (fun i => .ref (σ.hp.length + 1 + i)) j) :: tups g j) ++ [O.tup (g j)]).set σ.hp.length _ = _
    dsimp only
    rw [hlen, List.append_assoc, List.set_append_right _ _ (Nat.le_refl _), Nat.sub_self, upto_s, tups_s]
    rfl
theorem Pt.fin {g : Nat → List V} {N M : Nat} {σ σ' : St} (h : Pt g N σ M σ') : σ'.hp[σ.hp.length]? = some (.list (upto (fun i => .ref (σ.hp.length + 1 + i)) M)) ∧ (∀ i, i < M → σ'.hp[σ.hp.length + 1 + i]? = some (.tup (g i))) ∧ Ext [] σ.hp σ'.hp := by
  rw [h.2.1]
  refine ⟨by rw [List.getElem?_append_right (Nat.le_refl _), Nat.sub_self]; rfl, fun i hi => ?_, .app⟩
  rw [Nat.add_assoc, List.getElem?_append_right (Nat.le_add_right _ _), Nat.add_sub_cancel_left, Nat.add_comm 1, List.getElem?_cons_succ]
  exact tups_at hi
theorem tup_rng {cl : List (Option Nat)} {es : List IE} {N q M : Nat} (g : Nat → List V) {σ : St} {K : V → St → Prop} (hq : σ.hp[q]? = some (.rng 0 (M : Nat))) (hM : M ≤ 1000) (hg : ∀ j, (g j).length ≤ 1000)
    (he : ∀ j, j < M → ∀ t (K' : List V → St → Prop), K' (g j) ⟨(List.replicate (N + 2) none).set 1 (some (.int (j : Nat))), σ.hp ++ t⟩ → wpEs G n cl es ⟨(List.replicate (N + 2) none).set 1 (some (.int (j : Nat))), σ.hp ++ t⟩ K')
    (hK : ∀ hp', hp'[σ.hp.length]? = some (.list (upto (fun i => .ref (σ.hp.length + 1 + i)) M)) → (∀ i, i < M → hp'[σ.hp.length + 1 + i]? = some (.tup (g i))) → Ext [] σ.hp hp' → K (.ref σ.hp.length) ⟨σ.loc, hp'⟩) : wpIterG (turn1 (.tup es) 1 [] G n cl) (N + 2) (.ref q) σ K := by
  unfold wpIterG
  simp only [hq]
  refine ⟨fit1000 (by decide) (by decide), fitN (Nat.le_trans hM (by decide)), Pt g N σ, ⟨Nat.zero_le _, rfl, .inl rfl⟩, fun j σ' h => ⟨fun hlt => ?_, fun hj => ?_⟩⟩
  · have hlt : j < M := by rw [Int.zero_add] at hlt; exact Int.ofNat_lt.mp hlt
    rw [Int.zero_add]
    exact h.turn (Nat.lt_of_lt_of_le hlt hM) (hg j) (he j hlt)
  · have hj : j = M := by rw [Int.sub_zero, Int.toNat_natCast] at hj; exact hj
    subst hj
    exact hK _ h.fin.1 h.fin.2.1 h.fin.2.2
theorem tup_idx {cl : List (Option Nat)} {es : List IE} {N q : Nat} {xs : List V} (g : Nat → List V) {σ : St} {K : V → St → Prop} (hq : σ.hp[q]? = some (.list xs)) (hM : xs.length ≤ 1000) (hg : ∀ j, (g j).length ≤ 1000)
    (he : ∀ j x, xs[j]? = some x → ∀ t (K' : List V → St → Prop), K' (g j) ⟨(List.replicate (N + 2) none).set 1 (some x), σ.hp ++ t⟩ → wpEs G n cl es ⟨(List.replicate (N + 2) none).set 1 (some x), σ.hp ++ t⟩ K')
    (hK : ∀ hp', hp'[σ.hp.length]? = some (.list (upto (fun i => .ref (σ.hp.length + 1 + i)) xs.length)) → (∀ i, i < xs.length → hp'[σ.hp.length + 1 + i]? = some (.tup (g i))) → Ext [] σ.hp hp' → K (.ref σ.hp.length) ⟨σ.loc, hp'⟩) : wpIterG (turn1 (.tup es) 1 [] G n cl) (N + 2) (.ref q) σ K := by
  refine comp_lst hq (Pt g N σ) ⟨Nat.zero_le _, rfl, .inl rfl⟩ (fun j σ' h => ?_) (fun j σ' x hx h => h.turn (Nat.lt_of_lt_of_le (lt_of_get hx) hM) (hg j) (he j x hx)) (fun σ' h => hK _ h.fin.1 h.fin.2.1 h.fin.2.2)
  rw [h.2.1, List.getElem?_append_left (lt_of_get hq)]; exact hq
end
noncomputable def TupsAt (hp : List O) (cs : List V) : Prop := ∀ v ∈ cs, ∃ (i a : Nat) (b : Int), v = .ref i ∧ hp[i]? = some (.tup [.int (a : Nat), .int b]) ∧ a < 4
theorem TupsAt.ext {hp hp' : List O} {cs : List V} {l : List Nat} (h : TupsAt hp cs) (e : Ext l hp hp') (hl : ∀ i ∈ l, ∀ x, hp[i]? ≠ some (.tup x)) : TupsAt hp' cs := fun v hv =>
  let ⟨i, a, b, h1, h2, h3⟩ := h v hv
  ⟨i, a, b, h1, e.get h2 fun m => hl i m _ h2, h3⟩
theorem TupsAt.ext0 {hp hp' : List O} {cs : List V} (h : TupsAt hp cs) (e : Ext [] hp hp') : TupsAt hp' cs := h.ext e fun _ z => nomatch z
theorem TupsAt.of {hp : List O} {q M : Nat} {g : Nat → List V} (h : ∀ i, i < M → hp[q + i]? = some (.tup (g i))) (hg : ∀ i, i < M → ∃ (a : Nat) (b : Int), g i = [.int (a : Nat), .int b] ∧ a < 4) : TupsAt hp (upto (fun i => .ref (q + i)) M) := fun v hv => by
  obtain ⟨i, hi, rfl⟩ := List.mem_map.mp hv
  have hi := List.mem_range.mp hi
  obtain ⟨a, b, e, ha⟩ := hg i hi
  exact ⟨q + i, a, b, rfl, by rw [h i hi, e], ha⟩
theorem TupsAt.app {hp : List O} {a b : List V} (h1 : TupsAt hp a) (h2 : TupsAt hp b) : TupsAt hp (a ++ b) := fun v hv => (List.mem_append.mp hv).elim (h1 v) (h2 v)
structure Bd (G : Stat) (T : SA) (text : List Nat) (ps : Pos) (iC iR : Nat) (cs : List V) (X : UM) (r : List UM) (bk : Nat → List V) (hp : List O) : Prop where
  q : Q4 6 G T text (fun _ => 1) X r bk 0 hp
  row : hp[iR]? = some (.list (rowOf X r))
  cal : hp[iC]? = some (.list cs)
  ne : iR ≠ T.a ∧ iC ≠ T.a ∧ iC ≠ iR ∧ ∀ (k : Nat) (Y : UM), (X :: r).reverse[k]? = some Y → Y.2.p ≠ iR ∧ Y.2.p ≠ iC
  tb : TabIs G 1 72 ps 1 hp
  tup : TupsAt hp cs
  t0 : ∃ e, hp[0]? = some (.tab 65 e)
  cel : ∀ i, i = 3 ∨ i = 4 ∨ i = 5 → hp[i]? = some (.cell none)
section
variable {G : Stat} {T : SA} {text : List Nat} {ps : Pos} {iC iR : Nat} {cs : List V} {X : UM} {r : List UM} {bk : Nat → List V} {hp hp' : List O} (lx : Lx G) (lt : Lt2 G)
theorem Bd.go {X' : UM} {r' : List UM} {bk' : Nat → List V} (h : Bd G T text ps iC iR cs X r bk hp) (q' : Q4 6 G T text (fun _ => 1) X' r' bk' 0 hp') {i : Nat} {xs : List V} (hi : hp[i]? = some (.list xs)) (e : Ext [i] hp hp') (hC : i ≠ iC) (row : hp'[iR]? = some (.list (rowOf X' r'))) (ne : ∀ (k : Nat) (Y : UM), (X' :: r').reverse[k]? = some Y → Y.2.p ≠ iR ∧ Y.2.p ≠ iC) : Bd G T text ps iC iR cs X' r' bk' hp' := by
  have nb : ∀ {j : Nat} {o : O}, hp[j]? = some o → (∀ x, o ≠ .list x) → j ∉ [i] := fun hj ho => by rw [List.mem_singleton]; exact ne_of hj hi (ho _)
  obtain ⟨x, hx⟩ := h.t0
  refine ⟨q', row, e.get h.cal (by rw [List.mem_singleton]; exact Ne.symm hC), ⟨h.ne.1, h.ne.2.1, h.ne.2.2.1, ne⟩, h.tb.ext e fun j hj o ho => ?_, h.tup.ext e fun j hj x ho => ?_, ⟨x, e.get hx (nb hx fun x z => nomatch z)⟩, fun j hj => e.get (h.cel j hj) (nb (h.cel j hj) fun x z => nomatch z)⟩
  · rw [List.mem_singleton.mp hj, hi] at ho
    cases ho
    exact ⟨fun _ _ z => (nomatch z), fun _ z => (nomatch z)⟩
  · rw [List.mem_singleton.mp hj, hi] at ho; cases ho
include lx lt in
theorem Bd.ext0 (h : Bd G T text ps iC iR cs X r bk hp) (e : Ext [] hp hp') : Bd G T text ps iC iR cs X r bk hp' :=
  ⟨h.q.ext0 lx lt e, e.get h.row (fun z => nomatch z), e.get h.cal (fun z => nomatch z), h.ne, h.tb.ext0 e, h.tup.ext0 e, let ⟨x, hx⟩ := h.t0; ⟨x, e.get hx (fun z => nomatch z)⟩, fun j hj => e.get (h.cel j hj) (fun z => nomatch z)⟩
include lx lt in
theorem Bd.ext1 (h : Bd G T text ps iC iR cs X r bk hp) (e : Ext [1] hp hp') (ht : TabIs G 1 72 ps 1 hp') : Bd G T text ps iC iR cs X r bk hp' := by
  obtain ⟨y, hy⟩ := h.tb.at
  have nb : ∀ {j : Nat} {o : O}, hp[j]? = some o → (∀ x, o ≠ .tab 72 x) → j ∉ [1] := fun hj ho => by rw [List.mem_singleton]; exact ne_of hj hy (ho _)
  refine ⟨h.q.keep lx lt e (fun j hj => by rw [List.mem_singleton.mp hj]; exact h.q.nin lx lt hy id) (fun j hj k Y hY => by rw [List.mem_singleton.mp hj]; exact ne_of (h.q.pb k Y hY).1 hy fun z => nomatch z), e.get h.row (nb h.row fun x z => nomatch z), e.get h.cal (nb h.cal fun x z => nomatch z), h.ne, ht, h.tup.ext e fun j hj x ho => ?_, let ⟨x, hx⟩ := h.t0; ⟨x, e.get hx (by decide)⟩, fun j hj => e.get (h.cel j hj) (nb (h.cel j hj) fun x z => nomatch z)⟩
  rw [List.mem_singleton.mp hj, hy] at ho; cases ho
include lx lt in
theorem Bd.up (h : Bd G T text ps iC iR cs X r bk hp) (hb : ∀ k, bk k = []) {u : UA} {hp1 hp2 : List O} {s d p : Nat} (U : Up G u (.ref X.2.s) hp1) (l1 : hp.length ≤ u.t) (l2 : hp.length ≤ u.dt) (l3 : hp.length ≤ u.f) (l4 : hp.length ≤ u.cl) (ht : TabIs G 1 72 ps 1 hp1) (e1 : Ext [1] hp hp1)
    (m1 : hp2[s]? = some (.inst d)) (m2 : hp2[d]? = some (.dct [(.lineno, .int 1), (.instream, .ref u.t), (.whitespace, .str [10, 9, 13, 32]), (.pushback, .ref p)])) (m3 : hp2[p]? = some (.list [])) (k1 : hp1.length ≤ d) (k2 : hp1.length ≤ p) (k3 : s = hp1.length + 1) (e2 : Ext [] hp1 hp2) :
    Bd G T text ps iC iR cs (u, ⟨s, d, p⟩) (X :: r) bk (hp2.set iR (.list (rowOf X r ++ [.ref s]))) := by
  have h1 := h.ext1 lx lt e1 ht
  have h2 := h1.ext0 lx lt e2
  have R := rdc (f := fun _ => 1) lx lt h.q.sm r X h.q.sc
  have R1 : ∀ i ∈ Fc T X r, i < hp.length := fun i hi => R.lt h.q.rs hi
  have U2 : Up G u (.ref X.2.s) hp2 := U.ext e2 fun i _ z => nomatch z
  have e3 : Ext [iR] hp2 (hp2.set iR (.list (rowOf X r ++ [.ref s]))) := .set (.head _)
  have low : ∀ {i : Nat}, hp.length ≤ i → i ∉ Fc T X r := fun hi z => absurd (R1 _ z) (Nat.not_lt.mpr hi)
  have l01 : hp.length ≤ hp1.length := e1.1
  have hdu : ∀ i ∈ [u.t, u.dt, u.f, u.c, u.cl], i < hp1.length := fun i hi => by
    obtain ⟨fs, h8, _⟩ := U.dt
    simp only [List.mem_cons, List.not_mem_nil, or_false] at hi
    rcases hi with rfl | rfl | rfl | rfl | rfl
    · exact lt_of_get U.t
    · exact lt_of_get h8
    · exact lt_of_get U.f
    · exact lt_of_get U.c
    · exact lt_of_get U.cl
  have sc : Sc 6 T (u, ⟨s, d, p⟩) (X :: r) := by
    refine ⟨⟨fun i hi z => ?_, low (Nat.le_trans l01 k1), fun z => ?_, Nat.le_trans ?_ l4⟩, h.q.sc⟩
    · have zf := R.lf i z
      simp only [FU, List.mem_cons, List.not_mem_nil, or_false] at hi
      rcases hi with rfl | rfl | rfl | rfl | rfl | rfl | rfl
      · exact low l1 zf
      · exact low l2 zf
      · exact low l3 zf
      · rcases h1.q.rs.ck r X _ z with q | ⟨fs, q⟩
        · have := U.c
          rw [q, (RSc.at r X h1.q.rs).1] at this; cases this
        · rw [U.c] at q; cases q
      · exact low l4 zf
      · exact low (k3 ▸ Nat.le_succ_of_le l01) zf
      · exact low (Nat.le_trans l01 k1) zf
    · rcases List.mem_append.mp (show d ∈ [u.t, u.dt, u.f, u.c, u.cl] ++ [s] from z) with z | z
      · exact absurd (hdu d z) (Nat.not_lt.mpr k1)
      · exact ne_of m2 m1 (fun z => nomatch z) (List.mem_singleton.mp z)
    · exact lt_of_get (h.cel 5 (.inr (.inr rfl)))
  have q2 := h2.q.list lx lt h2.row h.ne.1 (fun k Y hY => (h.ne.2.2.2 k Y hY).1) (.list (rowOf X r ++ [.ref s]))
  have nR : ∀ {j : Nat} {o : O}, hp2[j]? = some o → (∀ x, o ≠ .list x) → j ∉ [iR] := fun hj ho => by rw [List.mem_singleton]; exact ne_of hj h2.row (ho _)
  have um := um_ext (ln := 1) (M := ⟨s, d, p⟩) U2 ⟨m1, m2⟩ e3 fun i hi => by
    obtain ⟨fs, h8, _⟩ := U2.dt
    simp only [FU, List.mem_cons, List.not_mem_nil, or_false] at hi
    rcases hi with rfl | rfl | rfl | rfl | rfl | rfl | rfl
    · exact nR U2.t fun x z => nomatch z
    · exact nR h8 fun x z => nomatch z
    · exact nR U2.f fun x z => nomatch z
    · exact nR U2.c fun x z => nomatch z
    · exact nR U2.cl fun x z => nomatch z
    · exact nR m1 fun x z => nomatch z
    · exact nR m2 fun x z => nomatch z
  have pN : ∀ {i : Nat} {o : O}, hp[i]? = some o → p ≠ i := fun hi => Nat.ne_of_gt (Nat.lt_of_lt_of_le (lt_of_get hi) (Nat.le_trans l01 k2))
  have pR := pN h.row
  have q' : Q4 6 G T text (fun _ => 1) (u, ⟨s, d, p⟩) (X :: r) bk 0 (hp2.set iR (.list (rowOf X r ++ [.ref s]))) := by
    refine ⟨⟨q2.rs, um⟩, sc, fun k Y hY => ?_, fun i j Y Z hY hZ hij => ?_, h.q.sm⟩
    · rcases rev_get hY with ⟨_, rfl⟩ | ⟨_, hY⟩
      · exact ⟨by rw [hb]; exact (List.getElem?_set_ne (Ne.symm pR)).trans m3, pN (RSc.at r X h.q.rs).1⟩
      · exact q2.pb k Y hY
    · rcases rev_get hY with ⟨a, rfl⟩ | ⟨_, hY⟩
      · rcases rev_get hZ with ⟨b, _⟩ | ⟨_, hZ⟩
        · exact absurd (a.trans b.symm) hij
        · exact pN (h.q.pb j Z hZ).1
      · rcases rev_get hZ with ⟨_, rfl⟩ | ⟨_, hZ⟩
        · exact Ne.symm (pN (h.q.pb i Y hY).1)
        · exact h.q.np i j Y Z hY hZ hij
  refine h2.go q' h2.row e3 (Ne.symm h.ne.2.2.1) ?_ fun k Y hY => ?_
  · rw [List.getElem?_set_self (lt_of_get h2.row)]
    unfold rowOf
    rw [List.reverse_cons (as := X :: r), List.map_append]; rfl
  · rcases rev_get hY with ⟨_, rfl⟩ | ⟨_, hY⟩
    · exact ⟨pR, pN h.cal⟩
    · exact h.ne.2.2.2 k Y hY
end
end L04
end Mine
namespace Mine
open PySem PySem.W PySem.Calls PyProof.Rows
namespace L04
noncomputable def ThOk (G : Stat) (ps : Pos) (A : Addr) : Prop := keepIn G.K (.ref A) = true ∧ ∀ (n : Nat) (v : V) (hp : List O) (K : V → List O → Prop), TabIs G 1 72 ps 1 hp →
  (∀ u hp', Up G u v hp' → hp.length ≤ u.t → hp.length ≤ u.dt → hp.length ≤ u.f → hp.length ≤ u.cl → TabIs G 1 72 ps 1 hp' → Ext [1] hp hp' → K (.ref u.t) hp') → CallT G (n + 3) (.stat (.ref A)) [v] hp K
noncomputable def lp4 (v0 v2 : V) (text : List Nat) (T : SA) (C R : Nat) (v5 : Option V) : List (Option V) :=
  [some v0, none, some v2, some (.str text), some (.ref C), v5, some (.ref T.a), some (.ref R), none, none, none, none, none, none, none, none, none, none, none, none, none, none, none, none, none]
noncomputable def is_grow (A : Addr) : IS := .whl (.cmp .Lt (.bf .len [(.loc 7)]) (.k (.int 4))) [.expr (.bm .append (.loc 7) [(.new [(.call (.stat (.ref A)) [(.sub (.loc 7) (.k (.int (-1))))])])])]
noncomputable def is_fill : IS := .for (.loc 5) (.bf .range [(.k (.int 8))]) [.expr (.um .pushToken (.sub (.loc 7) (.bin .Mod (.loc 5) (.k (.int 4)))) [(.loc 5)])]
theorem rowOf_last (X : UM) (r : List UM) : ∃ ys, rowOf X r = ys ++ [.ref X.2.s] := ⟨r.reverse.map fun Y => .ref Y.2.s, by unfold rowOf; rw [List.reverse_cons, List.map_append]; rfl⟩
theorem rowOf_len (X : UM) (r : List UM) : (rowOf X r).length = r.length + 1 := by unfold rowOf; rw [List.length_map, List.length_reverse, List.length_cons]
theorem last_mk {hp : List O} {i : Nat} {ys : List V} {x : V} {loc : List (Option V)} {K : V → St → Prop} (h : hp[i]? = some (.list (ys ++ [x]))) (hK : K x ⟨loc, hp⟩) : wpSub (.ref i) (.int (-1)) ⟨loc, hp⟩ K := by
  rw [suR]
  refine ⟨fit1000 (by decide) (by decide), onT_mkL h ?_⟩
  rw [subL_last]; exact hK
section
variable {G : Stat} {T : SA} {text : List Nat} {ps : Pos} {iC iR : Nat} {cs : List V} {X : UM} {r : List UM} {bk : Nat → List V} {hp hp' : List O} (lx : Lx G) (lt : Lt2 G)
  {n k : Nat} {cl : List (Option Nat)} {v0 v2 : V} {v5 : Option V} {K : Fl → St → Prop} {A : Addr}
include lx lt in
theorem grow_wp (h : Bd G T text ps iC iR cs X [] bk hp) (hb : ∀ k, bk k = []) (hT : ThOk G ps A) (hK : ∀ X r hp', r.length = 3 → Bd G T text ps iC iR cs X r bk hp' → K .next ⟨lp4 v0 v2 text T iC iR v5, hp'⟩) :
    wpS G (n + 3) cl k (is_grow A) ⟨lp4 v0 v2 text T iC iR v5, hp⟩ K := by
  unfold is_grow
  rw [sWhl]
  refine ⟨fun m σ => ∃ X r hp', m + r.length = 3 ∧ σ = ⟨lp4 v0 v2 text T iC iR v5, hp'⟩ ∧ Bd G T text ps iC iR cs X r bk hp', ⟨3, X, [], hp, rfl, rfl, h⟩, ?_⟩
  rintro m σ ⟨X, r, hp1, hm, rfl, h⟩
  unfold lp4
  dsimp only [tCmp, tAnd, tOr, tNot, tLc, tAt, eK, eLoc, eStat, eBin, eCmp, eIfe, eList, eTup, eAttr, eMattr, eCall, eNew, eBf, eBm, eUm, eAm, eSub, eSli, esN, esC, oN, oS, gLoc, gCel, gAttr, gSub, gTup, gsC, cEq, cNe, cLt, cLe, cGt, cGe, cIn, cNi, ltII, bII, bSS, bRR, bRI, biAdd, biSub, biMul, biMod, biDiv, biPow, adS, adL, mlL, iII, iSS, niAdd, niSub, niDiv, fLen, fAbs, fStr, fMin, fRng, rg1, rg2, fItr, fSum, o1, lnS, lnR, vI, vS, vR, lc0, lcS, List.getElem?_cons_zero, List.getElem?_cons_succ, List.set_cons_zero, List.set_cons_succ, List.length_cons, List.length_nil, qSS, qII, qIS, qSI, nS, inO, o2, hkI, hkS, hkR, hkN, sqN, ssN]
  have hr3 : r.length ≤ 3 := hm ▸ Nat.le_add_left _ _
  have hr4 : r.length + 1 ≤ 4 := Nat.succ_le_succ hr3
  refine onL_mk h.row ⟨?_, ?_⟩
  · rw [rowOf_len]; exact Nat.le_trans hr4 (by decide)
  rw [rowOf_len]
  by_cases hl : r.length < 3
  · refine ifp (decide_eq_true (Int.ofNat_lt.mpr (Nat.succ_lt_succ hl))) (mExpr ?_)
    dsimp only [tCmp, tAnd, tOr, tNot, tLc, tAt, eK, eLoc, eStat, eBin, eCmp, eIfe, eList, eTup, eAttr, eMattr, eCall, eNew, eBf, eBm, eUm, eAm, eSub, eSli, esN, esC, oN, oS, gLoc, gCel, gAttr, gSub, gTup, gsC, cEq, cNe, cLt, cLe, cGt, cGe, cIn, cNi, ltII, bII, bSS, bRR, bRI, biAdd, biSub, biMul, biMod, biDiv, biPow, adS, adL, mlL, iII, iSS, niAdd, niSub, niDiv, fLen, fAbs, fStr, fMin, fRng, rg1, rg2, fItr, fSum, o1, lnS, lnR, vI, vS, vR, lc0, lcS, List.getElem?_cons_zero, List.getElem?_cons_succ, List.set_cons_zero, List.set_cons_succ, List.length_cons, List.length_nil, qSS, qII, qIS, qSI, nS, inO, o2, hkI, hkS, hkR, hkN, sqN, ssN]
    refine ⟨⟨rfl, _, h.row⟩, ?_⟩
    obtain ⟨ys, hy⟩ := rowOf_last X r
    refine last_mk (h.row.trans (by rw [hy])) ?_
    refine ⟨hT.1, hT.2 n _ hp1 _ h.tb fun u hp2 U l1 l2 l3 l4 ht e1 => ?_⟩
    refine new_mk lx (n := n + 1) fun s d p hp3 m1 m2 m3 k1 k2 k3 e2 => ?_
    rw [← k3]
    have h3 := h.up lx lt hb U l1 l2 l3 l4 ht e1 m1 m2 m3 k1 k2 k3 e2
    refine app_mk (((h.ext1 lx lt e1 ht).ext0 lx lt e2).row) (by rw [rowOf_len]; exact Nat.le_trans hr4 (by decide)) ?_
    cases m with
    | zero => exact absurd (Nat.zero_add r.length ▸ hm) (Nat.ne_of_lt hl)
    | succ m => exact ⟨m, Nat.lt_succ_self m, _, X :: r, _, by rw [List.length_cons, ← hm, Nat.succ_add]; rfl, rfl, h3⟩
  · refine ifn (fun z => hl (Nat.lt_of_succ_lt_succ (Int.ofNat_lt.mp (of_decide_eq_true z)))) ?_
    exact hK X r hp1 (Nat.le_antisymm hr3 (Nat.not_lt.mp hl)) h
noncomputable def bkn (j m : Nat) : List V := ((List.range j).filter fun i => i % 4 == m).map fun i : Nat => V.int i
theorem bkn_s (j : Nat) : bkn (j + 1) = upd (bkn j) (j % 4) (bkn j (j % 4) ++ [.int (j : Nat)]) := by
  funext m
  unfold upd bkn
  rw [List.range_succ, List.filter_append, List.map_append]
  by_cases h : m = j % 4
  · subst h
    rw [if_pos rfl, List.filter_cons_of_pos (p := fun i => i % 4 == j % 4) (beq_self_eq_true _)]; rfl
  · rw [if_neg h, List.filter_cons_of_neg (p := fun i => i % 4 == m) (by simpa using Ne.symm h)]; exact List.append_nil _
theorem bkn_len (j m : Nat) : (bkn j m).length ≤ j := by
  unfold bkn
  rw [List.length_map]
  exact Nat.le_trans (List.length_filter_le _ _) (Nat.le_of_eq List.length_range)
theorem bkn_0 (m : Nat) : bkn 0 m = [] := rfl
include lx lt in
theorem fill_wp (lp : Lp G) (h : Bd G T text ps iC iR cs X r (bkn 0) hp) (hr : r.length = 3) (hK : ∀ v5 hp', Bd G T text ps iC iR cs X r (bkn 8) hp' → K .next ⟨lp4 v0 v2 text T iC iR v5, hp'⟩) :
    wpS G (n + 3) cl k is_fill ⟨lp4 v0 v2 text T iC iR v5, hp⟩ K := by
  unfold is_fill
  refine wFor ?_
  dsimp only [tCmp, tAnd, tOr, tNot, tLc, tAt, eK, eLoc, eStat, eBin, eCmp, eIfe, eList, eTup, eAttr, eMattr, eCall, eNew, eBf, eBm, eUm, eAm, eSub, eSli, esN, esC, oN, oS, gLoc, gCel, gAttr, gSub, gTup, gsC, cEq, cNe, cLt, cLe, cGt, cGe, cIn, cNi, ltII, bII, bSS, bRR, bRI, biAdd, biSub, biMul, biMod, biDiv, biPow, adS, adL, mlL, iII, iSS, niAdd, niSub, niDiv, fLen, fAbs, fStr, fMin, fRng, rg1, rg2, fItr, fSum, o1, lnS, lnR, vI, vS, vR, lc0, lcS, List.getElem?_cons_zero, List.getElem?_cons_succ, List.set_cons_zero, List.set_cons_succ, List.length_cons, List.length_nil, qSS, qII, qIS, qSI, nS, inO, o2, hkI, hkS, hkR, hkN, sqN, ssN]
  refine ⟨fit1000 (by decide) (by decide), ?_⟩
  have r1 : (hp ++ [O.rng 0 (8 : Nat)])[hp.length]? = some (.rng 0 (8 : Nat)) := List.getElem?_concat_length
  have h1 := h.ext0 lx lt (.app (t := [O.rng 0 (8 : Nat)]))
  change forV _ _ k G (n + 3) (.ref hp.length) ⟨_, hp ++ [O.rng 0 (8 : Nat)]⟩ K
  generalize hp ++ [O.rng 0 (8 : Nat)] = hp1 at r1 h1 ⊢
  generalize hp.length = q at r1 ⊢
  refine for_nat (σ := ⟨_, hp1⟩) r1 (by decide) (fun j σ => ∃ v5 hp', σ = ⟨lp4 v0 v2 text T iC iR v5, hp'⟩ ∧ Bd G T text ps iC iR cs X r (bkn j) hp') ⟨v5, hp1, rfl, h1⟩ ?_ ?_
  · rintro j σ hj ⟨v5', hp2, rfl, h⟩
    obtain ⟨Y, hY⟩ := row_get (X := X) hr (Nat.mod_lt j (show 0 < 4 by decide))
    obtain ⟨t, m⟩ := h.q.ins hY
    unfold lp4
    dsimp only [tCmp, tAnd, tOr, tNot, tLc, tAt, eK, eLoc, eStat, eBin, eCmp, eIfe, eList, eTup, eAttr, eMattr, eCall, eNew, eBf, eBm, eUm, eAm, eSub, eSli, esN, esC, oN, oS, gLoc, gCel, gAttr, gSub, gTup, gsC, cEq, cNe, cLt, cLe, cGt, cGe, cIn, cNi, ltII, bII, bSS, bRR, bRI, biAdd, biSub, biMul, biMod, biDiv, biPow, adS, adL, mlL, iII, iSS, niAdd, niSub, niDiv, fLen, fAbs, fStr, fMin, fRng, rg1, rg2, fItr, fSum, o1, lnS, lnR, vI, vS, vR, lc0, lcS, List.getElem?_cons_zero, List.getElem?_cons_succ, List.set_cons_zero, List.set_cons_succ, List.length_cons, List.length_nil, qSS, qII, qIS, qSI, nS, inO, o2, hkI, hkS, hkR, hkN, sqN, ssN]
    refine ⟨show 5 < 25 by decide, mExpr ?_⟩
    dsimp only [tCmp, tAnd, tOr, tNot, tLc, tAt, eK, eLoc, eStat, eBin, eCmp, eIfe, eList, eTup, eAttr, eMattr, eCall, eNew, eBf, eBm, eUm, eAm, eSub, eSli, esN, esC, oN, oS, gLoc, gCel, gAttr, gSub, gTup, gsC, cEq, cNe, cLt, cLe, cGt, cGe, cIn, cNi, ltII, bII, bSS, bRR, bRI, biAdd, biSub, biMul, biMod, biDiv, biPow, adS, adL, mlL, iII, iSS, niAdd, niSub, niDiv, fLen, fAbs, fStr, fMin, fRng, rg1, rg2, fItr, fSum, o1, lnS, lnR, vI, vS, vR, lc0, lcS, List.getElem?_cons_zero, List.getElem?_cons_succ, List.set_cons_zero, List.set_cons_succ, List.length_cons, List.length_nil, qSS, qII, qIS, qSI, nS, inO, o2, hkI, hkS, hkR, hkN, sqN, ssN]
    refine ⟨by decide, ?_⟩
    rw [show (j : Int).fmod 4 = ((j % 4 : Nat) : Int) by rw [Int.fmod_eq_emod_of_nonneg _ (by decide)]; rfl]
    refine sub_mk h.row (get_map hY) (w4 (Nat.mod_lt j (show 0 < 4 by decide))) (onI_mk (instM m) ?_)
    refine h.q.push lx lt lp hY (Nat.le_trans (bkn_len _ _) (Nat.le_trans (Nat.le_of_lt hj) (by decide))) fun q' => ?_
    rw [← bkn_s] at q'
    refine ⟨_, _, rfl, h.go q' (h.q.pb _ _ hY).1 (.set (.head _)) (h.ne.2.2.2 _ _ hY).2 ((List.getElem?_set_ne (h.ne.2.2.2 _ _ hY).1).trans h.row) h.ne.2.2.2⟩
  · rintro σ ⟨v5', hp2, rfl, h⟩
    exact hK v5' hp2 h
end
end L04
end Mine
namespace Mine
open PySem PySem.W PySem.Calls PyProof.Rows
namespace L04
noncomputable def sg12 : List Nat := [110, 34, 92, 32, 10, 34, 92, 9, 13, 39, 12, 160]
noncomputable def signOf (x : Int) : Nat := sg12.getD (x.fmod 12).toNat 0
noncomputable def fSign : V → V
  | .int x => .str [signOf x]
  | v => v
theorem mod12 (x : Int) : ∃ m : Nat, x.fmod 12 = (m : Int) ∧ m < 12 := ⟨(x.fmod 12).toNat, (Int.toNat_of_nonneg (Int.fmod_nonneg_of_pos x (by decide))).symm, (Int.toNat_lt (Int.fmod_nonneg_of_pos x (by decide))).mpr (Int.fmod_lt_of_pos x (by decide))⟩
theorem sign_get (x : Int) : ∃ m : Nat, x.fmod 12 = (m : Int) ∧ m < 12 ∧ sg12[m]? = some (signOf x) := by
  obtain ⟨m, h1, h2⟩ := mod12 x
  refine ⟨m, h1, h2, ?_⟩
  unfold signOf
  rw [h1, Int.toNat_natCast, List.getD_eq_getElem?_getD, List.getElem?_eq_getElem (show m < sg12.length from h2)]; rfl
theorem signOf_in (x : Int) : signOf x ∈ sg := by
  obtain ⟨m, _, _, h⟩ := sign_get x
  have : ∀ c ∈ sg12, c ∈ sg := by decide
  exact this _ (List.mem_of_getElem? h)
theorem ones_sum : ∀ l : List Int, ((l.map fun x => [signOf x]).map List.length).sum = l.length
  | [] => rfl
  | a :: l => by rw [List.map_cons, List.map_cons, List.sum_cons, ones_sum l]; exact Nat.add_comm 1 l.length
theorem flat_sign (l : List Int) : joinS [] (l.map fun x => [signOf x]) = l.map signOf := by
  rw [Mine.joinS_nil]
  induction l with
  | nil => rfl
  | cons x l ih => rw [List.map_cons, List.flatten_cons, ih]; rfl
noncomputable def base4 : List O := [.tab 65 none, .tab 72 none, .cell (some (.str sg12)), .cell none, .cell none, .cell none]
noncomputable def Bs (hp : List O) : Prop := ∀ (i : Nat) (o : O), base4[i]? = some o → hp[i]? = some o
theorem Bs.ext {hp hp' : List O} {l : List Nat} (h : Bs hp) (e : Ext l hp hp') (hl : ∀ i ∈ l, 6 ≤ i) : Bs hp' := fun i o ho => e.get (h i o ho) fun m => absurd (show i < 6 from lt_of_get ho) (Nat.not_lt.mpr (hl i m))
theorem Bs.ext0 {hp hp' : List O} (h : Bs hp) (e : Ext [] hp hp') : Bs hp' := h.ext e fun _ z => nomatch z
theorem Bs.six {hp : List O} (h : Bs hp) : 6 ≤ hp.length := lt_of_get (h 5 _ rfl)
noncomputable def g1 (fs : List Int) (j : Nat) : List V := [.int ((fs.getD j 0).fdiv 24), .int (((fs.getD j 0).fdiv 12).fmod 2)]
noncomputable def g2 (j : Nat) : List V := [.int (j % 4 : Nat), .int 0]
theorem div24 {x : Int} (h0 : 0 ≤ x) (h1 : x < 96) : ∃ c : Nat, x.fdiv 24 = (c : Int) ∧ c < 4 := by
  rw [Int.fdiv_eq_ediv_of_nonneg _ (by decide)]
  exact ⟨(x / 24).toNat, (Int.toNat_of_nonneg (Int.ediv_nonneg h0 (by decide))).symm, (Int.toNat_lt (Int.ediv_nonneg h0 (by decide))).mpr (Int.ediv_lt_of_lt_mul (by decide) (Int.lt_of_lt_of_le h1 (by decide)))⟩
noncomputable def is_text : IS := .assign (.loc 3) (.bm .join (.k (.str [])) [(.comp (wpComp (.sub (.cel 2) (.bin .Mod (.loc 1) (.k (.int 12)))) 1 (.loc 2) [] 3 [none, none, some 1]))])
noncomputable def is_calls : IS := .assign (.loc 4) (.comp (wpComp (.tup [(.bin .FloorDiv (.loc 1) (.k (.int 24))), (.bin .Mod (.bin .FloorDiv (.loc 1) (.k (.int 12))) (.k (.int 2)))]) 1 (.loc 2) [] 2 [none, none]))
noncomputable def is_more : IS := .aug (.loc 4) .Add (.comp (wpComp (.tup [(.bin .Mod (.loc 1) (.k (.int 4))), (.k (.int 0))]) 1 (.bf .range [(.bin .Add (.bf .len [(.loc 2)]) (.k (.int 8)))]) [] 2 [none, none]))
noncomputable def la4 (v0 : V) (iF : Nat) (v3 v4 : Option V) : List (Option V) := [some v0, none, some (.ref iF), v3, v4, none, none, none, none, none, none, none, none, none, none, none, none, none, none, none, none, none, none, none, none]
section
variable {G : Stat} {n k : Nat} {v0 : V} {iF : Nat} {fs : List Int} {hp : List O} {K : Fl → St → Prop} {r : List IS}
theorem text_wp (hB : Bs hp) (hF : hp[iF]? = some (.list (fs.map V.int))) (hl : fs.length ≤ 12) (hK : ∀ hp', Bs hp' → hp'[iF]? = some (.list (fs.map V.int)) → wpSs G n cL4 k r ⟨la4 v0 iF (some (.str (fs.map signOf))) none, hp'⟩ K) :
    wpSs G n cL4 k (is_text :: r) ⟨la4 v0 iF none none, hp⟩ K := by
  unfold is_text
  unfold la4 at hK ⊢
  refine mAssign ?_
  dsimp only [tCmp, tAnd, tOr, tNot, tLc, tAt, eK, eLoc, eStat, eBin, eCmp, eIfe, eList, eTup, eAttr, eMattr, eCall, eNew, eBf, eBm, eUm, eAm, eSub, eSli, esN, esC, oN, oS, gLoc, gCel, gAttr, gSub, gTup, gsC, cEq, cNe, cLt, cLe, cGt, cGe, cIn, cNi, ltII, bII, bSS, bRR, bRI, biAdd, biSub, biMul, biMod, biDiv, biPow, adS, adL, mlL, iII, iSS, niAdd, niSub, niDiv, fLen, fAbs, fStr, fMin, fRng, rg1, rg2, fItr, fSum, o1, lnS, lnR, vI, vS, vR, lc0, lcS, List.getElem?_cons_zero, List.getElem?_cons_succ, List.set_cons_zero, List.set_cons_succ, List.length_cons, List.length_nil, qSS, qII, qIS, qSI, nS, inO, o2, hkI, hkS, hkR, hkN, sqN, ssN]
  refine ⟨rfl, ?_⟩
  refine comp_pure (q := iF) (xs := fs.map V.int) fSign (fun p hp => ?_) (fun K' h => h) hF (by rw [List.length_map]; exact Nat.le_trans hl (by decide)) (fun v hv t K' h => ?_) ?_
  · simp only [List.mem_cons, List.not_mem_nil, or_false, reduceCtorEq, false_or, Option.some.injEq] at hp
    subst hp; exact ⟨2, rfl⟩
  · obtain ⟨x, hx, rfl⟩ := List.mem_map.mp hv
    obtain ⟨m, g0, g1, g2⟩ := sign_get x
    have hS : (hp ++ t)[2]? = some (.cell (some (.str sg12))) := by rw [List.getElem?_append_left (lt_of_get (hB 2 _ rfl))]; exact hB 2 _ rfl
    rw [eSub]
    refine celL (σ := ⟨_, hp ++ t⟩) (j := 2) rfl hS ?_
    rw [show (List.replicate 3 (none : Option V)).set 1 (some (.int x)) = [none, some (.int x), none] from rfl] at h ⊢
    dsimp only [tCmp, tAnd, tOr, tNot, tLc, tAt, eK, eLoc, eStat, eBin, eCmp, eIfe, eList, eTup, eAttr, eMattr, eCall, eNew, eBf, eBm, eUm, eAm, eSub, eSli, esN, esC, oN, oS, gLoc, gCel, gAttr, gSub, gTup, gsC, cEq, cNe, cLt, cLe, cGt, cGe, cIn, cNi, ltII, bII, bSS, bRR, bRI, biAdd, biSub, biMul, biMod, biDiv, biPow, adS, adL, mlL, iII, iSS, niAdd, niSub, niDiv, fLen, fAbs, fStr, fMin, fRng, rg1, rg2, fItr, fSum, o1, lnS, lnR, vI, vS, vR, lc0, lcS, List.getElem?_cons_zero, List.getElem?_cons_succ, List.set_cons_zero, List.set_cons_succ, List.length_cons, List.length_nil, qSS, qII, qIS, qSI, nS, inO, o2, hkI, hkS, hkR, hkN, sqN, ssN]
    refine ⟨by decide, ?_⟩
    rw [g0, suS]
    exact ⟨fitN (Nat.le_trans (Nat.le_of_lt g1) (by decide)), subS_mk g2 h⟩
  have hmap : (fs.map V.int).map fSign = (fs.map fun x => [signOf x]).map V.str := by rw [List.map_map, List.map_map]; rfl
  have e2 : Ext [] hp (hp ++ [O.list ((fs.map V.int).map fSign)]) := .app
  have hT2 : (hp ++ [O.list ((fs.map V.int).map fSign)])[hp.length]? = some (.list ((fs.map fun x => [signOf x]).map V.str)) := by rw [List.getElem?_concat_length, hmap]
  dsimp only
  generalize hp ++ [O.list ((fs.map V.int).map fSign)] = hp2 at e2 hT2 ⊢
  refine join_mk (σ := ⟨_, hp2⟩) hT2 (by rw [ones_sum, List.length_map]; exact Nat.le_trans (Nat.add_le_add hl hl) (by decide)) (by decide) ?_
  rw [flat_sign]
  exact ⟨show 3 < 25 by decide, hK hp2 (hB.ext0 e2) (e2.get hF (fun z => nomatch z))⟩
theorem calls_wp {v3 : Option V} (hB : Bs hp) (hF : hp[iF]? = some (.list (fs.map V.int))) (hfo : FigOk 96 12 fs)
    (hK : ∀ iC cs hp', Bs hp' → hp'[iC]? = some (.list cs) → TupsAt hp' cs → wpSs G n cL4 k r ⟨la4 v0 iF v3 (some (.ref iC)), hp'⟩ K) :
    wpSs G n cL4 k (is_calls :: is_more :: r) ⟨la4 v0 iF v3 none, hp⟩ K := by
  obtain ⟨hl, hfr⟩ := hfo
  unfold is_calls is_more
  unfold la4 at hK ⊢
  refine mAssign ?_
  rw [eComp]
  refine ⟨fun q hq => by simp at hq, ?_⟩
  rw [eLoc]
  refine onLoc_mk (v := .ref iF) rfl ?_
  refine tup_idx (N := 0) (g1 fs) (σ := ⟨_, hp⟩) hF (by rw [List.length_map]; exact Nat.le_trans hl (by decide)) (fun _ => by show 2 ≤ 1000; decide) (fun j x hx t K' h => ?_) fun hp1 c1 t1 e1 => ?_
  · obtain ⟨y, hy, rfl⟩ := map_get hx
    have hy : fs.getD j 0 = y := by rw [List.getD_eq_getElem?_getD, hy]; rfl
    unfold g1 at h
    rw [hy] at h
    show wpEs G n _ _ ⟨[none, some (.int y)], hp ++ t⟩ K'
    dsimp only [tCmp, tAnd, tOr, tNot, tLc, tAt, eK, eLoc, eStat, eBin, eCmp, eIfe, eList, eTup, eAttr, eMattr, eCall, eNew, eBf, eBm, eUm, eAm, eSub, eSli, esN, esC, oN, oS, gLoc, gCel, gAttr, gSub, gTup, gsC, cEq, cNe, cLt, cLe, cGt, cGe, cIn, cNi, ltII, bII, bSS, bRR, bRI, biAdd, biSub, biMul, biMod, biDiv, biPow, adS, adL, mlL, iII, iSS, niAdd, niSub, niDiv, fLen, fAbs, fStr, fMin, fRng, rg1, rg2, fItr, fSum, o1, lnS, lnR, vI, vS, vR, lc0, lcS, List.getElem?_cons_zero, List.getElem?_cons_succ, List.set_cons_zero, List.set_cons_succ, List.length_cons, List.length_nil, qSS, qII, qIS, qSI, nS, inO, o2, hkI, hkS, hkR, hkN, sqN, ssN]
    exact ⟨by decide, by decide, by decide, by decide, by decide, h⟩
  rw [List.length_map] at c1 t1
  have e1 : Ext [] hp hp1 := e1
  have b1 := hB.ext0 e1
  have f1 := e1.get hF (fun z => nomatch z)
  have u1 := TupsAt.of t1 fun i hi => by
    obtain ⟨a, b⟩ := hfr fs[i] (List.getElem_mem hi)
    obtain ⟨c, h1, h2⟩ := div24 a b
    refine ⟨c, ((fs.getD i 0).fdiv 12).fmod 2, ?_, h2⟩
    unfold g1
    rw [List.getD_eq_getElem?_getD, List.getElem?_eq_getElem hi]
    show [V.int (fs[i].fdiv 24), _] = _
    rw [h1]
  have six := hB.six
  refine ⟨show 4 < 25 by decide, mAugL ?_⟩
  have hc4 : 6 ≤ hp.length := six
  change hp1[hp.length]? = _ at c1
  change TupsAt hp1 (upto (fun i => V.ref (hp.length + 1 + i)) fs.length) at u1
  show wpE G n cL4 (.loc 4) ⟨[some v0, none, some (.ref iF), v3, some (.ref hp.length), none, none, none, none, none, none, none, none, none, none, none, none, none, none, none, none, none, none, none, none], hp1⟩ _
  generalize hp.length = i4 at c1 u1 hc4 ⊢
  generalize hys : upto (fun i => V.ref (i4 + 1 + i)) fs.length = ys at c1 u1
  have hyl : ys.length ≤ 12 := by rw [← hys, upto_len]; exact hl
  clear hys t1
  dsimp only [tCmp, tAnd, tOr, tNot, tLc, tAt, eK, eLoc, eStat, eBin, eCmp, eIfe, eList, eTup, eAttr, eMattr, eCall, eNew, eBf, eBm, eUm, eAm, eSub, eSli, esN, esC, oN, oS, gLoc, gCel, gAttr, gSub, gTup, gsC, cEq, cNe, cLt, cLe, cGt, cGe, cIn, cNi, ltII, bII, bSS, bRR, bRI, biAdd, biSub, biMul, biMod, biDiv, biPow, adS, adL, mlL, iII, iSS, niAdd, niSub, niDiv, fLen, fAbs, fStr, fMin, fRng, rg1, rg2, fItr, fSum, o1, lnS, lnR, vI, vS, vR, lc0, lcS, List.getElem?_cons_zero, List.getElem?_cons_succ, List.set_cons_zero, List.set_cons_succ, List.length_cons, List.length_nil, qSS, qII, qIS, qSI, nS, inO, o2, hkI, hkS, hkR, hkN, sqN, ssN]
  rw [eComp]
  refine ⟨fun q hq => by simp at hq, ?_⟩
  dsimp only [tCmp, tAnd, tOr, tNot, tLc, tAt, eK, eLoc, eStat, eBin, eCmp, eIfe, eList, eTup, eAttr, eMattr, eCall, eNew, eBf, eBm, eUm, eAm, eSub, eSli, esN, esC, oN, oS, gLoc, gCel, gAttr, gSub, gTup, gsC, cEq, cNe, cLt, cLe, cGt, cGe, cIn, cNi, ltII, bII, bSS, bRR, bRI, biAdd, biSub, biMul, biMod, biDiv, biPow, adS, adL, mlL, iII, iSS, niAdd, niSub, niDiv, fLen, fAbs, fStr, fMin, fRng, rg1, rg2, fItr, fSum, o1, lnS, lnR, vI, vS, vR, lc0, lcS, List.getElem?_cons_zero, List.getElem?_cons_succ, List.set_cons_zero, List.set_cons_succ, List.length_cons, List.length_nil, qSS, qII, qIS, qSI, nS, inO, o2, hkI, hkS, hkR, hkN, sqN, ssN]
  refine onL_mk f1 ?_
  rw [List.length_map]
  refine ⟨Nat.le_trans hl (by decide), fitN (i := fs.length + 8) (Nat.le_trans (Nat.add_le_add_right hl 8) (by decide)), ?_⟩
  have e2 : Ext [] hp1 (hp1 ++ [O.rng 0 (fs.length + 8 : Nat)]) := .app
  have r2 : (hp1 ++ [O.rng 0 (fs.length + 8 : Nat)])[hp1.length]? = some (.rng 0 (fs.length + 8 : Nat)) := List.getElem?_concat_length
  have b2 := b1.ext0 e2
  have c2 := e2.get c1 (fun z => nomatch z)
  have u2 := u1.ext0 e2
  change wpIterG _ 2 (.ref hp1.length) ⟨_, hp1 ++ [O.rng 0 (fs.length + 8 : Nat)]⟩ _
  generalize hp1 ++ [O.rng 0 (fs.length + 8 : Nat)] = hp2 at r2 b2 c2 u2 ⊢
  generalize hp1.length = q2 at r2 ⊢
  refine tup_rng (N := 0) g2 (σ := ⟨_, hp2⟩) r2 (Nat.le_trans (Nat.add_le_add_right hl 8) (by decide)) (fun _ => by show 2 ≤ 1000; decide) (fun j hj t K' h => ?_) fun hp3 c3 t3 e3 => ?_
  · show wpEs G n _ _ ⟨[none, some (.int (j : Nat))], hp2 ++ t⟩ K'
    dsimp only [tCmp, tAnd, tOr, tNot, tLc, tAt, eK, eLoc, eStat, eBin, eCmp, eIfe, eList, eTup, eAttr, eMattr, eCall, eNew, eBf, eBm, eUm, eAm, eSub, eSli, esN, esC, oN, oS, gLoc, gCel, gAttr, gSub, gTup, gsC, cEq, cNe, cLt, cLe, cGt, cGe, cIn, cNi, ltII, bII, bSS, bRR, bRI, biAdd, biSub, biMul, biMod, biDiv, biPow, adS, adL, mlL, iII, iSS, niAdd, niSub, niDiv, fLen, fAbs, fStr, fMin, fRng, rg1, rg2, fItr, fSum, o1, lnS, lnR, vI, vS, vR, lc0, lcS, List.getElem?_cons_zero, List.getElem?_cons_succ, List.set_cons_zero, List.set_cons_succ, List.length_cons, List.length_nil, qSS, qII, qIS, qSI, nS, inO, o2, hkI, hkS, hkR, hkN, sqN, ssN]
    refine ⟨by decide, ?_⟩
    rw [show (j : Int).fmod 4 = ((j % 4 : Nat) : Int) by rw [Int.fmod_eq_emod_of_nonneg _ (by decide)]; rfl]
    exact h
  have e3 : Ext [] hp2 hp3 := e3
  have u3 := (u2.ext0 e3).app (TupsAt.of t3 fun i _ => ⟨i % 4, 0, rfl, Nat.mod_lt i (by decide)⟩)
  have b3 := b2.ext0 e3
  have c4 := e3.get c2 (fun z => nomatch z)
  change hp3[hp2.length]? = _ at c3
  change TupsAt hp3 (ys ++ upto (fun i => V.ref (hp2.length + 1 + i)) (fs.length + 8)) at u3
  unfold wpInp
  dsimp only
  generalize hp2.length = i5 at c3 u3 ⊢
  refine onL_mk c4 (onL_mk c3 ⟨?_, show 4 < 25 by decide, ?_⟩)
  · rw [upto_len]; exact Nat.le_trans (Nat.add_le_add hyl (Nat.add_le_add_right hl 8)) (by decide)
  · have e5 : Ext [i4] hp3 (hp3.set i4 (.list (ys ++ upto (fun i => V.ref (i5 + 1 + i)) (fs.length + 8)))) := .set (.head _)
    refine hK i4 _ _ (b3.ext e5 fun i hi => by rw [List.mem_singleton.mp hi]; exact hc4) (List.getElem?_set_self (lt_of_get c4)) (u3.ext e5 fun i hi x z => ?_)
    rw [List.mem_singleton.mp hi, c4] at z; cases z
end
end L04
end Mine
namespace Mine
open PySem PySem.W PySem.Calls PyProof.Rows
namespace L04
theorem wt0 : Wt [0, 1, 2, 3, 4, 5, 6, 7] (bkn 8) := by
  refine ⟨by decide, by decide, fun j hj => .inl ?_⟩
  match j, hj with
  | 0, _ => exact ⟨by decide, by decide, rfl⟩
  | 1, _ => exact ⟨by decide, by decide, rfl⟩
  | 2, _ => exact ⟨by decide, by decide, rfl⟩
  | 3, _ => exact ⟨by decide, by decide, rfl⟩
  | j + 4, h => exact absurd h (Nat.not_lt.mpr (Nat.le_add_left 4 j))
noncomputable def tupAt (hp : List O) : V → Option (Nat × O)
  | .ref i => match hp[i]? with
    | some (.tup t) => some (i, .tup t)
    | _ => none
  | _ => none
theorem tupAt_sp {hp : List O} {v : V} {p : Nat × O} (h : tupAt hp v = some p) : ∃ t, hp[p.1]? = some (.tup t) ∧ p.2 = .tup t := by
  unfold tupAt at h
  split at h
  · split at h
    · next i t e => cases h; exact ⟨t, e, rfl⟩
    · cases h
  · cases h
theorem tupAt_mk {hp : List O} {i : Nat} {t : List V} (h : hp[i]? = some (.tup t)) : tupAt hp (.ref i) = some (i, .tup t) := by simp only [tupAt, h]
section
variable {G : Stat} {T : SA} {text : List Nat} {ps : Pos} {iC iR : Nat} {cs : List V} {X : UM} {r : List UM} {bk : Nat → List V} {hp hp' : List O} (lx : Lx G) (lt : Lt2 G)
include lx lt in
theorem Bd.start (h : Bd G T text ps iC iR cs X r bk hp) (e : Ext [] hp hp') {W pl : Nat} {ws : List Int} {ls : List V} (hw : hp'[W]? = some (.list (ws.map .int))) (hl : hp'[pl]? = some (.list ls)) (lw : hp.length ≤ W) (wl : W < pl) :
    ∃ Ps, C4 G T text W Ps X r (fun _ => 1) bk 0 ws pl ls (fun _ => none) hp' ∧ Cs4 iC Ps cs ∧ (iR, O.list (rowOf X r)) ∈ Ps ∧ (∃ e, (0, O.tab 65 e) ∈ Ps) ∧ ∃ e, (1, O.tab 72 e) ∈ Ps := by
  obtain ⟨x, hx⟩ := h.t0
  obtain ⟨y, hy⟩ := h.tb.at
  have ha := (RSc.at r X h.q.rs).1
  have hW : ∀ {i : Nat} {o : O}, hp[i]? = some o → i ≠ W ∧ i ≠ pl := fun hi => ⟨Nat.ne_of_lt (Nat.lt_of_lt_of_le (lt_of_get hi) lw), Nat.ne_of_lt (Nat.lt_of_lt_of_le (lt_of_get hi) (Nat.le_trans lw (Nat.le_of_lt wl)))⟩
  have hc : ∀ {i : Nat} {o : O}, hp[i]? = some o → (∀ x, o ≠ .cell x) → i ≠ 3 ∧ i ≠ 4 ∧ i ≠ 5 := fun hi ho => ⟨ne_of hi (h.cel 3 (.inl rfl)) (ho _), ne_of hi (h.cel 4 (.inr (.inl rfl))) (ho _), ne_of hi (h.cel 5 (.inr (.inr rfl))) (ho _)⟩
  have no : ∀ {i : Nat} {o : O}, hp[i]? = some o → (∀ x, o ≠ .cell x) → (∀ x, o ≠ .list x) → (∀ x, o ≠ .dct x) → i ≠ T.a ∧ i ≠ W ∧ (i ≠ 3 ∧ i ≠ 4 ∧ i ≠ 5) ∧ (∀ (k : Nat) (Y : UM), (X :: r).reverse[k]? = some Y → Y.2.p ≠ i) ∧ ∀ fs, o ≠ .dct fs := fun hi h1 h2 h3 =>
    ⟨ne_of hi ha (h2 _), (hW hi).1, hc hi h1, fun k Y hY => Ne.symm (ne_of hi (h.q.pb k Y hY).1 (h2 _)), h3⟩
  have at0 : ∀ p ∈ (iC, O.list cs) :: (iR, O.list (rowOf X r)) :: (0, O.tab 65 x) :: (1, O.tab 72 y) :: cs.filterMap (tupAt hp), hp[p.1]? = some p.2 ∧ p.1 ≠ T.a ∧ p.1 ≠ W ∧ (p.1 ≠ 3 ∧ p.1 ≠ 4 ∧ p.1 ≠ 5) ∧ (∀ (k : Nat) (Y : UM), (X :: r).reverse[k]? = some Y → Y.2.p ≠ p.1) ∧ ∀ fs, p.2 ≠ .dct fs := fun p hp => by
    rcases List.mem_cons.mp hp with rfl | hp
    · exact ⟨h.cal, h.ne.2.1, (hW h.cal).1, hc h.cal (fun _ z => nomatch z), fun k Y hY => (h.ne.2.2.2 k Y hY).2, fun _ z => nomatch z⟩
    rcases List.mem_cons.mp hp with rfl | hp
    · exact ⟨h.row, h.ne.1, (hW h.row).1, hc h.row (fun _ z => nomatch z), fun k Y hY => (h.ne.2.2.2 k Y hY).1, fun _ z => nomatch z⟩
    rcases List.mem_cons.mp hp with rfl | hp
    · exact ⟨hx, no hx (fun _ z => nomatch z) (fun _ z => nomatch z) (fun _ z => nomatch z)⟩
    rcases List.mem_cons.mp hp with rfl | hp
    · exact ⟨hy, no hy (fun _ z => nomatch z) (fun _ z => nomatch z) (fun _ z => nomatch z)⟩
    · obtain ⟨v, _, hv⟩ := List.mem_filterMap.mp hp
      obtain ⟨t, h1, h2⟩ := tupAt_sp hv
      rw [h2]
      exact ⟨h1, no h1 (fun _ z => nomatch z) (fun _ z => nomatch z) (fun _ z => nomatch z)⟩
  refine ⟨_, ⟨h.q.ext0 lx lt e, ⟨fun p hp => (at0 p hp).2, Ne.symm (hW ha).1, fun k Y hY => (hW (h.q.pb k Y hY).1).1⟩, fun p hp => e.get (at0 p hp).1 (fun z => nomatch z), hw, hl, ⟨Ne.symm (hW ha).2, Nat.ne_of_gt wl, fun k Y hY => (hW (h.q.pb k Y hY).1).2⟩, fun i hi => e.get (h.cel i hi) (fun z => nomatch z)⟩, ⟨.head _, fun v hv => ?_⟩, .tail _ (.head _), ⟨x, .tail _ (.tail _ (.head _))⟩, y, .tail _ (.tail _ (.tail _ (.head _)))⟩
  obtain ⟨i, a, b, rfl, h2, h3⟩ := h.tup v hv
  exact ⟨i, a, b, rfl, .tail _ (.tail _ (.tail _ (.tail _ (List.mem_filterMap.mpr ⟨_, hv, tupAt_mk h2⟩)))), h3⟩
include lx in
theorem Bd.one {s d p : Nat} (hB : Bs hp) (t0 : ∃ e, hp'[0]? = some (.tab 65 e)) {i0 : Nat} (hT : T.a = i0) {hp1 hp2 : List O} (ha : hp[i0]? = some (.list [.int 0])) (e1 : Ext [0] hp hp1) (S : Strm (G.fn 0).qual T text hp1 0) (l1 : hp.length ≤ T.ct) (l2 : hp.length ≤ T.ca)
    (m1 : hp2[s]? = some (.inst d)) (m2 : hp2[d]? = some (.dct [(.lineno, .int 1), (.instream, .ref T.t), (.whitespace, .str [10, 9, 13, 32]), (.pushback, .ref p)])) (m3 : hp2[p]? = some (.list [])) (k2 : hp1.length ≤ p) (e2 : Ext [] hp1 hp2) (hC : hp[iC]? = some (.list cs)) (u : TupsAt hp cs) (hCa : iC ≠ i0) (hsm : text.length ≤ 100000) (hh : hp' = hp2 ++ [.list [.ref s]]) :
    Bd G T text ps iC hp2.length cs (⟨0, 0, 0, 0, 0⟩, ⟨s, d, p⟩) [] (bkn 0) hp' := by
  subst hT
  have e3 : Ext [] hp2 (hp2 ++ [O.list [V.ref s]]) := .app
  rw [← hh] at e3
  have e4 : Ext [0] hp hp' := e1.trans ((e2.trans e3).mono fun _ z => nomatch z)
  have g4 : ∀ {i : Nat} {o : O}, hp[i]? = some o → (∀ P x, o ≠ .tab P x) → hp'[i]? = some o := fun hi ho => e4.get hi (by rw [List.mem_singleton]; exact ne_of hi (hB 0 _ rfl) (ho _ _))
  have up : ∀ {i : Nat} {o : O}, hp[i]? = some o → i < hp2.length ∧ p ≠ i := fun hi => ⟨Nat.lt_of_lt_of_le (lt_of_get hi) (Nat.le_trans e1.1 e2.1), Nat.ne_of_gt (Nat.lt_of_lt_of_le (lt_of_get hi) (Nat.le_trans e1.1 k2))⟩
  have rv : ∀ {k : Nat} {Y : UM}, ([((⟨0, 0, 0, 0, 0⟩, ⟨s, d, p⟩) : UM)]).reverse[k]? = some Y → k = 0 ∧ Y = (⟨0, 0, 0, 0, 0⟩, ⟨s, d, p⟩) := fun h => by
    rcases rev_get h with ⟨a, b⟩ | ⟨a, _⟩
    · exact ⟨a, b⟩
    · exact absurd a (Nat.not_lt_zero _)
  have six := hB.six
  refine ⟨⟨⟨(S.keep (e2.trans e3) ?_ ?_ ?_ ?_ ?_ ?_ ?_), ⟨e3.get m1 (fun z => nomatch z), e3.get m2 (fun z => nomatch z)⟩⟩, ⟨Nat.le_trans six l1, Nat.le_trans six l2⟩, fun k Y hY => ?_, fun i j Y Z hY hZ hij => ?_, hsm⟩, ?_, g4 hC (fun _ _ z => nomatch z), ⟨Nat.ne_of_gt (up ha).1, hCa, Nat.ne_of_lt (up hC).1, fun k Y hY => ?_⟩, .inl (e4.get (hB 1 _ rfl) (by decide)), u.ext e4 fun i hi x z => ?_, t0, fun i hi => ?_⟩
  · exact fun z => nomatch z
  · exact fun z => nomatch z
  · exact fun z => nomatch z
  · exact fun z => nomatch z
  · exact fun z => nomatch z
  · exact fun z => nomatch z
  · exact fun z => nomatch z
  · obtain ⟨_, rfl⟩ := rv hY
    exact ⟨e3.get m3 (fun z => nomatch z), (up ha).2⟩
  · exact absurd ((rv hY).1.trans (rv hZ).1.symm) hij
  · rw [hh]; exact List.getElem?_concat_length
  · obtain ⟨_, rfl⟩ := rv hY
    exact ⟨Nat.ne_of_lt (lt_of_get m3), (up hC).2⟩
  · rw [List.mem_singleton.mp hi, hB 0 _ rfl] at z; cases z
  · have : base4[i]? = some (.cell none) := by rcases hi with rfl | rfl | rfl <;> rfl
    exact g4 (hB i _ this) (fun _ _ z => nomatch z)
end
end L04
end Mine
open PySem PySem.W PyProof.Rows in
open_top hd04 for PySem.Challenge.rw_dm0215_04
namespace Mine
open PySem PySem.W PySem.Calls PyProof.Rows
namespace L04
noncomputable def nm_init : List (Str × NameKind) := [("self", .local), ("fp", .local)]
noncomputable def nm_read_char : List (Str × NameKind) := [("self", .local), ("ch", .local)]
noncomputable def nm_get_token : List (Str × NameKind) := [("self", .local), ("token", .local), ("fiter", .local), ("ch", .local), ("iter", .globalImplicit)]
noncomputable def nm_push_token : List (Str × NameKind) := [("self", .local), ("token", .local)]
noncomputable def nm_law_figures : List (Str × NameKind) := [("script", .local), ("figures", .local), ("x", .local), ("rest", .local), ("abs", .globalImplicit), ("len", .globalImplicit)]
noncomputable def nm_law_give : List (Str × NameKind) := [("size", .local), ("piece", .local), ("at", .free), ("text", .free), ("len", .globalImplicit)]
noncomputable def nm_law_stream : List (Str × NameKind) := [("text", .cell), ("at", .cell), ("stream", .local), ("_law_give", .local), ("_netrclex", .globalImplicit)]
noncomputable def nm_law_give2 : List (Str × NameKind) := [("size", .local), ("lower", .free), ("range", .globalImplicit)]
noncomputable def nm_law_through : List (Str × NameKind) := [("lower", .cell), ("stream", .local), ("_law_give", .local), ("_netrclex", .globalImplicit)]
noncomputable def nm_law_token : List (Str × NameKind) := [("text", .local), ("place", .local), ("signs", .local), ("rest", .cell), ("k", .local), ("begin", .local), ("ends", .cell), ("end", .local), ("token", .local), ("behind", .local), ("range", .globalImplicit), ("len", .globalImplicit), ("chr", .globalImplicit), ("min", .globalImplicit)]
noncomputable def nm_law : List (Str × NameKind) := [("script", .local), ("signs", .cell), ("figures", .local), ("text", .local), ("calls", .local), ("k", .local), ("at", .local), ("row", .local), ("waiting", .local), ("place", .local), ("lines", .cell), ("which", .cell), ("kind", .local), ("behind", .local), ("told", .local), ("due", .local), ("more", .cell), ("_law_figures", .globalImplicit), ("range", .globalImplicit), ("len", .globalImplicit), ("_netrclex", .globalImplicit), ("_law_stream", .globalImplicit), ("_law_through", .globalImplicit), ("list", .globalImplicit), ("_law_token", .globalImplicit)]
noncomputable def is_law_token : List IS := [
  .assign (.loc 2) (.k (.str [92, 110, 34, 32, 10, 9, 13, 39, 12, 160])),
  .assign (.cel 3) (.sli (.loc 0) (some (.loc 1)) none),
  .for (.loc 4) (.bf .range [(.bf .len [(.loc 2)])]) [.assign (.cel 3) (.comp (wpRpl (.cel 3) (.cat [92] 2 4) (.chr 57344 4)))],
  .assign (.loc 5) (.comp (wp1 wMin (.bin .Add (.comp (wpComp (.loc 1) 1 (.bf .range [(.bf .len [(.cel 3)])]) [(.cmp .NotIn (.sub (.cel 2) (.loc 1)) (.k (.str [32, 9, 13, 10])))] 3 [none, none, some 3])) (.list [(.bf .len [(.cel 3)])])))),
  .assign (.cel 6) (.k (.str [32, 9, 13, 10])),
  .ite (.cmp .Eq (.sli (.cel 3) (some (.loc 5)) (some (.bin .Add (.loc 5) (.k (.int 1))))) (.k (.str [34]))) [
    .aug (.loc 5) .Add (.k (.int 1)),
    .assign (.cel 6) (.k (.str [34]))] [],
  .assign (.loc 7) (.comp (wp1 wMin (.bin .Add (.comp (wpComp (.loc 1) 1 (.bf .range [(.loc 5), (.bf .len [(.cel 3)])]) [(.cmp .In (.sub (.cel 3) (.loc 1)) (.cel 2))] 4 [none, none, some 6, some 3])) (.list [(.bf .len [(.cel 3)])])))),
  .assign (.loc 8) (.comp (wpRep (.sli (.cel 3) (some (.loc 5)) (some (.loc 7))) 92 [])),
  .assign (.loc 9) (.bin .Add (.loc 1) (.bf .len [(.sli (.cel 3) none (some (.bin .Add (.loc 7) (.k (.int 1)))))])),
  .for (.loc 4) (.bf .range [(.bf .len [(.loc 2)])]) [
    .aug (.loc 9) .Add (.bm .count (.sli (.cel 3) none (some (.loc 7))) [(.comp (wp1 wChr (.bin .Add (.k (.int 57344)) (.loc 4))))]),
    .assign (.loc 8) (.comp (wpRpl (.loc 8) (.chr 57344 4) (.item 2 4)))],
  .ret (.tup [(.loc 8), (.loc 9)])]
noncomputable def is_law : List IS := [
  .assign (.cel 1) (.k (.str [110, 34, 92, 32, 10, 34, 92, 9, 13, 39, 12, 160])),
  .assign (.loc 2) (.call (.stat (.ref 63)) [(.loc 0)]),
  .assign (.loc 3) (.bm .join (.k (.str [])) [(.comp (wpComp (.sub (.cel 2) (.bin .Mod (.loc 1) (.k (.int 12)))) 1 (.loc 2) [] 3 [none, none, some 1]))]),
  .assign (.loc 4) (.comp (wpComp (.tup [(.bin .FloorDiv (.loc 1) (.k (.int 24))), (.bin .Mod (.bin .FloorDiv (.loc 1) (.k (.int 12))) (.k (.int 2)))]) 1 (.loc 2) [] 2 [none, none])),
  .aug (.loc 4) .Add (.comp (wpComp (.tup [(.bin .Mod (.loc 1) (.k (.int 4))), (.k (.int 0))]) 1 (.bf .range [(.bin .Add (.bf .len [(.loc 2)]) (.k (.int 8)))]) [] 2 [none, none])),
  .assign (.loc 6) (.list [(.k (.int 0))]),
  .assign (.loc 7) (.list [(.new [(.call (.stat (.ref 70)) [(.loc 3), (.loc 6)])])]),
  .whl (.cmp .Lt (.bf .len [(.loc 7)]) (.k (.int 4))) [.expr (.bm .append (.loc 7) [(.new [(.call (.stat (.ref 77)) [(.sub (.loc 7) (.k (.int (-1))))])])])],
  .for (.loc 5) (.bf .range [(.k (.int 8))]) [.expr (.um .pushToken (.sub (.loc 7) (.bin .Mod (.loc 5) (.k (.int 4)))) [(.loc 5)])],
  .assign (.loc 8) (.comp (wp1 wLst (.bf .range [(.k (.int 8))]))),
  .assign (.loc 9) (.k (.int 0)),
  .assign (.cel 10) (.list [(.k (.int 1)), (.k (.int 1)), (.k (.int 1)), (.k (.int 1))]),
  .for (.tup [(.cel 11), (.loc 12)]) (.loc 4) [
    .assign (.loc 13) (.loc 9),
    .ite (.cmp .Eq (.loc 12) (.k (.int 1))) [
      .assign (.loc 14) (.um .readChar (.sub (.loc 7) (.cel 11)) []),
      .assign (.loc 15) (.sli (.loc 3) (some (.loc 9)) (some (.bin .Add (.loc 9) (.k (.int 1))))),
      .aug (.loc 13) .Add (.bf .len [(.loc 15)])] [
      .assign (.loc 14) (.um .getToken (.sub (.loc 7) (.cel 11)) []),
      .assign (.loc 15) (.ife (.cmp .In (.cel 11) (.loc 8)) (.cel 11) (.bin .Add (.cel 11) (.k (.int 4)))),
      .ite (.cmp .In (.loc 15) (.loc 8)) [.expr (.comp (wpRem (.loc 8) (.loc 15)))] [.assign (.tup [(.loc 15), (.loc 13)]) (.call (.stat (.ref 82)) [(.loc 3), (.loc 9)])]],
    .assign (.cel 16) (.bm .count (.sli (.loc 3) (some (.loc 9)) (some (.loc 13))) [(.k (.str [10]))]),
    .assign (.cel 10) (.comp (wpComp (.ife (.cmp .LtE (.loc 1) (.cel 4)) (.bin .Add (.sub (.cel 2) (.loc 1)) (.cel 3)) (.sub (.cel 2) (.loc 1))) 1 (.bf .range [(.k (.int 4))]) [] 5 [none, none, some 10, some 16, some 11])),
    .assign (.loc 9) (.loc 13),
    .ite (.cmp .NotEq (.tup [(.loc 14), (.sub (.loc 6) (.k (.int 0))), (.comp (wpComp (.attr (.loc 1) .lineno) 1 (.loc 7) [] 2 [none, none]))]) (.tup [(.loc 15), (.loc 9), (.cel 10)])) [.ret (.k (.bool false))] []],
  .ret (.k (.bool true))]
noncomputable def G (w : World) (loose : List Str) (mean : ExcName → Option Value) (mg mb : Str → Option Value) (scr : Addr) (ns : List Int) : Stat where
  prog := PySem.Challenge.rw_dm0215_04.row.prog
  w := w
  K := hd04.heap_39 w.params
  p := topProg
  loose := loose
  mean := mean
  mg := mg
  mb := mb
  tabs := [(76, 72), (69, 65)]
  codes := [(nm_law_stream, 69, "_law_stream.<locals>."), (nm_law_through, 76, "_law_through.<locals>.")]
  C := 52
  mf := fun m => match m with | .init => 28 | .readChar => 35 | .getToken => 42 | .pushToken => 49
  fn := fun fid => match fid with | 0 => nestedOf (fdOf (hd04.heap_39 w.params) 70) 1 "_law_stream.<locals>._law_give" | _ => nestedOf (fdOf (hd04.heap_39 w.params) 77) 1 "_law_through.<locals>._law_give"
  scr := scr
  ns := ns
section
variable {w : World} {loose : List Str} {mean : ExcName → Option Value} {mg mb : Str → Option Value} {scr : Addr} {ns : List Int}
theorem cls : (G w loose mean mg mb scr ns).Cls where
  pg := fun x => rfl
  hd := rfl
  fa := fun a => by cases a <;> rfl
  sa := rfl
  po := rfl
  tk := fun a => by cases a <;> rfl
  fm := fun m => by cases m <;> rfl
  isf := fun m => by cases m <;> rfl
  get := fun m => by cases m <;> rfl
  tak := fun m => by cases m <;> rfl
  mks := rfl
  kp := fun m => by cases m <;> rfl
  kc := rfl
  fnf := fun m => by cases m <;> rfl
noncomputable def gl : List (Str × Value) := [("len", BF.len.val), ("abs", BF.abs.val), ("min", BF.min.val), ("chr", BF.chr.val), ("iter", BF.iter.val), ("range", BF.range.val), ("list", BF.list.val), ("_netrclex", .ref 52), ("_law_figures", .ref 63), ("_law_stream", .ref 70), ("_law_through", .ref 77), ("_law_token", .ref 82)]
theorem glOk : GlOk (G w loose mean mg mb scr ns) gl := by
  intro x v h
  have hm := PySem.mem_of_lookup h
  have key : ∀ q ∈ gl, nsIn (G w loose mean mg mb scr ns).K mainGlobals q.1 = some (some q.2) ∨ (nsIn (G w loose mean mg mb scr ns).K mainGlobals q.1 = some none ∧ bootBuiltins q.1 = some q.2 ∧ q.1 ≠ "__name__") := by
    refine List.forall_mem_cons.mpr ⟨.inr ⟨rfl, rfl, by decide⟩, ?_⟩
    refine List.forall_mem_cons.mpr ⟨.inr ⟨rfl, rfl, by decide⟩, ?_⟩
    refine List.forall_mem_cons.mpr ⟨.inr ⟨rfl, rfl, by decide⟩, ?_⟩
    refine List.forall_mem_cons.mpr ⟨.inr ⟨rfl, rfl, by decide⟩, ?_⟩
    refine List.forall_mem_cons.mpr ⟨.inr ⟨rfl, rfl, by decide⟩, ?_⟩
    refine List.forall_mem_cons.mpr ⟨.inr ⟨rfl, rfl, by decide⟩, ?_⟩
    refine List.forall_mem_cons.mpr ⟨.inr ⟨rfl, rfl, by decide⟩, ?_⟩
    refine List.forall_mem_cons.mpr ⟨.inl rfl, ?_⟩
    refine List.forall_mem_cons.mpr ⟨.inl rfl, ?_⟩
    refine List.forall_mem_cons.mpr ⟨.inl rfl, ?_⟩
    refine List.forall_mem_cons.mpr ⟨.inl rfl, ?_⟩
    refine List.forall_mem_cons.mpr ⟨.inl rfl, ?_⟩
    exact fun _ h => nomatch h
  exact key (x, v) hm
noncomputable def cds : List (List Str) := [nm_law_stream.map (·.1), nm_law_through.map (·.1)]
theorem codes_in : ∀ t ∈ (G w loose mean mg mb scr ns).codes, t.1.map (·.1) ∈ cds := by
  intro t ht
  cases ht with
  | head => exact .head _
  | tail _ h => cases h with
    | head => exact .tail _ (.head _)
    | tail _ h => cases h
noncomputable def ex (nm : List (Str × NameKind)) (e : Expr) : Option IE := alt (extW nm gl 52 30 (extC nm gl 52 cds 30) e) (alt (extR nm gl 52 30 e) (alt (extM nm gl 52 30 e) (extC nm gl 52 cds 30 e)))
theorem ex_ok {nm : List (Str × NameKind)} : ∀ e ie, ex nm e = some ie → DE (G w loose mean mg mb scr ns) nm e ie := by
  intro e ie h
  rcases alt_sp h with h | h
  · exact extW_ok cls glOk 30 (extC_ok cls glOk codes_in 30) _ _ h
  rcases alt_sp h with h | h
  · exact extR_ok cls glOk 30 _ _ h
  rcases alt_sp h with h | h
  · exact extM_ok cls glOk 30 _ _ h
  · exact extC_ok cls glOk codes_in 30 _ _ h
noncomputable def exS (nm : List (Str × NameKind)) (s : Stmt) : Option IS := alt (extS nm gl 52 cds 30 (fun _ => none) s) (extSC nm (extC nm gl 52 cds 30) s)
theorem exS_ok {nm : List (Str × NameKind)} (hnd : (nm.map (·.1)).Nodup) : ∀ s is, exS nm s = some is → DS (G w loose mean mg mb scr ns) nm s is := by
  intro s is h
  rcases alt_sp h with h | h
  · exact extS_ok cls glOk codes_in hnd 30 (fun s is q => nos q) _ _ h
  · exact extSC_ok (extC_ok cls glOk codes_in 30) _ _ h
theorem comp_of {nm : List (Str × NameKind)} (hnd : (nm.map (·.1)).Nodup) {sts : List Stmt} {iss : List IS} (h : mapO (cS nm gl 52 (ex nm) (exS nm) 30) sts = some iss) : DSs (G w loose mean mg mb scr ns) nm sts iss :=
  cSs_ok (G := (G w loose mean mg mb scr ns)) cls glOk ex_ok (exS_ok hnd) hnd h
theorem cS1 {nm : List (Str × NameKind)} (hnd : (nm.map (·.1)).Nodup) {st : Stmt} {is : IS} (h : cS nm gl 52 (ex nm) (exS nm) 30 st = some is) : DS (G w loose mean mg mb scr ns) nm st is :=
  cS_ok (G := (G w loose mean mg mb scr ns)) cls glOk ex_ok (exS_ok hnd) hnd 30 st is h
theorem cq_of {fd : FuncData} (h : nm_law_stream ≠ fd.scope.names) (h2 : nm_law_through ≠ fd.scope.names) : ∀ t ∈ (G w loose mean mg mb scr ns).codes, t.1 = fd.scope.names → fd.code = .ref t.2.1 ∧ fd.qualname ++ ".<locals>." = t.2.2 := by
  intro t ht e
  cases ht with
  | head => exact absurd e h
  | tail _ q => cases q with
    | head => exact absurd e h2
    | tail _ q => cases q
noncomputable abbrev fd (w : World) (a : Addr) : FuncData := fdOf (hd04.heap_39 w.params) a
theorem fo_init : FnOk (G w loose mean mg mb scr ns) (fd w 28) ["self", "fp"] (bodyOf (fd w 28)) is_init where
  body := rfl
  comp := comp_of (nm := nm_init) (by decide) rfl
  bind := bind2 fun _ _ => rfl
  pre := rfl
  nd := show (nm_init.map (·.1)).Nodup by decide
  kind := rfl
  co := rfl
  gen := rfl
  glob := rfl
  bi := rfl
  cq := cq_of (show nm_law_stream ≠ nm_init by decide) (show nm_law_through ≠ nm_init by decide)
theorem fo_read_char : FnOk (G w loose mean mg mb scr ns) (fd w 35) ["self"] (bodyOf (fd w 35)) is_read_char where
  body := rfl
  comp := comp_of (nm := nm_read_char) (by decide) rfl
  bind := bind1 fun _ => rfl
  pre := rfl
  nd := show (nm_read_char.map (·.1)).Nodup by decide
  kind := rfl
  co := rfl
  gen := rfl
  glob := rfl
  bi := rfl
  cq := cq_of (show nm_law_stream ≠ nm_read_char by decide) (show nm_law_through ≠ nm_read_char by decide)
theorem fo_get_token : FnOk (G w loose mean mg mb scr ns) (fd w 42) ["self"] (bodyOf (fd w 42)) is_get_token where
  body := rfl
  comp := comp_of (nm := nm_get_token) (by decide) rfl
  bind := bind1 fun _ => rfl
  pre := rfl
  nd := show (nm_get_token.map (·.1)).Nodup by decide
  kind := rfl
  co := rfl
  gen := rfl
  glob := rfl
  bi := rfl
  cq := cq_of (show nm_law_stream ≠ nm_get_token by decide) (show nm_law_through ≠ nm_get_token by decide)
theorem fo_push_token : FnOk (G w loose mean mg mb scr ns) (fd w 49) ["self", "token"] (bodyOf (fd w 49)) is_push_token where
  body := rfl
  comp := comp_of (nm := nm_push_token) (by decide) rfl
  bind := bind2 fun _ _ => rfl
  pre := rfl
  nd := show (nm_push_token.map (·.1)).Nodup by decide
  kind := rfl
  co := rfl
  gen := rfl
  glob := rfl
  bi := rfl
  cq := cq_of (show nm_law_stream ≠ nm_push_token by decide) (show nm_law_through ≠ nm_push_token by decide)
theorem fo_figures : FnOk (G w loose mean mg mb scr ns) (fd w 63) ["script"] (bodyOf (fd w 63)) (is_figs 96 12 (([88,0,3,49,52,38,72] : List Int).map fun i => .k (.int i))) where
  body := rfl
  comp := comp_of (nm := nm_law_figures) (by decide) rfl
  bind := bind1 fun _ => rfl
  pre := rfl
  nd := show (nm_law_figures.map (·.1)).Nodup by decide
  kind := rfl
  co := rfl
  gen := rfl
  glob := rfl
  bi := rfl
  cq := cq_of (show nm_law_stream ≠ nm_law_figures by decide) (show nm_law_through ≠ nm_law_figures by decide)
theorem fo_stream : FnOk (G w loose mean mg mb scr ns) (fd w 70) ["text", "at"] (bodyOf (fd w 70)) (is_stream4 65 ⟨59, 4, 62, 20⟩) where
  body := rfl
  comp := by
    refine DSs_cons (cS1 (nm := nm_law_stream) (by decide) rfl) (DSs_cons ?_ (DSs_cons (cS1 (nm := nm_law_stream) (by decide) rfl) (DSs_cons (cS1 (nm := nm_law_stream) (by decide) rfl) DSs_nil)))
    exact DS_defn (names := nm_law_stream) (c := 69) (q := "_law_stream.<locals>.") (by decide) rfl ⟨_, rfl⟩ ⟨rfl, rfl, rfl, rfl⟩ (show ("_law_stream.<locals>._law_give" : Str) = "_law_stream.<locals>." ++ "_law_give" by decide) (.head _) (.tail _ (.head _)) rfl rfl (fun _ => rfl)
      (fun p hp => by
        cases hp with
        | head => exact ⟨_, rfl⟩
        | tail _ hp => cases hp with
          | head => exact ⟨_, rfl⟩
          | tail _ hp => cases hp) (fun env as h => clos_give rfl as h)
  bind := bind2 fun _ _ => rfl
  pre := rfl
  nd := show (nm_law_stream.map (·.1)).Nodup by decide
  kind := rfl
  co := rfl
  gen := rfl
  glob := rfl
  bi := rfl
  cq := by
    intro t ht e
    cases ht with
    | head => exact ⟨rfl, show ("_law_stream" : Str) ++ ".<locals>." = "_law_stream.<locals>." by decide⟩
    | tail _ h => cases h with
      | head => exact absurd e (show nm_law_through ≠ nm_law_stream by decide)
      | tail _ h => cases h
theorem fo_through : FnOk (G w loose mean mg mb scr ns) (fd w 77) ["lower"] (bodyOf (fd w 77)) (is_through 72 ⟨68, 4, 69, 65⟩) where
  body := rfl
  comp := by
    refine DSs_cons (cS1 (nm := nm_law_through) (by decide) rfl) (DSs_cons ?_ (DSs_cons (cS1 (nm := nm_law_through) (by decide) rfl) (DSs_cons (cS1 (nm := nm_law_through) (by decide) rfl) DSs_nil)))
    exact DS_defn (names := nm_law_through) (c := 76) (q := "_law_through.<locals>.") (by decide) rfl ⟨_, rfl⟩ ⟨rfl, rfl, rfl, rfl⟩ (show ("_law_through.<locals>._law_give" : Str) = "_law_through.<locals>." ++ "_law_give" by decide) (.tail _ (.head _)) (.head _) rfl rfl (fun _ => rfl)
      (fun p hp => by
        cases hp with
        | head => exact ⟨_, rfl⟩
        | tail _ hp => cases hp) (fun env as h => clos_give2 rfl as h)
  bind := bind1 fun _ => rfl
  pre := rfl
  nd := show (nm_law_through.map (·.1)).Nodup by decide
  kind := rfl
  co := rfl
  gen := rfl
  glob := rfl
  bi := rfl
  cq := by
    intro t ht e
    cases ht with
    | head => exact absurd e (show nm_law_stream ≠ nm_law_through by decide)
    | tail _ h => cases h with
      | head => exact ⟨rfl, show ("_law_through" : Str) ++ ".<locals>." = "_law_through.<locals>." by decide⟩
      | tail _ h => cases h
theorem fo_give (clos : List (Str × Addr)) (doc pm : Value) (cv : Addr) (ctv : Value) : FnOk (G w loose mean mg mb scr ns) (fnX ((G w loose mean mg mb scr ns).fn 0).name ((G w loose mean mg mb scr ns).fn 0).qual ((G w loose mean mg mb scr ns).fn 0).params ((G w loose mean mg mb scr ns).fn 0).body ((G w loose mean mg mb scr ns).fn 0).scope clos .none .none doc pm none (.ref cv) ctv) ["size"] ((G w loose mean mg mb scr ns).fn 0).body is_law_give where
  body := rfl
  comp := comp_of (nm := nm_law_give) (by decide) rfl
  bind := bind1 fun _ => rfl
  pre := rfl
  nd := show (nm_law_give.map (·.1)).Nodup by decide
  kind := rfl
  co := rfl
  gen := rfl
  glob := rfl
  bi := rfl
  cq := cq_of (show nm_law_stream ≠ nm_law_give by decide) (show nm_law_through ≠ nm_law_give by decide)
theorem fo_give2 (clos : List (Str × Addr)) (doc pm : Value) (cv : Addr) (ctv : Value) : FnOk (G w loose mean mg mb scr ns) (fnX ((G w loose mean mg mb scr ns).fn 1).name ((G w loose mean mg mb scr ns).fn 1).qual ((G w loose mean mg mb scr ns).fn 1).params ((G w loose mean mg mb scr ns).fn 1).body ((G w loose mean mg mb scr ns).fn 1).scope clos .none .none doc pm none (.ref cv) ctv) ["size"] ((G w loose mean mg mb scr ns).fn 1).body is_law_give2 where
  body := rfl
  comp := comp_of (nm := nm_law_give2) (by decide) rfl
  bind := bind1 fun _ => rfl
  pre := rfl
  nd := show (nm_law_give2.map (·.1)).Nodup by decide
  kind := rfl
  co := rfl
  gen := rfl
  glob := rfl
  bi := rfl
  cq := cq_of (show nm_law_stream ≠ nm_law_give2 by decide) (show nm_law_through ≠ nm_law_give2 by decide)
theorem fo_token : FnOk (G w loose mean mg mb scr ns) (fd w 82) ["text", "place"] (bodyOf (fd w 82)) is_law_token where
  body := rfl
  comp := by
    have nd : (nm_law_token.map (·.1)).Nodup := by decide
    refine DSs_first (cGN_ok nd rfl) ?_
    refine DSsp_cons (cS1 nd rfl).p (DSsp_cons (cS1 nd rfl).p (DSsp_cons (cS1 nd rfl).p (DSsp_cons (cS1 nd rfl).p (DSsp_cons (cS1 nd rfl).p (DSsp_cons (cS1 nd rfl).p (DSsp_cons ?_ (comp_of nd rfl).p))))))
    exact cP_ok (f := 30) cls glOk nd rfl
  bind := bind2 fun _ _ => rfl
  pre := rfl
  nd := show (nm_law_token.map (·.1)).Nodup by decide
  kind := rfl
  co := rfl
  gen := rfl
  glob := rfl
  bi := rfl
  cq := cq_of (show nm_law_stream ≠ nm_law_token by decide) (show nm_law_through ≠ nm_law_token by decide)
theorem lx : Lx (G w loose mean mg mb scr ns) where
  init := fun n a b hp K h => callT_stat (fd := fd w 28) rfl rfl fo_init (show ∀ x ∈ nm_init, x.2 ≠ .cell by decide) (show ∀ x ∈ nm_init.take 2, x.2 = .local by decide) rfl h
  read := fun n a hp K h => callT_stat (fd := fd w 35) rfl rfl fo_read_char (show ∀ x ∈ nm_read_char, x.2 ≠ .cell by decide) (show ∀ x ∈ nm_read_char.take 1, x.2 = .local by decide) rfl h
  get := fun n a hp K h => callT_stat (fd := fd w 42) rfl rfl fo_get_token (show ∀ x ∈ nm_get_token, x.2 ≠ .cell by decide) (show ∀ x ∈ nm_get_token.take 1, x.2 = .local by decide) rfl h
  give := fun n i ct ca c v hp K h1 h2 h => callT_clos (cl := [none, none, some ca, some ct, none]) h1 h2 fo_give (show ∀ x ∈ nm_law_give, x.2 ≠ .cell by decide) (show ∀ x ∈ nm_law_give.take 1, x.2 = .local by decide) (fun i x k j e1 e2 => by
    cases lkR (N := 5) (ps := [(2, ca), (3, ct)]) e2 with
    | head => cases e1; rfl
    | tail _ h => cases h with
      | head => cases e1; rfl
      | tail _ h => cases h) (fun i j e => by have := lt_of_get e; exact this) rfl h
theorem lp : Lp (G w loose mean mg mb scr ns) where
  push := fun n a b hp K h => callT_stat (fd := fd w 49) rfl rfl fo_push_token (show ∀ x ∈ nm_push_token, x.2 ≠ .cell by decide) (show ∀ x ∈ nm_push_token.take 2, x.2 = .local by decide) rfl h
theorem lt2 : Lt2 (G w loose mean mg mb scr ns) where
  give := fun n i ct c v hp K h1 h2 h => callT_clos (cl := [none, some ct, none]) h1 h2 fo_give2 (show ∀ x ∈ nm_law_give2, x.2 ≠ .cell by decide) (show ∀ x ∈ nm_law_give2.take 1, x.2 = .local by decide) (fun i x k j e1 e2 => by
    cases lkR (N := 3) (ps := [(1, ct)]) e2 with
    | head => cases e1; rfl
    | tail _ h => cases h) (fun i j e => by have := lt_of_get e; exact this) rfl h
theorem figures_ok {n : Nat} {hp : List O} {K : V → List O → Prop} (hK : ∀ i fs hp', hp'[i]? = some (.list (fs.map V.int)) → FigOk 96 12 fs → 1 ≤ fs.length → Ext [] hp hp' → hp.length ≤ i → K (.ref i) hp') :
    CallT (G w loose mean mg mb scr ns) (n + 1) (.stat (.ref 63)) [.stat (.ref scr)] hp K :=
  callT_stat (fd := fd w 63) rfl rfl fo_figures (show ∀ x ∈ nm_law_figures, x.2 ≠ .cell by decide) (show ∀ x ∈ nm_law_figures.take 1, x.2 = .local by decide) rfl (fig_wp (Nn := 12) (mx := 12) (by decide) rfl (by decide) (by decide) ⟨by decide, by decide⟩ (by decide) hK)
theorem stream_ok {n tb a : Nat} {text : List Nat} {hp : List O} {K : V → List O → Prop} (ht : hp[tb]? = some (.tab 65 none)) (ha : hp[a]? = some (.list [.int 0])) (hsm : text.length ≤ 100000)
    (hK : ∀ T hp', T.a = a → hp.length ≤ T.ct → hp.length ≤ T.ca → Strm ((G w loose mean mg mb scr ns).fn 0).qual T text hp' 0 → Ext [tb] hp hp' → (∃ e, hp'[tb]? = some (.tab 65 e)) → K (.ref T.t) hp') :
    CallT (G w loose mean mg mb scr ns) (n + 3) (.stat (.ref 70)) [.str text, .ref a] hp K :=
  callT_cells (fd := fd w 70) (rev := ["at", "text"]) (cl := [some (hp.length + 1), some hp.length, none, none, none]) (cv := [some (.ref a), some (.str text)]) rfl rfl fo_stream rfl rfl (by decide) (show ∀ x ∈ (["at", "text"] : List Str), nm_law_stream.lookup x ≠ some .local by decide) (show ∀ x ∈ (["text", "at"] : List Str), nm_law_stream.lookup x = some .local ∨ (nm_law_stream.lookup x = some .cell ∧ x ∈ (["at", "text"] : List Str)) by decide)
    (cells_of (ps := [(0, 1), (1, 0)]) (N := 5) (List.forall_mem_cons.mpr ⟨⟨_, _, rfl, rfl⟩, List.forall_mem_cons.mpr ⟨⟨_, _, rfl, rfl⟩, fun _ h => nomatch h⟩⟩) rfl) rfl
    (fun t x e => by
      match t, e with
      | 0, e => cases e; exact .inl ⟨1, _, rfl, rfl, rfl⟩
      | 1, e => cases e; exact .inl ⟨0, _, rfl, rfl, rfl⟩
      | t + 2, e => simp at e) rfl (stream_wp2 lx ht ha hsm hK)
theorem through_ok {n tb : Nat} {v : V} {hp : List O} {K : V → List O → Prop} (ht : TabIs (G w loose mean mg mb scr ns) tb 72 ⟨68, 4, 69, 65⟩ 1 hp)
    (hK : ∀ u hp', Up (G w loose mean mg mb scr ns) u v hp' → hp.length ≤ u.t → hp.length ≤ u.dt → hp.length ≤ u.f → hp.length ≤ u.cl → TabIs (G w loose mean mg mb scr ns) tb 72 ⟨68, 4, 69, 65⟩ 1 hp' → Ext [tb] hp hp' → K (.ref u.t) hp') :
    CallT (G w loose mean mg mb scr ns) (n + 3) (.stat (.ref 77)) [v] hp K :=
  callT_cells (fd := fd w 77) (rev := ["lower"]) (cl := [some hp.length, none, none, none]) (cv := [some v]) rfl rfl fo_through rfl rfl (by decide) (show ∀ x ∈ (["lower"] : List Str), nm_law_through.lookup x ≠ some .local by decide) (show ∀ x ∈ (["lower"] : List Str), nm_law_through.lookup x = some .local ∨ (nm_law_through.lookup x = some .cell ∧ x ∈ (["lower"] : List Str)) by decide)
    (cells_of (ps := [(0, 0)]) (N := 4) (List.forall_mem_cons.mpr ⟨⟨_, _, rfl, rfl⟩, fun _ h => nomatch h⟩) rfl) rfl
    (fun t x e => by
      match t, e with
      | 0, e => cases e; exact .inl ⟨0, _, rfl, rfl, rfl⟩
      | t + 1, e => simp at e) rfl (through_wp lx ht hK)
end
end L04
end Mine
namespace Mine
open PySem PySem.W PySem.Calls PyProof.Rows
namespace L04
section
variable {w : World} {loose : List Str} {mean : ExcName → Option Value} {mg mb : Str → Option Value} {scr : Addr} {ns : List Int}
theorem comp_law : DSs (G w loose mean mg mb scr ns) nm_law (bodyOf (fd w 87)) is_law := comp_of (by decide) rfl
end
end L04
end Mine
namespace Mine
open PySem PySem.W PySem.Calls PyProof.Rows
namespace L04
theorem nn_len : ∀ r : List UM, Nn r = 2 + 2 * r.length
  | [] => rfl
  | _ :: r => congrArg (· + 2) (nn_len r)
noncomputable def lawPost4 (fl : Fl) (σ : St) : Prop := fl = .ret (.bool true) ∧ (∃ P e, σ.hp[0]? = some (.tab P e)) ∧ ∃ P e, σ.hp[1]? = some (.tab P e)
section
variable {w : World} {loose : List Str} {mean : ExcName → Option Value} {mg mb : Str → Option Value} {scr : Addr} {ns : List Int}
theorem tok_of : TokOk4 (G w loose mean mg mb scr ns) 82 :=
  ⟨show keepIn (hd04.heap_39 w.params) (.ref 82) = true from rfl, fun n pos text hp K hpos hsm hin hK =>
    callT_cells (fd := fd w 82) (rev := ["ends", "rest"]) (cl := cT4 hp.length (hp.length + 1)) (cv := [none, none]) rfl rfl fo_token rfl rfl (by decide) (show ∀ x ∈ (["ends", "rest"] : List Str), nm_law_token.lookup x ≠ some .local by decide) (show ∀ x ∈ (["text", "place"] : List Str), nm_law_token.lookup x = some .local ∨ (nm_law_token.lookup x = some .cell ∧ x ∈ (["ends", "rest"] : List Str)) by decide)
    (cells_of (ps := [(3, 1), (6, 0)]) (N := 14) (List.forall_mem_cons.mpr ⟨⟨_, _, rfl, rfl⟩, List.forall_mem_cons.mpr ⟨⟨_, _, rfl, rfl⟩, fun _ h => nomatch h⟩⟩) rfl) rfl
    (fun t x e => by
      match t, e with
      | 0, e => cases e; exact .inr ⟨by decide, rfl⟩
      | 1, e => cases e; exact .inr ⟨by decide, rfl⟩
      | t + 2, e => simp at e) rfl (tok4_wp hpos hsm hin hK)⟩
theorem th_of : ThOk (G w loose mean mg mb scr ns) ⟨68, 4, 69, 65⟩ 77 := ⟨show keepIn (hd04.heap_39 w.params) (.ref 77) = true from rfl, fun n v hp K h1 h2 => through_ok h1 h2⟩
theorem law_eq : is_law = [.assign (.cel 1) (.k (.str sg12)), .assign (.loc 2) (.call (.stat (.ref 63)) [.loc 0]), is_text, is_calls, is_more, .assign (.loc 6) (.list [.k (.int 0)]),
  .assign (.loc 7) (.list [.new [.call (.stat (.ref 70)) [.loc 3, .loc 6]]]), is_grow 77, is_fill, .assign (.loc 8) (.comp (wp1 wLst (.bf .range [.k (.int 8)]))), .assign (.loc 9) (.k (.int 0)),
  .assign (.cel 10) (.list [.k (.int 1), .k (.int 1), .k (.int 1), .k (.int 1)]), .for (.tup [.cel 11, .loc 12]) (.loc 4) (is_turn4 82), .ret (.k (.bool true))] := rfl
theorem law_wp {n : Nat} : wpSs (G w loose mean mg mb scr ns) (n + 20) cL4 6 is_law ⟨some (.stat (.ref scr)) :: List.replicate 24 none, [.tab 65 none, .tab 72 none, .cell none, .cell none, .cell none, .cell none]⟩ lawPost4 := by
  rw [law_eq]
  show wpSs _ _ _ _ _ ⟨[some (.stat (.ref scr)), none, none, none, none, none, none, none, none, none, none, none, none, none, none, none, none, none, none, none, none, none, none, none, none], _⟩ _
  refine mAssign ?_
  dsimp only [tCmp, tAnd, tOr, tNot, tLc, tAt, eK, eLoc, eStat, eBin, eCmp, eIfe, eList, eTup, eAttr, eMattr, eCall, eNew, eBf, eBm, eUm, eAm, eSub, eSli, esN, esC, oN, oS, gLoc, gCel, gAttr, gSub, gTup, gsC, cEq, cNe, cLt, cLe, cGt, cGe, cIn, cNi, ltII, bII, bSS, bRR, bRI, biAdd, biSub, biMul, biMod, biDiv, biPow, adS, adL, mlL, iII, iSS, niAdd, niSub, niDiv, fLen, fAbs, fStr, fMin, fRng, rg1, rg2, fItr, fSum, o1, lnS, lnR, vI, vS, vR, lc0, lcS, List.getElem?_cons_zero, List.getElem?_cons_succ, List.set_cons_zero, List.set_cons_succ, List.length_cons, List.length_nil, qSS, qII, qIS, qSI, nS, inO, o2, hkI, hkS, hkR, hkN, sqN, ssN]
  refine onC_mk (j := 2) rfl rfl ?_
  show wpSs _ _ _ _ _ ⟨_, base4⟩ _
  refine mAssign ?_
  dsimp only [tCmp, tAnd, tOr, tNot, tLc, tAt, eK, eLoc, eStat, eBin, eCmp, eIfe, eList, eTup, eAttr, eMattr, eCall, eNew, eBf, eBm, eUm, eAm, eSub, eSli, esN, esC, oN, oS, gLoc, gCel, gAttr, gSub, gTup, gsC, cEq, cNe, cLt, cLe, cGt, cGe, cIn, cNi, ltII, bII, bSS, bRR, bRI, biAdd, biSub, biMul, biMod, biDiv, biPow, adS, adL, mlL, iII, iSS, niAdd, niSub, niDiv, fLen, fAbs, fStr, fMin, fRng, rg1, rg2, fItr, fSum, o1, lnS, lnR, vI, vS, vR, lc0, lcS, List.getElem?_cons_zero, List.getElem?_cons_succ, List.set_cons_zero, List.set_cons_succ, List.length_cons, List.length_nil, qSS, qII, qIS, qSI, nS, inO, o2, hkI, hkS, hkR, hkN, sqN, ssN]
  refine ⟨show keepIn (hd04.heap_39 w.params) (.ref 63) = true from rfl, figures_ok (n := n + 19) fun iF fs hp1 hF hfo h1 e1 hiF => ?_⟩
  have B1 : Bs hp1 := fun i o ho => e1.get ho (fun z => nomatch z)
  refine ⟨by decide, ?_⟩
  show wpSs _ _ _ _ _ ⟨la4 _ iF none none, hp1⟩ _
  refine text_wp B1 hF hfo.1 fun hp2 B2 F2 => ?_
  refine calls_wp B2 F2 hfo fun iC cs hp3 B3 C3 U3 => ?_
  have hin : In (fs.map signOf) := fun c hc => by
    obtain ⟨x, _, rfl⟩ := List.mem_map.mp hc
    exact signOf_in x
  have hsm : (fs.map signOf).length ≤ 1000 := by rw [List.length_map]; exact Nat.le_trans hfo.1 (by decide)
  generalize fs.map signOf = text at hin hsm ⊢
  unfold la4
  refine mAssign ?_
  dsimp only [tCmp, tAnd, tOr, tNot, tLc, tAt, eK, eLoc, eStat, eBin, eCmp, eIfe, eList, eTup, eAttr, eMattr, eCall, eNew, eBf, eBm, eUm, eAm, eSub, eSli, esN, esC, oN, oS, gLoc, gCel, gAttr, gSub, gTup, gsC, cEq, cNe, cLt, cLe, cGt, cGe, cIn, cNi, ltII, bII, bSS, bRR, bRI, biAdd, biSub, biMul, biMod, biDiv, biPow, adS, adL, mlL, iII, iSS, niAdd, niSub, niDiv, fLen, fAbs, fStr, fMin, fRng, rg1, rg2, fItr, fSum, o1, lnS, lnR, vI, vS, vR, lc0, lcS, List.getElem?_cons_zero, List.getElem?_cons_succ, List.set_cons_zero, List.set_cons_succ, List.length_cons, List.length_nil, qSS, qII, qIS, qSI, nS, inO, o2, hkI, hkS, hkR, hkN, sqN, ssN]
  refine ⟨by decide, by decide, ?_⟩
  have e4 : Ext [] hp3 (hp3 ++ [O.list [V.int 0]]) := .app
  have a4 : (hp3 ++ [O.list [V.int 0]])[hp3.length]? = some (.list [.int 0]) := List.getElem?_concat_length
  have B4 := B3.ext0 e4
  have C4 := e4.get C3 (fun z => nomatch z)
  have U4 := U3.ext0 e4
  have ca := lt_of_get C3
  generalize hp3 ++ [O.list [V.int 0]] = hp4 at a4 B4 C4 U4 ⊢
  generalize hp3.length = i4 at a4 ca ⊢
  have ca := Nat.ne_of_lt ca
  refine mAssign ?_
  dsimp only [tCmp, tAnd, tOr, tNot, tLc, tAt, eK, eLoc, eStat, eBin, eCmp, eIfe, eList, eTup, eAttr, eMattr, eCall, eNew, eBf, eBm, eUm, eAm, eSub, eSli, esN, esC, oN, oS, gLoc, gCel, gAttr, gSub, gTup, gsC, cEq, cNe, cLt, cLe, cGt, cGe, cIn, cNi, ltII, bII, bSS, bRR, bRI, biAdd, biSub, biMul, biMod, biDiv, biPow, adS, adL, mlL, iII, iSS, niAdd, niSub, niDiv, fLen, fAbs, fStr, fMin, fRng, rg1, rg2, fItr, fSum, o1, lnS, lnR, vI, vS, vR, lc0, lcS, List.getElem?_cons_zero, List.getElem?_cons_succ, List.set_cons_zero, List.set_cons_succ, List.length_cons, List.length_nil, qSS, qII, qIS, qSI, nS, inO, o2, hkI, hkS, hkR, hkN, sqN, ssN]
  refine ⟨show keepIn (hd04.heap_39 w.params) (.ref 70) = true from rfl, stream_ok (n := n + 17) (tb := 0) (B4 0 _ rfl) a4 (Nat.le_trans hsm (by decide)) fun T hp5 hTa l1 l2 S5 e5 z5 => ?_⟩
  refine new_mk lx (n := n + 18) fun s d p hp6 m1 m2 m3 k1 k2 k3 e6 => ⟨by decide, by decide, ?_⟩
  rw [← k3]
  have z6 : ∃ e, (hp6 ++ [O.list [V.ref s]])[0]? = some (.tab 65 e) := by
    obtain ⟨x, hx⟩ := z5
    exact ⟨x, (e6.trans .app).get hx (fun z => nomatch z)⟩
  have b7 := Bd.one lx (ps := ⟨68, 4, 69, 65⟩) B4 z6 hTa a4 e5 S5 l1 l2 m1 m2 m3 k2 e6 C4 U4 ca (Nat.le_trans hsm (by decide)) rfl
  subst hTa
  generalize hp6 ++ [O.list [V.ref s]] = hp7 at b7 ⊢
  generalize hp6.length = iR at b7 ⊢
  show wpSs _ _ _ _ _ ⟨lp4 _ _ text T iC iR none, hp7⟩ _
  refine mSt (grow_wp lx lt2 b7 (fun k => bkn_0 k) th_of fun X r hp8 hr b8 => mSq ?_)
  refine mSt (fill_wp lx lt2 lp b8 hr fun v5 hp9 b9 => mSq ?_)
  unfold lp4
  refine mAssign ?_
  rw [eComp]
  unfold wp1
  dsimp only [tCmp, tAnd, tOr, tNot, tLc, tAt, eK, eLoc, eStat, eBin, eCmp, eIfe, eList, eTup, eAttr, eMattr, eCall, eNew, eBf, eBm, eUm, eAm, eSub, eSli, esN, esC, oN, oS, gLoc, gCel, gAttr, gSub, gTup, gsC, cEq, cNe, cLt, cLe, cGt, cGe, cIn, cNi, ltII, bII, bSS, bRR, bRI, biAdd, biSub, biMul, biMod, biDiv, biPow, adS, adL, mlL, iII, iSS, niAdd, niSub, niDiv, fLen, fAbs, fStr, fMin, fRng, rg1, rg2, fItr, fSum, o1, lnS, lnR, vI, vS, vR, lc0, lcS, List.getElem?_cons_zero, List.getElem?_cons_succ, List.set_cons_zero, List.set_cons_succ, List.length_cons, List.length_nil, qSS, qII, qIS, qSI, nS, inO, o2, hkI, hkS, hkR, hkN, sqN, ssN]
  refine ⟨fit1000 (by decide) (by decide), ?_⟩
  refine ⟨0, 8, List.getElem?_concat_length, fit1000 (by decide) (by decide), fit1000 (by decide) (by decide), by decide, show 8 < 25 by decide, ?_⟩
  refine mAssign ?_
  dsimp only [tCmp, tAnd, tOr, tNot, tLc, tAt, eK, eLoc, eStat, eBin, eCmp, eIfe, eList, eTup, eAttr, eMattr, eCall, eNew, eBf, eBm, eUm, eAm, eSub, eSli, esN, esC, oN, oS, gLoc, gCel, gAttr, gSub, gTup, gsC, cEq, cNe, cLt, cLe, cGt, cGe, cIn, cNi, ltII, bII, bSS, bRR, bRI, biAdd, biSub, biMul, biMod, biDiv, biPow, adS, adL, mlL, iII, iSS, niAdd, niSub, niDiv, fLen, fAbs, fStr, fMin, fRng, rg1, rg2, fItr, fSum, o1, lnS, lnR, vI, vS, vR, lc0, lcS, List.getElem?_cons_zero, List.getElem?_cons_succ, List.set_cons_zero, List.set_cons_succ, List.length_cons, List.length_nil, qSS, qII, qIS, qSI, nS, inO, o2, hkI, hkS, hkR, hkN, sqN, ssN]
  refine ⟨by decide, ?_⟩
  refine mAssign ?_
  dsimp only [tCmp, tAnd, tOr, tNot, tLc, tAt, eK, eLoc, eStat, eBin, eCmp, eIfe, eList, eTup, eAttr, eMattr, eCall, eNew, eBf, eBm, eUm, eAm, eSub, eSli, esN, esC, oN, oS, gLoc, gCel, gAttr, gSub, gTup, gsC, cEq, cNe, cLt, cLe, cGt, cGe, cIn, cNi, ltII, bII, bSS, bRR, bRI, biAdd, biSub, biMul, biMod, biDiv, biPow, adS, adL, mlL, iII, iSS, niAdd, niSub, niDiv, fLen, fAbs, fStr, fMin, fRng, rg1, rg2, fItr, fSum, o1, lnS, lnR, vI, vS, vR, lc0, lcS, List.getElem?_cons_zero, List.getElem?_cons_succ, List.set_cons_zero, List.set_cons_succ, List.length_cons, List.length_nil, qSS, qII, qIS, qSI, nS, inO, o2, hkI, hkS, hkR, hkN, sqN, ssN]
  refine ⟨by decide, ?_⟩
  have ea : Ext [] hp9 (hp9 ++ [O.rng 0 8]) := .app
  have la : (hp9 ++ [O.rng 0 8]).length = hp9.length + 1 := by rw [List.length_append]; rfl
  have eb : Ext [] (hp9 ++ [O.rng 0 8]) (hp9 ++ [O.rng 0 8] ++ [O.list (rngL 0 8)]) := .app
  have wb : (hp9 ++ [O.rng 0 8] ++ [O.list (rngL 0 8)])[(hp9 ++ [O.rng 0 8]).length]? = some (.list (([0, 1, 2, 3, 4, 5, 6, 7] : List Int).map V.int)) := by rw [List.getElem?_concat_length]; rfl
  have ec : Ext [] (hp9 ++ [O.rng 0 8] ++ [O.list (rngL 0 8)]) (hp9 ++ [O.rng 0 8] ++ [O.list (rngL 0 8)] ++ [O.list [V.int 1, V.int 1, V.int 1, V.int 1]]) := .app
  have wc := ec.get wb (fun z => nomatch z)
  have pc : (hp9 ++ [O.rng 0 8] ++ [O.list (rngL 0 8)] ++ [O.list [V.int 1, V.int 1, V.int 1, V.int 1]])[(hp9 ++ [O.rng 0 8] ++ [O.list (rngL 0 8)]).length]? = some (.list (upto (lnv (fun _ => 1) text 0) 4)) := by rw [List.getElem?_concat_length]; rfl
  have lc : (hp9 ++ [O.rng 0 8] ++ [O.list (rngL 0 8)]).length = (hp9 ++ [O.rng 0 8]).length + 1 := by rw [List.length_append]; rfl
  obtain ⟨Ps, q, hCs, hR, ⟨x, hx⟩, y, hy⟩ := b9.start lx lt2 ((ea.trans eb).trans ec) wc pc (by rw [la]; exact Nat.le_succ _) (by rw [lc]; exact Nat.lt_succ_self _)
  refine onC_mk (j := 3) rfl (q.cel 3 (.inl rfl)) ?_
  have q1 := q.cel1 lx lt2 (i := 3) (.inl rfl) (some (.ref (hp9 ++ [O.rng 0 8] ++ [O.list (rngL 0 8)]).length))
  generalize (hp9 ++ [O.rng 0 8] ++ [O.list (rngL 0 8)] ++ [O.list [V.int 1, V.int 1, V.int 1, V.int 1]]).set 3 _ = hpd at q1 ⊢
  generalize (hp9 ++ [O.rng 0 8] ++ [O.list (rngL 0 8)]).length = pl at q1 ⊢
  generalize (hp9 ++ [O.rng 0 8]).length = W at q1 ⊢
  show wpSs _ _ _ _ _ ⟨lc4 _ _ text T iC iR W 0 v5 none none none none, hpd⟩ _
  have six : 6 ≤ hpd.length := lt_of_get (q1.cel 5 (.inr (.inr rfl)))
  refine mSt (loop_wp lx lt2 q1 rfl wt0 hCs hR hr hin hsm (by rw [nn_len, hr]; exact Nat.le_add_left 10 (n + 10)) tok_of six fun σ' hp => mSq (mRet ?_))
  rw [eK]
  exact ⟨rfl, ⟨65, x, hp _ hx⟩, 72, y, hp _ hy⟩
end
end L04
end Mine
namespace Mine
open PySem PySem.W PySem.Calls PyProof.Rows
namespace L04
theorem cl_at {i j : Nat} (e : cL4[i]? = some (some j)) : (i, j) ∈ [(1, 2), (10, 3), (11, 4), (16, 5)] := lkR (N := 17) e
noncomputable def Up4 : List Nat → Prop
  | a :: b :: l => a < b ∧ Up4 (b :: l)
  | _ => True
theorem Up4.lt : ∀ {l : List Nat} {a : Nat}, Up4 (a :: l) → (∀ b ∈ l, a < b) ∧ (a :: l).Nodup
  | [], _, _ => ⟨fun _ h => (nomatch h), List.nodup_cons.mpr ⟨fun h => (nomatch h), List.nodup_nil⟩⟩
  | b :: l, a, h => by
    obtain ⟨h1, h2⟩ := Up4.lt h.2
    have h3 : ∀ c ∈ b :: l, a < c := List.forall_mem_cons.mpr ⟨h.1, fun c hc => Nat.lt_trans h.1 (h1 c hc)⟩
    exact ⟨h3, List.nodup_cons.mpr ⟨fun m => Nat.lt_irrefl a (h3 a m), h2⟩⟩
theorem nd6 {L : Nat} (h : 72 < L) : ([65, 72, L + 1, L + 2, L + 3, L + 4] : List Nat).Nodup :=
  (Up4.lt (l := [72, L + 1, L + 2, L + 3, L + 4]) ⟨show 65 < 72 by decide, Nat.lt_succ_of_lt h, Nat.lt_succ_self _, Nat.lt_succ_self _, Nat.lt_succ_self _, trivial⟩).2
theorem two_c {α β : Type} {P : α → β → Prop} {a : α} {b : β} {l : List α} {m : List β} (h0 : P a b) (h : ∀ (i : Nat) (x : α) (y : β), l[i]? = some x → m[i]? = some y → P x y) : ∀ (i : Nat) (x : α) (y : β), (a :: l)[i]? = some x → (b :: m)[i]? = some y → P x y
  | 0, _, _, e1, e2 => by cases e1; cases e2; exact h0
  | i + 1, x, y, e1, e2 => h i x y e1 e2
theorem start4 {G : Stat} {env : Env} {A : Around} {g h₁ : Heap} {m : Str → Option Value} {L N : Nat} {o0 o1 o2 o3 : Obj} {v : V} {v' : Value} {x : Str} (F : Fr g env.locals h₁ m) (N1 : News g env.locals h₁ [(L + 4, o3), (L + 3, o2), (L + 2, o1), (L + 1, o0), (72, tabObj #[]), (65, tabObj #[])])
    (h0 : o0.data = .cell none) (h1 : o1.data = .cell none) (h2 : o2.data = .cell none) (h3 : o3.data = .cell none) (l1 : 72 < L) (hn : env.scope.names[0]? = some (x, .local)) (hm : m x = some v') (vv : VR [65, 72, L + 1, L + 2, L + 3, L + 4] v v') :
    R G ⟨env, A, g, []⟩ [65, 72, L + 1, L + 2, L + 3, L + 4] ⟨some v :: List.replicate N none, [.tab 65 none, .tab 72 none, .cell none, .cell none, .cell none, .cell none]⟩ h₁ := by
  have a3 := N1 (L + 4, o3) (.head _)
  have a2 := N1 (L + 3, o2) (.tail _ (.head _))
  have a1 := N1 (L + 2, o1) (.tail _ (.tail _ (.head _)))
  have a0 := N1 (L + 1, o0) (.tail _ (.tail _ (.tail _ (.head _))))
  have t1 := N1 (72, tabObj #[]) (.tail _ (.tail _ (.tail _ (.tail _ (.head _)))))
  have t0 := N1 (65, tabObj #[]) (.tail _ (.tail _ (.tail _ (.tail _ (.tail _ (.head _))))))
  exact ⟨⟨_, F, loc_first hn hm vv⟩, nd6 l1, rfl, two_c ⟨t0.2.1, t0.2.2, _, t0.1, rfl, rfl⟩ (two_c ⟨t1.2.1, t1.2.2, _, t1.1, rfl, rfl⟩ (two_c ⟨a0.2.1, a0.2.2, _, a0.1, h0⟩ (two_c ⟨a1.2.1, a1.2.2, _, a1.1, h1⟩ (two_c ⟨a2.2.1, a2.2.2, _, a2.1, h2⟩ (two_c ⟨a3.2.1, a3.2.2, _, a3.1, h3⟩ fun i x y e => nomatch e))))), fun p hp => nomatch hp⟩
theorem tab_end {G : Stat} {cx : Cx} {ρ ρ' : List Addr} {σ : St} {h : Heap} {i k : Nat} {P : Addr} (r : R G cx ρ' σ h) (pk : Pk k ρ ρ') (hi : i < k) (hP : ρ[i]? = some P) (hz : ∃ Q e, σ.hp[i]? = some (.tab Q e)) : ∃ ps, h.get? P = some (tabObj ps) := by
  obtain ⟨P', e, hz⟩ := hz
  obtain ⟨a, o, h1, h2, hO, _⟩ := r.at hz
  have ha : a = P := by
    have := pk.get (i := i) hi
    rw [h1, hP] at this
    exact Option.some.inj this
  subst ha
  obtain ⟨rfl, hO⟩ := hO
  cases e with
  | none => exact ⟨_, by rw [h2, show o = _ from hO]⟩
  | some p => obtain ⟨p1, p2⟩ := p; obtain ⟨cv, rfl, _⟩ := hO; exact ⟨_, h2⟩
theorem law_end4 {G : Stat} {names : List (Str × NameKind)} {body : List Stmt} {iss : List IS} (comp : DSs G names body iss) {n k : Nat} {cl : List (Option Nat)} {cx : Cx} {ρ : List Addr} {σ : St} {s : Shared} {Q : Flow → Shared → Prop} {E : Value → Shared → Prop} {P P1 : Addr}
    (hw : wpSs G n cl k iss σ lawPost4) (ok : CxOk G cx (n + 1) names) (hc : ClOk cx cl ρ) (hlt : ClLt cl k) (hk : k ≤ ρ.length) (h1k : 2 ≤ k) (r : R G cx ρ σ s.heap) (hP : ρ[0]? = some P) (hP1 : ρ[1]? = some P1)
    (hQ : ∀ s', Stp s s' → (∀ b o, cx.h₀.get? b = some o → s'.heap.get? b = some o) → (∃ ps, s'.heap.get? P = some (tabObj ps)) → (∃ ps, s'.heap.get? P1 = some (tabObj ps)) → Q (.ret (.bool true)) s') :
    wpAny (model G.prog G.w) cx.A (execs body cx.env) Q E s := by
  refine comp n cl k _ _ hw cx ρ s _ _ ok hc hlt hk r ?_
  rintro fl fl' σ' ρ' s' pk r' hf ⟨rfl, hz, hz1⟩ st
  cases hf with
  | ret hv =>
    cases hv
    exact hQ s' st r'.keep (tab_end r' pk (Nat.lt_of_lt_of_le (by decide) h1k) hP hz) (tab_end r' pk (Nat.lt_of_lt_of_le (by decide) h1k) hP1 hz1)
theorem join {w : World} {loose : List Str} {mean : ExcName → Option Value} {mg mb : Str → Option Value} {scr : Addr} {ns : List Int} {vs : List Value} {g h₁ : Heap} {L fa : Addr} {o0 o1 o2 o3 : Obj} {cd : Value} {nm : Str} {scope : Scope} {body : List Stmt} {s₁ : Shared} {tk : Nat} {Q : Flow → Shared → Prop} {E : Value → Shared → Prop} {m : Str → Option Value}
    (X : (hd04.heap_39 w.params).In g) (Tp : Top topProg loose mean mg mb g) (F : Fr g L h₁ m) (hl : g.IsList scr vs.toArray) (hI : IntsAre vs ns) (C2 : CodeHd g 76 72) (C1 : CodeHd g 69 65) (N : News g L h₁ [(L + 4, o3), (L + 3, o2), (L + 2, o1), (L + 1, o0), (72, tabObj #[]), (65, tabObj #[])]) (hlt : 72 < L ∧ 65 < L)
    (h0 : o0.data = .cell none) (h1 : o1.data = .cell none) (h2 : o2.data = .cell none) (h3 : o3.data = .cell none) (hm : m "script" = some (.ref scr)) (hbody : body = bodyOf (fd w 87)) (hscope : scope.names = nm_law ∧ scope.kind = .function)
    (hQ : ∀ s', Stp { s₁ with heap := h₁, toks := tk } s' → (∀ b o, g.get? b = some o → s'.heap.get? b = some o) → (∃ ps, s'.heap.get? 65 = some (tabObj ps)) → (∃ ps, s'.heap.get? 72 = some (tabObj ps)) → Q (.ret (.bool true)) s') :
    wpAny (model PySem.Challenge.rw_dm0215_04.row.prog w) (callerA.deeper (envOfC nm scope L fa cd)) (execs body (envOfC nm scope L fa cd)) Q E { s₁ with heap := h₁, toks := tk } := by
  subst hbody
  have hcells : (envOfC nm scope L fa cd).cells = [(("more" : Str), L + 4), ("which", L + 3), ("lines", L + 2), ("signs", L + 1)] := by
    show cellsFrom (L + 1) scope.names [] = _
    rw [hscope.1]; rfl
  have hnames : (envOfC nm scope L fa cd).scope.names = nm_law := hscope.1
  have r : R (G w loose mean mg mb scr ns) ⟨envOfC nm scope L fa cd, callerA.deeper (envOfC nm scope L fa cd), g, []⟩ [65, 72, L + 1, L + 2, L + 3, L + 4] ⟨some (.stat (.ref scr)) :: List.replicate 24 none, [.tab 65 none, .tab 72 none, .cell none, .cell none, .cell none, .cell none]⟩ h₁ :=
    start4 F N h0 h1 h2 h3 hlt.1 (x := "script") (by rw [hnames]; rfl) hm rfl
  have ok : CxOk (G w loose mean mg mb scr ns) ⟨envOfC nm scope L fa cd, callerA.deeper (envOfC nm scope L fa cd), g, []⟩ (46 + 1) nm_law := by
    refine ⟨⟨X, Tp, ⟨C2, C1, trivial⟩, vs, hl, hI⟩, hscope.1, hscope.2, rfl, rfl, fun t ht e => ?_, rfl, by show callerA.depth + 1 + 4 * (46 + 1) ≤ 990; decide, by show callerA.units + 3 + 20 * (46 + 1) ≤ 9000; decide⟩
    cases ht with
    | head => exact absurd (e.trans hscope.1) (by decide)
    | tail _ h => cases h with
      | head => exact absurd (e.trans hscope.1) (by decide)
      | tail _ h => cases h
  refine law_end4 comp_law (law_wp (n := 26)) ok ⟨fun i x k j e1 e2 => ?_⟩ ⟨fun i j e => ?_⟩ (Nat.le_refl _) (by decide) r rfl rfl hQ
  · rw [hnames] at e1
    cases cl_at e2 with
    | head => cases e1; exact ⟨L + 1, rfl, by rw [hcells]; rfl⟩
    | tail _ h => cases h with
      | head => cases e1; exact ⟨L + 2, rfl, by rw [hcells]; rfl⟩
      | tail _ h => cases h with
        | head => cases e1; exact ⟨L + 3, rfl, by rw [hcells]; rfl⟩
        | tail _ h => cases h with
          | head => cases e1; exact ⟨L + 4, rfl, by rw [hcells]; rfl⟩
          | tail _ h => cases h
  · exact (show ∀ p ∈ [(1, 2), (10, 3), (11, 4), (16, 5)], p.2 < 6 by decide) _ (cl_at e)
end L04
end Mine
open PySem PySem.W PyProof.Rows
theorem PySem.Challenge.cw_dm0215_04_holds : PySem.Challenge.rw_dm0215_04.Holds :=
  hd04 (by
  w_strict (k_go0; (refine Mine.L04.join (by assumption) (by assumption) (by assumption) (by assumption) (by assumption) (by assumption) (by assumption) (by assumption) (by assumption) ?_ ?_ ?_ ?_ ?_ rfl ⟨rfl, rfl⟩ ?_); (· (refine Eq.trans (by assumption) (rfl : PySem.Data.cell _ = PySem.Data.cell none))); (· (refine Eq.trans (by assumption) (rfl : PySem.Data.cell _ = PySem.Data.cell none))); (· (refine Eq.trans (by assumption) (rfl : PySem.Data.cell _ = PySem.Data.cell none))); (· (refine Eq.trans (by assumption) (rfl : PySem.Data.cell _ = PySem.Data.cell none))); (· rfl); (intro s' st hk hg hg2); (refine ⟨Mine.goodT hk (by obtain ⟨h, t, rfl⟩ := st; rfl) (by obtain ⟨h, t, rfl⟩ := st; assumption) (raisesW_false ?_) ?_, hg2, hg, True.intro⟩); (· wrow_none_raised); (· kc_post)))

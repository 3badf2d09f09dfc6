import PyProof.Rows.All
import Wide.All
import OpenK.AllK
import Wide.FinOn
import Lean
import PySem.Challenge.RW_dn0277_01
open PySem PySem.W PyProof.Rows
set_option linter.unusedVariables false
set_option linter.unusedSectionVars false
set_option linter.unusedSimpArgs false
set_option Elab.async false
set_option maxRecDepth 100000
set_option maxHeartbeats 4000000
namespace Mine
open_top hd for PySem.Challenge.rw_dn0277_01
open PySem PySem.W PySem.Calls PyProof.Rows
abbrev Cel := Obj → Prop
abbrev Cells := List (Addr × Cel)
abbrev NoE : Value → Shared → Prop := fun _ _ => False

def cList (xs : List Value) : Cel := fun o => ∃ n, o = { cls := .type "list", data := .seq xs.toArray n }
def cTup (xs : List Value) : Cel := fun o => ∃ n, o = { cls := .type "tuple", data := .seq xs.toArray n }
/-- a frame's names: those that are told; of others nothing is said -/
def cNs (m : List (Str × Value)) : Cel := fun o => ∃ es ep, o.data = .dict es ep ∧ StrKeys es ∧ ∀ x v, m.lookup x = some v → nsFind es x = some v
def cCell (v : Option Value) : Cel := fun o => o.data = .cell v
def cLIter (l : Addr) (i : Nat) : Cel := fun o => o.cls = .type "list_iterator" ∧ o.data = .fields #[.ref l, .int i 0]

/-- what holds of a state: the heap of the call's start stands, and the cells are there -/
structure St (h0 : Heap) (o0 : Shared) (cs : Cells) (s : Shared) : Prop where
  keep : ∀ b o, h0.get? b = some o → s.heap.get? b = some o
  cell : ∀ p ∈ cs, ∃ o, s.heap.get? p.1 = some o ∧ p.2 o
  new : ∀ p ∈ cs, h0.get? p.1 = none
  nodup : (cs.map Prod.fst).Nodup
  gens : s.gens = o0.gens
  os : s.os = o0.os
  tok : s.toks ≠ 0

inductive Has : Cells → Addr → Cel → Prop where
  | here {a c r} : Has ((a, c) :: r) a c
  | there {p a c r} : Has r a c → Has (p :: r) a c

inductive Put : Cells → Addr → Cel → Cel → Cells → Prop where
  | here {a c c' r} : Put ((a, c) :: r) a c c' ((a, c') :: r)
  | there {p a c c' r r'} : Put r a c c' r' → Put (p :: r) a c c' (p :: r')

inductive Look : List (Str × Value) → Str → Value → Prop where
  | here {x v r} : Look ((x, v) :: r) x v
  | there {x y u v r} : (x == y) = false → Look r x v → Look ((y, u) :: r) x v

inductive SetN : List (Str × Value) → Str → Value → List (Str × Value) → Prop where
  | new {x v} : SetN [] x v [(x, v)]
  | here {x u v r} : SetN ((x, u) :: r) x v ((x, v) :: r)
  | there {x y u v r r'} : (x == y) = false → SetN r x v r' → SetN ((y, u) :: r) x v ((y, u) :: r')

inductive Pick : Cells → Addr → Cel → Cells → Prop where
  | here {a c r} : Pick ((a, c) :: r) a c r
  | there {p a c r r'} : Pick r a c r' → Pick (p :: r) a c (p :: r')
theorem Pick.perm {cs a c r} (h : Pick cs a c r) : ((a, c) :: r).Perm cs := by
  induction h with
  | here => exact .refl _
  | there _ ih => exact (List.Perm.swap _ _ _).trans (ih.cons _)

theorem Has.mem {cs a c} (h : Has cs a c) : (a, c) ∈ cs := by
  induction h with
  | here => exact List.mem_cons_self
  | there _ ih => exact List.mem_cons_of_mem _ ih
theorem Has.of_mem {cs : Cells} {a c} (h : (a, c) ∈ cs) : Has cs a c := by
  induction cs with
  | nil => cases h
  | cons p r ih =>
    rcases List.mem_cons.mp h with rfl | h
    · exact .here
    · exact .there (ih h)
theorem Has.app {cs K : Cells} {a c} (h : Has cs a c) : Has (cs ++ K) a c := .of_mem (List.mem_append_left _ h.mem)
theorem Put.has {cs a c c' cs'} (h : Put cs a c c' cs') : Has cs a c := by
  induction h with
  | here => exact .here
  | there _ ih => exact .there ih
theorem Put.addrs {cs a c c' cs'} (h : Put cs a c c' cs') : cs'.map Prod.fst = cs.map Prod.fst := by
  induction h with
  | here => rfl
  | there _ ih => simp [ih]
theorem Put.mem' {cs a c c' cs'} (h : Put cs a c c' cs') (nd : (cs.map Prod.fst).Nodup) : ∀ p ∈ cs', p = (a, c') ∨ (p ∈ cs ∧ p.1 ≠ a) := by
  induction h with
  | @here a c c' r =>
    intro p hp
    rcases List.mem_cons.mp hp with rfl | hp
    · exact .inl rfl
    · refine .inr ⟨List.mem_cons_of_mem _ hp, fun e => ?_⟩
      rw [List.map_cons, List.nodup_cons] at nd
      have q : p.1 ∈ r.map Prod.fst := List.mem_map_of_mem hp
      rw [e] at q
      exact nd.1 q
  | @there p a c c' r r' hr ih =>
    rw [List.map_cons, List.nodup_cons] at nd
    intro q hq
    rcases List.mem_cons.mp hq with rfl | hq
    · refine .inr ⟨List.mem_cons_self, fun e => nd.1 ?_⟩
      rw [e]
      exact List.mem_map_of_mem hr.has.mem
    · rcases ih nd.2 q hq with h | ⟨h, h'⟩
      · exact .inl h
      · exact .inr ⟨List.mem_cons_of_mem _ h, h'⟩
theorem Put.app {cs a c c' cs' K} (h : Put cs a c c' cs') : Put (cs ++ K) a c c' (cs' ++ K) := by
  induction h with
  | here => exact .here
  | there _ ih => exact .there ih

theorem Has.skip {xs r : Cells} {a c} (h : Has r a c) : Has (xs ++ r) a c := .of_mem (List.mem_append_right _ h.mem)
theorem Put.skip {xs r r' : Cells} {a c c'} (h : Put r a c c' r') : Put (xs ++ r) a c c' (xs ++ r') := by
  induction xs with
  | nil => exact h
  | cons p x ih => exact .there ih
theorem Pick.skip {xs r r' : Cells} {a c} (h : Pick r a c r') : Pick (xs ++ r) a c (xs ++ r') := by
  induction xs with
  | nil => exact h
  | cons p x ih => exact .there ih

theorem Look.eq {m x v} (h : Look m x v) : m.lookup x = some v := by
  induction h with
  | here => simp
  | there hn _ ih => simp only [List.lookup_cons, hn]; exact ih
theorem SetN.eq {m x v m'} (h : SetN m x v m') : (fun y => if y = x then some v else m.lookup y) = fun y => m'.lookup y := by
  induction h with
  | @new x v =>
    funext y
    by_cases hy : y = x
    · subst hy; simp
    · have : (y == x) = false := by simpa using hy
      simp [List.lookup_cons, hy, this]
  | @here x u v r =>
    funext y
    by_cases hy : y = x
    · subst hy; simp
    · have : (y == x) = false := by simpa using hy
      simp [List.lookup_cons, hy, this]
  | @there x y u v r r' hn _ ih =>
    funext z
    have ih := congrFun ih z
    by_cases hz : z = y
    · subst hz
      have hzx : ¬ z = x := fun e => by subst e; simp at hn
      simp [hzx]
    · have h1 : (z == y) = false := by simpa using hz
      simp only [List.lookup_cons, h1]
      exact ih

inductive NsSub : List (Str × Value) → List (Str × Value) → Prop where
  | nil {m} : NsSub [] m
  | cons {x v r m} : Look m x v → NsSub r m → NsSub ((x, v) :: r) m
theorem NsSub.look {m' m} (h : NsSub m' m) : ∀ x v, m'.lookup x = some v → m.lookup x = some v := by
  induction h with
  | nil => intro x v e; cases e
  | @cons y u r m hl _ ih =>
    intro x v e
    rw [List.lookup_cons] at e
    by_cases hx : (x == y) = true
    · rw [hx] at e; cases e
      rw [beq_iff_eq.mp hx]; exact hl.eq
    · rw [Bool.not_eq_true] at hx
      rw [hx] at e
      exact ih x v e
theorem cNs.sub {m' m : List (Str × Value)} {o : Obj} (h : cNs m o) (hs : NsSub m' m) : cNs m' o := by
  obtain ⟨es, ep, h1, h2, h3⟩ := h
  exact ⟨es, ep, h1, h2, fun x v e => h3 x v (hs.look x v e)⟩

section
variable {h0 : Heap} {o0 : Shared} {cs cs' : Cells} {s : Shared}

theorem St.get {a : Addr} {c : Cel} (H : St h0 o0 cs s) (h : Has cs a c) : ∃ o, s.heap.get? a = some o ∧ c o := H.cell _ h.mem

/-- only new things were made -/
theorem St.grow {h' : Heap} {k : Nat} (H : St h0 o0 cs s) (hk : ∀ b o, s.heap.get? b = some o → h'.get? b = some o) (hk' : k ≠ 0) : St h0 o0 cs { s with heap := h', toks := k } :=
  ⟨fun b o e => hk b o (H.keep b o e), fun p hp => let ⟨o, ho, hc⟩ := H.cell p hp; ⟨o, hk _ _ ho, hc⟩, H.new, H.nodup, H.gens, H.os, hk'⟩
theorem St.toks {k : Nat} (H : St h0 o0 cs s) (hk' : k ≠ 0) : St h0 o0 cs { s with toks := k } := H.grow (h' := s.heap) (fun _ _ e => e) hk'

theorem St.fresh {h : Heap} {a : Addr} (H : St h0 o0 cs s) (ha : s.heap.objs.size ≤ a) : a ∉ cs.map Prod.fst ∧ h0.get? a = none := by
  constructor
  · intro hm
    obtain ⟨p, hp, rfl⟩ := List.mem_map.mp hm
    obtain ⟨o, ho, _⟩ := H.cell p hp
    exact Nat.lt_irrefl _ (Nat.lt_of_lt_of_le (Heap.lt_size ho) ha)
  · cases e : h0.get? a with
    | none => rfl
    | some o => exact absurd (Heap.lt_size (H.keep _ _ e)) (Nat.not_lt.mpr ha)

/-- a new cell -/
theorem St.more {h' : Heap} {k : Nat} {a : Addr} {c : Cel} (H : St h0 o0 cs s) (ha : s.heap.objs.size ≤ a) (hc : ∃ o, h'.get? a = some o ∧ c o)
    (hk : ∀ b o, s.heap.get? b = some o → h'.get? b = some o) (hk' : k ≠ 0) : St h0 o0 ((a, c) :: cs) { s with heap := h', toks := k } := by
  have f := H.fresh (h := h') ha
  have G := H.grow hk hk'
  refine ⟨G.keep, fun p hp => ?_, fun p hp => ?_, ?_, G.gens, G.os, hk'⟩
  · rcases List.mem_cons.mp hp with rfl | hp
    · exact hc
    · exact G.cell p hp
  · rcases List.mem_cons.mp hp with rfl | hp
    · exact f.2
    · exact G.new p hp
  · rw [List.map_cons, List.nodup_cons]; exact ⟨f.1, H.nodup⟩
theorem St.push {k : Nat} {o : Obj} {c : Cel} (H : St h0 o0 cs s) (hc : c o) (hk' : k ≠ 0) (hf : o.isFreed = false := by rfl) :
    St h0 o0 ((s.heap.objs.size, c) :: cs) { s with heap := s.heap.push o, toks := k } :=
  H.more (Nat.le_refl _) ⟨o, Heap.get?_push_size _ hf, hc⟩ (fun b o e => Heap.get?_push_of_some _ e) hk'

/-- a cell is changed -/
theorem St.upd {h' : Heap} {k : Nat} {a : Addr} {c c' : Cel} (H : St h0 o0 cs s) (hp : Put cs a c c' cs') (hc : ∃ o, h'.get? a = some o ∧ c' o)
    (hk : ∀ b o, b ≠ a → s.heap.get? b = some o → h'.get? b = some o) (hk' : k ≠ 0) : St h0 o0 cs' { s with heap := h', toks := k } := by
  have hm := hp.mem' H.nodup
  have hn : h0.get? a = none := H.new _ hp.has.mem
  refine ⟨fun b o e => hk b o (fun q => by subst q; rw [hn] at e; cases e) (H.keep b o e), fun p q => ?_, fun p q => ?_, ?_, H.gens, H.os, hk'⟩
  · rcases hm p q with rfl | ⟨h1, h2⟩
    · exact hc
    · obtain ⟨o, ho, hc⟩ := H.cell p h1
      exact ⟨o, hk _ _ h2 ho, hc⟩
  · rcases hm p q with rfl | ⟨h1, h2⟩
    · exact hn
    · exact H.new p h1
  · rw [hp.addrs]; exact H.nodup
theorem St.updS {h' : Heap} {k : Nat} {a : Addr} {c c' : Cel} (H : St h0 o0 cs s) (hp : Put cs a c c' cs') (hc : ∃ o, h'.get? a = some o ∧ c' o)
    (hk : Heap.SameBut a s.heap h') (hk' : k ≠ 0) : St h0 o0 cs' { s with heap := h', toks := k } :=
  H.upd hp hc (fun b o hb e => (hk.2 b hb).trans e) hk'

/-- some cells are forgotten -/
theorem St.sub (H : St h0 o0 cs s) (hs : cs'.Sublist cs) : St h0 o0 cs' s :=
  ⟨H.keep, fun p hp => H.cell p (hs.subset hp), fun p hp => H.new p (hs.subset hp), H.nodup.sublist (hs.map _), H.gens, H.os, H.tok⟩
theorem St.perm (H : St h0 o0 cs s) (hs : cs'.Perm cs) : St h0 o0 cs' s :=
  ⟨H.keep, fun p hp => H.cell p (hs.mem_iff.mp hp), fun p hp => H.new p (hs.mem_iff.mp hp), ((hs.map Prod.fst).nodup_iff).mpr H.nodup, H.gens, H.os, H.tok⟩
/-- a cell is told with less -/
theorem St.weak {a : Addr} {c c' : Cel} (H : St h0 o0 cs s) (hp : Put cs a c c' cs') (hc : ∀ o, c o → c' o) : St h0 o0 cs' s := by
  obtain ⟨o, ho, hco⟩ := H.get hp.has
  exact H.upd (h' := s.heap) (k := s.toks) hp ⟨o, ho, hc o hco⟩ (fun _ _ _ e => e) H.tok
theorem St.pick {a c r} (H : St h0 o0 cs s) (h : Pick cs a c r) : St h0 o0 ((a, c) :: r) s := H.perm h.perm
theorem St.tail {p} (H : St h0 o0 (p :: cs) s) : St h0 o0 cs s := H.sub (List.sublist_cons_self _ _)
end
section
variable {prog : Program} {w : World} {M : Model} {A : Around} {E : Value → Shared → Prop} {s : Shared} {env : Env} {h0 : Heap} {o0 : Shared} {cs cs' : Cells}

theorem ns_of {a : Addr} {m} (H : St h0 o0 cs s) (h : Has cs a (cNs m)) : ∃ f, s.heap.Ns a f ∧ ∀ x v, m.lookup x = some v → f x = some v := by
  obtain ⟨o, ho, es, ep, hd, hk, hf⟩ := H.get h
  exact ⟨nsFind es, ⟨o, es, ep, ho, hd, hk, fun _ => rfl⟩, hf⟩
theorem of_ns {h : Heap} {a : Addr} {m : List (Str × Value)} {f : Str → Option Value} (hn : h.Ns a f) (e : ∀ x v, m.lookup x = some v → f x = some v) : ∃ o, h.get? a = some o ∧ cNs m o := by
  obtain ⟨o, es, ep, ho, hd, hk, hf⟩ := hn
  exact ⟨o, ho, es, ep, hd, hk, fun x v q => (hf x).trans (e x v q)⟩
theorem list_of {a : Addr} {xs} (H : St h0 o0 cs s) (h : Has cs a (cList xs)) : s.heap.IsList a xs.toArray := by
  obtain ⟨o, ho, n, rfl⟩ := H.get h
  exact ⟨_, ho, rfl, n, rfl⟩
theorem plist_of {a : Addr} {xs} (H : St h0 o0 cs s) (h : Has cs a (cList xs)) : s.heap.PlainList a xs.toArray := by
  obtain ⟨o, ho, n, rfl⟩ := H.get h
  exact ⟨n, ho⟩
theorem of_plist {h : Heap} {a : Addr} {xs : List Value} {ys : Array Value} (hl : h.PlainList a ys) (e : ys = xs.toArray) : ∃ o, h.get? a = some o ∧ cList xs o := by
  obtain ⟨n, hn⟩ := hl
  exact ⟨_, hn, n, by rw [e]⟩
theorem tup_of {a : Addr} {xs} (H : St h0 o0 cs s) (h : Has cs a (cTup xs)) : s.heap.IsTuple a xs.toArray := by
  obtain ⟨o, ho, n, rfl⟩ := H.get h
  exact ⟨_, ho, rfl, n, rfl⟩

theorem x_str {x : Str} {k : Nat} {pos : Pos} {Q : Value → Shared → Prop} (H : St h0 o0 cs s) (h : ∀ s', St h0 o0 cs s' → s'.toks = s.toks + 1 → Q (.str x s.toks) s') :
    wpAny M A (eval (.Constant (.str x) k pos) env) Q E s := Calls.Constant_str (h _ (H.toks (Nat.succ_ne_zero _)) rfl)
theorem x_int {i : Int} {k : Nat} {pos : Pos} {Q : Value → Shared → Prop} (H : St h0 o0 cs s) (h : ∀ t s', St h0 o0 cs s' → s'.toks = s.toks + 1 → Q (.int i t) s') :
    wpAny M A (eval (.Constant (.int i) k pos) env) Q E s := wpAny_Constant_int (h _ _ (H.toks (Nat.succ_ne_zero _)) rfl)

theorem x_name {x : Str} {pos : Pos} {L : Addr} {m} {v : Value} {Q : Value → Shared → Prop} (H : St h0 o0 cs s) (hp : Has cs L (cNs m)) (hL : env.locals = L) (hv : Look m x v) (hk : env.scope.kind = .function)
    (hl : env.kindOf x = some .local) (hd : (x == ("__debug__" : Str)) = false) (h : Q v s) : wpAny M A (eval (.Name x pos) env) Q E s := by
  obtain ⟨f, hf, hm⟩ := ns_of H hp
  subst hL
  exact wpAny_Name (wpAny_loadName_local hk hl hf (hm _ _ hv.eq) h) hd

/-- a global name of the text, a built-in's name -/
def GlobAt (h0 : Heap) (x : Str) (v : Value) : Prop := ∃ mg, h0.Ns mainGlobals mg ∧ mg x = some v
def BltAt (h0 : Heap) (x : Str) (v : Value) : Prop := ∃ mg mb, h0.Ns mainGlobals mg ∧ mg x = none ∧ h0.Ns builtinsNs mb ∧ mb x = some v

theorem x_glob {x : Str} {pos : Pos} {v : Value} {Q : Value → Shared → Prop} (H : St h0 o0 cs s) (hg : GlobAt h0 x v) (hk : env.scope.kind = .function) (hl : env.kindOf x = some .globalImplicit)
    (he : env.globals = mainGlobals) (hd : (x == ("__debug__" : Str)) = false) (h : Q v s) : wpAny M A (eval (.Name x pos) env) Q E s := by
  obtain ⟨mg, hn, hv⟩ := hg
  exact Name_function_global hk hl (loadGlobal_global (he ▸ hn.keeps H.keep) hv h) hd
theorem x_blt {x : Str} {pos : Pos} {v : Value} {Q : Value → Shared → Prop} (H : St h0 o0 cs s) (hg : BltAt h0 x v) (hk : env.scope.kind = .function) (hl : env.kindOf x = some .globalImplicit)
    (he : env.globals = mainGlobals) (hb : env.builtins = builtinsNs) (hd : (x == ("__debug__" : Str)) = false) (h : Q v s) : wpAny M A (eval (.Name x pos) env) Q E s := by
  obtain ⟨mg, mb, hn, hm, hb', hv⟩ := hg
  exact Name_function_global hk hl (loadGlobal_builtin (he ▸ hn.keeps H.keep) hm (hb ▸ hb'.keeps H.keep) hv h) hd

theorem x_store {x : Str} {L : Addr} {m m'} {v : Value} {Q : Unit → Shared → Prop} (H : St h0 o0 cs s) (hp : Put cs L (cNs m) (cNs m') cs') (hL : env.locals = L) (hs : SetN m x v m') (hk : env.scope.kind = .function)
    (hl : env.kindOf x = some .local) (h : ∀ s', St h0 o0 cs' s' → Q () s') : wpAny M A (storeName env x v) Q E s := by
  obtain ⟨f, hf, hm⟩ := ns_of H hp.has
  subst hL
  refine wpAny_storeName_local hl hf (fun h' hn hsb => ?_) (by rw [hk]; rfl)
  refine h _ (H.updS hp (of_ns hn fun y u q => ?_) hsb (Nat.succ_ne_zero _))
  have q' : (if y = x then some v else m.lookup y) = some u := (congrFun hs.eq y).trans q
  by_cases hy : y = x
  · rw [if_pos hy] at q' ⊢; exact q'
  · rw [if_neg hy] at q' ⊢; exact hm _ _ q'

theorem x_call {fa : Addr} {fd : FuncData} {o : Obj} {body : List Stmt} {args : List Value} {binds : List (Str × Value)} {Q : Value → Shared → Prop} (H : St h0 o0 cs s)
    (ho : h0.get? fa = some o) (hd : o.data = .func fd) (hbody : fd.body = .stmts body) (hlim : h0.NoLimit) (hcd : h0.CodeRec fd.code fd.qualname) (hroom : A.depth < recursionLimit)
    (hbind : bindArgs fd ⟨args, []⟩ = pure binds) (hcell : ∀ x ∈ fd.scope.names, x.2 ≠ .cell) (hloc : ∀ x ∈ binds, fd.scope.names.lookup x.1 = some .local)
    (hco : fd.scope.isCoroutine = false) (hgen : fd.scope.isGenerator = false) (hk : fd.scope.kind = .function) (hne : binds ≠ [])
    (h : ∀ L s', St h0 o0 ((L, cNs binds.reverse) :: cs) s' → wpAny (model prog w) (A.deeper (callEnv fd L fa)) (execs body (callEnv fd L fa)) (fun f s'' => Q (match f with | .ret v => v | _ => .none) s'') NoE s') :
    wpAny (model prog w) A (call (.ref fa) args) Q E s := by
  refine wpAny_call (codeAny_call_def (fd := fd) (body := body) (binds := binds) hroom (H.keep _ _ ho) hd (hlim.keeps H.keep) (hcd.keeps H.keep) hbody (fun M A E Q q => by rw [hbind]; exact wpAny_pure q) hcell hloc (fun h₁ hns hk₁ => ?_) hco hgen hk)
  refine wpAny_mono (h s.heap.objs.size _ (H.more (Nat.le_refl _) (of_ns hns fun _ _ q => q) hk₁ ?_)) (fun f s' q => q) fun _ _ q => q.elim
  have : binds.length ≠ 0 := fun e => hne (List.length_eq_zero_iff.mp e)
  omega

theorem x_try {body : List Stmt} {h₀ : ExceptHandler} {hs : List ExceptHandler} {pos : Pos} {Q : Flow → Shared → Prop}
    (h : wpAny (model prog w) A (execs body env) Q NoE s) (hQ : ∀ s', ¬ Q .next s' ∨ True) :
    wpAny (model prog w) A (exec (.Try body (h₀ :: hs) [] [] pos) env) Q E s := by
  refine wpAny_Try_except (wpAny_mono h (fun f s₁ q => ?_) fun _ _ q => q.elim)
  cases f <;> first | exact q | exact wpAny_execs_nil q
end
/-- what stands at the call's start: the text's own objects, the built-ins' names -/
structure Base (K : Frag) (h0 : Heap) : Prop where
  X : K.In h0
  lim : h0.NoLimit
  blt : ∃ mb, h0.Ns builtinsNs mb ∧ ∀ x : Str, x ≠ "__name__" → mb x = bootBuiltins x

def globsIn (K : Frag) : Array DictEntry := match K.lookup mainGlobals with
  | some ⟨_, _, .dict es _, _⟩ => es
  | _ => #[]
def globsOk (K : Frag) : Bool := (match K.lookup mainGlobals with | some ⟨_, _, .dict _ _, _⟩ => true | _ => false) && (globsIn K).toList.all fun e => match e.key with | .str _ _ => true | _ => false
def fdOf (K : Frag) (a : Addr) : FuncData := match K.lookup a with
  | some ⟨_, _, .func fd, _⟩ => fd
  | _ => default
def bodyOf (K : Frag) (a : Addr) : List Stmt := match (fdOf K a).body with
  | .stmts b => b
  | _ => []
def isStmts : FuncBody → Bool
  | .stmts _ => true
  | _ => false
def fnOk (K : Frag) (a : Addr) : Bool := match K.lookup a with
  | some ⟨_, _, .func fd, _⟩ => codeIn K fd.code fd.qualname && !fd.scope.isCoroutine && !fd.scope.isGenerator && fd.scope.kind == .function && fd.scope.names.all (fun x => x.2 != .cell) && isStmts fd.body
  | _ => false

section
variable {K : Frag} {h0 : Heap}
theorem Base.ns (B : Base K h0) (ok : globsOk K = true) : h0.Ns mainGlobals (nsFind (globsIn K)) := by
  unfold globsOk at ok
  obtain ⟨ok1, ok2⟩ := Bool.and_eq_true_iff.mp ok
  unfold globsIn at *
  split at ok1
  · rename_i c d es ep sl ho
    refine ⟨_, es, ep, B.X _ _ ho, rfl, ?_, fun _ => by simp only⟩
    simp only [ho] at ok2
    intro e he
    have := List.all_eq_true.mp ok2 e (Array.mem_toList_iff.mpr he)
    split at this
    · rename_i n t hk; exact ⟨n, t, hk⟩
    · cases this
  · cases ok1
theorem Base.glob (B : Base K h0) (ok : globsOk K = true) {x : Str} {v : Value} (hx : nsFind (globsIn K) x = some v) : GlobAt h0 x v := ⟨_, B.ns ok, hx⟩
theorem Base.bltAt (B : Base K h0) (ok : globsOk K = true) {x : Str} {v : Value} (hx : nsFind (globsIn K) x = none) (hn : x ≠ "__name__") (hb : bootBuiltins x = some v) : BltAt h0 x v := by
  obtain ⟨mb, h1, h2⟩ := B.blt
  exact ⟨_, mb, B.ns ok, hx, h1, (h2 x hn).trans hb⟩
end

section
variable {prog : Program} {w : World} {A : Around} {E : Value → Shared → Prop} {s : Shared} {env : Env} {h0 : Heap} {o0 : Shared} {cs cs' : Cells} {K : Frag}

theorem x_fn {fa : Addr} {args : List Value} {m : List (Str × Value)} {Q : Value → Shared → Prop} (B : Base K h0) (H : St h0 o0 cs s) (hf : fnOk K fa = true) (hroom : A.depth < recursionLimit)
    (hbind : bindArgs (fdOf K fa) ⟨args, []⟩ = pure m.reverse) (hloc : (m.all fun x => (fdOf K fa).scope.names.lookup x.1 == some .local) = true) (hne : (!m.isEmpty) = true)
    (h : ∀ L s', St h0 o0 ((L, cNs m) :: cs) s' → wpAny (model prog w) (A.deeper (callEnv (fdOf K fa) L fa)) (execs (bodyOf K fa) (callEnv (fdOf K fa) L fa)) (fun f s'' => Q (match f with | .ret v => v | _ => .none) s'') NoE s') :
    wpAny (model prog w) A (call (.ref fa) args) Q E s := by
  unfold fnOk at hf
  split at hf
  · rename_i c d fd sl ho
    simp only [Bool.and_eq_true, Bool.not_eq_true', beq_iff_eq] at hf
    obtain ⟨⟨⟨⟨⟨h1, h2⟩, h3⟩, h4⟩, h5⟩, h6⟩ := hf
    have e : fdOf K fa = fd := by unfold fdOf; rw [ho]
    have eb : fd.body = .stmts (bodyOf K fa) := by
      unfold bodyOf; rw [e]
      cases hb : fd.body with
      | stmts b => rfl
      | expr _ => rw [hb] at h6; cases h6
    rw [e] at hbind hloc h
    refine x_call H (B.X _ _ ho) rfl eb B.lim (codeRec_of B.X h1) hroom hbind (fun x hx => ?_) (fun x hx => ?_) h2 h3 h4 (fun q => ?_) (by rw [List.reverse_reverse]; exact h)
    · simpa using List.all_eq_true.mp h5 x hx
    · simpa using List.all_eq_true.mp hloc x (List.mem_reverse.mp hx)
    · rw [List.reverse_eq_nil_iff] at q; subst q; cases hne
  · cases hf

/-- nothing the walk knows is changed, tokens grow -/
theorem tokd {α : Type} {t : Sem α} {Q : α → Shared → Prop} {M : Model} (h : wpAny M A t (fun v s' => s.toks ≤ s'.toks → Q v s') E s) : wpAny M A t Q E s :=
  wpAny_with_toks (Nat.le_refl _) (wpAny_mono h (fun _ _ q => q) fun _ _ q _ => q)

theorem x_replace {x y z : Str} {t u v : Tok} {Q : Value → Shared → Prop} (H : St h0 o0 cs s) (hu : u ≠ 0) (hv : v ≠ 0) (huv : u ≠ v) (hyz : (y == z) = false)
    (hb : x.length + (x.length + 1) * z.length ≤ 16777216) (h : ∀ t' s', St h0 o0 cs s' → Q (.str (Txt.replace x y z) t') s') :
    wpAny (model prog w) A (call (.builtin "str.replace") [.str x t, .str y u, .str z v]) Q E s :=
  tokd (SC.replace hu hv huv hyz hb fun t' k hk => h t' _ (H.toks (by have := H.tok; simp only at hk; omega)))

theorem replace_absent {x y z : Str} (h : Txt.contains x y = false) : Txt.replace x y z = x := by
  unfold Txt.contains at h
  have h1 : (Builtin.Str.occurrences x y 0 x.length 1).isEmpty = true := by simpa using h
  have h2 : (Builtin.Str.occurrences x y 0 x.length (x.length + 1)).isEmpty = true := by
    rcases StrLaws.occ_head_from x y 0 (x.length + 1) (by omega) with ⟨e, _⟩ | ⟨i, r, e, hi, ha, _⟩
    · rw [e]; rfl
    · rcases StrLaws.occ_head_from x y 0 1 (by omega) with ⟨_, hn⟩ | ⟨i', r', e', _⟩
      · exact absurd ha (hn i hi)
      · rw [e'] at h1; cases h1
  unfold Txt.replace
  rw [h2]; rfl

/-- if c in x: x = x.replace(c, r) -/
theorem x_escIf {x c r txt : Str} {t : Tok} {L : Addr} {k1 k2 k3 : Nat} {p1 p2 p3 p4 p5 p6 p7 p8 p9 p10 p11 : Pos} {Q : Flow → Shared → Prop}
    (H : St h0 o0 ((L, cNs [(x, .str txt t)]) :: cs) s) (hL : env.locals = L) (hk : env.scope.kind = .function) (hl : env.kindOf x = some .local) (hd : (x == ("__debug__" : Str)) = false)
    (hb : txt.length + (txt.length + 1) * r.length ≤ 16777216) (hyz : (c == r) = false) (hline : (p6.endLine == p9.line) = true)
    (h : ∀ t' s', St h0 o0 ((L, cNs [(x, .str (Txt.replace txt c r) t')]) :: cs) s' → Q .next s') :
    wpAny (model prog w) A (exec (.If (.Compare (.Constant (.str c) k1 p1) [.In] [.Name x p2] p3)
      [.Assign [.Name x p4] (.Call (.Attribute (.Name x p5) (Str.ofString "replace") p6) [.Constant (.str c) k2 p7, .Constant (.str r) k3 p8] [] p9) p10] [] p11) env) Q E s := by
  refine wpAny_If (wpAny_isTrue_Compare1 ?_ (by rfl))
  refine x_str H fun s1 H e1 => ?_
  refine x_name H .here hL .here hk hl hd ?_
  refine PyProof.Rows.in_str (wpAny_truthy_bool ?_)
  split
  · refine wpAny_execs_cons (wpAny_Assign_Name ?_)
    refine wpAny_Call_method (T := "str") (id := "str.replace") rfl (by rfl) hline F.plainAttrs_str F.slot_str_replace F.type_str_replace ?_
    refine x_name H .here hL .here hk hl hd ?_
    refine ⟨typeIs_str _ _ _, fun a e => (by cases e), ?_⟩
    refine callWith_method1 (args_cons ?_)
    refine x_str H fun s2 H2 e2 => args_cons (x_str H2 fun s3 H3 e3 => args_nil ?_)
    have := H.tok; have := H2.tok
    refine x_replace H3 (by omega) (by omega) (Nat.ne_of_lt (by omega)) hyz hb fun t' s4 H4 => ?_
    exact x_store H4 .here hL .here hk hl fun s5 H5 => wpAny_execs_nil (h _ _ H5)
  · rename_i hc
    refine wpAny_execs_nil ?_
    have hc' : Txt.contains txt c = false := by unfold Txt.contains; simpa using hc
    refine h t _ ?_
    rw [replace_absent hc']
    exact H
end
section
variable {prog : Program} {w : World} {A : Around} {E : Value → Shared → Prop} {s : Shared} {env : Env} {h0 : Heap} {o0 : Shared} {cs cs' : Cells} {K : Cells}

/-- an iterator: its cells at each place, what it hands out -/
structure Steps (prog : Program) (w : World) (A : Around) (h0 : Heap) (o0 : Shared) (it : Value) (f : Nat → Cells) (n : Nat) (V : Nat → Value → Prop) (Pre : Cells → Prop) : Prop where
  next : ∀ i C s (Q : Option Value → Shared → Prop) E, i < n → Pre C → St h0 o0 (f i ++ C) s → (∀ v s', V i v → St h0 o0 (f (i + 1) ++ C) s' → Q (some v) s') → wpAny (model prog w) A (pyNext it) Q E s
  done : ∀ C s (Q : Option Value → Shared → Prop) E, Pre C → St h0 o0 (f n ++ C) s → (∀ s', St h0 o0 C s' → Q none s') → wpAny (model prog w) A (pyNext it) Q E s
  self : ∀ i C s (Q : Value → Shared → Prop) E, St h0 o0 (f i ++ C) s → Q it s → wpAny (model prog w) A (pyIter it) Q E s
  mono : ∀ C C', Pre C → (∀ p ∈ C, p ∈ C') → Pre C'
  own : ∀ target i C v s (Q : Unit → Shared → Prop) E, V i v → St h0 o0 (f (i + 1) ++ C) s → (∀ s', St h0 o0 (f (i + 1) ++ C) s' → Q () s') → wpAny (model prog w) A (letOwnedTupleGo target it v) Q E s

theorem liter_of {a l : Addr} {i : Nat} (H : St h0 o0 cs s) (h : Has cs a (cLIter l i)) : s.heap.IsListIter a l i := by
  obtain ⟨o, ho, hc, hd⟩ := H.get h
  exact ⟨o, ho, hc, hd⟩

/-- a list's iterator never is one of those that own a tuple -/
theorem own_plain {target : Expr} {it : Addr} {l : Addr} {i : Nat} {v : Value} {Q : Unit → Shared → Prop} (hit : s.heap.IsListIter it l i) (h : Q () s) : wpAny (model prog w) A (letOwnedTupleGo target (.ref it) v) Q E s := by
  obtain ⟨o, ho, hc, hd⟩ := hit
  unfold letOwnedTupleGo
  split
  all_goals first
    | exact wpAny_pure h
    | (cases v with
       | ref a =>
         refine wpAny_bind (wpAny_load ho ?_)
         rw [hc, hd]
         show wpAny _ _ (if (["enumerate", "zip", "dict_itemiterator", "dict_reverseitemiterator", "odict_iterator", "itertools.zip_longest", "itertools.pairwise"].contains "list_iterator" && _) = true then _ else _) _ _ _
         rw [show (["enumerate", "zip", "dict_itemiterator", "dict_reverseitemiterator", "odict_iterator", "itertools.zip_longest", "itertools.pairwise"].contains "list_iterator") = false from by decide, Bool.false_and]
         exact wpAny_pure h
       | _ => exact wpAny_pure h)

theorem steps_list {it l : Addr} {xs : List Value} (hh : A.handled = none) : Steps prog w A h0 o0 (.ref it) (fun i => [(it, cLIter l i)]) xs.length (fun i v => xs[i]? = some v) (fun C => Has C l (cList xs)) where
  next := fun i C s Q E hi hl H hQ => by
    have hl' : s.heap.IsList l xs.toArray := list_of H (.there hl)
    have hit : s.heap.IsListIter it l i := liter_of H .here
    refine wpAny_pyNext_list_item hit hl' (x := xs[i]) (by simp [hi]) fun h' hit' hs' => ?_
    refine hQ _ _ (by simp [hi]) (H.updS (k := s.toks) .here ?_ hs' H.tok)
    obtain ⟨o, a, b, c⟩ := hit'
    exact ⟨o, a, b, c⟩
  done := fun C s Q E hl H hQ => by
    have hl' : s.heap.IsList l xs.toArray := list_of H (.there hl)
    have hit : s.heap.IsListIter it l xs.length := liter_of H .here
    refine wpAny_pyNext_list_end hh hit hl' (by simp) fun h' he' => hQ _ ?_
    have hn := H.new (it, cLIter l xs.length) (by simp)
    have hd := H.nodup
    simp only [List.singleton_append, List.map_cons, List.nodup_cons] at hd
    refine ⟨fun b o e => he' b o (fun q => ?_) (H.keep b o e), fun p hp => ?_, fun p hp => H.new p (by simp [hp]), hd.2, H.gens, H.os, H.tok⟩
    · subst q; simp only at hn; rw [hn] at e; cases e
    · obtain ⟨o, ho, hc⟩ := H.cell p (by simp [hp])
      exact ⟨o, he' _ _ (fun q => hd.1 (q ▸ List.mem_map_of_mem hp)) ho, hc⟩
  self := fun i C s Q E H h => wpAny_pyIter_listiter (liter_of H .here) h
  mono := fun C C' h hs => Has.of_mem (hs _ h.mem)
  own := fun target i C v s Q E hv H h => own_plain (liter_of H .here) (h _ H)

/-- a cell by what a library's iterator says of the heap -/
def cWalk (I : Addr) (S : Nat → Heap → Prop) (i : Nat) : Cel := fun o => ∀ h : Heap, h.get? I = some o → S i h
theorem own_noref {target : Expr} {it v : Value} {Q : Unit → Shared → Prop} (hv : ∀ a, v ≠ .ref a) (h : Q () s) : wpAny (model prog w) A (letOwnedTupleGo target it v) Q E s := by
  unfold letOwnedTupleGo
  split
  all_goals first
    | exact wpAny_pure h
    | (cases v with
       | ref a => exact absurd rfl (hv a)
       | _ => cases it <;> exact wpAny_pure h)
theorem steps_walks {I : Addr} {n : Nat} {P : Nat → Value → Prop} {S : Nat → Heap → Prop} (W : Walks prog w A I [I] [I] n P S) (hv : ∀ i v, P i v → ∀ a, v ≠ .ref a) (hex : ∀ i h, S i h → ∃ o, h.get? I = some o) :
    Steps prog w A h0 o0 (.ref I) (fun i => [(I, cWalk I S i)]) n P (fun _ => True) where
  next := fun i C s Q E hi _ H hQ => by
    obtain ⟨o, ho, hc⟩ := H.get .here
    refine tokd (W.item i s _ _ hi (hc _ ho) fun v h' tk hP hS hk htk => ?_)
    have hn : h0.get? I = none := H.new (I, cWalk I S i) (by simp)
    refine hQ v _ hP (H.upd .here ?_ (fun b o hb e => hk b o (by simpa using hb) e) (by have := H.tok; simp only at htk; omega))
    obtain ⟨o', ho'⟩ := hex _ _ hS
    refine ⟨o', ho', fun h hh => W.frame _ _ _ hS fun b hb o e => ?_⟩
    rw [List.mem_singleton.mp hb] at e ⊢
    rw [ho'] at e; cases e
    exact hh
  done := fun C s Q E _ H hQ => by
    obtain ⟨o, ho, hc⟩ := H.get .here
    refine tokd (W.done s _ _ (hc _ ho) fun h' tk hk htk => hQ _ ?_)
    have hn := H.new (I, cWalk I S n) (by simp)
    have hd := H.nodup
    simp only [List.singleton_append, List.map_cons, List.nodup_cons] at hd
    refine ⟨fun b o e => hk b o (fun q => ?_) (H.keep b o e), fun p hp => ?_, fun p hp => H.new p (by simp [hp]), hd.2, H.gens, H.os, by have := H.tok; simp only at htk ⊢; omega⟩
    · rw [List.mem_singleton.mp q] at e; simp only at hn; rw [hn] at e; cases e
    · obtain ⟨o, ho, hc⟩ := H.cell p (by simp [hp])
      refine ⟨o, hk _ _ (fun q => hd.1 ?_) ho, hc⟩
      have := List.mem_map_of_mem (f := Prod.fst) hp
      rwa [List.mem_singleton.mp q] at this
  self := fun i C s Q E H h => by
    obtain ⟨o, ho, hc⟩ := H.get .here
    exact W.self i s Q E (hc _ ho) h
  mono := fun _ _ _ _ => trivial
  own := fun target i C v s Q E hP H h => own_noref (hv i v hP) (h _ H)

theorem St.swap {a b c : Cells} (H : St h0 o0 (a ++ (b ++ c)) s) : St h0 o0 (b ++ (a ++ c)) s :=
  H.perm (by rw [← List.append_assoc, ← List.append_assoc]; exact List.Perm.append_right _ List.perm_append_comm)
theorem St.drop {a b c : Cells} (H : St h0 o0 (b ++ (a ++ c)) s) : St h0 o0 (b ++ c) s :=
  H.sub (List.Sublist.append (List.Sublist.refl _) (List.sublist_append_right _ _))

/-- a for's loop -/
theorem for_core {target : Expr} {it : Value} {body : List Stmt} {f : Nat → Cells} {n : Nat} {V : Nat → Value → Prop} {Pre : Cells → Prop} {R : Flow → Shared → Prop} {R' : Result → Shared → Prop} (S : Steps prog w A h0 o0 it f n V Pre) (P : Nat → Cells → Prop)
    (hPre : ∀ i C, P i C → Pre (C ++ K))
    (turn : ∀ i v C K' s, i < n → V i v → P i C → (∀ C s, St h0 o0 (C ++ K') s → St h0 o0 (C ++ K) s) → St h0 o0 (C ++ K') s →
      wpAny (model prog w) A (assign target env v) (fun _ s₂ => wpAny (model prog w) A (execs body env) (fun f s₃ => match f with
        | .next | .cont => ∃ C', P (i + 1) C' ∧ St h0 o0 (C' ++ K') s₃
        | .brk => R .next s₃
        | .ret v => R (.ret v) s₃) NoE s₂) NoE s)
    (fin : ∀ C s, P n C → St h0 o0 (C ++ K) s → R .next s) (hR : ∀ f s, R f s → R' (.ok f) s) {C0 : Cells} (h0P : P 0 C0) (H : St h0 o0 (f 0 ++ (C0 ++ K)) s) :
    codeAny (model prog w) A (.forLoop target it body [] env) R' s := by
  refine codeAny_loop' rfl (fun k s => ∃ i C, i ≤ n ∧ k = n - i ∧ P i C ∧ St h0 o0 (f i ++ (C ++ K)) s) (fun k s hI => ?_) n ⟨0, C0, Nat.zero_le _, rfl, h0P, H⟩
  obtain ⟨i, C, hi, rfl, hP, H⟩ := hI
  show wpAny _ _ ((forTurn target it body [] env).onRaise (fun x => do noteFrame x env; theTreesLotGoes x)) _ _ s
  refine wpAny_noted ?_
  simp only [forTurn]
  refine wpAny_mono (E := NoE) ?_ (fun _ _ q => q) (fun _ _ q => q.elim)
  refine wpAny_bind (wpAny_standAt (wpAny_bind (wpAny_onRaise (wpAny_mono (E := NoE) ?_ (fun _ _ q => q) (fun _ _ q => q.elim)))))
  rcases Nat.lt_or_ge i n with hlt | hge
  · refine S.next i _ s _ _ hlt (hPre i C hP) H fun v s1 hv H1 => ?_
    refine wpAny_bind (S.own target i _ v s1 _ _ hv H1 fun s2 H2 => ?_)
    refine wpAny_bind (wpAny_mono (turn i v C (f (i + 1) ++ K) s2 hlt hv hP (fun C s q => q.drop) H2.swap) (fun _ s3 q3 => ?_) fun _ _ q => q)
    refine wpAny_bind (wpAny_mono q3 (fun fl s4 q4 => ?_) fun _ _ q => q)
    cases fl with
    | next =>
      obtain ⟨C', hP', H'⟩ := q4
      exact wpAny_pure (.inl ⟨rfl, n - (i + 1), by omega, i + 1, C', hlt, rfl, hP', H'.swap⟩)
    | cont =>
      obtain ⟨C', hP', H'⟩ := q4
      exact wpAny_pure (.inl ⟨rfl, n - (i + 1), by omega, i + 1, C', hlt, rfl, hP', H'.swap⟩)
    | brk => exact wpAny_pure (hR _ _ q4)
    | ret v => exact wpAny_pure (hR _ _ q4)
  · have e : i = n := by omega
    subst e
    exact S.done _ s _ _ (hPre i C hP) H fun s1 H1 => wpAny_pure (.inr ⟨rfl, codeAny_block (wpAny_execs_nil (hR _ _ (fin C s1 hP H1)))⟩)

/-- for target in (a list) -/
theorem x_for_list {target iter : Expr} {body : List Stmt} {pos : Pos} {Q : Flow → Shared → Prop} (hh : A.handled = none)
    (h : wpAny (model prog w) A (eval iter env) (fun x s₁ => ∃ l xs C0 K, ∃ P : Nat → Cells → Prop, x = .ref l ∧ P 0 C0 ∧ St h0 o0 (C0 ++ K) s₁ ∧ (∀ i C, P i C → Has (C ++ K) l (cList xs)) ∧
      (∀ i v C K' s, xs[i]? = some v → P i C → (∀ C s, St h0 o0 (C ++ K') s → St h0 o0 (C ++ K) s) → St h0 o0 (C ++ K') s →
        wpAny (model prog w) A (assign target env v) (fun _ s₂ => wpAny (model prog w) A (execs body env) (fun f s₃ => match f with
          | .next | .cont => ∃ C', P (i + 1) C' ∧ St h0 o0 (C' ++ K') s₃
          | .brk => Q .next s₃
          | .ret v => Q (.ret v) s₃) NoE s₂) NoE s) ∧
      (∀ C s, P xs.length C → St h0 o0 (C ++ K) s → Q .next s)) E s)
    (hs : ∀ x, foldedSetIterable iter env x = pure x) :
    wpAny (model prog w) A (exec (.For target iter body [] pos) env) Q E s := by
  refine wpAny_For (wpAny_mono h (fun x s₁ h₁ => ?_) fun _ _ q => q) hs
  obtain ⟨l, xs, C0, K, P, rfl, hP0, H, hl, turn, fin⟩ := h₁
  have hl' := hl 0 C0 hP0
  refine wpAny_pyIter_list (list_of H hl') ?_
  have H2 : St h0 o0 ((s₁.heap.objs.size, cLIter l 0) :: (C0 ++ K)) { s₁ with heap := s₁.heap.push { cls := .type "list_iterator", data := .fields #[.ref l, .int 0 0] } } :=
    H.push (k := s₁.toks) (c := cLIter l 0) ⟨rfl, rfl⟩ H.tok
  refine for_core (R := Q) (steps_list (l := l) (xs := xs) hh) P (fun i C hP => hl i C hP) (fun i v C K' s hi hv hP hK H => turn i v C K' s hv hP hK H) fin (fun f s q => q) hP0 H2

/-- while test: body -/
theorem x_while {test : Expr} {body : List Stmt} {pos : Pos} {Q : Flow → Shared → Prop} (P : Nat → Cells → Prop)
    (turn : ∀ n C s, P n C → St h0 o0 (C ++ K) s → wpAny (model prog w) A (isTrue test env (eval test env)) (fun b s₂ =>
      if b then wpAny (model prog w) A (execs body env) (fun f s₃ => match f with
        | .next | .cont => ∃ m C', m < n ∧ P m C' ∧ St h0 o0 (C' ++ K) s₃
        | .brk => Q .next s₃
        | .ret v => Q (.ret v) s₃) NoE s₂
      else Q .next s₂) NoE s) {n : Nat} {C0 : Cells} (hP : P n C0) (H : St h0 o0 (C0 ++ K) s) :
    wpAny (model prog w) A (exec (.While test body [] pos) env) Q E s := by
  refine wpAny_While (codeAny_whileLoop (fun n s => ∃ C, P n C ∧ St h0 o0 (C ++ K) s) (fun n s hI => ?_) n ⟨C0, hP, H⟩)
  obtain ⟨C, hP, H⟩ := hI
  refine wpAny_mono (turn n C s hP H) (fun b s₂ q => ?_) fun _ _ q => q.elim
  cases b with
  | true =>
    simp only [if_true] at q ⊢
    refine wpAny_mono q (fun f s₃ q => ?_) fun _ _ q => q.elim
    cases f with
    | next => obtain ⟨m, C', h1, h2, h3⟩ := q; exact ⟨m, h1, C', h2, h3⟩
    | cont => obtain ⟨m, C', h1, h2, h3⟩ := q; exact ⟨m, h1, C', h2, h3⟩
    | brk => exact q
    | ret v => exact q
  | false =>
    simp only [Bool.false_eq_true, if_false] at q ⊢
    exact wpAny_execs_nil q
end
section
variable {prog : Program} {w : World} {A : Around} {E : Value → Shared → Prop} {s : Shared} {env : Env} {h0 : Heap} {o0 : Shared} {cs cs' : Cells} {K : Cells}

theorem x_append {l : Addr} {xs : List Value} {v : Value} {Q : Value → Shared → Prop} (H : St h0 o0 cs s) (hp : Put cs l (cList xs) (cList (xs ++ [v])) cs') (hsz : xs.length ≤ sizeLine) (h : ∀ s', St h0 o0 cs' s' → Q .none s') :
    wpAny (model prog w) A (call (.builtin "list.append") [.ref l, v]) Q E s := by
  refine wpAny_list_append_plain (hsz := by simpa using hsz) (plist_of H hp.has) fun h' hl hs => h _ (H.updS (k := s.toks) hp (of_plist hl (by simp)) hs H.tok)

abbrev compTests (ifs : List Expr) (cenv : Env) : Sem Bool := forIn ifs true fun c r => if r = true then do let ok ← isTrue c cenv (eval c cenv); pure (ForInStep.yield ok) else pure (ForInStep.yield r)
theorem x_tests0 {cenv : Env} {Q : Bool → Shared → Prop} (h : Q true s) : wpAny (model prog w) A (compTests [] cenv) Q E s := by
  unfold compTests; rw [List.forIn_nil]; exact wpAny_pure h
theorem x_tests1 {c : Expr} {cenv : Env} {Q : Bool → Shared → Prop} (h : wpAny (model prog w) A (isTrue c cenv (eval c cenv)) Q E s) : wpAny (model prog w) A (compTests [c] cenv) Q E s := by
  unfold compTests
  rw [List.forIn_cons]
  refine wpAny_bind (wpAny_bind (wpAny_mono h (fun ok s' q => wpAny_pure ?_) fun _ _ q => q))
  show wpAny _ _ (forIn [] ok _) _ _ _
  rw [List.forIn_nil]; exact wpAny_pure q

theorem comp_core {elt target iter : Expr} {ifs : List Expr} {scope : Scope} {pos : Pos} {it : Value} {D L : Addr} {cenv : Env} {f : Nat → Cells} {n : Nat} {V : Nat → Value → Prop} {Pre : Cells → Prop} {R' : Result → Shared → Prop}
    (S : Steps prog w A h0 o0 it f n V Pre) (P : Nat → List Value → Cells → Prop) (hPre : ∀ i ys C, P i ys C → Pre ((L, cNs []) :: (C ++ ((D, cList ys) :: K)))) (hn : n ≤ sizeLine)
    (turn : ∀ i v ys C K' s, i < n → V i v → P i ys C → St h0 o0 ((L, cNs []) :: (C ++ K')) s →
      wpAny (model prog w) A (assign target cenv v) (fun _ s₂ => wpAny (model prog w) A (compTests ifs cenv) (fun ok s₃ =>
        if ok = true then wpAny (model prog w) A (eval elt cenv) (fun y s₄ => ∃ m C', P (i + 1) (ys ++ [y]) C' ∧ St h0 o0 ((L, cNs m) :: (C' ++ K')) s₄) NoE s₃
        else ∃ m C', P (i + 1) ys C' ∧ St h0 o0 ((L, cNs m) :: (C' ++ K')) s₃) NoE s₂) NoE s)
    (fin : ∀ ys C s, P n ys C → St h0 o0 ((L, cNs []) :: (D, cList ys) :: (C ++ K)) s → R' (.ok .next) s) {C0 : Cells} (h0P : P 0 [] C0) (H : St h0 o0 (f 0 ++ ((L, cNs []) :: (C0 ++ ((D, cList []) :: K)))) s) :
    codeAny (model prog w) A (.compLoop (.ListComp elt [⟨target, iter, ifs, 0⟩] scope pos) 0 it (.ref D) cenv) R' s := by
  refine codeAny_loop rfl (fun k s => ∃ i ys C, i ≤ n ∧ ys.length ≤ i ∧ k = n - i ∧ P i ys C ∧ St h0 o0 (f i ++ ((L, cNs []) :: (C ++ ((D, cList ys) :: K)))) s) (fun k s hI => ?_) n ⟨0, [], C0, Nat.zero_le _, Nat.le_refl _, rfl, h0P, H⟩
  obtain ⟨i, ys, C, hi, hys, rfl, hP, H⟩ := hI
  show wpAny _ A ((compTurn (.ListComp elt [⟨target, iter, ifs, 0⟩] scope pos) 0 it (.ref D) cenv).onRaise (fun x => do noteFrame x cenv; theTreesLotGoes x)) _ _ s
  refine wpAny_noted ?_
  rw [compTurn_list]
  refine wpAny_mono (E := NoE) ?_ (fun _ _ q => q) (fun _ _ q => q.elim)
  refine wpAny_bind (wpAny_standAt (wpAny_bind ?_))
  rcases Nat.lt_or_ge i n with hlt | hge
  · refine S.next i _ s _ _ hlt (hPre i ys C hP) H fun v s1 hv H1 => ?_
    refine wpAny_bind (S.own target i _ v s1 _ _ hv H1 fun s2 H2 => ?_)
    have H2' : St h0 o0 ((L, cNs []) :: (C ++ ((D, cList ys) :: (f (i + 1) ++ K)))) s2 := H2.perm (by
      refine List.Perm.trans ?_ (List.perm_append_comm (l₁ := (L, cNs []) :: (C ++ ((D, cList ys) :: K))) (l₂ := f (i + 1)))
      simp only [List.cons_append, List.append_assoc]
      refine List.Perm.cons _ (List.Perm.append_left _ (List.Perm.cons _ List.perm_append_comm)))
    refine wpAny_bind (wpAny_mono (turn i v ys C ((D, cList ys) :: (f (i + 1) ++ K)) s2 hlt hv hP H2') (fun _ s3 q3 => ?_) fun _ _ q => q)
    refine wpAny_bind (wpAny_mono q3 (fun ok s4 q4 => ?_) fun _ _ q => q)
    have back : ∀ {m C' zs s}, St h0 o0 ((L, cNs m) :: (C' ++ ((D, cList zs) :: (f (i + 1) ++ K)))) s → St h0 o0 (f (i + 1) ++ ((L, cNs []) :: (C' ++ ((D, cList zs) :: K)))) s := fun {m C' zs s} q =>
      (q.weak (c' := cNs []) .here fun o ho => ho.sub .nil).perm (by
        refine List.Perm.trans (List.perm_append_comm (l₁ := f (i + 1)) (l₂ := (L, cNs []) :: (C' ++ ((D, cList zs) :: K)))) ?_
        simp only [List.cons_append, List.append_assoc]
        exact List.Perm.cons _ (List.Perm.append_left _ (List.Perm.cons _ List.perm_append_comm)))
    cases ok with
    | false =>
      simp only [Bool.false_eq_true, if_false] at q4
      obtain ⟨m, C', hP', H'⟩ := q4
      exact wpAny_pure ⟨rfl, n - (i + 1), by omega, i + 1, ys, C', hlt, by omega, rfl, hP', back H'⟩
    | true =>
      simp only [if_true] at q4
      refine wpAny_bind (wpAny_bind (wpAny_mono q4 (fun y s5 q5 => ?_) fun _ _ q => q))
      obtain ⟨m, C', hP', H'⟩ := q5
      have hput : ∀ (C' : Cells), Put (C' ++ ((D, cList ys) :: (f (i + 1) ++ K))) D (cList ys) (cList (ys ++ [y])) (C' ++ ((D, cList (ys ++ [y])) :: (f (i + 1) ++ K))) := fun C' => by
        induction C' with
        | nil => exact .here
        | cons p r ih => exact .there ih
      refine wpAny_bind (x_append H' (.there (hput C')) (by omega) fun s6 H6 => ?_)
      exact wpAny_pure (wpAny_pure ⟨rfl, n - (i + 1), by omega, i + 1, ys ++ [y], C', hlt, by rw [List.length_append, List.length_singleton]; omega, rfl, hP', back H6⟩)
  · have e : i = n := by omega
    subst e
    refine S.done _ s _ _ (hPre i ys C hP) H fun s1 H1 => wpAny_pure (fin ys C s1 hP (H1.perm ?_))
    exact List.Perm.cons _ (List.perm_middle).symm

/-- the frame that a comprehension leaves is forgotten -/
theorem St.unframe {L : Addr} {h' : Heap} {m : List (Str × Value)} (H : St h0 o0 ((L, cNs m) :: cs) s) (hsb : Heap.SameBut L s.heap h') : St h0 o0 cs { s with heap := h' } := by
  have nL : h0.get? L = none := H.new (L, cNs m) (by simp)
  have hd := H.nodup
  rw [List.map_cons, List.nodup_cons] at hd
  refine ⟨fun b o e => (hsb.2 b (fun q => ?_)).trans (H.keep b o e), fun p hp => ?_, fun p hp => H.new p (List.mem_cons_of_mem _ hp), hd.2, H.gens, H.os, H.tok⟩
  · subst q; rw [nL] at e; cases e
  · obtain ⟨o, ho, hc⟩ := H.cell p (List.mem_cons_of_mem _ hp)
    refine ⟨o, (hsb.2 _ (fun q => hd.1 ?_)).trans ho, hc⟩
    have : p.1 ∈ List.map Prod.fst cs := List.mem_map_of_mem hp
    rwa [q] at this

/-- a comprehension's turns, behind its iterator -/
theorem comp_block {elt target iter : Expr} {ifs : List Expr} {scope : Scope} {pos : Pos} {cl : List (Str × Addr)} {itv : Value} {RR : Value → Addr → Result → Shared → Prop} {f : Nat → Cells} {n : Nat} {V : Nat → Value → Prop} {Pre : Cells → Prop} {C0 K : Cells} {P : Nat → List Value → Cells → Prop}
    (hcell : ∀ y ∈ scope.names, y.2 ≠ .cell) (hkind : scope.kind = .function) (S : Steps prog w A h0 o0 itv f n V Pre) (hP0 : P 0 [] C0) (hsz : n ≤ sizeLine) (H2 : St h0 o0 (f 0 ++ (C0 ++ K)) s) (hl : ∀ i ys C, P i ys C → Pre (C ++ K))
    (turn : ∀ L i v ys C K' s, i < n → V i v → P i ys C → St h0 o0 ((L, cNs []) :: (C ++ K')) s →
        wpAny (model prog w) A (assign target (compEnvC scope cl L env) v) (fun _ s₂ => wpAny (model prog w) A (compTests ifs (compEnvC scope cl L env)) (fun ok s₃ =>
          if ok = true then wpAny (model prog w) A (eval elt (compEnvC scope cl L env)) (fun y s₄ => ∃ m C', P (i + 1) (ys ++ [y]) C' ∧ St h0 o0 ((L, cNs m) :: (C' ++ K')) s₄) NoE s₃
          else ∃ m C', P (i + 1) ys C' ∧ St h0 o0 ((L, cNs m) :: (C' ++ K')) s₃) NoE s₂) NoE s)
    (fin : ∀ L D ys C s, P n ys C → St h0 o0 ((L, cNs []) :: (D, cList ys) :: (C ++ K)) s → RR (.ref D) L (.ok .next) s) :
    wpAny (model prog w) A (newList []) (fun acc s₃ => wpAny (model prog w) A (newFunctionEnv scope env.globals cl [] env.qual none .none (some env)) (fun cenv s₄ =>
      codeAny (model prog w) A (.compStart (.ListComp elt [⟨target, iter, ifs, 0⟩] scope pos) 0 itv acc { cenv with scope := relabel scope env }) (RR acc cenv.locals) s₄) E s₃) E s := by
  refine wpAny_newObj_type ?_
  have H3 : St h0 o0 ((s.heap.objs.size, cList []) :: (f 0 ++ (C0 ++ K))) { s with heap := s.heap.push { cls := .type "list", data := .seq ([] : List Value).toArray } } :=
    H2.push (k := s.toks) (c := cList []) ⟨0, rfl⟩ H2.tok
  generalize hD : s.heap.objs.size = D at H3 ⊢
  generalize hs3 : ({ s with heap := s.heap.push { cls := .type "list", data := .seq ([] : List Value).toArray } } : Shared) = s3 at H3 ⊢
  clear hs3
  refine wpAny_newFunctionEnv hcell (by intro y hy; simp at hy) (fun h₁ hns₁ hsb₁ => ?_) hkind
  have H4 : St h0 o0 ((s3.heap.objs.size, cNs []) :: (D, cList []) :: (f 0 ++ (C0 ++ K))) { s3 with heap := h₁, toks := s3.toks + ([] : List (Str × Value)).length } := by
    refine H3.more (Nat.le_refl _) (of_ns hns₁ (m := []) fun x v q => by cases q) (fun b o e => ?_) ?_
    · exact (hsb₁.2 b (Nat.ne_of_lt (Heap.lt_size e))).trans (Heap.get?_push_of_some _ e)
    · have := H3.tok; simpa using this
  generalize hL : s3.heap.objs.size = L at H4 ⊢
  generalize hs4 : ({ s3 with heap := h₁, toks := s3.toks + ([] : List (Str × Value)).length } : Shared) = s4 at H4 ⊢
  clear hs4
  have H5 : St h0 o0 (f 0 ++ ((L, cNs []) :: (C0 ++ ((D, cList []) :: K)))) s4 := H4.perm (by
    refine List.Perm.trans List.perm_middle ?_
    refine List.Perm.cons _ ?_
    refine List.Perm.trans (List.Perm.append_left _ List.perm_middle) ?_
    exact List.perm_middle)
  have loop : codeAny (model prog w) A (.compLoop (.ListComp elt [⟨target, iter, ifs, 0⟩] scope pos) 0 itv (.ref D) (compEnvC scope cl L env)) (RR (.ref D) L) s4 := by
    refine comp_core (K := K) S P (fun i ys C hP => S.mono _ _ (hl i ys C hP) fun p hp => ?_) hsz (fun i v ys C K' s hi hv hP H => turn L i v ys C K' s hi hv hP H) (fun ys C s hP H => fin L D ys C s hP H) hP0 H5
    rcases List.mem_append.mp hp with q | q
    · exact List.mem_cons_of_mem _ (List.mem_append_left _ q)
    · exact List.mem_cons_of_mem _ (List.mem_append_right _ (List.mem_cons_of_mem _ q))
  exact codeAny_compStart_list loop (S.self 0 _ _ _ _ H5 loop)

/-- a comprehension over anything that steps -/
theorem x_comp {elt target iter : Expr} {ifs : List Expr} {scope : Scope} {pos : Pos} {cl : List (Str × Addr)} {Q : Value → Shared → Prop}
    (hclos : closureFor scope env = pure cl) (hcell : ∀ y ∈ scope.names, y.2 ≠ .cell) (hkind : scope.kind = .function) (hnames : ∀ y ∈ scope.names, y.2 = .local → scope.names.lookup y.1 = some .local)
    (h : wpAny (model prog w) A (eval iter env) (fun x s₁ => wpAny (model prog w) A (pyIter x) (fun itv s₂ => ∃ f n V Pre C0 K, ∃ P : Nat → List Value → Cells → Prop, Steps prog w A h0 o0 itv f n V Pre ∧ P 0 [] C0 ∧ n ≤ sizeLine ∧ St h0 o0 (f 0 ++ (C0 ++ K)) s₂ ∧
      (∀ i ys C, P i ys C → Pre (C ++ K)) ∧
      (∀ L i v ys C K' s, i < n → V i v → P i ys C → St h0 o0 ((L, cNs []) :: (C ++ K')) s →
        wpAny (model prog w) A (assign target (compEnvC scope cl L env) v) (fun _ s₂ => wpAny (model prog w) A (compTests ifs (compEnvC scope cl L env)) (fun ok s₃ =>
          if ok = true then wpAny (model prog w) A (eval elt (compEnvC scope cl L env)) (fun y s₄ => ∃ m C', P (i + 1) (ys ++ [y]) C' ∧ St h0 o0 ((L, cNs m) :: (C' ++ K')) s₄) NoE s₃
          else ∃ m C', P (i + 1) ys C' ∧ St h0 o0 ((L, cNs m) :: (C' ++ K')) s₃) NoE s₂) NoE s) ∧
      (∀ D ys C s, P n ys C → St h0 o0 ((D, cList ys) :: (C ++ K)) s → Q (.ref D) s)) E s₁) E s)
    (hs : ∀ x, foldedSetIterable iter env x = pure x) :
    wpAny (model prog w) A (eval (.ListComp elt [⟨target, iter, ifs, 0⟩] scope pos) env) Q E s := by
  rw [eval_ListComp]
  refine wpAny_comprehension_free (use := none) rfl hs hclos hkind hnames (wpAny_mono h (fun x s₁ h₁ => wpAny_mono h₁ (fun itv s2 h₂ => ?_) fun _ _ q => q) fun _ _ q => q)
  obtain ⟨f, n, V, Pre, C0, K, P, S, hP0, hsz, H2, hl, turn, fin⟩ := h₂
  refine comp_block (RR := fun acc C => compPost (model prog w) A E none Q acc C) hcell hkind S hP0 hsz H2 hl turn fun L D ys C s hP H => ?_
  obtain ⟨f, hn, _⟩ := ns_of H .here
  exact ⟨f, hn, fun h' hsb => fin D ys C _ hP (H.unframe hsb)⟩

/-- name = (a comprehension), where the name is stored before the comprehension's own names go -/
theorem x_assign_comp {elt target iter : Expr} {ifs : List Expr} {scope : Scope} {pos py spos : Pos} {y : Str} {cl : List (Str × Addr)} {Q : Flow → Shared → Prop}
    (hsw : swapsWith (.ListComp elt [⟨target, iter, ifs, 0⟩] scope pos) (some (.Name y py)) spos.line env = pure true)
    (hclos : closureFor scope env = pure cl) (hcell : ∀ y ∈ scope.names, y.2 ≠ .cell) (hkind : scope.kind = .function) (hnames : ∀ y ∈ scope.names, y.2 = .local → scope.names.lookup y.1 = some .local)
    (h : wpAny (model prog w) A (eval iter env) (fun x s₁ => wpAny (model prog w) A (pyIter x) (fun itv s₂ => ∃ f n V Pre C0 K, ∃ P : Nat → List Value → Cells → Prop, Steps prog w A h0 o0 itv f n V Pre ∧ P 0 [] C0 ∧ n ≤ sizeLine ∧ St h0 o0 (f 0 ++ (C0 ++ K)) s₂ ∧
      (∀ i ys C, P i ys C → Pre (C ++ K)) ∧
      (∀ L i v ys C K' s, i < n → V i v → P i ys C → St h0 o0 ((L, cNs []) :: (C ++ K')) s →
        wpAny (model prog w) A (assign target (compEnvC scope cl L env) v) (fun _ s₂ => wpAny (model prog w) A (compTests ifs (compEnvC scope cl L env)) (fun ok s₃ =>
          if ok = true then wpAny (model prog w) A (eval elt (compEnvC scope cl L env)) (fun y s₄ => ∃ m C', P (i + 1) (ys ++ [y]) C' ∧ St h0 o0 ((L, cNs m) :: (C' ++ K')) s₄) NoE s₃
          else ∃ m C', P (i + 1) ys C' ∧ St h0 o0 ((L, cNs m) :: (C' ++ K')) s₃) NoE s₂) NoE s) ∧
      (∀ L D ys C s, P n ys C → St h0 o0 ((D, cList ys) :: (C ++ ((L, cNs []) :: K))) s → wpAny (model prog w) A (storeName env y (.ref D)) (fun _ s' => ∃ cs', St h0 o0 ((L, cNs []) :: cs') s' ∧ ∀ s'', St h0 o0 cs' s'' → Q .next s'') E s)) E s₁) E s)
    (hs : ∀ x, foldedSetIterable iter env x = pure x) :
    wpAny (model prog w) A (exec (.Assign [.Name y py] (.ListComp elt [⟨target, iter, ifs, 0⟩] scope pos) spos) env) Q E s := by
  rw [exec_Assign_Name_used _ _ _ _ hsw]
  refine wpAny_bind (wpAny_standAt (wpAny_bind ?_))
  show wpAny _ A (do let _ ← comprehension (.ListComp elt [⟨target, iter, ifs, 0⟩] scope pos) scope env _ (newList []) false (eval iter env) (some (assign (.Name y py) env))) _ _ s
  refine wpAny_bind (wpAny_mono (wpAny_comprehension_free (use := some (assign (.Name y py) env)) (Q := fun _ s' => Q .next s') rfl hs hclos hkind hnames
    (wpAny_mono h (fun xv s₁ h₁ => wpAny_mono h₁ (fun it s₂ h₂ => ?_) fun _ _ e => e) fun _ _ e => e)) (fun _ s' hq => wpAny_pure (wpAny_pure hq)) fun _ _ e => e)
  obtain ⟨f, n, V, Pre, C0, K, P, S, hP0, hsz, H2, hl, turn, fin⟩ := h₂
  refine comp_block (RR := fun acc C => compPost (model prog w) A E (some (assign (.Name y py) env)) (fun _ s' => Q .next s') acc C) hcell hkind S hP0 hsz H2 hl turn fun L D ys C s hP H => ?_
  show wpAny _ A (assign (.Name y py) env (.ref D)) _ _ _
  refine wpAny_assign_Name (wpAny_mono (fin L D ys C s hP (H.perm ?_)) (fun _ s' q => ?_) fun _ _ q => q)
  · refine List.Perm.trans (List.Perm.cons _ List.perm_middle) (List.Perm.swap _ _ _)
  · obtain ⟨cs', H', hq⟩ := q
    obtain ⟨f, hn, _⟩ := ns_of H' .here
    exact ⟨f, hn, fun h' hsb => hq _ (H'.unframe hsb)⟩

/-- [elt for target in (a list) if ..] -/
theorem x_comp_list {elt target iter : Expr} {ifs : List Expr} {scope : Scope} {pos : Pos} {cl : List (Str × Addr)} {Q : Value → Shared → Prop} (hh : A.handled = none)
    (hclos : closureFor scope env = pure cl) (hcell : ∀ y ∈ scope.names, y.2 ≠ .cell) (hkind : scope.kind = .function) (hnames : ∀ y ∈ scope.names, y.2 = .local → scope.names.lookup y.1 = some .local)
    (h : wpAny (model prog w) A (eval iter env) (fun x s₁ => ∃ l xs C0 K, ∃ P : Nat → List Value → Cells → Prop, x = .ref l ∧ P 0 [] C0 ∧ xs.length ≤ sizeLine ∧ St h0 o0 (C0 ++ K) s₁ ∧ (∀ i ys C, P i ys C → Has (C ++ K) l (cList xs)) ∧
      (∀ L i v ys C K' s, xs[i]? = some v → P i ys C → St h0 o0 ((L, cNs []) :: (C ++ K')) s →
        wpAny (model prog w) A (assign target (compEnvC scope cl L env) v) (fun _ s₂ => wpAny (model prog w) A (compTests ifs (compEnvC scope cl L env)) (fun ok s₃ =>
          if ok = true then wpAny (model prog w) A (eval elt (compEnvC scope cl L env)) (fun y s₄ => ∃ m C', P (i + 1) (ys ++ [y]) C' ∧ St h0 o0 ((L, cNs m) :: (C' ++ K')) s₄) NoE s₃
          else ∃ m C', P (i + 1) ys C' ∧ St h0 o0 ((L, cNs m) :: (C' ++ K')) s₃) NoE s₂) NoE s) ∧
      (∀ D ys C s, P xs.length ys C → St h0 o0 ((D, cList ys) :: (C ++ K)) s → Q (.ref D) s)) E s)
    (hs : ∀ x, foldedSetIterable iter env x = pure x) :
    wpAny (model prog w) A (eval (.ListComp elt [⟨target, iter, ifs, 0⟩] scope pos) env) Q E s := by
  refine x_comp (h0 := h0) (o0 := o0) hclos hcell hkind hnames (wpAny_mono h (fun x s₁ h₁ => ?_) fun _ _ q => q) hs
  obtain ⟨l, xs, C0, K, P, rfl, hP0, hsz, H, hl, turn, fin⟩ := h₁
  refine wpAny_pyIter_list (list_of H (hl 0 [] C0 hP0)) ?_
  exact ⟨_, _, _, _, C0, K, P, steps_list (l := l) (xs := xs) hh, hP0, hsz, H.push (k := s₁.toks) (c := cLIter l 0) ⟨rfl, rfl⟩ H.tok, fun i ys C hP => hl i ys C hP, fun L i v ys C K' s _ hv hP H => turn L i v ys C K' s hv hP H, fin⟩

/-- [elt for target in (a text) if ..] -/
theorem x_comp_str {elt target iter : Expr} {ifs : List Expr} {scope : Scope} {pos : Pos} {cl : List (Str × Addr)} {Q : Value → Shared → Prop} (hh : A.handled = none)
    (hclos : closureFor scope env = pure cl) (hcell : ∀ y ∈ scope.names, y.2 ≠ .cell) (hkind : scope.kind = .function) (hnames : ∀ y ∈ scope.names, y.2 = .local → scope.names.lookup y.1 = some .local)
    (h : wpAny (model prog w) A (eval iter env) (fun x s₁ => ∃ t tt C0 K, ∃ P : Nat → List Value → Cells → Prop, x = .str t tt ∧ P 0 [] C0 ∧ t.length ≤ sizeLine ∧ St h0 o0 (C0 ++ K) s₁ ∧
      (∀ L i c u ys C K' s, t.cps.toList[i]? = some c → P i ys C → St h0 o0 ((L, cNs []) :: (C ++ K')) s →
        wpAny (model prog w) A (assign target (compEnvC scope cl L env) (.str ⟨#[c]⟩ u)) (fun _ s₂ => wpAny (model prog w) A (compTests ifs (compEnvC scope cl L env)) (fun ok s₃ =>
          if ok = true then wpAny (model prog w) A (eval elt (compEnvC scope cl L env)) (fun y s₄ => ∃ m C', P (i + 1) (ys ++ [y]) C' ∧ St h0 o0 ((L, cNs m) :: (C' ++ K')) s₄) NoE s₃
          else ∃ m C', P (i + 1) ys C' ∧ St h0 o0 ((L, cNs m) :: (C' ++ K')) s₃) NoE s₂) NoE s) ∧
      (∀ D ys C s, P t.length ys C → St h0 o0 ((D, cList ys) :: (C ++ K)) s → Q (.ref D) s)) E s)
    (hs : ∀ x, foldedSetIterable iter env x = pure x) :
    wpAny (model prog w) A (eval (.ListComp elt [⟨target, iter, ifs, 0⟩] scope pos) env) Q E s := by
  refine x_comp (h0 := h0) (o0 := o0) hclos hcell hkind hnames (wpAny_mono h (fun x s₁ h₁ => ?_) fun _ _ q => q) hs
  obtain ⟨t, tt, C0, K, P, rfl, hP0, hsz, H, turn, fin⟩ := h₁
  have hn : ∀ i v, SignAt t i v → ∀ a, v ≠ .ref a := fun i v ⟨c, u, _, e⟩ a q => by rw [e] at q; cases q
  have turn' : ∀ L i v ys C K' s, i < t.cps.size → SignAt t i v → P i ys C → St h0 o0 ((L, cNs []) :: (C ++ K')) s →
        wpAny (model prog w) A (assign target (compEnvC scope cl L env) v) (fun _ s₂ => wpAny (model prog w) A (compTests ifs (compEnvC scope cl L env)) (fun ok s₃ =>
          if ok = true then wpAny (model prog w) A (eval elt (compEnvC scope cl L env)) (fun y s₄ => ∃ m C', P (i + 1) (ys ++ [y]) C' ∧ St h0 o0 ((L, cNs m) :: (C' ++ K')) s₄) NoE s₃
          else ∃ m C', P (i + 1) ys C' ∧ St h0 o0 ((L, cNs m) :: (C' ++ K')) s₃) NoE s₂) NoE s := by
    rintro L i v ys C K' s hi ⟨c, u, hc, rfl⟩ hP H
    exact turn L i c u ys C K' s (by simpa using hc) hP H
  cases ha : t.cps.all (· < 128)
  · refine wpAny_pyIter_wide ha ?_
    refine ⟨_, _, _, _, C0, K, P, steps_walks (Walks.strWide hh s₁.heap.objs.size t tt) hn (fun i h ⟨o, ho, _⟩ => ⟨o, ho⟩), hP0, hsz, H.push (k := s₁.toks) ?_ H.tok, fun _ _ _ _ => trivial, turn', fin⟩
    intro h hh'; exact ⟨_, hh', rfl, rfl⟩
  · refine wpAny_pyIter_ascii ha ?_
    refine ⟨_, _, _, _, C0, K, P, steps_walks (Walks.strAscii hh s₁.heap.objs.size t tt) hn (fun i h ⟨o, ho, _⟩ => ⟨o, ho⟩), hP0, hsz, H.push (k := s₁.toks) ?_ H.tok, fun _ _ _ _ => trivial, turn', fin⟩
    intro h hh'; exact ⟨_, hh', rfl, rfl⟩
end
section
variable {prog : Program} {w : World} {A : Around} {E : Value → Shared → Prop} {s : Shared} {env : Env} {h0 : Heap} {o0 : Shared} {cs cs' : Cells} {K : Cells} {Q : Value → Shared → Prop}

theorem x_mod {a b : Int} {t u : Tok} (H : St h0 o0 cs s) (hb : b ≠ 0) (h : ∀ t' s', St h0 o0 cs s' → Q (.int (a.fmod b) t') s') : wpAny (model prog w) A (binaryOp .Mod (.int a t) (.int b u)) Q E s :=
  mod_int' hb (h _ _ (H.toks (Nat.succ_ne_zero _)))
theorem x_fdiv {a b : Int} {t u : Tok} (H : St h0 o0 cs s) (hb : b ≠ 0) (hs : b.natAbs < 1073741824) (h : ∀ t' s', St h0 o0 cs s' → Q (.int (a.fdiv b) t') s') : wpAny (model prog w) A (binaryOp .FloorDiv (.int a t) (.int b u)) Q E s :=
  floordiv_int hb (h _ _ (H.toks (Nat.succ_ne_zero _))) (.inl (PyProof.noPylong_small hs))
theorem x_addi {a b : Int} {t u : Tok} (H : St h0 o0 cs s) (h : ∀ t' s', St h0 o0 cs s' → Q (.int (a + b) t') s') : wpAny (model prog w) A (binaryOp .Add (.int a t) (.int b u)) Q E s :=
  PyProof.Rows.add_int (h _ _ (H.toks (Nat.succ_ne_zero _)))
theorem x_subi {a b : Int} {t u : Tok} (H : St h0 o0 cs s) (h : ∀ t' s', St h0 o0 cs s' → Q (.int (a - b) t') s') : wpAny (model prog w) A (binaryOp .Sub (.int a t) (.int b u)) Q E s :=
  PyProof.Rows.sub_int (h _ _ (H.toks (Nat.succ_ne_zero _)))
theorem x_chr {i : Int} {t : Tok} (H : St h0 o0 cs s) (h1 : 0 ≤ i) (h2 : i ≤ 1114111) (h : ∀ x t' s', x = ⟨#[i.toNat]⟩ → x.length = 1 → St h0 o0 cs s' → t' ≠ 0 → Q (.str x t') s') : wpAny (model prog w) A (call (.builtin "chr") [.int i t]) Q E s :=
  chr_of_range h1 h2 (h _ _ _ rfl rfl (H.toks (Nat.succ_ne_zero _)) H.tok)
theorem x_adds {x y : Str} {t u : Tok} (H : St h0 o0 cs s) (hsz : x.length + y.length ≤ sizeLine) (h : ∀ t' s', St h0 o0 cs s' → Q (.str (x ++ y) t') s') : wpAny (model prog w) A (binaryOp .Add (.str x t) (.str y u)) Q E s :=
  tokd (SB.add (fun t' k hk => h t' _ (H.toks (by have := H.tok; simp only at hk; omega))) hsz)
theorem x_iadds {x y : Str} {t u : Tok} (H : St h0 o0 cs s) (hsz : x.length + y.length ≤ sizeLine) (h : ∀ t' s', St h0 o0 cs s' → Q (.str (x ++ y) t') s') : wpAny (model prog w) A (inplaceOp .Add (.str x t) (.str y u)) Q E s :=
  tokd (SB.iadd (fun t' k hk => h t' _ (H.toks (by have := H.tok; simp only at hk; omega))) hsz)

theorem x_ld {x : Str} {L : Addr} {m} {v : Value} (H : St h0 o0 cs s) (hp : Has cs L (cNs m)) (hL : env.locals = L) (hv : Look m x v) (hk : env.scope.kind = .function)
    (hl : env.kindOf x = some .local) (h : Q v s) : wpAny (model prog w) A (loadName env x) Q E s := by
  obtain ⟨f, hf, hm⟩ := ns_of H hp
  subst hL
  exact wpAny_loadName_local hk hl hf (hm _ _ hv.eq) h

theorem x_newList {vs : List Value} (H : St h0 o0 cs s) (hsz : vs.length ≤ sizeLine) (h : ∀ a s', St h0 o0 ((a, cList vs) :: cs) s' → s'.toks = s.toks → Q (.ref a) s') : wpAny (model prog w) A (newList vs) Q E s :=
  wpAny_newObj_type (h _ _ (H.push (k := s.toks) ⟨0, rfl⟩ H.tok) rfl) (by show vs.toArray.size ≤ sizeLine; rw [List.size_toArray]; exact hsz)
theorem x_newTuple {vs : List Value} (H : St h0 o0 cs s) (hsz : vs.length ≤ sizeLine) (h : ∀ a s', St h0 o0 ((a, cTup vs) :: cs) s' → s'.toks = s.toks → Q (.ref a) s') : wpAny (model prog w) A (newTuple vs) Q E s :=
  wpAny_newObj_type (h _ _ (H.push (k := s.toks) ⟨0, rfl⟩ H.tok) rfl) (by show vs.toArray.size ≤ sizeLine; rw [List.size_toArray]; exact hsz)

theorem x_len {l : Addr} {xs : List Value} (H : St h0 o0 cs s) (hl : Has cs l (cList xs)) (hz : xs.length ≤ sizeLine) (h : ∀ t' s', St h0 o0 cs s' → Q (.int xs.length t') s') : wpAny (model prog w) A (call (.builtin "len") [.ref l]) Q E s := by
  refine len_list (list_of H hl) (by rw [List.size_toArray]; rw [sizeLine_eq] at hz; omega) ?_
  rw [List.size_toArray]
  exact h _ _ (H.toks (Nat.succ_ne_zero _))

theorem isL_of {a : Addr} {xs} (H : St h0 o0 cs s) (h : Has cs a (cList xs)) : ∃ n, s.heap.get? a = some { cls := .type "list", data := .seq xs.toArray n } := by
  obtain ⟨o, ho, n, rfl⟩ := H.get h
  exact ⟨n, ho⟩

/-- a list's method -/
theorem x_lmeth {name : Str} {id : String} {pl : Sem Bool} {l : Addr} {xs : List Value} {Q : Value × List Value → Shared → Prop} (slot : Slot "list" name id) (hty : typeOf (.builtin id) = pure (.type "method_descriptor"))
    (H : St h0 o0 cs s) (hl : Has cs l (cList xs)) (h : Q (.builtin id, [.ref l]) s) : wpAny (model prog w) A (getMethod (.ref l) name pl) Q E s := by
  obtain ⟨n, ho⟩ := isL_of H hl
  exact getMethod_builtin (list_of H hl).typeIs PySem.F.plainAttrs_list slot hty (fun a e => by cases e; exact ⟨_, ho, rfl⟩) h

theorem cList_mapSeq {f : Array Value → Array Value} {xs ys : List Value} {n : Nat} (e : f xs.toArray = ys.toArray) : cList ys (Obj.mapSeq f { cls := .type "list", data := .seq xs.toArray n }) :=
  ⟨if (f xs.toArray).size == xs.toArray.size then n else n + 1, congrArg (fun z => ({ cls := .type "list", data := .seq z (if (f xs.toArray).size == xs.toArray.size then n else n + 1) } : Obj)) e⟩

theorem x_popAt {l : Addr} {p q : List Value} {y : Value} {i : Int} {u : Tok} (H : St h0 o0 cs s) (hi : i = p.length) (hp : Put cs l (cList (p ++ y :: q)) (cList (p ++ q)) cs') (hz : (p ++ y :: q).length ≤ sizeLine) (h : ∀ s', St h0 o0 cs' s' → Q y s') :
    wpAny (model prog w) A (call (.builtin "list.pop") [.ref l, .int i u]) Q E s := by
  obtain ⟨n, ho⟩ := isL_of H hp.has
  have hz' : (p ++ y :: q).toArray.size ≤ sizeLine := by rw [List.size_toArray]; exact hz
  have hy : (p ++ y :: q).toArray[p.length]? = some y := by simp
  have hlen : (p ++ y :: q).length = p.length + (q.length + 1) := by simp
  have hlt : p.length < 16777216 := by rw [sizeLine_eq] at hz; omega
  have h1 : Builtin.List.listFitsIndex i = true := by
    unfold Builtin.List.listFitsIndex
    rw [Bool.and_eq_true, decide_eq_true_eq, decide_eq_true_eq]
    omega
  have h2 : seqIndex? i (p ++ y :: q).toArray.size = some p.length := by
    rw [StrLaws.seqIndex_nonneg (by omega) (by rw [List.size_toArray]; omega), hi, Int.toNat_natCast]
  have H' : St h0 o0 cs' { s with heap := s.heap.update l (Obj.mapSeq fun xs => xs.eraseIdxIfInBounds p.length), toks := s.toks } := by
    have e : (p ++ y :: q).toArray.eraseIdxIfInBounds p.length = (p ++ q).toArray := by
      apply Array.toList_inj.mp
      simp [List.eraseIdx_append_of_length_le]
    exact H.updS hp ⟨_, Heap.get?_update_self _ ho rfl, cList_mapSeq e⟩ (Heap.SameBut.update ..) H.tok
  exact call_meets PySem.F.slot_list_pop ⟨_, ho, rfl⟩ PySem.F.entry_list_pop (PySem.F.args_list_pop_2 _ _)
    (PySem.MeetsSeq.list_pop_at l _ n i u p.length y h1 h2 hy hz') ⟨ho, h _ H'⟩

theorem x_item {value slice : Expr} {l : Addr} {xs : List Value} {k : Int} {u : Tok} {v : Value} (H : St h0 o0 cs s) (hl : Has cs l (cList xs)) (hk0 : 0 ≤ k) (hk1 : k < 2 ^ 63) (hx : xs[k.toNat]? = some v)
    (hs : subscripted slice false (.ref l) (.int k u) = operate [.ref l, .int k u] (getItem (.ref l) (.int k u))) (h : Q v s) : wpAny (model prog w) A (subscriptTail value slice (.ref l) (.int k u)) Q E s :=
  tail_any (list_of H hl).typeIs slot_list_getitem.lookup (wpAny_getItem_list (list_of H hl) hk0 hk1 (by simpa using hx) h) hs

/-- xs[lo:hi] -/
theorem x_slice {value : Expr} {lower upper : Option Expr} {p pos : Pos}
    (h : wpAny (model prog w) A (eval value env) (fun o s₁ => wpAny (model prog w) A (evalPart lower env) (fun vl s₂ => wpAny (model prog w) A (evalPart upper env) (fun vu s₃ =>
      ∃ l xs lo hi cs ys, o = .ref l ∧ St h0 o0 cs s₃ ∧ s₃.heap.IsList l xs ∧ xs.size ≤ sizeLine ∧ IsPart vl lo ∧ IsPart vu hi ∧ slicePick xs lo hi none = List.toArray ys ∧ ∀ a s', St h0 o0 ((a, cList ys) :: cs) s' → Q (.ref a) s') E s₂) E s₁) E s) :
    wpAny (model prog w) A (eval (.Subscript value (.Slice lower upper none p) pos) env) Q E s := by
  refine Subscript_ (wpAny_mono h (fun o s1 h1 => ?_) fun _ _ q => q)
  refine wpAny_Slice (wpAny_mono h1 (fun vl s2 h2 => wpAny_mono h2 (fun vu s3 h3 => ?_) fun _ _ q => q) fun _ _ q => q)
  obtain ⟨l, xs, lo, hi, cs, ys, rfl, H, hl, hz, p1, p2, e, hq⟩ := h3
  refine wpAny_pure ?_
  have H1 : St h0 o0 cs { s3 with heap := s3.heap.push { cls := .type "slice", data := .fields #[vl, vu, .none] } } := H.grow (k := s3.toks) (fun b o e => Heap.get?_push_of_some _ e) H.tok
  have H2 := H1.push (k := s3.toks) (o := { cls := .type "list", data := .seq (slicePick xs lo hi none) }) (c := cList ys) ⟨0, by rw [e]⟩ H.tok
  refine tail_any (Heap.IsList.typeIs (hl.push _)) slot_list_getitem.lookup (wpAny_getItem_list_slice (hl.push _) (Heap.IsSliceOf.new ..) p1 p2 .none (by simp) (hq _ _ H2) hz) rfl

theorem x_split1 {x y : Str} {t u : Tok} (H : St h0 o0 cs s) (hy : (y.length == 0) = false) (hsz : x.length + 2 ≤ sizeLine)
    (h : ∀ a l s', l.map (·.1) = Txt.split x y → St h0 o0 ((a, cList (strValues l)) :: cs) s' → Q (.ref a) s') : wpAny (model prog w) A (call (.builtin "str.split") [.str x t, .str y u]) Q E s := by
  refine tokd ?_
  have key : ∀ (l : List (Str × Tok)) (k : Nat), l.map (·.1) = Txt.split x y → s.toks ≤ k → Q (.ref s.heap.objs.size) { s with heap := s.heap.push { cls := .type "list", data := .seq (strValues l).toArray }, toks := k } := fun l k hl hk =>
    h _ l _ hl (H.push (k := k) ⟨0, rfl⟩ (by have := H.tok; omega))
  have hsz2 : (Builtin.Str.partsBetween x (Builtin.Str.occurrences x y 0 x.length (x.length + 1)) y.length).length ≤ sizeLine := by
    rw [StrLaws.partsBetween_eq]
    have h1 := StrLaws.occ_length_le x y 0 x.length (x.length + 1)
    have : ∀ (cuts : List Nat) (a : Nat), (StrLaws.partsFrom x y.length a cuts).length = cuts.length + 1 := by
      intro cuts
      induction cuts with
      | nil => intro a; rfl
      | cons c r ih => intro a; simp only [StrLaws.partsFrom, List.length_cons, ih]
    rw [this]; omega
  cases h1 : (decide (x.length < y.length) || decide (Builtin.Str.strKind x < Builtin.Str.strKind y))
  · cases hf : (Builtin.Str.occurrences x y 0 x.length (x.length + 1)).isEmpty
    · refine call_meets F.slot_str_split (typeIs_str _ _ _) F.entry_str_split (F.args_str_split_2 _ _) (meets_str_split_sep x y t u h1 hy hf (by omega) hsz2) ?_
      show s.toks ≤ _ → Q _ _
      rw [strsFrom_eq]
      intro hk
      exact key (numbered s.toks _) _ ((numbered_texts _ _).trans ((if_neg (ne_true_of_eq_false h1)).trans (if_neg (ne_true_of_eq_false hf))).symm) hk
    · exact call_meets F.slot_str_split (typeIs_str _ _ _) F.entry_str_split (F.args_str_split_2 _ _) (meets_str_split_not_found x y t u h1 hy hf)
        (fun hk => key [(x, t)] _ ((if_neg (ne_true_of_eq_false h1)).trans (if_pos hf)).symm hk)
  · exact call_meets F.slot_str_split (typeIs_str _ _ _) F.entry_str_split (F.args_str_split_2 _ _) (meets_str_split_cannot_occur x y t u h1)
      (fun hk => key [(x, t)] _ (if_pos h1).symm hk)

theorem x_join {x : Str} {t : Tok} {D : Addr} {l : List (Str × Tok)} (H : St h0 o0 cs s) (hl : Has cs D (cList (strValues l))) (hok : JoinOk x (l.map (·.1)) = true) (h : ∀ t' s', St h0 o0 cs s' → Q (.str (Txt.join x (l.map (·.1))) t') s') :
    wpAny (model prog w) A (call (.builtin "str.join") [.str x t, .ref D]) Q E s :=
  tokd (SC.join (list_of H hl) rfl hok fun t' k hk => h t' _ (H.toks (by have := H.tok; simp only at hk; omega)))

theorem x_eqNil {a b : Addr} {xs : List Value} (H : St h0 o0 cs s) (ha : Has cs a (cList xs)) (hb : Has cs b (cList [])) (hu : A.units < cLine) (h : Q (.bool xs.isEmpty) s) : wpAny (model prog w) A (compareOp .Eq (.ref a) (.ref b)) Q E s := by
  refine cmp_ofEq ?_
  cases xs with
  | nil => exact SeqAt.RcAt.lists (e := fun _ => true) (list_of H ha) (list_of H hb) rfl hu (fun j h1 _ => absurd h1 (by simp)) _ _ _ _ h
  | cons x r => exact SeqAt.RcAt.lists_lengths (list_of H ha) (list_of H hb) (by simp) hu _ _ _ _ h
theorem x_neNil {a b : Addr} {xs : List Value} (H : St h0 o0 cs s) (ha : Has cs a (cList xs)) (hb : Has cs b (cList [])) (hu : A.units < cLine) (h : Q (.bool (!xs.isEmpty)) s) : wpAny (model prog w) A (compareOp .NotEq (.ref a) (.ref b)) Q E s := by
  refine cmp_ofNotEq ?_
  cases xs with
  | nil => exact SeqAt.RcNeAt.lists (e := fun _ => true) (list_of H ha) (list_of H hb) rfl hu (fun j h1 _ => absurd h1 (by simp)) _ _ _ _ h
  | cons x r => exact SeqAt.RcNeAt.lists_lengths (list_of H ha) (list_of H hb) (by simp) hu _ _ _ _ h

theorem preSum_ints (ns : List (Int × Tok)) : ∀ j, j ≤ ns.length → preSum (numAt ns.toArray) j = ((ns.map (·.1)).take j).sum := by
  intro j
  induction j with
  | zero => intro _; rfl
  | succ j ih =>
    intro hj
    rw [preSum, ih (by omega)]
    have hlt : j < (ns.map (·.1)).length := by rw [List.length_map]; exact hj
    rw [List.take_succ_eq_append_getElem hlt, List.sum_append]
    have : numAt ns.toArray j = (ns.map (·.1))[j] := by
      unfold numAt
      simp [show j < ns.length from hj]
    rw [this]; simp
theorem x_sum {l : Addr} {ns : List (Int × Tok)} (H : St h0 o0 cs s) (hh : A.handled = none) (hl : Has cs l (cList (ns.map fun p => .int p.1 p.2))) (h : ∀ t' s', St h0 o0 cs s' → Q (.int (ns.map (·.1)).sum t') s') :
    wpAny (model prog w) A (call (.builtin "sum") [.ref l]) Q E s := by
  refine tokd (sum_intListG (xs := ns.toArray) hh (by have := list_of H hl; simpa [intItems] using this) fun h' tk t' hk htk => ?_)
  have e := preSum_ints ns ns.length (Nat.le_refl _)
  rw [List.take_of_length_le (by simp)] at e
  rw [List.size_toArray, e]
  exact h t' _ (H.grow hk (by have := H.tok; simp only at htk; omega))
end
section
variable {prog : Program} {w : World} {A : Around} {E : Value → Shared → Prop} {s : Shared} {env : Env} {h0 : Heap} {o0 : Shared} {cs cs' : Cells} {K : Frag} {Q : Value → Shared → Prop}

theorem cell_of {c : Addr} {v : Option Value} (H : St h0 o0 cs s) (h : Has cs c (cCell v)) : s.heap.IsCell c v := by
  obtain ⟨o, ho, hd⟩ := H.get h
  exact ⟨o, ho, hd⟩
theorem x_cell {x : Str} {pos : Pos} {c : Addr} {v : Value} (H : St h0 o0 cs s) (hp : Has cs c (cCell (some v))) (hk : env.scope.kind = .function) (hl : env.kindOf x = some .cell) (hc : env.cells.lookup x = some c)
    (hd : (x == ("__debug__" : Str)) = false) (h : Q v s) : wpAny (model prog w) A (eval (.Name x pos) env) Q E s := wpAny_Name (wpAny_loadName_cell hk hl hc (cell_of H hp) h) hd
theorem x_free {x : Str} {pos : Pos} {c : Addr} {v : Value} (H : St h0 o0 cs s) (hp : Has cs c (cCell (some v))) (hk : env.scope.kind = .function) (hl : env.kindOf x = some .free) (hc : env.cells.lookup x = some c)
    (hd : (x == ("__debug__" : Str)) = false) (hcd : (x == ("__classdict__" : Str)) = false) (h : Q v s) : wpAny (model prog w) A (eval (.Name x pos) env) Q E s := wpAny_Name (wpAny_loadName_free hk hl hc (cell_of H hp) h hcd) hd
theorem x_stcell {x : Str} {c : Addr} {v : Value} {u : Option Value} {Q : Unit → Shared → Prop} (H : St h0 o0 cs s) (hp : Put cs c (cCell u) (cCell (some v)) cs') (hk : env.scope.kind = .function) (hl : env.kindOf x = some .cell)
    (hc : env.cells.lookup x = some c) (h : ∀ s', St h0 o0 cs' s' → Q () s') : wpAny (model prog w) A (storeName env x v) Q E s := by
  refine wpAny_storeName_cell hk hl hc (cell_of H hp.has) fun h' hn hsb => h _ (H.updS (k := s.toks) hp ?_ hsb H.tok)
  obtain ⟨o, ho, hd⟩ := hn
  exact ⟨o, ho, hd⟩

def fnOkC (K : Frag) (a : Addr) : Bool := match K.lookup a with
  | some ⟨_, _, .func fd, _⟩ => codeIn K fd.code fd.qualname && !fd.scope.isCoroutine && !fd.scope.isGenerator && fd.scope.kind == .function && isStmts fd.body && fd.closure.isEmpty
  | _ => false

/-- as St, the tokens left out -/
structure St0 (h0 : Heap) (o0 : Shared) (cs : Cells) (s : Shared) : Prop where
  keep : ∀ b o, h0.get? b = some o → s.heap.get? b = some o
  cell : ∀ p ∈ cs, ∃ o, s.heap.get? p.1 = some o ∧ p.2 o
  new : ∀ p ∈ cs, h0.get? p.1 = none
  nodup : (cs.map Prod.fst).Nodup
  gens : s.gens = o0.gens
  os : s.os = o0.os
theorem St.zero (H : St h0 o0 cs s) : St0 h0 o0 cs s := ⟨H.keep, H.cell, H.new, H.nodup, H.gens, H.os⟩
theorem St0.start : St0 s.heap s [] s := ⟨fun _ _ e => e, (by intro p hp; cases hp), (by intro p hp; cases hp), List.nodup_nil, rfl, rfl⟩

/-- a def of one argument some of whose names are captured -/
theorem x_fnC {fa : Addr} {x : Str} {v : Value} (B : Base K h0) (H : St0 h0 o0 cs s) (hf : fnOkC K fa = true) (hroom : A.depth < recursionLimit)
    (hbind : bindArgs (fdOf K fa) ⟨[v], []⟩ = pure [(x, v)]) (hloc : (fdOf K fa).scope.names.lookup x = some .local)
    (h : ∀ L s', St h0 o0 ((L, cNs [(x, v)]) :: ((cellsFrom (L + 1) (fdOf K fa).scope.names []).map (fun p => (p.2, cCell none)) ++ cs)) s' →
      wpAny (model prog w) (A.deeper (callEnvC (fdOf K fa) L fa)) (execs (bodyOf K fa) (callEnvC (fdOf K fa) L fa)) (fun f s'' => Q (match f with | .ret v => v | _ => .none) s'') NoE s') :
    wpAny (model prog w) A (call (.ref fa) [v]) Q E s := by
  unfold fnOkC at hf
  split at hf
  · rename_i c d fd sl ho
    simp only [Bool.and_eq_true, Bool.not_eq_true', beq_iff_eq] at hf
    obtain ⟨⟨⟨⟨⟨h1, h2⟩, h3⟩, h4⟩, h6⟩, h7⟩ := hf
    have e : fdOf K fa = fd := by unfold fdOf; rw [ho]
    have eb : fd.body = .stmts (bodyOf K fa) := by
      unfold bodyOf; rw [e]
      cases hb : fd.body with
      | stmts b => rfl
      | expr _ => rw [hb] at h6; cases h6
    rw [e] at hbind hloc h
    refine wpAny_call (codeAny_call_function hroom (H.keep _ _ (B.X _ _ ho)) rfl h2 h3 eb ((codeRec_of B.X h1).keeps H.keep) ?_)
    rw [hbind, List.isEmpty_iff.mp h7]
    refine wpAny_pure ?_
    simp only [newFunctionEnv, Option.isSome_none, Bool.false_eq_true, if_false]
    refine wpAny_bind (wpAny_alloc ?_)
    refine wpAny_bind (wpAny_layCells _ (fun name kind cells => by cases hkc : kind == NameKind.cell <;> simp) _ _ _ _ ?_)
    have ok := cellsFrom_ok fd.scope.names (s.heap.push { cls := .type "frame", data := .dict #[] }) (s.heap.objs.size + 1) [] ⟨fun _ _ hm => (nomatch hm), List.Pairwise.nil⟩ (by rw [Heap.size_push]; exact Nat.le_refl _)
    rw [Heap.size_push] at ok
    rw [show ({ s with heap := s.heap.push { cls := .type "frame", data := .dict #[] } } : Shared).heap.objs.size = s.heap.objs.size + 1 from Heap.size_push ..]
    have hkeep : ∀ b o, s.heap.get? b = some o → (pushCells (s.heap.push { cls := .type "frame", data := .dict #[] }) fd.scope.names).get? b = some o := fun b o q => pushCells_keeps _ _ b o (Heap.get?_push_of_some _ q)
    have hns : (pushCells (s.heap.push { cls := .type "frame", data := .dict #[] }) fd.scope.names).Ns s.heap.objs.size (fun _ => none) := (Heap.Ns.new s.heap (.type "frame")).keeps (pushCells_keeps _ _)
    rw [List.forIn_cons]
    refine wpAny_bind (wpAny_bind (wpAny_bind ?_))
    refine wpAny_storeName_local (s := { s with heap := pushCells (s.heap.push { cls := .type "frame", data := .dict #[] }) fd.scope.names }) (env := { scope := fd.scope, locals := s.heap.objs.size, globals := fd.globals, cells := cellsFrom (s.heap.objs.size + 1) fd.scope.names [], qual := fd.qualname ++ ".<locals>.", func := some fa, code := fd.code, frame := some s.heap.objs.size, builtins := fd.builtins }) hloc hns (fun h' hn hsb => ?_) (by rw [h4]; rfl)
    refine wpAny_pure ?_
    show wpAny _ _ (forIn [] PUnit.unit _) _ _ _
    rw [List.forIn_nil]
    refine wpAny_pure (wpAny_pure ?_)
    have hk2 : ∀ b o, s.heap.get? b = some o → h'.get? b = some o := fun b o q => (hsb.2 b (Nat.ne_of_lt (Heap.lt_size q))).trans (hkeep b o q)
    refine ⟨(B.lim.keeps H.keep).keeps hk2, codeAny_func (wpAny_mono (h s.heap.objs.size _ ?_) (fun f s' q => q) fun _ _ q => q.elim)⟩
    have fresh : ∀ a, s.heap.objs.size ≤ a → a ∉ cs.map Prod.fst ∧ h0.get? a = none := fun a ha => by
      constructor
      · intro hm
        obtain ⟨p, hp, rfl⟩ := List.mem_map.mp hm
        obtain ⟨o, ho, _⟩ := H.cell p hp
        exact Nat.lt_irrefl _ (Nat.lt_of_lt_of_le (Heap.lt_size ho) ha)
      · cases e : h0.get? a with
        | none => rfl
        | some o => exact absurd (Heap.lt_size (H.keep _ _ e)) (Nat.not_lt.mpr ha)
    refine ⟨fun b o q => hk2 b o (H.keep b o q), fun p hp => ?_, fun p hp => ?_, ?_, H.gens, H.os, Nat.succ_ne_zero _⟩
    · rcases List.mem_cons.mp hp with rfl | hp
      · exact of_ns hn (m := [(x, v)]) fun y u q => by
          simp only [List.lookup_cons] at q
          by_cases hy : y = x
          · subst hy; simpa using q
          · have : (y == x) = false := by simpa using hy
            rw [this] at q; cases q
      · rcases List.mem_append.mp hp with hp | hp
        · obtain ⟨⟨n, c⟩, hm, rfl⟩ := List.mem_map.mp hp
          obtain ⟨⟨o, ho', hd'⟩, hle⟩ := ok.empty n c hm
          exact ⟨o, (hsb.2 c (Nat.ne_of_gt hle)).trans ho', hd'⟩
        · obtain ⟨o, ho', hc'⟩ := H.cell p hp
          exact ⟨o, hk2 _ _ ho', hc'⟩
    · rcases List.mem_cons.mp hp with rfl | hp
      · exact (fresh _ (Nat.le_refl _)).2
      · rcases List.mem_append.mp hp with hp | hp
        · obtain ⟨⟨n, c⟩, hm, rfl⟩ := List.mem_map.mp hp
          exact (fresh c (by have := (ok.empty n c hm).2; omega)).2
        · exact H.new p hp
    · rw [List.map_cons, List.map_append, List.nodup_cons, List.nodup_append]
      refine ⟨fun hm => ?_, ?_, H.nodup, ?_⟩
      · rcases List.mem_append.mp hm with hm | hm
        · rw [List.map_map] at hm
          obtain ⟨⟨n, c⟩, hm, e⟩ := List.mem_map.mp hm
          have := (ok.empty n c hm).2
          have e' : c = s.heap.objs.size := e
          rw [e'] at this
          exact Nat.lt_irrefl _ this
        · exact (fresh _ (Nat.le_refl _)).1 hm
      · rw [List.map_map, List.nodup_iff_pairwise_ne, List.pairwise_map]
        exact ok.apart
      · intro a ha b hb e
        rw [List.map_map] at ha
        obtain ⟨⟨n, c⟩, hm, e'⟩ := List.mem_map.mp ha
        have := (ok.empty n c hm).2
        have e2 : c = a := e'
        subst e e2
        exact (fresh c (by omega)).1 hb
  · cases hf

/-- the law's own address -/
theorem Base.addr {mg : Str → Option Value} {x : Str} {a b : Addr} (B : Base K h0) (ok : globsOk K = true) (hn : h0.Ns mainGlobals mg) (hx : nsFind (globsIn K) x = some (.ref b)) (hm : mg x = some (.ref a)) : a = b := by
  obtain ⟨o, es, ep, ho, hd, _, hf⟩ := hn
  obtain ⟨o', es', ep', ho', hd', _, hf'⟩ := B.ns ok
  rw [ho] at ho'; cases ho'
  rw [hd] at hd'; cases hd'
  have := (hf x).symm.trans ((hf' x).trans hx)
  rw [hm] at this
  exact Value.ref.inj (Option.some.inj this)
end

theorem ints_pairs {vs : List Value} {ns : List Int} (h : IntsAre vs ns) : ∃ ps : List (Int × Tok), vs = ps.map (fun p => Value.int p.1 p.2) ∧ ps.length = ns.length := by
  induction h with
  | nil => exact ⟨[], rfl, rfl⟩
  | cons n t _ ih =>
    obtain ⟨ps, e1, e2⟩ := ih
    exact ⟨(n, t) :: ps, by rw [e1]; rfl, by simp [e2]⟩

theorem law_good {c : ClaimW} {cl : Str → Option Addr} {mean : ExcName → Option Value} {args : List WData} {s₁ s' : Shared} {cs : Cells} (H : St s₁.heap s₁ cs s') (hg : s₁.gens = #[]) (hr : ∀ cls, c.raises args cls = false) (hp : c.post args (.bool true) args = true) :
    GoodWG c cl mean args s₁ (.ok (.ret (.bool true))) s' :=
  GoodW.toG ⟨.inl ⟨.bool true, .bool true, [], rfl, hr, .bool true, hp, unshared_nil⟩, H.keep, H.os, H.gens.trans hg⟩
section
variable {prog : Program} {w : World} {A : Around} {E : Value → Shared → Prop} {s : Shared} {env : Env} {h0 : Heap} {o0 : Shared} {cs cs' : Cells} {K : Frag} {Q : Value → Shared → Prop}

def isFnK (K : Frag) (a : Addr) : Bool := match K.lookup a with | some ⟨_, _, .func _, _⟩ => true | _ => false
/-- a def of the text is called by its name: its arguments -/
theorem x_callF {fa : Addr} {e : Expr} {rest : List Expr} {pos : Pos} (B : Base K h0) (hf : isFnK K fa = true)
    (h : wpAny (model prog w) A (spliced (backTo pos (starEach (e :: rest) env))) (fun vs s₁ => (∃ o0 cs, St h0 o0 cs s₁) ∧ wpAny (model prog w) A (call (.ref fa) vs) Q E s₁) E s)
    (he : starEach (e :: rest) env = (false, eval e env) :: starEach rest env := by rfl) :
    wpAny (model prog w) A (callWith pos (.ref fa) [] (backTo pos (starEach (e :: rest) env)) []) Q E s := by
  unfold isFnK at hf
  split at hf
  · rename_i c d fd sl ho
    refine callWith_def (o := ⟨c, d, .func fd, sl⟩) (fd := fd) rfl (wpAny_mono h (fun vs s₁ q => ?_) fun _ _ q => q) he
    obtain ⟨⟨o0, cs, H⟩, q⟩ := q
    exact ⟨H.keep _ _ (B.X _ _ ho), q⟩
  · cases hf

/-- a, b = (a tuple of two) -/
theorem x_unpack2 {a b : Str} {pa pb pos : Pos} {k : Nat} {t : Addr} {u v : Value} {Q : Unit → Shared → Prop} (hh : A.handled = none) (H : St h0 o0 cs s) (ht : Has cs t (cTup [u, v]))
    (h : ∀ s', St h0 o0 cs s' → wpAny (model prog w) A (storeName env a u) (fun _ s1 => wpAny (model prog w) A (storeName env b v) Q E s1) E s') :
    wpAny (model prog w) A (assign (.Tuple [.Name a pa, .Name b pb] k pos) env (.ref t)) Q E s := by
  refine wpAny_assign_Tuple hh (tup_of H ht) (by rfl) (by rfl) fun h' he => ?_
  have H' : St h0 o0 cs { s with heap := h' } := H.grow (k := s.toks) (fun b o e => he b o (Nat.ne_of_lt (Heap.lt_size e)) e) H.tok
  refine wpAny_assignInOrder_more (t := assign (.Name a pa) env) (ts := [assign (.Name b pb) env]) (x := u) (xs := [v]) ?_
  refine wpAny_assign_Name (wpAny_mono (h _ H') (fun _ s1 q => ?_) fun _ _ q => q)
  refine wpAny_assignInOrder_more (t := assign (.Name b pb) env) (ts := []) (x := v) (xs := []) ?_
  refine wpAny_assign_Name (wpAny_mono q (fun _ s2 q => ?_) fun _ _ q => q)
  exact wpAny_assignInOrder_none q

theorem x_index {l : Addr} {xs : List Value} {x : Value} {j : Nat} (H : St h0 o0 cs s) (hl : Has cs l (cList xs)) (e : Value → Bool) (he : ∀ y ∈ xs, SeqAt.EqAt A.in1 s y x (e y)) (hj : j < xs.length) (hz : xs.length ≤ sizeLine)
    (hit : e xs[j] = true) (hno : ∀ m (hm : m < xs.length), m < j → e xs[m] = false) (h : ∀ t' s', St h0 o0 cs s' → Q (.int j t') s') : wpAny (model prog w) A (call (.builtin "list.index") [.ref l, x]) Q E s := by
  obtain ⟨n, ho⟩ := isL_of H hl
  rw [sizeLine_eq] at hz
  refine call_meets PySem.F.slot_list_index ⟨_, ho, rfl⟩ PySem.F.entry_list_index (PySem.F.args_list_index_2 _ _)
    (SeqAt.list_indexAt l xs.toArray n none #[] x e j (by simpa using hj) (by omega) (by simpa using hit) (fun m hm hlt => by simpa using hno m (by simpa using hm) hlt)) ⟨ho, fun y hy => he y (by simpa using hy), h _ _ (H.toks (Nat.succ_ne_zero _))⟩

theorem St.ne {a b : Addr} {c d : Cel} {r : Cells} (H : St h0 o0 cs s) (h1 : Pick cs a c r) (h2 : Has r b d) : a ≠ b := by
  have := (H.pick h1).nodup
  rw [List.map_cons, List.nodup_cons] at this
  intro e; subst e
  have q : (a, d).1 ∈ List.map Prod.fst r := List.mem_map_of_mem h2.mem
  exact this.1 q

theorem x_eqstr {x y : Str} {t u : Tok} (h : Q (.bool (x == y)) s) : wpAny (model prog w) A (compareOp .Eq (.str x t) (.str y u)) Q E s := cmp_ofEq (SeqAt.RcAt.str_str x t y u _ _ _ _ h)
theorem x_nestr {x y : Str} {t u : Tok} (h : Q (.bool (x != y)) s) : wpAny (model prog w) A (compareOp .NotEq (.str x t) (.str y u)) Q E s := by
  refine P.ne_str ?_
  have : (x.cps.toList != y.cps.toList) = (x != y) := by
    unfold bne
    rw [SeqAt.str_beq]
  rw [this]; exact h
theorem starts_iff (x y : Str) : Txt.startswith x y = y.cps.toList.isPrefixOf x.cps.toList := by
  unfold Txt.startswith
  rw [Bool.eq_iff_iff, Bool.and_eq_true, decide_eq_true_eq, StrLaws.subAt_eq, List.drop_zero, List.isPrefixOf_iff_prefix, List.prefix_iff_eq_take, beq_iff_eq]
  have e1 : y.length = y.cps.toList.length := by simp [Str.length]
  have e2 : x.length = x.cps.toList.length := by simp [Str.length]
  constructor
  · rintro ⟨_, h⟩; rw [← e1]; exact h.symm
  · intro h
    rw [← e1] at h
    refine ⟨?_, h.symm⟩
    have := congrArg List.length h
    rw [List.length_take] at this
    omega
end
local macro_rules | `(tactic| walk_at "mhas") => `(tactic| repeat (first | with_reducible exact Has.here | with_reducible apply Has.there))
local macro_rules | `(tactic| walk_at "mput") => `(tactic| repeat (first | with_reducible exact Put.here | with_reducible apply Put.there))
local macro_rules | `(tactic| walk_at "mlook") => `(tactic| repeat (first | with_reducible exact Look.here | (with_reducible apply Look.there; decide +kernel)))
local macro_rules | `(tactic| walk_at "msetn") => `(tactic| repeat (first | with_reducible exact SetN.here | with_reducible exact SetN.new | (with_reducible apply SetN.there; decide +kernel)))
local macro_rules | `(tactic| walk_at "mpick") => `(tactic| repeat (first | with_reducible exact Pick.here | with_reducible apply Pick.there))
local macro_rules | `(tactic| walk_at "mnssub") => `(tactic| repeat (first | with_reducible exact NsSub.nil | (with_reducible apply NsSub.cons; focus walk_at "mlook")))
local macro_rules | `(tactic| walk_at "nm") => `(tactic| with_reducible refine x_name (by assumption) (by walk_at "mhas") (by kernel_rfl!) (by walk_at "mlook") (by kernel_rfl!) (by kernel_rfl!) (by decide +kernel) ?_)
local macro_rules | `(tactic| walk_at "sto") => `(tactic| (with_reducible refine x_store (by assumption) (by walk_at "mput") (by kernel_rfl!) (by walk_at "msetn") (by kernel_rfl!) (by kernel_rfl!) ?_; intro s H))
local macro_rules | `(tactic| walk_at "str") => `(tactic| (with_reducible refine x_str (by assumption) ?_; intro s H e))
local macro_rules | `(tactic| walk_at "int") => `(tactic| (with_reducible refine x_int (by assumption) ?_; intro t s H e))
local macro_rules | `(tactic| walk_at "pair") => `(tactic| (refine args_cons ?_; refine Tuple_ ?_; refine args_cons ?_; walk_at "str"; refine args_cons ?_; walk_at "str"; refine args_nil ?_; with_reducible refine x_newTuple (by assumption) (Nat.le_of_ble_eq_true (by kernel_rfl!)) ?_; intro a s H k))
local macro_rules | `(tactic| walk_at "ld") => `(tactic| with_reducible refine x_ld (by assumption) (by walk_at "mhas") (by kernel_rfl!) (by walk_at "mlook") (by kernel_rfl!) (by kernel_rfl!) ?_)
local macro_rules | `(tactic| walk_at "sarg") => `(tactic| (refine args_cons ?_; walk_at "str"))
local macro_rules | `(tactic| walk_at "mhas") => `(tactic| repeat (first | with_reducible exact Has.here | with_reducible apply Has.there | with_reducible apply Has.skip))
local macro_rules | `(tactic| walk_at "mput") => `(tactic| repeat (first | with_reducible exact Put.here | with_reducible apply Put.there | with_reducible apply Put.skip))
local macro_rules | `(tactic| walk_at "mpick") => `(tactic| repeat (first | with_reducible exact Pick.here | with_reducible apply Pick.there | with_reducible apply Pick.skip))
local macro_rules | `(tactic| walk_at "pair0") => `(tactic| (refine Tuple_ ?_; refine args_cons ?_; walk_at "str"; refine args_cons ?_; walk_at "str"; refine args_nil ?_; with_reducible refine x_newTuple (by assumption) (Nat.le_of_ble_eq_true (by kernel_rfl!)) ?_; intro a s H k))
local macro_rules | `(tactic| walk_at "cel") => `(tactic| with_reducible refine x_cell (by assumption) (by walk_at "mhas") (by kernel_rfl!) (by kernel_rfl!) (by kernel_rfl!) (by decide +kernel) ?_)
local macro_rules | `(tactic| walk_at "stc") => `(tactic| (with_reducible refine x_stcell (by assumption) (by walk_at "mput") (by kernel_rfl!) (by kernel_rfl!) (by kernel_rfl!) ?_; intro s H))
section
open PySem PyProof.Rows Builtin Builtin.Str
/-- the parts of a text between the places of a marker -/
def pcs (y : List Nat) : Nat → List Nat → List (List Nat)
  | _, [] => [[]]
  | k + 1, _ :: r => pcs y k r
  | 0, c :: r => if y.isPrefixOf (c :: r) then [] :: pcs y (y.length - 1) r else
    match pcs y 0 r with
    | p :: ps => (c :: p) :: ps
    | [] => [[c]]
/-- a text with every marker replaced -/
def rp (y z : List Nat) : Nat → List Nat → List Nat
  | _, [] => []
  | k + 1, _ :: r => rp y z k r
  | 0, c :: r => if y.isPrefixOf (c :: r) then z ++ rp y z (y.length - 1) r else c :: rp y z 0 r
def jn (z : List Nat) : List (List Nat) → List Nat
  | [] => []
  | [x] => x
  | x :: y :: r => x ++ z ++ jn z (y :: r)
def appHead (u : List Nat) : List (List Nat) → List (List Nat)
  | p :: ps => (u ++ p) :: ps
  | [] => [u]

theorem pcs_ne (y : List Nat) : ∀ (l : List Nat) (k : Nat), pcs y k l ≠ []
  | [], _ => by simp [pcs]
  | c :: r, k + 1 => by rw [pcs]; exact pcs_ne y r k
  | c :: r, 0 => by
    rw [pcs]
    split
    · simp
    · split <;> simp
theorem pcs_skip (y : List Nat) : ∀ (k : Nat) (l : List Nat), pcs y k l = pcs y 0 (l.drop k)
  | 0, l => by simp
  | k + 1, [] => by simp [pcs]
  | k + 1, c :: r => by rw [pcs, pcs_skip y k r, List.drop_succ_cons]
theorem rp_skip (y z : List Nat) : ∀ (k : Nat) (l : List Nat), rp y z k l = rp y z 0 (l.drop k)
  | 0, l => by simp
  | k + 1, [] => by simp [rp]
  | k + 1, c :: r => by rw [rp, rp_skip y z k r, List.drop_succ_cons]
theorem drop_pred {α : Type} (c : α) (r : List α) {n : Nat} (h : 1 ≤ n) : r.drop (n - 1) = (c :: r).drop n := by
  obtain ⟨m, rfl⟩ : ∃ m, n = m + 1 := ⟨n - 1, by omega⟩
  simp
theorem pcs_hit {y l : List Nat} (hy : 1 ≤ y.length) (h : y.isPrefixOf l = true) : pcs y 0 l = [] :: pcs y 0 (l.drop y.length) := by
  cases l with
  | nil => cases y with
    | nil => simp at hy
    | cons a b => simp at h
  | cons c r => rw [pcs, if_pos h, pcs_skip, drop_pred c r hy]
theorem rp_hit {y z l : List Nat} (hy : 1 ≤ y.length) (h : y.isPrefixOf l = true) : rp y z 0 l = z ++ rp y z 0 (l.drop y.length) := by
  cases l with
  | nil => cases y with
    | nil => simp at hy
    | cons a b => simp at h
  | cons c r => rw [rp, if_pos h, rp_skip, drop_pred c r hy]
theorem pcs_miss {y : List Nat} {c : Nat} {r : List Nat} (h : y.isPrefixOf (c :: r) = false) : pcs y 0 (c :: r) = appHead [c] (pcs y 0 r) := by
  rw [pcs, if_neg (by rw [h]; exact Bool.false_ne_true)]
  cases pcs y 0 r <;> rfl
theorem rp_miss {y z : List Nat} {c : Nat} {r : List Nat} (h : y.isPrefixOf (c :: r) = false) : rp y z 0 (c :: r) = c :: rp y z 0 r := by
  rw [rp, if_neg (by rw [h]; exact Bool.false_ne_true)]
theorem jn_cons (z x : List Nat) (ps : List (List Nat)) (h : ps ≠ []) : jn z (x :: ps) = x ++ z ++ jn z ps := by
  cases ps with
  | nil => exact absurd rfl h
  | cons p r => rfl
theorem jn_appHead (z u : List Nat) (ps : List (List Nat)) (h : ps ≠ []) : jn z (appHead u ps) = u ++ jn z ps := by
  cases ps with
  | nil => exact absurd rfl h
  | cons p r =>
    cases r with
    | nil => rfl
    | cons q r => simp only [appHead, jn, List.append_assoc]

theorem jn_pcs (y z : List Nat) (hy : 1 ≤ y.length) : ∀ (n : Nat) (l : List Nat), l.length ≤ n → jn z (pcs y 0 l) = rp y z 0 l
  | 0, l, hl => by
    have : l = [] := List.length_eq_zero_iff.mp (by omega)
    subst this; rfl
  | n + 1, [], hl => rfl
  | n + 1, c :: r, hl => by
    simp only [List.length_cons] at hl
    cases h : y.isPrefixOf (c :: r) with
    | true =>
      rw [pcs_hit hy h, rp_hit hy h, jn_cons _ _ _ (pcs_ne _ _ _), jn_pcs y z hy n _ (by rw [List.length_drop, List.length_cons]; omega)]
      rfl
    | false =>
      rw [pcs_miss h, rp_miss h, jn_appHead _ _ _ (pcs_ne _ _ _), jn_pcs y z hy n _ (by omega)]
      rfl

theorem pcs_gap (y : List Nat) : ∀ (n : Nat) (l : List Nat), n ≤ l.length → (∀ k, k < n → y.isPrefixOf (l.drop k) = false) → pcs y 0 l = appHead (l.take n) (pcs y 0 (l.drop n))
  | 0, l, _, _ => by
    simp only [List.take_zero, List.drop_zero]
    cases h : pcs y 0 l with
    | nil => exact absurd h (pcs_ne _ _ _)
    | cons p r => rfl
  | n + 1, [], h, _ => by simp at h
  | n + 1, c :: r, h, hn => by
    have h0 := hn 0 (by omega)
    rw [List.drop_zero] at h0
    rw [pcs_miss h0, pcs_gap y n r (by simpa using h) (fun k hk => by simpa using hn (k + 1) (by omega))]
    simp only [List.take_succ_cons, List.drop_succ_cons]
    cases pcs y 0 (List.drop n r) <;> rfl

theorem at_iff (x y : Str) (i : Nat) (hy : 1 ≤ y.length) : StrLaws.At x y x.length i ↔ y.cps.toList.isPrefixOf (x.cps.toList.drop i) = true := by
  unfold StrLaws.At
  rw [StrLaws.subAt_eq, List.isPrefixOf_iff_prefix, List.prefix_iff_eq_take, beq_iff_eq]
  have e1 : y.length = y.cps.toList.length := by simp [Str.length]
  have e2 : x.length = x.cps.toList.length := by simp [Str.length]
  constructor
  · rintro ⟨h1, h2⟩; rw [← e1]; exact h2.symm
  · intro h
    rw [← e1] at h
    refine ⟨?_, h.symm⟩
    have := congrArg List.length h
    rw [List.length_take, List.length_drop] at this
    omega

theorem parts_pcs (x y : Str) (hy : 1 ≤ y.length) : ∀ (cuts : List Nat) (a f : Nat), a ≤ x.length → StrLaws.ChainG x y x.length a cuts f → (∀ k, f ≤ k → ¬ StrLaws.At x y x.length k) →
    (StrLaws.partsFrom x y.length a cuts).map (·.cps.toList) = pcs y.cps.toList 0 (x.cps.toList.drop a)
  | [], a, f, ha, hc, hn => by
    have hf : f = a := hc
    subst hf
    have e2 : x.length = x.cps.toList.length := by simp [Str.length]
    have hg := pcs_gap y.cps.toList (x.cps.toList.drop f).length (x.cps.toList.drop f) (Nat.le_refl _) (fun k _ => by
      rw [List.drop_drop]
      have := hn (f + k) (by omega)
      rw [at_iff x y _ hy] at this
      exact Bool.not_eq_true _ ▸ this)
    rw [hg]
    simp only [List.take_length, List.drop_length, pcs, appHead, List.append_nil, StrLaws.partsFrom, List.map_cons, List.map_nil, StrLaws.strSub_toList]
    rw [List.take_of_length_le (by rw [List.length_drop]; omega)]
  | c :: r, a, f, ha, hc, hn => by
    obtain ⟨h1, h2, h3, h4⟩ := hc
    have e2 : x.length = x.cps.toList.length := by simp [Str.length]
    have ey : y.length = y.cps.toList.length := by simp [Str.length]
    have hcl : c + y.length ≤ x.length := h2.1
    have hg := pcs_gap y.cps.toList (c - a) (x.cps.toList.drop a) (by rw [List.length_drop]; omega) (fun k hk => by
      rw [List.drop_drop]
      have := h3 (a + k) (by omega) (by omega)
      rw [at_iff x y _ hy] at this
      exact Bool.not_eq_true _ ▸ this)
    have hit := (at_iff x y c hy).mp h2
    rw [hg, List.drop_drop, show a + (c - a) = c from by omega, pcs_hit (by omega) hit, List.drop_drop, ← ey]
    have ih := parts_pcs x y hy r (c + y.length) f hcl h4 hn
    simp only [StrLaws.partsFrom, List.map_cons, StrLaws.strSub_toList, appHead, List.append_nil, ih]

theorem glued_toList (z : Str) : ∀ parts : List Str, (glued z parts).cps.toList = jn z.cps.toList (parts.map (·.cps.toList)) := by
  intro parts
  rw [StrLaws.glued_eq_join]
  induction parts with
  | nil => rfl
  | cons x r ih =>
    cases r with
    | nil => rfl
    | cons q r =>
      show (x ++ z ++ Str.join z (q :: r)).cps.toList = _
      simp only [Str.cps_append, Array.toList_append, ih]
      rfl

theorem replace_rp (x y z : Str) (hy : 1 ≤ y.length) : (Txt.replace x y z).cps.toList = rp y.cps.toList z.cps.toList 0 x.cps.toList := by
  obtain ⟨f, hc, hn⟩ := StrLaws.occ_tight x y hy
  have hp := parts_pcs x y hy _ 0 f (Nat.zero_le _) hc hn
  rw [List.drop_zero] at hp
  have ey : y.length = y.cps.toList.length := by simp [Str.length]
  unfold Txt.replace
  have h0 : (y.length == 0) = false := by simp; omega
  rw [h0, Bool.false_and, Bool.or_false]
  rw [← jn_pcs y.cps.toList z.cps.toList (by omega) _ _ (Nat.le_refl _), ← hp]
  cases he : (occurrences x y 0 x.length (x.length + 1)).isEmpty
  · rw [if_neg Bool.false_ne_true, glued_toList, StrLaws.partsBetween_eq]
  · rw [if_pos rfl]
    rw [List.isEmpty_iff.mp he]
    simp only [StrLaws.partsFrom, List.map_cons, List.map_nil, jn, StrLaws.sub_whole]

theorem replace_len (x y z : Str) (hy : 1 ≤ y.length) : (Txt.replace x y z).length ≤ x.length * (z.length + 1) := by
  have key : ∀ (n : Nat) (l : List Nat), l.length ≤ n → (rp y.cps.toList z.cps.toList 0 l).length ≤ l.length * (z.cps.toList.length + 1) := by
    intro n
    induction n with
    | zero => intro l hl; have : l = [] := List.length_eq_zero_iff.mp (by omega); subst this; simp [rp]
    | succ n ih =>
      intro l hl
      cases l with
      | nil => simp [rp]
      | cons c r =>
        simp only [List.length_cons] at hl
        have ey : y.length = y.cps.toList.length := by simp [Str.length]
        cases h : y.cps.toList.isPrefixOf (c :: r) with
        | true =>
          rw [rp_hit (by omega) h, List.length_append]
          have := ih ((c :: r).drop y.cps.toList.length) (by rw [List.length_drop, List.length_cons]; omega)
          rw [List.length_drop, List.length_cons] at this
          rw [List.length_cons, Nat.add_mul]
          have h2 : (r.length + 1 - y.cps.toList.length) * (z.cps.toList.length + 1) ≤ r.length * (z.cps.toList.length + 1) := Nat.mul_le_mul_right _ (by omega)
          omega
        | false =>
          rw [rp_miss h, List.length_cons, List.length_cons, Nat.add_mul]
          have := ih r (by omega)
          omega
  have := key _ x.cps.toList (Nat.le_refl _)
  rw [← replace_rp x y z hy] at this
  simpa [Str.length] using this

theorem split_pcs (x y : Str) (hy : 1 ≤ y.length) (hk : Builtin.Str.strKind y = 1) : (Txt.split x y).map (·.cps.toList) = pcs y.cps.toList 0 x.cps.toList := by
  obtain ⟨f, hc, hn⟩ := StrLaws.occ_tight x y hy
  have hp := parts_pcs x y hy _ 0 f (Nat.zero_le _) hc hn
  rw [List.drop_zero] at hp
  rw [← hp]
  have e2 : x.length = x.cps.toList.length := by simp [Str.length]
  have one : ∀ (e : occurrences x y 0 x.length (x.length + 1) = []), [x].map (·.cps.toList) = (StrLaws.partsFrom x y.length 0 (occurrences x y 0 x.length (x.length + 1))).map (·.cps.toList) := fun e => by
    rw [e]; simp only [StrLaws.partsFrom, List.map_cons, List.map_nil, StrLaws.sub_whole]
  unfold Txt.split
  have hkk : (decide (Builtin.Str.strKind x < Builtin.Str.strKind y)) = false := by
    rw [hk]; unfold Builtin.Str.strKind; split <;> (try split) <;> simp
  rw [hkk, Bool.or_false]
  split
  · rename_i h
    have h := of_decide_eq_true h
    apply one
    cases e : occurrences x y 0 x.length (x.length + 1) with
    | nil => rfl
    | cons c r =>
      rw [e] at hc
      have := hc.2.1.1
      omega
  · split
    · rename_i h
      exact one (List.isEmpty_iff.mp h)
    · rw [StrLaws.partsBetween_eq]

theorem contains_iff (x y : Str) (hy : 1 ≤ y.length) : Txt.contains x y = true ↔ ∃ i, y.cps.toList.isPrefixOf (x.cps.toList.drop i) = true := by
  unfold Txt.contains
  rw [StrLaws.found_iff]
  constructor
  · rintro ⟨i, h⟩; exact ⟨i, (at_iff x y i hy).mp h⟩
  · rintro ⟨i, h⟩; exact ⟨i, (at_iff x y i hy).mpr h⟩
end
/-- the six signs' references -/
def mk6 : Nat → List Nat
  | 38 => [38, 97, 109, 112, 59]
  | 60 => [38, 108, 116, 59]
  | 34 => [38, 113, 117, 111, 116, 59]
  | 9 => [38, 35, 120, 57, 59]
  | 10 => [38, 35, 120, 65, 59]
  | 13 => [38, 35, 120, 68, 59]
  | c => [c]
def signs6 : List Nat := [38, 60, 34, 9, 10, 13]

def enc (mk : Nat → List Nat) (S : Nat → Bool) (l : List Nat) : List Nat := l.flatMap fun c => if S c then mk c else [c]
theorem enc_cons (mk S c l) : enc mk S (c :: l) = (if S c then mk c else [c]) ++ enc mk S l := by simp [enc]
theorem enc_nil (mk S) : enc mk S [] = [] := rfl

/-- a family of references: each opens with &, none begins another, the signs are in none -/
structure Fam (mk : Nat → List Nat) (G : List Nat) : Prop where
  amp : 38 ∈ G
  head : ∀ s ∈ G, ∃ r, mk s = 38 :: r ∧ r ≠ [] ∧ ∀ c ∈ r, c ∉ G
  apart : ∀ s ∈ G, ∀ t ∈ G, s ≠ t → ¬ mk s <+: mk t

theorem fam6 : Fam mk6 signs6 := by
  refine ⟨by decide, ?_, ?_⟩
  · intro s hs
    simp only [signs6, List.mem_cons, List.not_mem_nil, or_false] at hs
    rcases hs with rfl | rfl | rfl | rfl | rfl | rfl <;> exact ⟨_, rfl, by decide, by decide⟩
  · decide

theorem rp_pass {y z : List Nat} : ∀ (u X : List Nat), (∀ k, k < u.length → y.isPrefixOf ((u ++ X).drop k) = false) → rp y z 0 (u ++ X) = u ++ rp y z 0 X
  | [], X, _ => rfl
  | c :: u, X, h => by
    have h0 := h 0 (by simp)
    rw [List.drop_zero, List.cons_append] at h0
    rw [List.cons_append, rp_miss h0, rp_pass u X (fun k hk => by have := h (k + 1) (by simp; omega); rwa [List.cons_append, List.drop_succ_cons] at this), List.cons_append]

section
variable {mk : Nat → List Nat} {G : List Nat} (F : Fam mk G)
include F

theorem Fam.len {s : Nat} (hs : s ∈ G) : 2 ≤ (mk s).length := by
  obtain ⟨r, e, hr, _⟩ := F.head s hs
  rw [e]
  cases r with
  | nil => exact absurd rfl hr
  | cons a b => simp

theorem Fam.notPre {s t : Nat} (hs : s ∈ G) (ht : t ∈ G) (hne : s ≠ t) (X : List Nat) : (mk s).isPrefixOf (mk t ++ X) = false := by
  rw [← Bool.not_eq_true, List.isPrefixOf_iff_prefix]
  intro h
  rcases List.prefix_or_prefix_of_prefix h (List.prefix_append (mk t) X) with q | q
  · exact F.apart s hs t ht hne q
  · exact F.apart t ht s hs (Ne.symm hne) q

theorem Fam.miss {s c : Nat} {r : List Nat} (hs : s ∈ G) (hc : c ≠ 38) : (mk s).isPrefixOf (c :: r) = false := by
  obtain ⟨q, e, _, _⟩ := F.head s hs
  rw [e, List.isPrefixOf_cons_cons]
  have : ((38 : Nat) == c) = false := by simpa using Ne.symm hc
  rw [this, Bool.false_and]

theorem Fam.pass {s t : Nat} {z X : List Nat} (hs : s ∈ G) (ht : t ∈ G) (hne : s ≠ t) : rp (mk s) z 0 (mk t ++ X) = mk t ++ rp (mk s) z 0 X := by
  refine rp_pass _ _ fun k hk => ?_
  cases k with
  | zero => exact F.notPre hs ht hne X
  | succ k =>
    obtain ⟨q, e, _, hq⟩ := F.head t ht
    rw [e] at hk ⊢
    rw [List.cons_append, List.drop_succ_cons]
    have hk' : k < q.length := by simpa using hk
    rw [List.drop_append_of_le_length (by omega), List.drop_eq_getElem_cons hk', List.cons_append]
    refine F.miss hs fun e38 => ?_
    exact hq _ (List.getElem_mem hk') (e38 ▸ F.amp)

/-- where & itself is written by its reference, each reference is read as its sign alone -/
theorem Fam.lawA {S : Nat → Bool} (hS : ∀ c, S c = true → c ∈ G) (h38 : S 38 = true) {s : Nat} (hs : S s = true) : ∀ l, rp (mk s) [s] 0 (enc mk S l) = enc mk (fun c => S c && c != s) l
  | [] => rfl
  | c :: r => by
    have ih := Fam.lawA hS h38 hs r
    rw [enc_cons, enc_cons]
    by_cases hc : c = s
    · subst hc
      have h1 : (S c && c != c) = false := by simp
      rw [if_pos hs, h1, if_neg (by simp), rp_hit (by have := F.len (hS c hs); omega) (by rw [List.isPrefixOf_iff_prefix]; exact List.prefix_append _ _), List.drop_left, ih]
    · have h1 : (c != s) = true := by simpa using hc
      rw [h1, Bool.and_true]
      cases hSc : S c with
      | true =>
        rw [if_pos rfl, F.pass (hS s hs) (hS c hSc) (Ne.symm hc), ih]
      | false =>
        rw [if_neg (by simp)]
        have : c ≠ 38 := fun e => by rw [e, h38] at hSc; cases hSc
        rw [List.singleton_append, rp_miss (F.miss (hS s hs) this), ih]; rfl

theorem Fam.pre_enc {S : Nat → Bool} (hS : ∀ c, S c = true → c ∈ G) : ∀ (q r : List Nat), (∀ c ∈ q, c ∉ G) → (q <+: enc mk S r ↔ q <+: r) ∧ (q <+: r → enc mk S r = q ++ enc mk S (r.drop q.length))
  | [], r, _ => by simp
  | a :: q, [], _ => by simp [enc_nil]
  | a :: q, d :: r, hq => by
    have ha : a ∉ G := hq a (by simp)
    have ih := Fam.pre_enc hS q r (fun c hc => hq c (by simp [hc]))
    rw [enc_cons]
    cases hd : S d with
    | true =>
      have hdG := hS d hd
      have hne : a ≠ d := fun e => ha (e ▸ hdG)
      obtain ⟨u, e, _, _⟩ := F.head d hdG
      have ha38 : a ≠ 38 := fun e => ha (e ▸ F.amp)
      rw [if_pos rfl, e, List.cons_append]
      constructor
      · constructor
        · intro h; exact absurd (List.cons_prefix_cons.mp h).1 ha38
        · intro h; exact absurd (List.cons_prefix_cons.mp h).1 hne
      · intro h; exact absurd (List.cons_prefix_cons.mp h).1 hne
    | false =>
      rw [if_neg (by simp), List.singleton_append]
      constructor
      · rw [List.cons_prefix_cons, List.cons_prefix_cons, ih.1]
      · intro h
        obtain ⟨h1, h2⟩ := List.cons_prefix_cons.mp h
        rw [ih.2 h2, h1]; simp

/-- where & stands bare, a reference in the text is read as its sign too -/
theorem Fam.lawB {S : Nat → Bool} (hS : ∀ c, S c = true → c ∈ G) (h38 : S 38 = false) {s : Nat} (hs : S s = true) : ∀ (n : Nat) (l : List Nat), l.length ≤ n →
    rp (mk s) [s] 0 (enc mk S l) = enc mk (fun c => S c && c != s) (rp (mk s) [s] 0 l) := by
  intro n
  have hsG := hS s hs
  have hs38 : s ≠ 38 := fun e => by rw [e, h38] at hs; cases hs
  have hs0 : (S s && s != s) = false := by simp
  induction n with
  | zero => intro l hl; have : l = [] := List.length_eq_zero_iff.mp (by omega); subst this; rfl
  | succ n ih =>
    intro l hl
    cases l with
    | nil => rfl
    | cons c r =>
      simp only [List.length_cons] at hl
      rw [enc_cons]
      by_cases hc38 : c = 38
      · subst hc38
        rw [if_neg (by rw [h38]; simp), List.singleton_append]
        obtain ⟨q, e, hq0, hq⟩ := F.head s hsG
        have hp := F.pre_enc hS q r hq
        cases hit : (mk s).isPrefixOf (38 :: r) with
        | true =>
          have hpre : q <+: r := by rw [e, List.isPrefixOf_iff_prefix, List.cons_prefix_cons] at hit; exact hit.2
          have hit' : (mk s).isPrefixOf (38 :: enc mk S r) = true := by rw [e, List.isPrefixOf_iff_prefix, List.cons_prefix_cons]; exact ⟨rfl, hp.1.mpr hpre⟩
          rw [rp_hit (by have := F.len hsG; omega) hit, rp_hit (by have := F.len hsG; omega) hit']
          have e1 : (38 :: r).drop (mk s).length = r.drop q.length := by rw [e]; simp
          have e2 : (38 :: enc mk S r).drop (mk s).length = enc mk S (r.drop q.length) := by rw [e, hp.2 hpre]; simp
          rw [e1, e2, List.singleton_append, List.singleton_append, enc_cons, hs0, if_neg (by simp), ih _ (by rw [List.length_drop]; omega)]; rfl
        | false =>
          have hit' : (mk s).isPrefixOf (38 :: enc mk S r) = false := by
            rw [← Bool.not_eq_true] at hit ⊢
            intro h; apply hit
            rw [e, List.isPrefixOf_iff_prefix, List.cons_prefix_cons] at h ⊢
            exact ⟨rfl, hp.1.mp h.2⟩
          have h0 : (S 38 && (38 : Nat) != s) = false := by rw [h38]; rfl
          rw [rp_miss hit, rp_miss hit', enc_cons, h0, if_neg (by simp), ih r (by omega)]; rfl
      · rw [rp_miss (F.miss hsG hc38), enc_cons]
        by_cases hc : c = s
        · subst hc
          rw [if_pos hs, hs0, if_neg (by simp), rp_hit (by have := F.len hsG; omega) (by rw [List.isPrefixOf_iff_prefix]; exact List.prefix_append _ _), List.drop_left, ih r (by omega)]
        · have h1 : (c != s) = true := by simpa using hc
          rw [h1, Bool.and_true]
          cases hSc : S c with
          | true => rw [if_pos rfl, F.pass hsG (hS c hSc) (Ne.symm hc), ih r (by omega)]
          | false => rw [if_neg (by simp), List.singleton_append, rp_miss (F.miss hsG hc38), ih r (by omega)]; rfl

/-- one reference after another is replaced by its sign -/
def unfold1 (mk : Nat → List Nat) (b : List Nat) (s : Nat) : List Nat := rp (mk s) [s] 0 b

theorem Fam.runA {S : Nat → Bool} (hS : ∀ c, S c = true → c ∈ G) (h38 : S 38 = true) : ∀ (pre : List Nat) (l : List Nat), 38 ∉ pre → pre.Nodup → (∀ s ∈ pre, S s = true) →
    pre.foldl (unfold1 mk) (enc mk S l) = enc mk (fun c => S c && !pre.contains c) l
  | [], l, _, _, _ => by simp
  | s :: pre, l, hn, hd, hs => by
    rw [List.foldl_cons, unfold1, F.lawA hS h38 (hs s (by simp))]
    rw [List.nodup_cons] at hd
    have h2 : 38 ≠ s := fun e => hn (by simp [e])
    rw [Fam.runA (S := fun c => S c && c != s) (fun c hc => hS c (by simp at hc; exact hc.1)) (by simp [h38, h2]) pre l (fun h => hn (by simp [h])) hd.2 (fun t ht => by
      have h3 : t ≠ s := fun e => hd.1 (e ▸ ht)
      simp [hs t (by simp [ht]), h3])]
    congr 1
    funext c
    simp only [List.contains_cons, Bool.not_or, Bool.and_assoc]
    rfl

theorem Fam.runB {S : Nat → Bool} (hS : ∀ c, S c = true → c ∈ G) (h38 : S 38 = false) : ∀ (post : List Nat) (l : List Nat), post.Nodup → (∀ s ∈ post, S s = true) →
    post.foldl (unfold1 mk) (enc mk S l) = enc mk (fun c => S c && !post.contains c) (post.foldl (unfold1 mk) l)
  | [], l, _, _ => by simp
  | s :: post, l, hd, hs => by
    rw [List.foldl_cons, List.foldl_cons, unfold1, F.lawB hS h38 (hs s (by simp)) _ l (Nat.le_refl _)]
    rw [List.nodup_cons] at hd
    rw [Fam.runB (S := fun c => S c && c != s) (fun c hc => hS c (by simp at hc; exact hc.1)) (by simp [h38]) post _ hd.2 (fun t ht => by
      have h3 : t ≠ s := fun e => hd.1 (e ▸ ht)
      simp [hs t (by simp [ht]), h3])]
    congr 1
    funext c
    simp only [List.contains_cons, Bool.not_or, Bool.and_assoc]
    rfl

theorem enc_none (l : List Nat) : enc mk (fun _ => false) l = l := by
  induction l with
  | nil => rfl
  | cons c r ih => rw [enc_cons, ih]; rfl

theorem Fam.back (hG : G.Nodup) {pre post : List Nat} (hp : (pre ++ 38 :: post).Perm G) (l : List Nat) :
    (pre ++ 38 :: post).foldl (unfold1 mk) (enc mk (fun c => G.contains c) l) = post.foldl (unfold1 mk) l := by
  have hd : (pre ++ 38 :: post).Nodup := hp.nodup_iff.mpr hG
  rw [List.nodup_append] at hd
  obtain ⟨d1, d2, d3⟩ := hd
  rw [List.nodup_cons] at d2
  have mem : ∀ c, c ∈ G ↔ c ∈ pre ∨ c = 38 ∨ c ∈ post := fun c => by rw [← hp.mem_iff]; simp
  have n1 : 38 ∉ pre := fun h => d3 38 h 38 (by simp) rfl
  rw [List.foldl_append, List.foldl_cons]
  rw [F.runA (S := fun c => G.contains c) (fun c hc => by simpa using hc) (by simpa using F.amp) pre l n1 d1 (fun s hs => by simp [mem, hs])]
  rw [unfold1, F.lawA (S := fun c => G.contains c && !pre.contains c) (fun c hc => by simp at hc; exact hc.1) (by simp [F.amp, n1]) (by simp [F.amp, n1])]
  rw [F.runB (S := fun c => G.contains c && !pre.contains c && c != 38) (fun c hc => by simp at hc; exact hc.1.1) (by simp) post l d2.2 (fun s hs => by
    have h1 : s ≠ 38 := fun e => d2.1 (e ▸ hs)
    have h2 : s ∉ pre := fun h => d3 s h s (by simp [hs]) rfl
    simp [mem, hs, h1, h2])]
  have : (fun c => (G.contains c && !pre.contains c && c != 38) && !post.contains c) = fun _ => false := by
    funext c
    have := mem c
    by_cases hc : c ∈ G
    · rcases this.mp hc with h | h | h <;> simp [h]
    · simp [hc]
  rw [this, enc_none F]
end

theorem rp_none {y z : List Nat} : ∀ l, (∀ k, y.isPrefixOf (l.drop k) = false) → rp y z 0 l = l
  | [], _ => rfl
  | c :: r, h => by
    rw [rp_miss (by simpa using h 0), rp_none r (fun k => by simpa using h (k + 1))]
theorem rp_le {y z : List Nat} (hy : 1 ≤ y.length) (hz : z.length ≤ y.length) : ∀ (n : Nat) (l : List Nat), l.length ≤ n → (rp y z 0 l).length ≤ l.length := by
  intro n
  induction n with
  | zero => intro l hl; have : l = [] := List.length_eq_zero_iff.mp (by omega); subst this; simp [rp]
  | succ n ih =>
    intro l hl
    cases l with
    | nil => simp [rp]
    | cons c r =>
      simp only [List.length_cons] at hl
      cases h : y.isPrefixOf (c :: r) with
      | true =>
        rw [rp_hit hy h, List.length_append]
        have h1 := ih ((c :: r).drop y.length) (by rw [List.length_drop, List.length_cons]; omega)
        have h2 := (List.isPrefixOf_iff_prefix.mp h).length_le
        rw [List.length_drop] at h1
        omega
      | false =>
        rw [rp_miss h, List.length_cons, List.length_cons]
        have := ih r (by omega)
        omega
theorem rp_lt {y z : List Nat} (hy : 1 ≤ y.length) (hz : z.length < y.length) : ∀ (n : Nat) (l : List Nat), l.length ≤ n → (∃ k, y.isPrefixOf (l.drop k) = true) → (rp y z 0 l).length < l.length := by
  intro n
  induction n with
  | zero =>
    intro l hl ⟨k, hk⟩
    have : l = [] := List.length_eq_zero_iff.mp (by omega)
    subst this
    simp at hk; subst hk; simp at hy
  | succ n ih =>
    intro l hl ⟨k, hk⟩
    cases l with
    | nil => simp at hk; subst hk; simp at hy
    | cons c r =>
      simp only [List.length_cons] at hl
      cases h : y.isPrefixOf (c :: r) with
      | true =>
        rw [rp_hit hy h, List.length_append]
        have h1 := rp_le (z := z) hy (by omega) _ ((c :: r).drop y.length) (Nat.le_refl _)
        have h2 := (List.isPrefixOf_iff_prefix.mp h).length_le
        rw [List.length_drop] at h1
        omega
      | false =>
        rw [rp_miss h, List.length_cons, List.length_cons]
        cases k with
        | zero => rw [List.drop_zero, h] at hk; cases hk
        | succ k =>
          have := ih r (by omega) ⟨k, by simpa using hk⟩
          omega

theorem rp_one (c : Nat) (z : List Nat) : ∀ l, rp [c] z 0 l = l.flatMap fun d => if d = c then z else [d]
  | [] => rfl
  | d :: r => by
    have ih := rp_one c z r
    by_cases h : d = c
    · subst h
      rw [rp_hit (by simp) (by simp [List.isPrefixOf]), List.flatMap_cons, if_pos rfl]
      simpa using ih
    · have h1 : ([c] : List Nat).isPrefixOf (d :: r) = false := by
        simp only [List.isPrefixOf, Bool.and_true]
        simpa using Ne.symm h
      rw [rp_miss h1, ih, List.flatMap_cons, if_neg h]; rfl

/-- one more sign is written by its reference -/
theorem enc_step {mk : Nat → List Nat} {S : Nat → Bool} {c : Nat} (h0 : S c = false) (h1 : ∀ s, S s = true → c ∉ mk s) (l : List Nat) : rp [c] (mk c) 0 (enc mk S l) = enc mk (fun d => S d || d == c) l := by
  rw [rp_one]
  induction l with
  | nil => rfl
  | cons d r ih =>
    rw [enc_cons, enc_cons, List.flatMap_append, ih]
    congr 1
    cases hd : S d with
    | true =>
      simp only [if_true, Bool.true_or]
      have := h1 d hd
      have : ∀ u : List Nat, c ∉ u → (u.flatMap fun d => if d = c then mk c else [d]) = u := by
        intro u
        induction u with
        | nil => intro _; rfl
        | cons a u ihu =>
          intro hu
          simp only [List.mem_cons, not_or] at hu
          rw [List.flatMap_cons, ihu hu.2, if_neg (Ne.symm hu.1)]; rfl
      exact this _ (h1 d hd)
    | false =>
      simp only [Bool.false_or, Bool.false_eq_true, if_false]
      by_cases hdc : d = c
      · subst hdc; simp
      · have : (d == c) = false := by simpa using hdc
        simp [this, hdc]

section
variable {mk : Nat → List Nat} {G : List Nat} (F : Fam mk G)
include F
/-- what stands behind each & of the writing -/
theorem Fam.parts : ∀ (l : List Nat), ∀ p ∈ (pcs [38] 0 (enc mk (fun c => G.contains c) l)).tail, ∃ s ∈ G, mk s <+: 38 :: p
  | [] => by intro p hp; simp [enc_nil, pcs] at hp
  | c :: r => by
    have ih := Fam.parts r
    rw [enc_cons]
    by_cases hc : c ∈ G
    · rw [if_pos (by simpa using hc)]
      obtain ⟨q, e, _, hq⟩ := F.head c hc
      rw [e, List.cons_append, pcs_hit (by simp) (by simp [List.isPrefixOf])]
      have hq38 : 38 ∉ q := fun h => hq 38 h F.amp
      have hgap := pcs_gap [38] q.length (q ++ enc mk (fun c => G.contains c) r) (by simp) (fun k hk => by
        rw [List.drop_append_of_le_length (by omega), List.drop_eq_getElem_cons hk, List.cons_append]
        simp only [List.isPrefixOf, Bool.and_true]
        have : q[k] ≠ 38 := fun e => hq38 (e ▸ List.getElem_mem hk)
        simpa using Ne.symm this)
      simp only [List.length_cons, List.length_nil, List.drop_succ_cons, List.drop_zero, List.tail_cons]
      rw [hgap, List.take_left, List.drop_left]
      intro p hp
      cases hx : pcs [38] 0 (enc mk (fun c => G.contains c) r) with
      | nil => exact absurd hx (pcs_ne _ _ _)
      | cons p0 ps =>
        rw [hx] at hp ih
        simp only [appHead, List.mem_cons] at hp
        rcases hp with rfl | hp
        · exact ⟨c, hc, by rw [e, List.cons_prefix_cons]; exact ⟨rfl, List.prefix_append _ _⟩⟩
        · exact ih p (by simpa using hp)
    · rw [if_neg (by simpa using hc), List.singleton_append]
      have hc38 : c ≠ 38 := fun e => hc (e ▸ F.amp)
      rw [pcs_miss (by simp only [List.isPrefixOf, Bool.and_true]; simpa using Ne.symm hc38)]
      intro p hp
      cases hx : pcs [38] 0 (enc mk (fun c => G.contains c) r) with
      | nil => exact absurd hx (pcs_ne _ _ _)
      | cons p0 ps =>
        rw [hx] at hp ih
        exact ih p hp
/-- & alone of the signs stands in the writing -/
theorem Fam.bare (l : List Nat) : ∀ c ∈ enc mk (fun c => G.contains c) l, c ∈ G → c = 38 := by
  intro c hc hG
  unfold enc at hc
  obtain ⟨d, hd, hc⟩ := List.mem_flatMap.mp hc
  by_cases h : d ∈ G
  · rw [if_pos (by simpa using h)] at hc
    obtain ⟨q, e, _, hq⟩ := F.head d h
    rw [e] at hc
    rcases List.mem_cons.mp hc with h1 | h1
    · exact h1
    · exact absurd hG (hq c h1)
  · rw [if_neg (by simpa using h)] at hc
    rw [List.mem_singleton.mp hc] at hG
    exact absurd hG h
theorem Fam.folds_le : ∀ (post l : List Nat), (∀ s ∈ post, s ∈ G) → (post.foldl (unfold1 mk) l).length ≤ l.length
  | [], l, _ => Nat.le_refl _
  | s :: post, l, h => by
    rw [List.foldl_cons]
    have hl := F.len (h s (by simp))
    exact Nat.le_trans (Fam.folds_le post _ (fun t ht => h t (by simp [ht]))) (rp_le (by omega) (by simp; omega) _ l (Nat.le_refl _))
theorem Fam.folds_iff : ∀ (post l : List Nat), (∀ s ∈ post, s ∈ G) → (post.foldl (unfold1 mk) l = l ↔ ∀ s ∈ post, ¬ ∃ k, (mk s).isPrefixOf (l.drop k) = true)
  | [], l, _ => by simp
  | s :: post, l, h => by
    rw [List.foldl_cons]
    have hl := F.len (h s (by simp))
    by_cases hx : ∃ k, (mk s).isPrefixOf (l.drop k) = true
    · have h1 := rp_lt (z := [s]) (by omega) (by simp; omega) _ l (Nat.le_refl _) hx
      have h2 := F.folds_le post (unfold1 mk l s) (fun t ht => h t (by simp [ht]))
      constructor
      · intro e
        rw [e] at h2
        unfold unfold1 at h2
        omega
      · intro q; exact absurd hx (q s (by simp))
    · have e : unfold1 mk l s = l := by
        unfold unfold1
        refine rp_none l fun k => ?_
        rw [← Bool.not_eq_true]
        exact fun q => hx ⟨k, q⟩
      rw [e, Fam.folds_iff post l (fun t ht => h t (by simp [ht]))]
      constructor
      · intro q t ht
        rcases List.mem_cons.mp ht with rfl | ht
        · exact hx
        · exact q t ht
      · intro q t ht; exact q t (by simp [ht])
end
structure PR where
  a : Addr
  mark : Str
  sign : Str
  tm : Tok
  ts : Tok
def PR.ref (r : PR) : Value := .ref r.a
def PR.cell (r : PR) : Addr × Cel := (r.a, cTup [.str r.mark r.tm, .str r.sign r.ts])
def PR.ok (r : PR) : Prop := r.tm ≠ 0 ∧ r.ts ≠ 0 ∧ r.tm ≠ r.ts
def PR.pair (r : PR) : Str × Str := (r.mark, r.sign)
def pairs6 : List (Str × Str) := [(Str.ofString "&lt;", Str.ofString "<"), (Str.ofString "&quot;", Str.ofString "\""), (Str.ofString "&#x9;", Str.ofString "\t"), (Str.ofString "&#xA;", Str.ofString "\n"), (Str.ofString "&#xD;", Str.ofString "\r"), (Str.ofString "&amp;", Str.ofString "&")]

section
variable {prog : Program} {w : World} {A : Around} {E : Value → Shared → Prop} {s : Shared} {env : Env} {h0 : Heap} {o0 : Shared} {cs cs' : Cells}

theorem okOf {cs : Cells} {a u : Shared} {b : Addr} {x y : Str} (hs : St h0 o0 cs a) (e : u.toks = a.toks + 1) : PR.ok ⟨b, x, y, a.toks, u.toks⟩ :=
  ⟨hs.tok, (by show u.toks ≠ 0; omega), (Nat.ne_of_lt (by omega) : a.toks ≠ u.toks)⟩

theorem c_order {P : Params} {n : Int} {t : Tok} {Q : Value → Shared → Prop} (B : Base (hd.heap_39 P) h0) (H : St h0 o0 cs s) (hroom : A.depth < recursionLimit) (hu : A.units + 10 < cLine)
    (h : ∀ l (ord : List PR) s', (ord.map PR.pair).Perm pairs6 → (∀ r ∈ ord, r.ok) → St h0 o0 ((l, cList (ord.map PR.ref)) :: (ord.map PR.cell ++ cs)) s' → Q (.ref l) s') : wpAny (model prog w) A (call (.ref 35) [.int n t]) Q E s := by
  refine x_fn (m := [(Str.ofString "number", .int n t)]) B H (by kernel_rfl!) hroom (by kernel_rfl!) (by kernel_rfl!) rfl fun L r0 R0 => ?_
  have bLen : BltAt h0 (Str.ofString "len") (.builtin "len") := B.bltAt (by kernel_rfl!) (by kernel_rfl!) (by decide +kernel) (by decide +kernel)
  refine wpAny_execs_cons ?_
  refine wpAny_Assign_Name ?_
  refine List_ ?_
  walk_at "pair"; rename_i u1 U1 e1 v1 V1 f1 a1 w1 W1 g1
  walk_at "pair"; rename_i u2 U2 e2 v2 V2 f2 a2 w2 W2 g2
  walk_at "pair"; rename_i u3 U3 e3 v3 V3 f3 a3 w3 W3 g3
  walk_at "pair"; rename_i u4 U4 e4 v4 V4 f4 a4 w4 W4 g4
  walk_at "pair"; rename_i u5 U5 e5 v5 V5 f5 a5 w5 W5 g5
  walk_at "pair"; rename_i u6 U6 e6 v6 V6 f6 a6 w6 W6 g6
  refine args_nil ?_
  with_reducible refine x_newList (by assumption) (Nat.le_of_ble_eq_true (by kernel_rfl!)) fun l s19 H k19 => ?_
  walk_at "sto"
  refine wpAny_execs_cons ?_
  refine wpAny_Assign_Name ?_
  refine List_ ?_
  refine args_nil ?_
  with_reducible refine x_newList (by assumption) (Nat.le_of_ble_eq_true (by kernel_rfl!)) fun o s20 H k20 => ?_
  walk_at "sto"
  rename_i sW HW
  have H1 := HW.pick (a := o) (by walk_at "mpick")
  have H2 := H1.pick (a := l) (by walk_at "mpick")
  have H3 := H2.pick (a := L) (by walk_at "mpick")
  clear H1 H2
  obtain ⟨six, hsix, hok, H4⟩ : ∃ six : List PR, six.map PR.pair = pairs6 ∧ (∀ r ∈ six, r.ok) ∧ St h0 o0 ([(L, cNs [(Str.ofString "number", Value.int n t), (Str.ofString "left", .ref l), (Str.ofString "order", .ref o)]), (l, cList (six.map PR.ref)), (o, cList (([] : List PR).map PR.ref))] ++ (six.reverse.map PR.cell ++ cs)) sW := by
    refine ⟨[⟨a1, _, _, _, _⟩, ⟨a2, _, _, _, _⟩, ⟨a3, _, _, _, _⟩, ⟨a4, _, _, _, _⟩, ⟨a5, _, _, _, _⟩, ⟨a6, _, _, _, _⟩], rfl, ?_, H3⟩
    intro r hr
    simp only [List.mem_cons, List.not_mem_nil, or_false] at hr
    rcases hr with rfl | rfl | rfl | rfl | rfl | rfl
    · exact okOf R0 e1
    · exact okOf W1 e2
    · exact okOf W2 e3
    · exact okOf W3 e4
    · exact okOf W4 e5
    · exact okOf W5 e6
  clear H3 HW
  refine wpAny_execs_cons ?_
  refine x_while (K := six.reverse.map PR.cell ++ cs) (fun k C => ∃ (ls os : List PR) (num : Int) (tk : Tok), k = ls.length ∧ (ls ++ os).Perm six ∧
    C = [(L, cNs [(Str.ofString "number", .int num tk), (Str.ofString "left", .ref l), (Str.ofString "order", .ref o)]), (l, cList (ls.map PR.ref)), (o, cList (os.map PR.ref))])
    ?turn ⟨six, [], n, t, rfl, by simp, rfl⟩ H4
  rintro k C s ⟨ls, os, num, tk, rfl, hperm, rfl⟩ H
  simp only [List.cons_append, List.nil_append] at H
  have hlen : ls.length + os.length = 6 := by
    have h1 := hperm.length_eq
    have h2 : six.length = 6 := by have := congrArg List.length hsix; simpa [pairs6] using this
    rw [List.length_append] at h1; omega
  refine wpAny_isTrue_Compare1 ?_
  walk_at "nm"
  refine List_ ?_
  refine args_nil ?_
  with_reducible refine x_newList (by assumption) (Nat.le_of_ble_eq_true (by kernel_rfl!)) fun z s21 H21 k21 => ?_
  with_reducible refine x_neNil (xs := ls.map PR.ref) H21 (by walk_at "mhas") (by walk_at "mhas") ?_ ?_
  · show A.units + 3 < cLine; omega
  refine wpAny_truthy_bool ?_
  cases ls with
  | nil =>
    simp only [List.map_nil, List.isEmpty_nil, Bool.not_true, Bool.false_eq_true, if_false]
    refine wpAny_execs_cons ?_
    refine wpAny_Return_some ?_
    walk_at "nm"
    show Q (Value.ref o) s21
    have hp : (os.map PR.pair).Perm pairs6 := by rw [← hsix]; exact hperm.map _
    refine h o os s21 hp (fun r hr => hok r (hperm.mem_iff.mp hr)) ?_
    have H5 := ((H21.tail.tail.tail).perm (cs' := (o, cList (os.map PR.ref)) :: (os.map PR.cell ++ cs)) ?_)
    · exact H5
    · refine List.Perm.cons _ (List.Perm.append_right _ ?_)
      have : (os).Perm six.reverse := hperm.trans (List.reverse_perm six).symm
      exact this.map _
  | cons r1 ls' =>
    generalize hls : r1 :: ls' = ls at *
    have hpos : 0 < ls.length := by rw [← hls]; simp
    have hne : (ls.map PR.ref).isEmpty = false := by rw [← hls]; rfl
    rw [hne]
    simp only [Bool.not_false, if_true]
    have hb0 : (0 : Int) ≤ num.fmod ls.length := Int.fmod_nonneg_of_pos _ (by omega)
    have hb1 : num.fmod ls.length < ls.length := Int.fmod_lt_of_pos _ (by omega)
    obtain ⟨p, y, q, els, hi⟩ : ∃ p y q, ls = p ++ y :: q ∧ num.fmod ls.length = (p.length : Int) := by
      refine ⟨ls.take (num.fmod ls.length).toNat, ls[(num.fmod ls.length).toNat]'(by omega), ls.drop ((num.fmod ls.length).toNat + 1), ?_, ?_⟩
      · rw [← List.drop_eq_getElem_cons, List.take_append_drop]
      · rw [List.length_take]; omega
    have em : ls.map PR.ref = p.map PR.ref ++ y.ref :: q.map PR.ref := by rw [els]; simp
    rw [em] at H21
    refine wpAny_execs_cons ?_
    refine wpAny_Assign_Name ?_
    refine Call_ ?_
    with_reducible refine x_blt (by assumption) bLen (by kernel_rfl!) (by kernel_rfl!) (by kernel_rfl!) (by kernel_rfl!) (by decide +kernel) ?_
    refine PyProof.Rows.callWith_builtin1 ?_
    refine args_cons ?_
    walk_at "nm"
    refine args_nil ?_
    have elen : (p.map PR.ref ++ y.ref :: q.map PR.ref).length = ls.length := by rw [← em]; simp
    have hsz : (p.map PR.ref ++ y.ref :: q.map PR.ref).length ≤ sizeLine := by rw [elen, sizeLine_eq]; omega
    with_reducible refine x_len (by assumption) (by walk_at "mhas") hsz fun t1 s22 H22 => ?_
    rw [elen]
    walk_at "sto"
    refine wpAny_execs_cons ?_
    refine wpAny_Expr ?_
    refine MethodCall_ ?_
    walk_at "nm"
    with_reducible refine x_lmeth PySem.F.slot_list_append PySem.F.type_list_append (by assumption) (by walk_at "mhas") ?_
    refine callWith_method1 ?_
    refine args_cons ?_
    refine MethodCall_ ?_
    walk_at "nm"
    with_reducible refine x_lmeth PySem.F.slot_list_pop PySem.F.type_list_pop (by assumption) (by walk_at "mhas") ?_
    refine callWith_method1 ?_
    refine args_cons ?_
    refine wpAny_BinOp ?_
    walk_at "nm"
    walk_at "nm"
    with_reducible refine x_mod (by assumption) (by omega) fun t2 s23 H23 => ?_
    refine args_nil ?_
    refine x_popAt (p := p.map PR.ref) (y := y.ref) (q := q.map PR.ref) H23 (by rw [List.length_map]; exact hi) (by walk_at "mput") hsz fun s24 H24 => ?_
    refine args_nil ?_
    refine x_append (xs := os.map PR.ref) H24 (by walk_at "mput") (by rw [List.length_map, sizeLine_eq]; omega) fun s25 H25 => ?_
    refine wpAny_execs_cons ?_
    refine wpAny_Assign_Name ?_
    refine wpAny_BinOp ?_
    walk_at "nm"
    walk_at "nm"
    with_reducible refine x_fdiv (by assumption) (by omega) (by omega) fun t3 s26 H26 => ?_
    walk_at "sto"
    rename_i s27 H27
    refine wpAny_execs_nil ?_
    refine ⟨(p ++ q).length, _, ?_, ⟨p ++ q, os ++ [y], num.fdiv ls.length, t3, rfl, ?_, rfl⟩, ?_⟩
    · rw [els]; simp
    · refine List.Perm.trans ?_ hperm
      rw [els]
      simp only [List.append_assoc, List.cons_append]
      refine List.Perm.append_left _ ?_
      refine List.Perm.trans ?_ (List.perm_middle (l₁ := []) (a := y) (l₂ := q ++ os))
      simp only [List.nil_append]
      rw [← List.append_assoc]
      exact (List.perm_append_singleton y (q ++ os))
    · have H28 := H27.tail.weak (c' := cNs [(Str.ofString "number", Value.int (num.fdiv ls.length) t3), (Str.ofString "left", .ref l), (Str.ofString "order", .ref o)]) .here (fun _ ho => ho.sub (by walk_at "mnssub"))
      simpa only [List.map_append, List.map_cons, List.map_nil, List.cons_append, List.nil_append] using H28
end
section
variable {prog : Program} {w : World} {A : Around} {E : Value → Shared → Prop} {s : Shared} {env : Env} {h0 : Heap} {o0 : Shared} {cs cs' : Cells}


theorem c_text {P : Params} {l : Addr} {ns : List (Int × Tok)} {Q : Value → Shared → Prop} (B : Base (hd.heap_39 P) h0) (H : St h0 o0 cs s) (hl : Has cs l (cList (ns.map fun p => .int p.1 p.2))) (hns : ns.length ≤ 63) (hroom : A.depth < recursionLimit) (hh : A.handled = none)
    (h : ∀ x t' s', x.length ≤ 6 * ns.length → St h0 o0 cs s' → Q (.str x t') s') : wpAny (model prog w) A (call (.ref 42) [.ref l]) Q E s := by
  refine x_fn (m := [(Str.ofString "numbers", .ref l)]) B H (by kernel_rfl!) hroom (by kernel_rfl!) (by kernel_rfl!) rfl fun L r0 R0 => ?_
  have bChr : BltAt h0 (Str.ofString "chr") (.builtin "chr") := B.bltAt (by kernel_rfl!) (by kernel_rfl!) (by decide +kernel) (by decide +kernel)
  refine wpAny_execs_cons ?_
  refine wpAny_Assign_Name ?_
  refine List_ ?_
  iterate 16 walk_at "sarg"
  refine args_nil ?_
  with_reducible refine x_newList (by assumption) (Nat.le_of_ble_eq_true (by kernel_rfl!)) fun pl s19 H19 k19 => ?_
  obtain ⟨ps, hps, hb, H20⟩ : ∃ ps : List (Str × Tok), ps.length = 16 ∧ (∀ p ∈ ps, p.1.length ≤ 6) ∧ St h0 o0 ((pl, cList (ps.map fun p => .str p.1 p.2)) :: (L, cNs [(Str.ofString "numbers", .ref l)]) :: cs) s19 := by
    refine ⟨[(_, _), (_, _), (_, _), (_, _), (_, _), (_, _), (_, _), (_, _), (_, _), (_, _), (_, _), (_, _), (_, _), (_, _), (_, _), (_, _)], rfl, ?_, H19⟩
    intro p hp
    simp only [List.mem_cons, List.not_mem_nil, or_false] at hp
    rcases hp with rfl | rfl | rfl | rfl | rfl | rfl | rfl | rfl | rfl | rfl | rfl | rfl | rfl | rfl | rfl | rfl
    all_goals (dsimp only; decide +kernel)
  walk_at "sto"
  refine wpAny_execs_cons ?_
  refine wpAny_Assign_Name ?_
  walk_at "str"
  walk_at "sto"
  rename_i t0 _ _ _ sF HF
  refine wpAny_execs_cons ?_
  refine x_for_list (h0 := h0) (o0 := o0) hh ?_ (fun _ => rfl)
  walk_at "nm"
  refine ⟨l, ns.map fun p => .int p.1 p.2, _, cs, (fun i C => ∃ (txt : Str) (t : Tok), txt.length ≤ 6 * i ∧
    C = [(pl, cList (ps.map fun p => .str p.1 p.2)), (L, cNs [(Str.ofString "numbers", .ref l), (Str.ofString "pieces", .ref pl), (Str.ofString "text", .str txt t)])]), rfl, ⟨_, _, by decide +kernel, rfl⟩, HF, ?_, ?_, ?_⟩
  · rintro i C ⟨txt, t, _, rfl⟩
    exact .there (.there hl)
  · rintro i v C K' s hv ⟨txt, t, hlen, rfl⟩ hK H
    simp only [List.cons_append, List.nil_append] at H
    obtain ⟨⟨x, tx⟩, hx, rfl⟩ : ∃ p : Int × Tok, ns[i]? = some p ∧ v = .int p.1 p.2 := by
      rw [List.getElem?_map] at hv
      cases e : ns[i]? with
      | none => rw [e] at hv; cases hv
      | some p => rw [e] at hv; exact ⟨p, rfl, (Option.some.inj hv).symm⟩
    have hi : i < 63 := by
      have := (List.getElem?_eq_some_iff.mp hx).1
      omega
    dsimp only
    refine wpAny_assign_Name ?_
    walk_at "sto"
    refine wpAny_execs_cons ?_
    refine wpAny_Assign_Name ?_
    refine wpAny_BinOp ?_
    walk_at "nm"
    walk_at "int"
    with_reducible refine x_fdiv (by assumption) (by omega) (by omega) ?_
    intro t1 s1 H1
    walk_at "sto"
    refine wpAny_execs_cons ?_
    refine wpAny_Assign_Name ?_
    refine wpAny_BinOp ?_
    walk_at "nm"
    walk_at "int"
    with_reducible refine x_mod (by assumption) (by omega) ?_
    intro t2 s2 H2
    walk_at "sto"
    have hc0 : 0 ≤ (x.fdiv 2).fmod 1112064 := Int.fmod_nonneg_of_pos _ (by omega)
    have hc1 : (x.fdiv 2).fmod 1112064 < 1112064 := Int.fmod_lt_of_pos _ (by omega)
    refine wpAny_execs_cons ?_
    refine wpAny_If ?_
    refine wpAny_isTrue_Compare1 ?_
    refine wpAny_BinOp ?_
    walk_at "nm"
    walk_at "int"
    with_reducible refine x_mod (by assumption) (by omega) ?_
    intro t3 s3 H3
    walk_at "int"
    refine PyProof.Rows.eq_int ?_
    refine wpAny_truthy_bool ?_
    split
    · refine wpAny_execs_cons ?_
      refine wpAny_AugAssign_Name ?_
      walk_at "ld"
      refine Subscript_ ?_
      walk_at "nm"
      refine wpAny_BinOp ?_
      walk_at "nm"
      walk_at "int"
      with_reducible refine x_mod (by assumption) (by omega) ?_
      intro t4 s4 H4
      have hb0 : 0 ≤ (x.fdiv 2).fmod 16 := Int.fmod_nonneg_of_pos _ (by omega)
      have hb1 : (x.fdiv 2).fmod 16 < 16 := Int.fmod_lt_of_pos _ (by omega)
      obtain ⟨p, hp⟩ : ∃ p, ps[((x.fdiv 2).fmod 16).toNat]? = some p := ⟨_, List.getElem?_eq_getElem (by omega)⟩
      with_reducible refine x_item (by assumption) (by walk_at "mhas") hb0 (by omega) (v := .str p.1 p.2) (by rw [List.getElem?_map, hp, Option.map_some]) (by with_unfolding_all rfl) ?_
      have hpl := hb p (List.mem_of_getElem? hp)
      with_reducible refine x_iadds (by assumption) (by rw [sizeLine_eq]; omega) ?_
      intro t5 s5 H5
      walk_at "sto"
      rename_i s6 H6
      refine wpAny_execs_nil ?_
      refine wpAny_execs_nil ?_
      refine ⟨_, ⟨txt ++ p.1, t5, by rw [Str.length_append]; omega, rfl⟩, ?_⟩
      exact H6.weak (.there .here) (fun _ ho => ho.sub (by walk_at "mnssub"))
    · refine wpAny_execs_cons ?_
      refine wpAny_AugAssign_Name ?_
      walk_at "ld"
      refine Call_ ?_
      with_reducible refine x_blt (by assumption) bChr (by kernel_rfl!) (by kernel_rfl!) (by kernel_rfl!) (by kernel_rfl!) (by decide +kernel) ?_
      refine PyProof.Rows.callWith_builtin1 ?_
      refine args_cons ?_
      refine wpAny_IfExp ?_
      refine wpAny_isTrue_Compare1 ?_
      walk_at "nm"
      walk_at "int"
      refine PyProof.Rows.lt_int ?_
      refine wpAny_truthy_bool ?_
      split
      · rename_i hlt
        have hlt' : (x.fdiv 2).fmod 1112064 < 55296 := of_decide_eq_true hlt
        walk_at "nm"
        refine args_nil ?_
        with_reducible refine x_chr (by assumption) (by omega) (by omega) ?_
        intro cz t4 s4 _ hcz H4 _
        with_reducible refine x_iadds (by assumption) (by rw [sizeLine_eq]; omega) ?_
        intro t5 s5 H5
        walk_at "sto"
        rename_i s6 H6
        refine wpAny_execs_nil ?_
        refine wpAny_execs_nil ?_
        refine ⟨_, ⟨txt ++ cz, t5, by rw [Str.length_append]; omega, rfl⟩, ?_⟩
        exact H6.weak (.there .here) (fun _ ho => ho.sub (by walk_at "mnssub"))
      · refine wpAny_BinOp ?_
        walk_at "nm"
        walk_at "int"
        with_reducible refine x_addi (by assumption) ?_
        intro t6 s7 H7
        refine args_nil ?_
        with_reducible refine x_chr (by assumption) (by omega) (by omega) ?_
        intro cz t4 s4 _ hcz H4 _
        with_reducible refine x_iadds (by assumption) (by rw [sizeLine_eq]; omega) ?_
        intro t5 s5 H5
        walk_at "sto"
        rename_i s6 H6
        refine wpAny_execs_nil ?_
        refine wpAny_execs_nil ?_
        refine ⟨_, ⟨txt ++ cz, t5, by rw [Str.length_append]; omega, rfl⟩, ?_⟩
        exact H6.weak (.there .here) (fun _ ho => ho.sub (by walk_at "mnssub"))
  · rintro C s ⟨txt, t, hlen, rfl⟩ H
    simp only [List.cons_append, List.nil_append] at H
    refine wpAny_execs_cons ?_
    refine wpAny_Return_some ?_
    walk_at "nm"
    exact h txt t s (by simpa using hlen) H.tail.tail
end
def esc1 (x : Str) : Str := Txt.replace x (Str.ofString "&") (Str.ofString "&amp;")
def esc2 (x : Str) : Str := Txt.replace (esc1 x) (Str.ofString "<") (Str.ofString "&lt;")
def esc3 (x : Str) : Str := Txt.replace (esc2 x) (Str.ofString "\"") (Str.ofString "&quot;")
def esc4 (x : Str) : Str := Txt.replace (esc3 x) (Str.ofString "\t") (Str.ofString "&#x9;")
def esc5 (x : Str) : Str := Txt.replace (esc4 x) (Str.ofString "\n") (Str.ofString "&#xA;")
def esc6 (x : Str) : Str := Txt.replace (esc5 x) (Str.ofString "\r") (Str.ofString "&#xD;")

theorem stepE {x y : Str} {S : Nat → Bool} {l : List Nat} {c : Nat} {a b : Str} (h : x.cps.toList = enc mk6 S l) (ha : a.cps.toList = [c]) (hb : b.cps.toList = mk6 c) (h0 : S c = false) (h1 : ∀ s, S s = true → c ∉ mk6 s) :
    (Txt.replace x a b).cps.toList = enc mk6 (fun d => S d || d == c) l := by
  have e : a.length = a.cps.toList.length := by simp [Str.length]
  rw [replace_rp _ _ _ (by rw [e, ha]; simp), ha, hb, h, enc_step h0 h1]
theorem mk6_len (c : Nat) : 1 ≤ (mk6 c).length ∧ (mk6 c).length ≤ 6 := by
  unfold mk6; split <;> simp
theorem enc_len (S : Nat → Bool) (l : List Nat) : (enc mk6 S l).length ≤ 6 * l.length := by
  induction l with
  | nil => simp [enc]
  | cons c r ih =>
    rw [enc_cons, List.length_append, List.length_cons]
    have := mk6_len c
    split <;> (try simp only [List.length_singleton]) <;> omega
def sA1 : Nat → Bool := fun d => false || d == 38
def sA2 : Nat → Bool := fun d => sA1 d || d == 60
def sA3 : Nat → Bool := fun d => sA2 d || d == 34
def sA4 : Nat → Bool := fun d => sA3 d || d == 9
def sA5 : Nat → Bool := fun d => sA4 d || d == 10
def sA6 : Nat → Bool := fun d => sA5 d || d == 13
theorem esc1_enc (x : Str) : (esc1 x).cps.toList = enc mk6 sA1 x.cps.toList :=
  stepE (S := fun _ => false) (y := x) (by rw [enc_none fam6]) (by decide +kernel) (by decide +kernel) rfl (fun _ h => by cases h)
theorem sA_mem {S : Nat → Bool} {c : Nat} (h : ∀ s, S s = true → s ∈ signs6) (h38 : c ≠ 38) (hc : c ∈ signs6) : ∀ s, S s = true → c ∉ mk6 s := fun s hs hm => by
  obtain ⟨q, e, _, hq⟩ := fam6.head s (h s hs)
  rw [e] at hm
  rcases List.mem_cons.mp hm with h1 | h1
  · exact h38 h1
  · exact hq c h1 hc
theorem sA5_sub : ∀ s, sA5 s = true → s ∈ signs6 := by
  intro s h
  simp only [sA5, sA4, sA3, sA2, sA1, Bool.or_eq_true, beq_iff_eq, Bool.false_or] at h
  simp only [signs6, List.mem_cons]; omega
theorem sA4_sub : ∀ s, sA4 s = true → s ∈ signs6 := fun s h => sA5_sub s (by simp [sA5, h])
theorem sA3_sub : ∀ s, sA3 s = true → s ∈ signs6 := fun s h => sA4_sub s (by simp [sA4, h])
theorem sA2_sub : ∀ s, sA2 s = true → s ∈ signs6 := fun s h => sA3_sub s (by simp [sA3, h])
theorem sA1_sub : ∀ s, sA1 s = true → s ∈ signs6 := fun s h => sA2_sub s (by simp [sA2, h])
theorem esc2_enc (x : Str) : (esc2 x).cps.toList = enc mk6 sA2 x.cps.toList := stepE (y := x) (esc1_enc x) (by decide +kernel) (by decide +kernel) rfl (sA_mem sA1_sub (by decide) (by decide))
theorem esc3_enc (x : Str) : (esc3 x).cps.toList = enc mk6 sA3 x.cps.toList := stepE (y := x) (esc2_enc x) (by decide +kernel) (by decide +kernel) rfl (sA_mem sA2_sub (by decide) (by decide))
theorem esc4_enc (x : Str) : (esc4 x).cps.toList = enc mk6 sA4 x.cps.toList := stepE (y := x) (esc3_enc x) (by decide +kernel) (by decide +kernel) rfl (sA_mem sA3_sub (by decide) (by decide))
theorem esc5_enc (x : Str) : (esc5 x).cps.toList = enc mk6 sA5 x.cps.toList := stepE (y := x) (esc4_enc x) (by decide +kernel) (by decide +kernel) rfl (sA_mem sA4_sub (by decide) (by decide))
theorem esc6_enc (x : Str) : (esc6 x).cps.toList = enc mk6 (fun c => signs6.contains c) x.cps.toList := by
  have h := stepE (y := x) (esc5_enc x) (a := Str.ofString "\r") (b := Str.ofString "&#xD;") (c := 13) (by decide +kernel) (by decide +kernel) rfl (sA_mem sA5_sub (by decide) (by decide))
  have e : (fun d => sA5 d || d == 13) = fun c => signs6.contains c := by
    funext d
    simp only [sA5, sA4, sA3, sA2, sA1, signs6, List.contains_cons, List.contains_nil, Bool.or_false, Bool.false_or, Bool.or_assoc]
  rw [← e]; exact h
theorem len_of_enc {x : Str} {S : Nat → Bool} {l : List Nat} (h : x.cps.toList = enc mk6 S l) : x.length ≤ 6 * l.length := by
  have := congrArg List.length h
  have e : x.length = x.cps.toList.length := by simp [Str.length]
  rw [e, this]; exact enc_len S l

section
variable {prog : Program} {w : World} {A : Around} {E : Value → Shared → Prop} {s : Shared} {env : Env} {h0 : Heap} {o0 : Shared} {cs cs' : Cells}

theorem c_escA {P : Params} {txt : Str} {t : Tok} {Q : Value → Shared → Prop} (B : Base (hd.heap_39 P) h0) (H : St h0 o0 cs s) (hroom : A.depth < recursionLimit) (hlen : txt.length ≤ 400)
    (h : ∀ t' s', St h0 o0 cs s' → Q (.str (esc6 txt) t') s') : wpAny (model prog w) A (call (.ref 28) [.str txt t]) Q E s := by
  have el : txt.length = txt.cps.toList.length := by simp [Str.length]
  have l1 := len_of_enc (esc1_enc txt)
  have l2 := len_of_enc (esc2_enc txt)
  have l3 := len_of_enc (esc3_enc txt)
  have l4 := len_of_enc (esc4_enc txt)
  have l5 := len_of_enc (esc5_enc txt)
  have b1 : (Str.ofString "&amp;").length = 5 := by decide +kernel
  have b2 : (Str.ofString "&lt;").length = 4 := by decide +kernel
  have b3 : (Str.ofString "&quot;").length = 6 := by decide +kernel
  have b4 : (Str.ofString "&#x9;").length = 5 := by decide +kernel
  have b5 : (Str.ofString "&#xA;").length = 5 := by decide +kernel
  have b6 : (Str.ofString "&#xD;").length = 5 := by decide +kernel
  refine x_fn (m := [(Str.ofString "text", .str txt t)]) B H (by kernel_rfl!) hroom (by kernel_rfl!) (by kernel_rfl!) rfl fun L s1 H1 => ?_
  refine wpAny_execs_cons ?_
  refine x_try ?_ (fun _ => .inr trivial)
  refine wpAny_execs_cons ?_
  refine x_escIf H1 (by kernel_rfl!) (by kernel_rfl!) (by kernel_rfl!) (by decide +kernel) (by rw [b1]; omega) (by decide +kernel) rfl fun t1 s2 H2 => ?_
  refine wpAny_execs_cons ?_
  refine x_escIf (txt := esc1 txt) H2 (by kernel_rfl!) (by kernel_rfl!) (by kernel_rfl!) (by decide +kernel) (by rw [b2]; omega) (by decide +kernel) rfl fun t2 s3 H3 => ?_
  refine wpAny_execs_cons ?_
  refine x_escIf (txt := esc2 txt) H3 (by kernel_rfl!) (by kernel_rfl!) (by kernel_rfl!) (by decide +kernel) (by rw [b3]; omega) (by decide +kernel) rfl fun t3 s4 H4 => ?_
  refine wpAny_execs_cons ?_
  refine x_escIf (txt := esc3 txt) H4 (by kernel_rfl!) (by kernel_rfl!) (by kernel_rfl!) (by decide +kernel) (by rw [b4]; omega) (by decide +kernel) rfl fun t4 s5 H5 => ?_
  refine wpAny_execs_cons ?_
  refine x_escIf (txt := esc4 txt) H5 (by kernel_rfl!) (by kernel_rfl!) (by kernel_rfl!) (by decide +kernel) (by rw [b5]; omega) (by decide +kernel) rfl fun t5 s6 H6 => ?_
  refine wpAny_execs_cons ?_
  refine x_escIf (txt := esc5 txt) H6 (by kernel_rfl!) (by kernel_rfl!) (by kernel_rfl!) (by decide +kernel) (by rw [b6]; omega) (by decide +kernel) rfl fun t6 s7 H7 => ?_
  refine wpAny_execs_cons ?_
  refine wpAny_Return_some ?_
  refine x_name H7 .here (by kernel_rfl!) .here (by kernel_rfl!) (by kernel_rfl!) (by decide +kernel) ?_
  exact h _ _ H7.tail
end
section
variable {prog : Program} {w : World} {A : Around} {E : Value → Shared → Prop} {s : Shared} {env : Env} {h0 : Heap} {o0 : Shared} {cs cs' : Cells}

theorem pairs6_all : ∀ c ∈ signs6, ∃ q ∈ pairs6, q.1.cps.toList = mk6 c ∧ q.2.cps.toList = [c] := by decide +kernel
theorem pairs6_of : ∀ q ∈ pairs6, ∃ c ∈ signs6, q.1.cps.toList = mk6 c ∧ q.2.cps.toList = [c] := by decide +kernel
theorem ord_all {ord : List PR} (hperm : (ord.map PR.pair).Perm pairs6) : ∀ c ∈ signs6, ∃ r ∈ ord, r.mark.cps.toList = mk6 c ∧ r.sign.cps.toList = [c] := fun c hc => by
  obtain ⟨q, hq, h1, h2⟩ := pairs6_all c hc
  obtain ⟨r, hr, rfl⟩ := List.mem_map.mp (hperm.mem_iff.mpr hq)
  exact ⟨r, hr, h1, h2⟩
theorem ord_of {ord : List PR} (hperm : (ord.map PR.pair).Perm pairs6) : ∀ r ∈ ord, ∃ c ∈ signs6, r.mark.cps.toList = mk6 c ∧ r.sign.cps.toList = [c] := fun r hr => by
  obtain ⟨c, hc, h1, h2⟩ := pairs6_of r.pair (hperm.mem_iff.mp (List.mem_map_of_mem hr))
  exact ⟨c, hc, h1, h2⟩
/-- each part behind a & begins with a reference's rest -/
theorem part_ok {ord : List PR} (hperm : (ord.map PR.pair).Perm pairs6) {txt : Str} {parts : List (Str × Tok)} (hp : parts.map (·.1) = Txt.split (esc6 txt) (Str.ofString "&")) :
    ∀ p ∈ parts.drop 1, ∃ r ∈ ord, r.mark.cps.toList.isPrefixOf (38 :: p.1.cps.toList) = true := by
  intro p hpm
  have e := split_pcs (esc6 txt) (Str.ofString "&") (by decide +kernel) (by decide +kernel)
  rw [← hp, esc6_enc, show (Str.ofString "&").cps.toList = [38] from by decide +kernel] at e
  have hm : p.1.cps.toList ∈ (pcs [38] 0 (enc mk6 (fun c => signs6.contains c) txt.cps.toList)).tail := by
    rw [← e, ← List.drop_one, ← List.map_drop, ← List.map_drop]
    exact List.mem_map_of_mem (f := fun z : Str => z.cps.toList) (List.mem_map_of_mem (f := fun z : Str × Tok => z.1) hpm)
  obtain ⟨c, hc, hpre⟩ := fam6.parts txt.cps.toList _ hm
  obtain ⟨r, hr, h1, _⟩ := ord_all hperm c hc
  exact ⟨r, hr, by rw [h1, List.isPrefixOf_iff_prefix]; exact hpre⟩

/-- what is left after the first references were replaced -/
def bk (ord : List PR) (x : Str) (i : Nat) : Str := (ord.take i).foldl (fun b r => Txt.replace b r.mark r.sign) x
theorem bk_succ {ord : List PR} {x : Str} {i : Nat} {r : PR} (h : ord[i]? = some r) : bk ord x (i + 1) = Txt.replace (bk ord x i) r.mark r.sign := by
  obtain ⟨hi, e⟩ := List.getElem?_eq_some_iff.mp h
  unfold bk
  rw [List.take_succ_eq_append_getElem hi, List.foldl_append, e]; rfl
theorem len_toList (x : Str) : x.length = x.cps.toList.length := by simp [Str.length]
theorem bk_len {ord : List PR} (hperm : (ord.map PR.pair).Perm pairs6) (x : Str) : ∀ i, (bk ord x i).length ≤ x.length := by
  intro i
  have key : ∀ (l : List PR), (∀ r ∈ l, r ∈ ord) → ∀ y : Str, (l.foldl (fun b r => Txt.replace b r.mark r.sign) y).length ≤ y.length := by
    intro l
    induction l with
    | nil => intro _ y; exact Nat.le_refl _
    | cons r l ih =>
      intro hl y
      rw [List.foldl_cons]
      refine Nat.le_trans (ih (fun t ht => hl t (by simp [ht])) _) ?_
      obtain ⟨c, hc, h1, h2⟩ := ord_of hperm r (hl r (by simp))
      have hm := fam6.len hc
      rw [len_toList, len_toList y, replace_rp _ _ _ (by rw [len_toList, h1]; omega), h1, h2]
      exact rp_le (by omega) (by simp; omega) _ _ (Nat.le_refl _)
  exact key _ (fun r hr => List.mem_of_mem_take hr) x

def ampP : Str × Str := (Str.ofString "&amp;", Str.ofString "&")
def sg (r : PR) : Nat := r.sign.cps.toList.headD 0
theorem nodup_inj {α β : Type} {f : α → β} : ∀ {l : List α}, (l.map f).Nodup → ∀ x ∈ l, ∀ y ∈ l, f x = f y → x = y
  | [], _, x, hx, _, _, _ => by cases hx
  | a :: l, h, x, hx, y, hy, e => by
    rw [List.map_cons, List.nodup_cons] at h
    rcases List.mem_cons.mp hx with h1 | h1
    · rcases List.mem_cons.mp hy with h2 | h2
      · rw [h1, h2]
      · exact absurd (by rw [← h1, e]; exact List.mem_map_of_mem h2) h.1
    · rcases List.mem_cons.mp hy with h2 | h2
      · exact absurd (by rw [← h2, ← e]; exact List.mem_map_of_mem h1) h.1
      · exact nodup_inj h.2 x h1 y h2 e
theorem bk_fold {ord : List PR} (hperm : (ord.map PR.pair).Perm pairs6) : ∀ (l : List PR), (∀ r ∈ l, r ∈ ord) → ∀ y : Str, (l.foldl (fun b r => Txt.replace b r.mark r.sign) y).cps.toList = (l.map sg).foldl (unfold1 mk6) y.cps.toList := by
  intro l
  induction l with
  | nil => intro _ y; rfl
  | cons r l ih =>
    intro hl y
    rw [List.foldl_cons, List.map_cons, List.foldl_cons, ih (fun t ht => hl t (by simp [ht]))]
    obtain ⟨c, hc, h1, h2⟩ := ord_of hperm r (hl r (by simp))
    have hm := fam6.len hc
    have e : sg r = c := by unfold sg; rw [h2]; rfl
    congr 1
    rw [replace_rp _ _ _ (by rw [len_toList, h1]; omega), h1, h2, e]; rfl
theorem ord_signs {ord : List PR} (hperm : (ord.map PR.pair).Perm pairs6) : (ord.map sg).Perm signs6 := by
  have h1 : ord.map sg = (ord.map PR.pair).map (fun q => q.2.cps.toList.headD 0) := by rw [List.map_map]; rfl
  rw [h1]
  refine (hperm.map _).trans ?_
  decide +kernel
/-- the law's last row -/
theorem last_row {pre post : List PR} {rA : PR} (hperm : ((pre ++ rA :: post).map PR.pair).Perm pairs6) (hA : rA.pair = ampP) (txt : Str) :
    (bk (pre ++ rA :: post) (esc6 txt) (pre ++ rA :: post).length == txt) = decide (∀ r ∈ post, Txt.contains txt r.mark = false) := by
  have hs := ord_signs hperm
  rw [List.map_append, List.map_cons] at hs
  have e38 : sg rA = 38 := by
    have : rA.sign = Str.ofString "&" := congrArg Prod.snd hA
    unfold sg; rw [this]; decide +kernel
  rw [e38] at hs
  have hb : (bk (pre ++ rA :: post) (esc6 txt) (pre ++ rA :: post).length).cps.toList = (post.map sg).foldl (unfold1 mk6) txt.cps.toList := by
    unfold bk
    rw [List.take_length, bk_fold hperm _ (fun r h => h), List.map_append, List.map_cons, e38, esc6_enc, fam6.back (by decide) hs]
  have hG : ∀ s ∈ post.map sg, s ∈ signs6 := fun s h => hs.mem_iff.mp (by simp [h])
  have hiff := fam6.folds_iff (post.map sg) txt.cps.toList hG
  rw [Bool.eq_iff_iff, beq_iff_eq, decide_eq_true_eq]
  have hx : (bk (pre ++ rA :: post) (esc6 txt) (pre ++ rA :: post).length = txt) ↔ ((post.map sg).foldl (unfold1 mk6) txt.cps.toList = txt.cps.toList) := by
    rw [← hb]
    constructor
    · intro h; rw [h]
    · intro h; exact Str.ext' (Array.toList_inj.mp h)
  rw [hx, hiff]
  constructor
  · intro q r hr
    obtain ⟨c, hc, h1, h2⟩ := ord_of hperm r (by simp [hr])
    have e : sg r = c := by unfold sg; rw [h2]; rfl
    have := q (sg r) (List.mem_map_of_mem hr)
    rw [e] at this
    rw [← Bool.not_eq_true, contains_iff _ _ (by rw [len_toList, h1]; have := fam6.len hc; omega), h1]
    exact this
  · intro q s hs'
    obtain ⟨r, hr, rfl⟩ := List.mem_map.mp hs'
    obtain ⟨c, hc, h1, h2⟩ := ord_of hperm r (by simp [hr])
    have e : sg r = c := by unfold sg; rw [h2]; rfl
    have := q r hr
    rw [← Bool.not_eq_true, contains_iff _ _ (by rw [len_toList, h1]; have := fam6.len hc; omega), h1] at this
    rw [e]; exact this

theorem c_law {P : Params} {l : Addr} {ns : List (Int × Tok)} {Q : Value → Shared → Prop} (B : Base (hd.heap_39 P) h0) (H : St0 h0 o0 [] s) (hl : h0.IsList l (ns.map fun p => Value.int p.1 p.2).toArray) (hns : ns.length ≤ 63)
    (hroom : A.depth + 5 < recursionLimit) (hu : A.units + 50 < cLine) (hh : A.handled = none)
    (h : ∀ cs s', St h0 o0 cs s' → Q (.bool true) s') : wpAny (model prog w) A (call (.ref 47) [.ref l]) Q E s := by
  have bSum : BltAt h0 (Str.ofString "sum") (.builtin "sum") := B.bltAt (by kernel_rfl!) (by kernel_rfl!) (by decide +kernel) (by decide +kernel)
  have gOrd : GlobAt h0 (Str.ofString "_law_order") (.ref 35) := B.glob (by kernel_rfl!) (by kernel_rfl!)
  have gTxt : GlobAt h0 (Str.ofString "_law_text") (.ref 42) := B.glob (by kernel_rfl!) (by kernel_rfl!)
  have gEsc : GlobAt h0 (Str.ofString "_escape_attrib_c14n") (.ref 28) := B.glob (by kernel_rfl!) (by kernel_rfl!)
  have hh' : ∀ env, (A.deeper env).handled = none := fun _ => hh
  refine x_fnC (x := Str.ofString "script") B H (by kernel_rfl!) (by omega) (by kernel_rfl!) (by kernel_rfl!) fun L r0 R0 => ?_
  replace R0 : St h0 o0 [(L, cNs [(Str.ofString "script", .ref l)]), (L + 1 + 1, cCell none), (L + 1, cCell none)] r0 := R0
  refine wpAny_execs_cons ?_
  refine wpAny_Assign_Name ?_
  refine Call_ ?_
  with_reducible refine x_glob (by assumption) gOrd (by kernel_rfl!) (by kernel_rfl!) (by kernel_rfl!) (by decide +kernel) ?_
  refine x_callF B (by kernel_rfl!) ?_
  refine args_cons ?_
  refine Call_ ?_
  with_reducible refine x_blt (by assumption) bSum (by kernel_rfl!) (by kernel_rfl!) (by kernel_rfl!) (by kernel_rfl!) (by decide +kernel) ?_
  refine PyProof.Rows.callWith_builtin1 ?_
  refine args_cons ?_
  refine x_slice (h0 := h0) (o0 := o0) ?_
  walk_at "nm"
  refine wpAny_pure ?_
  show wpAny _ _ (eval _ _) _ _ _
  walk_at "int"
  rename_i t1 s1 H1 _
  have hlk : ∀ {cs s}, St h0 o0 cs s → s.heap.IsList l (ns.map fun p => Value.int p.1 p.2).toArray := fun {cs s} H => by
    obtain ⟨o, ho, r⟩ := hl
    exact ⟨o, H.keep _ _ ho, r⟩
  have hz : (ns.map fun p => Value.int p.1 p.2).toArray.size ≤ sizeLine := by rw [List.size_toArray, List.length_map, sizeLine_eq]; omega
  refine ⟨l, _, none, some 1, _, (ns.take 1).map (fun p => Value.int p.1 p.2), rfl, H1, hlk H1, hz, .none, .int 1 _, (slicePick_upto' _ 1).trans (by simp [List.map_take]), ?_⟩
  intro a1 s2 H2
  refine args_nil ?_
  with_reducible refine x_sum (by assumption) (hh' _) (by walk_at "mhas") ?_
  intro t2 s3 H3
  refine args_nil ⟨⟨_, _, H3⟩, ?_⟩
  refine c_order B H3 (by show A.depth + 1 < recursionLimit; omega) (by show A.units + 3 + 10 < cLine; omega) fun lo ord s4 hperm hok H4 => ?_
  walk_at "sto"
  refine wpAny_execs_cons ?_
  refine wpAny_Assign_Name ?_
  refine Call_ ?_
  with_reducible refine x_glob (by assumption) gTxt (by kernel_rfl!) (by kernel_rfl!) (by kernel_rfl!) (by decide +kernel) ?_
  refine x_callF B (by kernel_rfl!) ?_
  refine args_cons ?_
  refine x_slice (h0 := h0) (o0 := o0) ?_
  walk_at "nm"
  show wpAny _ _ (eval _ _) _ _ _
  walk_at "int"
  refine wpAny_pure ?_
  rename_i t5 s5 H5 _
  refine ⟨l, _, some 1, none, _, (ns.drop 1).map (fun p => Value.int p.1 p.2), rfl, H5, hlk H5, hz, .int 1 _, .none, (slicePick_from' _ 1).trans (by simp [List.map_drop]), ?_⟩
  intro a2 s6 H6
  refine args_nil ⟨⟨_, _, H6⟩, ?_⟩
  refine c_text B H6 .here (by rw [List.length_drop]; omega) (by show A.depth + 1 < recursionLimit; omega) (hh' _) fun txt t7 s7 hlen H7 => ?_
  with_reducible refine x_stcell (c := L + 1) (by assumption) (by walk_at "mput") (by kernel_rfl!) (by kernel_rfl!) (by kernel_rfl!) fun s8 H8 => ?_
  have htl : txt.length ≤ 378 := by rw [List.length_drop] at hlen; omega
  refine wpAny_execs_cons ?_
  refine wpAny_Assign_Name ?_
  refine Call_ ?_
  with_reducible refine x_glob (by assumption) gEsc (by kernel_rfl!) (by kernel_rfl!) (by kernel_rfl!) (by decide +kernel) ?_
  refine x_callF B (by kernel_rfl!) ?_
  refine args_cons ?_
  with_reducible refine x_cell (c := L + 1) (by assumption) (by walk_at "mhas") (by kernel_rfl!) (by kernel_rfl!) (by kernel_rfl!) (by decide +kernel) ?_
  refine args_nil ⟨⟨_, _, H8⟩, ?_⟩
  refine c_escA B H8 (by show A.depth + 1 < recursionLimit; omega) (by omega) fun t9 s9 H9 => ?_
  walk_at "sto"
  rename_i s10 H10
  have etl : (esc6 txt).length ≤ 2268 := by
    have := len_of_enc (esc6_enc txt)
    have e : txt.length = txt.cps.toList.length := by simp [Str.length]
    omega
  have H11 := ((((H10.pick (a := a2) (by walk_at "mpick")).tail.pick (a := a1) (by walk_at "mpick")).tail.pick (a := lo) (by walk_at "mpick")).pick (a := L) (by walk_at "mpick")).pick (a := L + 1 + 1) (by walk_at "mpick")
  refine wpAny_execs_cons ?_
  refine x_for_list (h0 := h0) (o0 := o0) (hh' _) ?_ (fun _ => rfl)
  refine x_slice (h0 := h0) (o0 := o0) ?_
  refine MethodCall_ ?_
  walk_at "nm"
  with_reducible refine GM.split ?_
  refine callWith_method1 ?_
  refine args_cons ?_
  walk_at "str"
  rename_i s12 H12 _
  refine args_nil ?_
  refine x_split1 H12 (by decide +kernel) (by rw [sizeLine_eq]; omega) fun a3 parts s13 hparts H13 => ?_
  show wpAny _ _ (eval _ _) _ _ _
  walk_at "int"
  rename_i t14 s14 H14 _
  refine wpAny_pure ?_
  have hwt := split_weight (esc6 txt) (Str.ofString "&") (by decide +kernel)
  rw [← hparts] at hwt
  have hpl : (strValues parts).toArray.size ≤ sizeLine := by
    rw [List.size_toArray, sizeLine_eq]
    unfold strValues
    simp only [List.length_map] at hwt ⊢
    omega
  have hpw : ∀ p ∈ parts, p.1.length ≤ 2269 := by
    intro p hp
    have h1 : p.1.length ∈ (parts.map (·.1)).map (·.length) := List.mem_map_of_mem (f := Str.length) (List.mem_map_of_mem (f := fun z : Str × Tok => z.1) hp)
    have h2 : ∀ (l : List Nat) (a : Nat), a ∈ l → a ≤ l.sum := by
      intro l
      induction l with
      | nil => intro a ha; cases ha
      | cons b l ih =>
        intro a ha
        rw [List.sum_cons]
        rcases List.mem_cons.mp ha with rfl | ha
        · omega
        · have := ih a ha; omega
    have := h2 _ _ h1
    omega
  refine ⟨a3, _, some 1, none, _, (strValues parts).drop 1, rfl, H14, list_of H14 .here, hpl, .int 1 _, .none, (slicePick_from' _ 1).trans (by simp), ?_⟩
  intro a4 s15 H15
  have H16 := ((((H15.pick (a := a3) (by walk_at "mpick")).tail.pick (a := lo) (by walk_at "mpick")).pick (a := L) (by walk_at "mpick")).pick (a := L + 1 + 1) (by walk_at "mpick"))
  have hpart := part_ok hperm hparts
  refine ⟨a4, (strValues parts).drop 1, (L + 1 + 1, cCell none) :: (L, cNs [(Str.ofString "script", .ref l), (Str.ofString "order", .ref lo), (Str.ofString "told", .str (esc6 txt) t9)]) :: (lo, cList (ord.map PR.ref)) :: (a4, cList ((strValues parts).drop 1)) :: ord.map PR.cell,
    [(L + 1, cCell (some (.str txt t7)))], (fun i C => ∃ pv, C = (L + 1 + 1, cCell pv) :: (L, cNs [(Str.ofString "script", .ref l), (Str.ofString "order", .ref lo), (Str.ofString "told", .str (esc6 txt) t9)]) :: (lo, cList (ord.map PR.ref)) :: (a4, cList ((strValues parts).drop 1)) :: ord.map PR.cell),
    rfl, ⟨none, rfl⟩, H16, ?_, ?_, ?_⟩
  · rintro i C ⟨pv, rfl⟩
    exact .there (.there (.there .here))
  · rintro i v C K' s hv ⟨pv, rfl⟩ hK H
    simp only [List.cons_append] at H
    obtain ⟨p, hpm, rfl⟩ : ∃ p ∈ parts.drop 1, v = .str p.1 p.2 := by
      have := List.mem_of_getElem? hv
      unfold strValues at this
      rw [← List.map_drop] at this
      obtain ⟨p, h1, h2⟩ := List.mem_map.mp this
      exact ⟨p, h1, h2.symm⟩
    refine wpAny_assign_Name ?_
    with_reducible refine x_stcell (c := L + 1 + 1) (by assumption) (by walk_at "mput") (by kernel_rfl!) (by kernel_rfl!) (by kernel_rfl!) fun s17 H17 => ?_
    refine wpAny_execs_cons ?_
    refine wpAny_If ?_
    refine wpAny_isTrue_Compare1 ?_
    refine x_comp_list (h0 := h0) (o0 := o0) (cl := [(Str.ofString "part", L + 1 + 1)]) (hh' _) (by kernel_rfl!) (by decide) rfl (by decide +kernel) ?_ (fun _ => rfl)
    walk_at "nm"
    refine ⟨lo, ord.map PR.ref, ((L + 1 + 1, cCell (some (.str p.1 p.2))) :: (L, cNs [(Str.ofString "script", .ref l), (Str.ofString "order", .ref lo), (Str.ofString "told", .str (esc6 txt) t9)]) :: (lo, cList (ord.map PR.ref)) :: (a4, cList ((strValues parts).drop 1)) :: ord.map PR.cell), K', (fun i ys C => C = ((L + 1 + 1, cCell (some (.str p.1 p.2))) :: (L, cNs [(Str.ofString "script", .ref l), (Str.ofString "order", .ref lo), (Str.ofString "told", .str (esc6 txt) t9)]) :: (lo, cList (ord.map PR.ref)) :: (a4, cList ((strValues parts).drop 1)) :: ord.map PR.cell) ∧ ((∃ r ∈ ord.take i, r.mark.cps.toList.isPrefixOf (38 :: p.1.cps.toList) = true) → ys ≠ [])), rfl, ⟨rfl, by rintro ⟨r, hr, _⟩; simp at hr⟩, ?_, H17, ?_, ?_, ?_⟩
    · rw [List.length_map, sizeLine_eq]
      have := hperm.length_eq
      simp [pairs6] at this; omega
    · rintro i ys C ⟨rfl, _⟩
      exact .there (.there .here)
    · rintro Lc i v ys C K2 s hv ⟨rfl, hys⟩ H
      simp only [List.cons_append] at H
      obtain ⟨r, hr, rfl⟩ : ∃ r, ord[i]? = some r ∧ v = r.ref := by
        rw [List.getElem?_map] at hv
        cases e : ord[i]? with
        | none => rw [e] at hv; cases hv
        | some r => rw [e] at hv; exact ⟨r, rfl, (Option.some.inj hv).symm⟩
      have hrm : r ∈ ord := List.mem_of_getElem? hr
      refine x_unpack2 (u := .str r.mark r.tm) (v := .str r.sign r.ts) (hh' _) H (.there (.there (.there (.there (.there (Has.app (Has.of_mem (List.mem_map_of_mem hrm)))))))) fun s18 H18 => ?_
      walk_at "sto"
      walk_at "sto"
      refine x_tests1 ?_
      refine wpAny_isTrue_value ?_
      refine MethodCall_ ?_
      refine wpAny_BinOp ?_
      walk_at "str"
      with_reducible refine x_cell (c := L + 1 + 1) (by assumption) (by walk_at "mhas") (by kernel_rfl!) (by kernel_rfl!) (by kernel_rfl!) (by decide +kernel) ?_
      with_reducible refine x_adds (by assumption) ?_ ?_
      · have := hpw p (List.mem_of_mem_drop hpm)
        have e1 : (Str.ofString "&").length = 1 := by decide +kernel
        rw [sizeLine_eq, e1]; omega
      intro t19 s19 H19
      with_reducible refine GM.startswith ?_
      refine callWith_method1 ?_
      refine args_cons ?_
      walk_at "nm"
      refine args_nil ?_
      refine SC.startswith ?_
      refine wpAny_truthy_bool ?_
      rw [starts_iff]
      have e38 : (Str.ofString "&" ++ p.1).cps.toList = 38 :: p.1.cps.toList := by
        rw [Str.cps_append, Array.toList_append, show (Str.ofString "&").cps.toList = [38] from by decide +kernel]; rfl
      rw [e38]
      have htake : ord.take (i + 1) = ord.take i ++ [r] := by
        obtain ⟨hi, e⟩ := List.getElem?_eq_some_iff.mp hr
        rw [List.take_succ_eq_append_getElem hi, e]
      split
      · walk_at "nm"
        exact ⟨_, _, ⟨rfl, fun _ q => by simp at q⟩, H19⟩
      · rename_i hno
        refine ⟨_, _, ⟨rfl, ?_⟩, H19⟩
        rintro ⟨r', hr', hp'⟩
        rw [htake] at hr'
        rcases List.mem_append.mp hr' with h1 | h1
        · exact hys ⟨r', h1, hp'⟩
        · rw [List.mem_singleton.mp h1] at hp'; exact absurd hp' hno
    · rintro D ys C s ⟨rfl, hys⟩ H
      have hne : ys ≠ [] := by
        obtain ⟨r, hr, hp⟩ := hpart p hpm
        exact hys ⟨r, by rw [List.length_map, List.take_length]; exact hr, hp⟩
      refine List_ ?_
      refine args_nil ?_
      with_reducible refine x_newList (by assumption) (Nat.le_of_ble_eq_true (by kernel_rfl!)) fun z s21 H21 k21 => ?_
      with_reducible refine x_eqNil (by assumption) (by walk_at "mhas") (by walk_at "mhas") ?_ ?_
      · show A.units + 3 < cLine; omega
      refine wpAny_truthy_bool ?_
      rw [show ys.isEmpty = false from by cases ys with | nil => exact absurd rfl hne | cons _ _ => rfl]
      simp only [Bool.false_eq_true, if_false]
      refine wpAny_execs_nil ?_
      refine wpAny_execs_nil ?_
      exact ⟨_, ⟨_, rfl⟩, H21.tail.tail⟩
  · rintro C s ⟨pv, rfl⟩ H
    simp only [List.cons_append] at H
    have H22 := ((((H.pick (a := a4) (by walk_at "mpick")).tail.pick (a := lo) (by walk_at "mpick")).pick (a := L) (by walk_at "mpick")).pick (a := L + 1) (by walk_at "mpick")).pick (a := L + 1 + 1) (by walk_at "mpick") |>.tail
    clear H
    refine wpAny_execs_cons ?_
    refine wpAny_If ?_
    refine wpAny_isTrue_Compare1 ?_
    refine x_comp_str (h0 := h0) (o0 := o0) (cl := []) (hh' _) (by kernel_rfl!) (by decide) rfl (by decide +kernel) ?_ (fun _ => rfl)
    walk_at "nm"
    refine ⟨esc6 txt, t9, ((L + 1, cCell (some (.str txt t7))) :: (L, cNs [(Str.ofString "script", .ref l), (Str.ofString "order", .ref lo), (Str.ofString "told", .str (esc6 txt) t9)]) :: (lo, cList (ord.map PR.ref)) :: ord.map PR.cell), [], (fun i ys C => ys = [] ∧ C = ((L + 1, cCell (some (.str txt t7))) :: (L, cNs [(Str.ofString "script", .ref l), (Str.ofString "order", .ref lo), (Str.ofString "told", .str (esc6 txt) t9)]) :: (lo, cList (ord.map PR.ref)) :: ord.map PR.cell)), rfl, ⟨rfl, rfl⟩, by rw [sizeLine_eq]; omega, by simpa using H22, ?_, ?_⟩
    · rintro Lc i c u ys C K2 s hc ⟨rfl, rfl⟩ H
      simp only [List.cons_append] at H
      have hcm : c ∈ (esc6 txt).cps.toList := List.mem_of_getElem? hc
      rw [esc6_enc] at hcm
      have hb := fam6.bare txt.cps.toList c hcm
      refine wpAny_assign_Name ?_
      walk_at "sto"
      refine x_tests1 ?_
      refine wpAny_isTrue_Compare1 ?_
      walk_at "nm"
      walk_at "str"
      rename_i s23 H23 _
      refine SB.contains ?_
      refine wpAny_truthy_bool ?_
      have hn : Txt.contains (Str.ofString "<\"\t\n\r") ⟨#[c]⟩ = false := by
        unfold Txt.contains
        rw [StrLaws.found_one, decide_eq_false_iff_not, show (Str.ofString "<\"\t\n\r").cps.toList = [60, 34, 9, 10, 13] from by decide +kernel]
        intro hm
        have h1 : c ∈ signs6 := by
          simp only [signs6, List.mem_cons, List.not_mem_nil, or_false] at hm ⊢
          omega
        have h2 := hb h1
        subst h2
        simp at hm
      rw [hn, if_neg Bool.false_ne_true]
      exact ⟨_, _, ⟨rfl, rfl⟩, H23⟩
    · rintro D ys C s ⟨rfl, rfl⟩ H
      refine List_ ?_
      refine args_nil ?_
      with_reducible refine x_newList (by assumption) (Nat.le_of_ble_eq_true (by kernel_rfl!)) fun z s24 H24 k24 => ?_
      with_reducible refine x_neNil (by assumption) (by walk_at "mhas") (by walk_at "mhas") ?_ ?_
      · show A.units + 3 < cLine; omega
      refine wpAny_truthy_bool ?_
      simp only [List.isEmpty_nil, Bool.not_true, Bool.false_eq_true, if_false]
      refine wpAny_execs_nil ?_
      have H25 := H24.tail.tail
      simp only [List.append_nil] at H25
      clear H24 H
      refine wpAny_execs_cons ?_
      refine wpAny_Assign_Name ?_
      walk_at "nm"
      walk_at "sto"
      rename_i s26 H26
      refine wpAny_execs_cons ?_
      refine x_for_list (h0 := h0) (o0 := o0) (hh' _) ?_ (fun _ => rfl)
      walk_at "nm"
      refine ⟨lo, ord.map PR.ref, ((L + 1, cCell (some (.str txt t7))) :: (L, cNs [(Str.ofString "script", .ref l), (Str.ofString "order", .ref lo), (Str.ofString "told", .str (esc6 txt) t9), (Str.ofString "back", .str (esc6 txt) t9)]) :: (lo, cList (ord.map PR.ref)) :: ord.map PR.cell), [], (fun i C => ∃ t, C = ((L + 1, cCell (some (.str txt t7))) :: (L, cNs [(Str.ofString "script", .ref l), (Str.ofString "order", .ref lo), (Str.ofString "told", .str (esc6 txt) t9), (Str.ofString "back", .str (bk ord (esc6 txt) i) t)]) :: (lo, cList (ord.map PR.ref)) :: ord.map PR.cell)), rfl, ⟨t9, rfl⟩, by simpa using H26, ?_, ?_, ?_⟩
      · rintro i C ⟨t, rfl⟩
        exact .there (.there .here)
      · rintro i v C K' s hv ⟨t, rfl⟩ hK H
        simp only [List.cons_append] at H
        obtain ⟨r, hr, rfl⟩ : ∃ r, ord[i]? = some r ∧ v = r.ref := by
          rw [List.getElem?_map] at hv
          cases e : ord[i]? with
          | none => rw [e] at hv; cases hv
          | some r => rw [e] at hv; exact ⟨r, rfl, (Option.some.inj hv).symm⟩
        have hrm : r ∈ ord := List.mem_of_getElem? hr
        refine x_unpack2 (u := .str r.mark r.tm) (v := .str r.sign r.ts) (hh' _) H (.there (.there (.there (Has.app (Has.of_mem (List.mem_map_of_mem hrm)))))) fun s18 H18 => ?_
        walk_at "sto"
        walk_at "sto"
        refine wpAny_execs_cons ?_
        refine wpAny_Assign_Name ?_
        refine MethodCall_ ?_
        walk_at "nm"
        with_reducible refine GM.replace ?_
        refine callWith_method1 ?_
        refine args_cons ?_
        walk_at "nm"
        refine args_cons ?_
        walk_at "nm"
        rename_i s27 H27
        refine args_nil ?_
        obtain ⟨k1, k2, k3⟩ := hok r hrm
        obtain ⟨c, hc, m1, m2⟩ := ord_of hperm r hrm
        have hbl := bk_len hperm (esc6 txt) i
        have hsl : r.sign.length = 1 := by rw [len_toList, m2]; rfl
        refine x_replace H27 k1 k2 k3 ?_ (by rw [hsl]; omega) fun t28 s28 H28 => ?_
        · have := fam6.len hc
          cases e : (r.mark == r.sign) with
          | false => rfl
          | true =>
            have e' := eq_of_beq e
            rw [e', m2] at m1
            have := congrArg List.length m1
            simp at this; omega
        walk_at "sto"
        rename_i s29 H29
        refine wpAny_execs_nil ?_
        refine ⟨_, ⟨t28, rfl⟩, ?_⟩
        rw [bk_succ hr]
        exact H29.weak (.there .here) (fun _ ho => ho.sub (by walk_at "mnssub"))
      · rintro C s ⟨t, rfl⟩ H
        rw [List.append_nil, List.length_map] at H
        refine wpAny_execs_cons ?_
        have hnd : (ord.map PR.a).Nodup := by
          have := H.nodup
          simp only [List.map_cons, List.map_map] at this
          exact ((List.nodup_cons.mp (List.nodup_cons.mp (List.nodup_cons.mp this).2).2).2)
        obtain ⟨rA, hrA, hA⟩ : ∃ r ∈ ord, r.pair = ampP := List.mem_map.mp (hperm.mem_iff.mpr (by decide +kernel : ampP ∈ pairs6))
        have hpn : (ord.map PR.pair).Nodup := hperm.nodup_iff.mpr (by decide +kernel)
        obtain ⟨pre, post, hsplit⟩ := List.append_of_mem hrA
        have hlen6 : ord.length = 6 := by have := hperm.length_eq; simpa [pairs6] using this
        have hother : ∀ r ∈ ord, r.pair = ampP → r = rA := fun r hr e => nodup_inj hpn r hr rA hrA (e.trans hA.symm)
        refine x_assign_comp (h0 := h0) (o0 := o0) (cl := []) (by kernel_rfl!) (by kernel_rfl!) (by decide) rfl (by decide +kernel) ?_ (fun _ => rfl)
        refine x_slice (h0 := h0) (o0 := o0) ?_
        walk_at "nm"
        show wpAny _ _ (eval _ _) _ _ _
        refine MethodCall_ ?_
        walk_at "nm"
        with_reducible refine x_lmeth PySem.F.slot_list_index PySem.F.type_list_index (by assumption) (by walk_at "mhas") ?_
        refine callWith_method1 ?_
        refine args_cons ?_
        walk_at "pair0"
        rename_i u1 U1 e1 v1 V1 f1 tu w1 W1 g1
        refine args_nil ?_
        show wpAny _ _ (call (Value.builtin "list.index") [Value.ref lo, Value.ref tu]) _ _ _
        refine x_index (j := pre.length) W1 (.there (.there (.there .here))) (fun v => decide (∃ r ∈ ord, r.ref = v ∧ r.pair = ampP)) ?_ (by rw [List.length_map, hsplit]; simp) (by rw [List.length_map, sizeLine_eq]; omega) ?_ ?_ fun t30 s30 H30 => ?_
        · intro y hy
          obtain ⟨r, hr, rfl⟩ := List.mem_map.mp hy
          have hT : Has ((tu, cTup [Value.str (Str.ofString "&amp;") s.toks, Value.str (Str.ofString "&") u1.toks]) :: (L + 1, cCell (some (Value.str txt t7))) :: (L, cNs [(Str.ofString "script", .ref l), (Str.ofString "order", .ref lo), (Str.ofString "told", .str (esc6 txt) t9), (Str.ofString "back", .str (bk ord (esc6 txt) ord.length) t)]) :: (lo, cList (ord.map PR.ref)) :: ord.map PR.cell) r.a (cTup [.str r.mark r.tm, .str r.sign r.ts]) :=
            .there (.there (.there (.there (Has.of_mem (List.mem_map_of_mem hr)))))
          have hne : r.a ≠ tu := Ne.symm (W1.ne Pick.here (.there (.there (.there (Has.of_mem (List.mem_map_of_mem hr))))))
          have hval : decide (∃ r' ∈ ord, r'.ref = r.ref ∧ r'.pair = ampP) = ((List.range (min 2 2)).all (fun j => if j = 0 then r.mark == Str.ofString "&amp;" else r.sign == Str.ofString "&") && (2 == 2)) := by
            have h2 : ((List.range (min 2 2)).all (fun j => if j = 0 then r.mark == Str.ofString "&amp;" else r.sign == Str.ofString "&") && (2 == 2)) = (r.mark == Str.ofString "&amp;" && r.sign == Str.ofString "&") := by
              simp [List.range_succ]
            rw [h2, Bool.eq_iff_iff, decide_eq_true_eq, Bool.and_eq_true, beq_iff_eq, beq_iff_eq]
            constructor
            · rintro ⟨r', hr', e1, e2⟩
              have e3 : r' = r := nodup_inj hnd r' hr' r hr (Value.ref.inj e1)
              subst e3
              exact ⟨congrArg Prod.fst e2, congrArg Prod.snd e2⟩
            · rintro ⟨e1, e2⟩
              exact ⟨r, hr, rfl, Prod.ext e1 e2⟩
          rw [hval]
          refine SeqAt.EqAt.of_refs hne (SeqAt.RcAt.tuples (tup_of W1 hT) (tup_of W1 .here) (by show A.units + 3 + 1 < cLine; omega) ?_)
          intro j h1 h2
          have hj : j = 0 ∨ j = 1 := by simp at h1; omega
          rcases hj with rfl | rfl
          · exact SeqAt.EqAt.str_str _ _ _ _
          · exact SeqAt.EqAt.str_str _ _ _ _
        · simp only [decide_eq_true_eq]
          refine ⟨rA, hrA, ?_, hA⟩
          simp [hsplit]
        · intro m hm hlt
          simp only [decide_eq_false_iff_not]
          rintro ⟨r, hr, e1, e2⟩
          have e3 := hother r hr e2
          subst e3
          have hlt' : m < ord.length := by simpa using hm
          have hm2 : ord[m] ∈ pre := by
            have : ord[m] = pre[m] := by simp [hsplit, List.getElem_append_left hlt]
            rw [this]; exact List.getElem_mem hlt
          rw [List.getElem_map] at e1
          have e4 := nodup_inj hnd r hr ord[m] (List.getElem_mem hlt') (Value.ref.inj e1)
          rw [hsplit, List.map_append, List.map_cons, List.nodup_append] at hnd
          exact hnd.2.2 r.a (List.mem_map_of_mem (e4 ▸ hm2)) r.a (by simp) rfl
        · refine wpAny_pure ?_
          refine ⟨lo, _, some (pre.length : Int), none, _, (rA :: post).map PR.ref, rfl, H30, list_of H30 (.there (.there (.there .here))), by rw [List.size_toArray, List.length_map, sizeLine_eq]; omega, .int _ _, .none, (slicePick_from' _ pre.length).trans (by rw [hsplit]; simp), ?_⟩
          intro a5 s31 H31
          refine wpAny_pyIter_list (list_of H31 .here) ?_
          have H32 := H31.push (k := s31.toks) (o := { cls := .type "list_iterator", data := .fields #[.ref a5, .int 0 0] }) (c := cLIter a5 0) ⟨rfl, rfl⟩ H31.tok
          have H33 := (((((H32.pick (a := tu) (by walk_at "mpick")).tail.pick (a := lo) (by walk_at "mpick")).tail.pick (a := a5) (by walk_at "mpick")).pick (a := L) (by walk_at "mpick")).pick (a := L + 1) (by walk_at "mpick")).pick (a := s31.heap.objs.size) (by walk_at "mpick")
          have hpm : ∀ r ∈ post, r ∈ ord := fun r hr => by rw [hsplit]; simp [hr]
          have hpne : ∀ r ∈ post, r.mark ≠ Str.ofString "&amp;" := by
            intro r hr e
            have h1 : (ord.map PR.mark).Nodup := by
              have h2 : ord.map PR.mark = (ord.map PR.pair).map Prod.fst := by rw [List.map_map]; rfl
              rw [h2]
              exact (hperm.map Prod.fst).nodup_iff.mpr (by decide +kernel)
            rw [hsplit, List.map_append, List.map_cons, List.nodup_append, List.nodup_cons] at h1
            have h3 : rA.mark = Str.ofString "&amp;" := congrArg Prod.fst hA
            exact h1.2.1.1 (by rw [h3, ← e]; exact List.mem_map_of_mem hr)
          refine ⟨_, _, _, _, ((L + 1, cCell (some (.str txt t7))) :: (L, cNs [(Str.ofString "script", .ref l), (Str.ofString "order", .ref lo), (Str.ofString "told", .str (esc6 txt) t9), (Str.ofString "back", .str (bk ord (esc6 txt) ord.length) t)]) :: (a5, cList ((rA :: post).map PR.ref)) :: ord.map PR.cell), [], (fun i ys C => C = ((L + 1, cCell (some (.str txt t7))) :: (L, cNs [(Str.ofString "script", .ref l), (Str.ofString "order", .ref lo), (Str.ofString "told", .str (esc6 txt) t9), (Str.ofString "back", .str (bk ord (esc6 txt) ord.length) t)]) :: (a5, cList ((rA :: post).map PR.ref)) :: ord.map PR.cell) ∧ ys = (post.take (i - 1)).map (fun r => Value.str r.mark r.tm)), steps_list (l := a5) (xs := (rA :: post).map PR.ref) (hh' _), ⟨rfl, rfl⟩, ?_, by simpa using H33, ?_, ?_, ?_⟩
          · rw [List.length_map, sizeLine_eq]
            have := congrArg List.length hsplit
            simp at this ⊢; omega
          · rintro i ys C ⟨rfl, _⟩
            exact .there (.there .here)
          · rintro Lc i v ys C K2 s hi hv ⟨rfl, rfl⟩ H
            simp only [List.cons_append] at H
            obtain ⟨r, hr, rfl⟩ : ∃ r, (rA :: post)[i]? = some r ∧ v = r.ref := by
              rw [List.getElem?_map] at hv
              cases e : (rA :: post)[i]? with
              | none => rw [e] at hv; cases hv
              | some r => rw [e] at hv; exact ⟨r, rfl, (Option.some.inj hv).symm⟩
            have hrm : r ∈ ord := by
              have := List.mem_of_getElem? hr
              rw [hsplit]; simp only [List.mem_append]; exact .inr this
            refine x_unpack2 (u := .str r.mark r.tm) (v := .str r.sign r.ts) (hh' _) H (.there (.there (.there (.there (Has.app (Has.of_mem (List.mem_map_of_mem hrm))))))) fun s34 H34 => ?_
            walk_at "sto"
            walk_at "sto"
            refine x_tests1 ?_
            refine wpAny_isTrue_Compare1 ?_
            walk_at "nm"
            walk_at "str"
            rename_i s35 H35 _
            refine x_nestr ?_
            refine wpAny_truthy_bool ?_
            cases i with
            | zero =>
              have e1 : r = rA := by simpa using hr.symm
              have e2 : r.mark = Str.ofString "&amp;" := by rw [e1]; exact congrArg Prod.fst hA
              have e3 : (r.mark != Str.ofString "&amp;") = false := by rw [e2]; simp
              rw [e3, if_neg Bool.false_ne_true]
              exact ⟨_, _, ⟨rfl, rfl⟩, H35⟩
            | succ i =>
              have hr' : post[i]? = some r := by simpa using hr
              have e3 : (r.mark != Str.ofString "&amp;") = true := by simpa using hpne r (List.mem_of_getElem? hr')
              rw [e3, if_pos rfl]
              walk_at "nm"
              refine ⟨_, _, ⟨rfl, ?_⟩, H35⟩
              obtain ⟨hi', e⟩ := List.getElem?_eq_some_iff.mp hr'
              simp only [Nat.add_sub_cancel]
              rw [List.take_succ_eq_append_getElem hi', List.map_append, e]; rfl
          · rintro Lc D ys C s ⟨rfl, hys⟩ H
            have hys' : ys = post.map (fun r => Value.str r.mark r.tm) := by
              rw [hys, List.length_map]; simp
            subst hys'
            simp only [List.cons_append] at H
            walk_at "sto"
            rename_i s36 H36
            refine ⟨_, H36.pick (a := Lc) (by walk_at "mpick"), fun s37 H37 => ?_⟩
            refine wpAny_execs_cons ?_
            refine wpAny_Return_some ?_
            refine wpAny_Compare1 ?_
            refine wpAny_Compare1 ?_
            walk_at "nm"
            with_reducible refine x_cell (c := L + 1) (by assumption) (by walk_at "mhas") (by kernel_rfl!) (by kernel_rfl!) (by kernel_rfl!) (by decide +kernel) ?_
            refine x_eqstr ?_
            refine wpAny_Compare1 ?_
            refine x_comp_list (h0 := h0) (o0 := o0) (cl := [(Str.ofString "text", L + 1)]) (hh' _) (by kernel_rfl!) (by decide) rfl (by decide +kernel) ?_ (fun _ => rfl)
            walk_at "nm"
            refine ⟨D, post.map (fun r => Value.str r.mark r.tm), ((D, cList (post.map (fun r => Value.str r.mark r.tm))) :: (L + 1, cCell (some (.str txt t7))) :: (L, cNs [(Str.ofString "script", .ref l), (Str.ofString "order", .ref lo), (Str.ofString "told", .str (esc6 txt) t9), (Str.ofString "back", .str (bk ord (esc6 txt) ord.length) t), (Str.ofString "behind", .ref D)]) :: (a5, cList ((rA :: post).map PR.ref)) :: (ord.map PR.cell ++ [])), [], (fun i ys C => C = ((D, cList (post.map (fun r => Value.str r.mark r.tm))) :: (L + 1, cCell (some (.str txt t7))) :: (L, cNs [(Str.ofString "script", .ref l), (Str.ofString "order", .ref lo), (Str.ofString "told", .str (esc6 txt) t9), (Str.ofString "back", .str (bk ord (esc6 txt) ord.length) t), (Str.ofString "behind", .ref D)]) :: (a5, cList ((rA :: post).map PR.ref)) :: (ord.map PR.cell ++ [])) ∧ (ys = [] ↔ ∀ r ∈ post.take i, Txt.contains txt r.mark = false)), rfl, ⟨rfl, by simp⟩, ?_, by simpa using H37, ?_, ?_, ?_⟩
            · rw [List.length_map, sizeLine_eq]
              have := congrArg List.length hsplit
              simp at this; omega
            · rintro i ys C ⟨rfl, _⟩
              exact .here
            · rintro Ld i v ys C K2 s hv ⟨rfl, hys⟩ H
              simp only [List.cons_append] at H
              obtain ⟨r, hr, rfl⟩ : ∃ r, post[i]? = some r ∧ v = .str r.mark r.tm := by
                rw [List.getElem?_map] at hv
                cases e : post[i]? with
                | none => rw [e] at hv; cases hv
                | some r => rw [e] at hv; exact ⟨r, rfl, (Option.some.inj hv).symm⟩
              refine wpAny_assign_Name ?_
              walk_at "sto"
              refine x_tests1 ?_
              refine wpAny_isTrue_Compare1 ?_
              walk_at "nm"
              with_reducible refine x_cell (c := L + 1) (by assumption) (by walk_at "mhas") (by kernel_rfl!) (by kernel_rfl!) (by kernel_rfl!) (by decide +kernel) ?_
              rename_i s38 H38
              refine SB.contains ?_
              refine wpAny_truthy_bool ?_
              have htake : post.take (i + 1) = post.take i ++ [r] := by
                obtain ⟨hi, e⟩ := List.getElem?_eq_some_iff.mp hr
                rw [List.take_succ_eq_append_getElem hi, e]
              cases hct : Txt.contains txt r.mark with
              | true =>
                rw [if_pos rfl]
                walk_at "nm"
                refine ⟨_, _, ⟨rfl, ?_⟩, H38⟩
                constructor
                · intro q; simp at q
                · intro q
                  have := q r (by rw [htake]; simp)
                  rw [hct] at this; cases this
              | false =>
                rw [if_neg Bool.false_ne_true]
                refine ⟨_, _, ⟨rfl, hys.trans ?_⟩, H38⟩
                rw [htake]
                constructor
                · intro q r' hr'
                  rcases List.mem_append.mp hr' with h1 | h1
                  · exact q r' h1
                  · rw [List.mem_singleton.mp h1]; exact hct
                · intro q r' hr'; exact q r' (by simp [hr'])
            · rintro Dz ys C s ⟨rfl, hys⟩ H
              rw [List.length_map, List.take_length] at hys
              refine List_ ?_
              refine args_nil ?_
              with_reducible refine x_newList (by assumption) (Nat.le_of_ble_eq_true (by kernel_rfl!)) fun z s39 H39 k39 => ?_
              with_reducible refine x_eqNil (by assumption) (by walk_at "mhas") (by walk_at "mhas") ?_ ?_
              · show A.units + 3 < cLine; omega
              refine eq_bool ?_
              have hl : (bk ord (esc6 txt) ord.length == txt) = decide (∀ r ∈ post, Txt.contains txt r.mark = false) := by
                have := last_row (pre := pre) (post := post) (rA := rA) (by rw [← hsplit]; exact hperm) hA txt
                rw [← hsplit] at this
                exact this
              have hfin : ((bk ord (esc6 txt) ord.length == txt) == ys.isEmpty) = true := by
                rw [hl, beq_iff_eq, Bool.eq_iff_iff, decide_eq_true_eq, List.isEmpty_iff]
                exact hys.symm
              rw [hfin]
              exact h _ _ H39
end

end Mine
open PySem PySem.W PyProof.Rows
theorem PySem.Challenge.cw_dn0277_01_holds : PySem.Challenge.rw_dn0277_01.Holds := by
  refine Mine.hd ?_
  intro w s₀ s₁ mg mb G Y fa o pm cd doc dV kV ho hd hcd hD hmg hg args vals as hpre hlay hrd hwl hlo
  have KX := kIn_of Y
  have T := G.T
  have B : Mine.Base (Mine.hd.heap_39 w.params) s₁.heap := ⟨KX, T.nolimit, mb, T.b, T.builtins⟩
  have efa : fa = 47 := B.addr (by kernel_rfl!) T.g (by kernel_rfl!) hmg
  subst efa
  wrow_args hpre hlay hrd hwl hlo
  rename_i ns _ _ _ _ _ _ _ l vs _ hL _ _ _ hI _ hcond _
  obtain ⟨ps, rfl, hps⟩ := Mine.ints_pairs hI
  refine wpAny_mono (Q := fun v s' => v = .bool true ∧ ∃ cs, Mine.St s₁.heap s₁ cs s') (E := Mine.NoE) ?_ ?_ (fun _ _ q => q.elim)
  · refine Mine.c_law B Mine.St0.start hL (by rw [hps]; omega) (by decide) (by decide) rfl fun cs s' H => ⟨rfl, cs, H⟩
  · rintro v s' ⟨rfl, cs, H⟩
    exact Mine.law_good H hg (fun _ => rfl) (postW_of rfl (w_eq_bool (w_res rfl) w_lit) rfl)

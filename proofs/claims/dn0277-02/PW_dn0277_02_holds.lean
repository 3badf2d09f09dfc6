import PyProof.Rows.All
import Wide.All
import OpenK.AllK
import Wide.FinOn
import Lean
import PySem.Challenge.RW_dn0277_02
open PySem PySem.W PyProof.Rows
set_option linter.unusedVariables false
set_option linter.unusedSectionVars false
set_option linter.unusedSimpArgs false
set_option Elab.async false
set_option maxRecDepth 100000
set_option maxHeartbeats 4000000
namespace Mine
open_top hd for PySem.Challenge.rw_dn0277_02
open PySem PySem.W PySem.Calls PyProof.Rows
abbrev Cel := Obj → Prop
abbrev Cells := List (Addr × Cel)
abbrev NoE : Value → Shared → Prop := fun _ _ => False

def cList (xs : List Value) : Cel := fun o => ∃ n, o = { cls := .type "list", data := .seq xs.toArray n }
def cTup (xs : List Value) : Cel := fun o => ∃ n, o = { cls := .type "tuple", data := .seq xs.toArray n }
/-- a frame's names: those that are told; of others nothing is said -/
def cNs (m : List (Str × Value)) : Cel := fun o => ∃ es ep, o.data = .dict es ep ∧ StrKeys es ∧ ∀ x v, m.lookup x = some v → nsFind es x = some v
def cCell (v : Option Value) : Cel := fun o => o.data = .cell v
def cLIter (l : Addr) (i : Nat) : Cel := fun o => o.cls = .type "list_iterator" ∧ o.data = .fields #[.ref l, .int i 0]

/-- what holds of a state: the heap of the call's start stands, and the cells are there -/
structure St (h0 : Heap) (o0 : Shared) (cs : Cells) (s : Shared) : Prop where
  keep : ∀ b o, h0.get? b = some o → s.heap.get? b = some o
  cell : ∀ p ∈ cs, ∃ o, s.heap.get? p.1 = some o ∧ p.2 o
  new : ∀ p ∈ cs, h0.get? p.1 = none
  nodup : (cs.map Prod.fst).Nodup
  gens : s.gens = o0.gens
  os : s.os = o0.os
  tok : s.toks ≠ 0
  flo : o0.toks ≤ s.toks
  big : ∀ p ∈ cs, 3 < p.1
  g3 : ∃ o, h0.get? 3 = some o

inductive Has : Cells → Addr → Cel → Prop where
  | here {a c r} : Has ((a, c) :: r) a c
  | there {p a c r} : Has r a c → Has (p :: r) a c

inductive Put : Cells → Addr → Cel → Cel → Cells → Prop where
  | here {a c c' r} : Put ((a, c) :: r) a c c' ((a, c') :: r)
  | there {p a c c' r r'} : Put r a c c' r' → Put (p :: r) a c c' (p :: r')

inductive Look : List (Str × Value) → Str → Value → Prop where
  | here {x v r} : Look ((x, v) :: r) x v
  | there {x y u v r} : (x == y) = false → Look r x v → Look ((y, u) :: r) x v

inductive SetN : List (Str × Value) → Str → Value → List (Str × Value) → Prop where
  | new {x v} : SetN [] x v [(x, v)]
  | here {x u v r} : SetN ((x, u) :: r) x v ((x, v) :: r)
  | there {x y u v r r'} : (x == y) = false → SetN r x v r' → SetN ((y, u) :: r) x v ((y, u) :: r')

inductive Pick : Cells → Addr → Cel → Cells → Prop where
  | here {a c r} : Pick ((a, c) :: r) a c r
  | there {p a c r r'} : Pick r a c r' → Pick (p :: r) a c (p :: r')
theorem Pick.perm {cs a c r} (h : Pick cs a c r) : ((a, c) :: r).Perm cs := by
  induction h with
  | here => exact .refl _
  | there _ ih => exact (List.Perm.swap _ _ _).trans (ih.cons _)

theorem Has.mem {cs a c} (h : Has cs a c) : (a, c) ∈ cs := by
  induction h with
  | here => exact List.mem_cons_self
  | there _ ih => exact List.mem_cons_of_mem _ ih
theorem Has.of_mem {cs : Cells} {a c} (h : (a, c) ∈ cs) : Has cs a c := by
  induction cs with
  | nil => cases h
  | cons p r ih =>
    rcases List.mem_cons.mp h with rfl | h
    · exact .here
    · exact .there (ih h)
theorem Has.app {cs K : Cells} {a c} (h : Has cs a c) : Has (cs ++ K) a c := .of_mem (List.mem_append_left _ h.mem)
theorem Put.has {cs a c c' cs'} (h : Put cs a c c' cs') : Has cs a c := by
  induction h with
  | here => exact .here
  | there _ ih => exact .there ih
theorem Put.addrs {cs a c c' cs'} (h : Put cs a c c' cs') : cs'.map Prod.fst = cs.map Prod.fst := by
  induction h with
  | here => rfl
  | there _ ih => simp [ih]
theorem Put.mem' {cs a c c' cs'} (h : Put cs a c c' cs') (nd : (cs.map Prod.fst).Nodup) : ∀ p ∈ cs', p = (a, c') ∨ (p ∈ cs ∧ p.1 ≠ a) := by
  induction h with
  | @here a c c' r =>
    intro p hp
    rcases List.mem_cons.mp hp with rfl | hp
    · exact .inl rfl
    · refine .inr ⟨List.mem_cons_of_mem _ hp, fun e => ?_⟩
      rw [List.map_cons, List.nodup_cons] at nd
      have q : p.1 ∈ r.map Prod.fst := List.mem_map_of_mem hp
      rw [e] at q
      exact nd.1 q
  | @there p a c c' r r' hr ih =>
    rw [List.map_cons, List.nodup_cons] at nd
    intro q hq
    rcases List.mem_cons.mp hq with rfl | hq
    · refine .inr ⟨List.mem_cons_self, fun e => nd.1 ?_⟩
      rw [e]
      exact List.mem_map_of_mem hr.has.mem
    · rcases ih nd.2 q hq with h | ⟨h, h'⟩
      · exact .inl h
      · exact .inr ⟨List.mem_cons_of_mem _ h, h'⟩
theorem Put.app {cs a c c' cs' K} (h : Put cs a c c' cs') : Put (cs ++ K) a c c' (cs' ++ K) := by
  induction h with
  | here => exact .here
  | there _ ih => exact .there ih

theorem Has.skip {xs r : Cells} {a c} (h : Has r a c) : Has (xs ++ r) a c := .of_mem (List.mem_append_right _ h.mem)
theorem Put.skip {xs r r' : Cells} {a c c'} (h : Put r a c c' r') : Put (xs ++ r) a c c' (xs ++ r') := by
  induction xs with
  | nil => exact h
  | cons p x ih => exact .there ih
theorem Pick.skip {xs r r' : Cells} {a c} (h : Pick r a c r') : Pick (xs ++ r) a c (xs ++ r') := by
  induction xs with
  | nil => exact h
  | cons p x ih => exact .there ih

theorem Look.eq {m x v} (h : Look m x v) : m.lookup x = some v := by
  induction h with
  | here => simp
  | there hn _ ih => simp only [List.lookup_cons, hn]; exact ih
theorem SetN.eq {m x v m'} (h : SetN m x v m') : (fun y => if y = x then some v else m.lookup y) = fun y => m'.lookup y := by
  induction h with
  | @new x v =>
    funext y
    by_cases hy : y = x
    · subst hy; simp
    · have : (y == x) = false := by simpa using hy
      simp [List.lookup_cons, hy, this]
  | @here x u v r =>
    funext y
    by_cases hy : y = x
    · subst hy; simp
    · have : (y == x) = false := by simpa using hy
      simp [List.lookup_cons, hy, this]
  | @there x y u v r r' hn _ ih =>
    funext z
    have ih := congrFun ih z
    by_cases hz : z = y
    · subst hz
      have hzx : ¬ z = x := fun e => by subst e; simp at hn
      simp [hzx]
    · have h1 : (z == y) = false := by simpa using hz
      simp only [List.lookup_cons, h1]
      exact ih

inductive NsSub : List (Str × Value) → List (Str × Value) → Prop where
  | nil {m} : NsSub [] m
  | cons {x v r m} : Look m x v → NsSub r m → NsSub ((x, v) :: r) m
theorem NsSub.look {m' m} (h : NsSub m' m) : ∀ x v, m'.lookup x = some v → m.lookup x = some v := by
  induction h with
  | nil => intro x v e; cases e
  | @cons y u r m hl _ ih =>
    intro x v e
    rw [List.lookup_cons] at e
    by_cases hx : (x == y) = true
    · rw [hx] at e; cases e
      rw [beq_iff_eq.mp hx]; exact hl.eq
    · rw [Bool.not_eq_true] at hx
      rw [hx] at e
      exact ih x v e
theorem cNs.sub {m' m : List (Str × Value)} {o : Obj} (h : cNs m o) (hs : NsSub m' m) : cNs m' o := by
  obtain ⟨es, ep, h1, h2, h3⟩ := h
  exact ⟨es, ep, h1, h2, fun x v e => h3 x v (hs.look x v e)⟩

section
variable {h0 : Heap} {o0 : Shared} {cs cs' : Cells} {s : Shared}

theorem St.get {a : Addr} {c : Cel} (H : St h0 o0 cs s) (h : Has cs a c) : ∃ o, s.heap.get? a = some o ∧ c o := H.cell _ h.mem

/-- only new things were made -/
theorem St.grow {h' : Heap} {k : Nat} (H : St h0 o0 cs s) (hk : ∀ b o, s.heap.get? b = some o → h'.get? b = some o) (hk' : s.toks ≤ k) : St h0 o0 cs { s with heap := h', toks := k } :=
  ⟨fun b o e => hk b o (H.keep b o e), fun p hp => let ⟨o, ho, hc⟩ := H.cell p hp; ⟨o, hk _ _ ho, hc⟩, H.new, H.nodup, H.gens, H.os, (by have := H.tok; show k ≠ 0; omega), Nat.le_trans H.flo hk', H.big, H.g3⟩
theorem St.toks {k : Nat} (H : St h0 o0 cs s) (hk' : s.toks ≤ k) : St h0 o0 cs { s with toks := k } := H.grow (h' := s.heap) (fun _ _ e => e) hk'

theorem St.fresh {a : Addr} (H : St h0 o0 cs s) (ha : s.heap.objs.size ≤ a) : a ∉ cs.map Prod.fst ∧ h0.get? a = none ∧ 3 < a := by
  refine ⟨?_, ?_, ?_⟩
  · intro hm
    obtain ⟨p, hp, rfl⟩ := List.mem_map.mp hm
    obtain ⟨o, ho, _⟩ := H.cell p hp
    exact Nat.lt_irrefl _ (Nat.lt_of_lt_of_le (Heap.lt_size ho) ha)
  · cases e : h0.get? a with
    | none => rfl
    | some o => exact absurd (Heap.lt_size (H.keep _ _ e)) (Nat.not_lt.mpr ha)
  · obtain ⟨o, ho⟩ := H.g3
    exact Nat.lt_of_lt_of_le (Heap.lt_size (H.keep _ _ ho)) ha

/-- a new cell -/
theorem St.more {h' : Heap} {k : Nat} {a : Addr} {c : Cel} (H : St h0 o0 cs s) (ha : s.heap.objs.size ≤ a) (hc : ∃ o, h'.get? a = some o ∧ c o)
    (hk : ∀ b o, s.heap.get? b = some o → h'.get? b = some o) (hk' : s.toks ≤ k) : St h0 o0 ((a, c) :: cs) { s with heap := h', toks := k } := by
  have f := H.fresh ha
  have G := H.grow hk hk'
  refine ⟨G.keep, fun p hp => ?_, fun p hp => ?_, ?_, G.gens, G.os, G.tok, G.flo, fun p hp => ?_, H.g3⟩
  · rcases List.mem_cons.mp hp with rfl | hp
    · exact hc
    · exact G.cell p hp
  · rcases List.mem_cons.mp hp with rfl | hp
    · exact f.2.1
    · exact G.new p hp
  · rw [List.map_cons, List.nodup_cons]; exact ⟨f.1, H.nodup⟩
  · rcases List.mem_cons.mp hp with rfl | hp
    · exact f.2.2
    · exact G.big p hp
theorem St.push {k : Nat} {o : Obj} {c : Cel} (H : St h0 o0 cs s) (hc : c o) (hk' : s.toks ≤ k) (hf : o.isFreed = false := by rfl) :
    St h0 o0 ((s.heap.objs.size, c) :: cs) { s with heap := s.heap.push o, toks := k } :=
  H.more (Nat.le_refl _) ⟨o, Heap.get?_push_size _ hf, hc⟩ (fun b o e => Heap.get?_push_of_some _ e) hk'

/-- a cell is changed -/
theorem St.upd {h' : Heap} {k : Nat} {a : Addr} {c c' : Cel} (H : St h0 o0 cs s) (hp : Put cs a c c' cs') (hc : ∃ o, h'.get? a = some o ∧ c' o)
    (hk : ∀ b o, b ≠ a → s.heap.get? b = some o → h'.get? b = some o) (hk' : s.toks ≤ k) : St h0 o0 cs' { s with heap := h', toks := k } := by
  have hm := hp.mem' H.nodup
  have hn : h0.get? a = none := H.new _ hp.has.mem
  refine ⟨fun b o e => hk b o (fun q => by subst q; rw [hn] at e; cases e) (H.keep b o e), fun p q => ?_, fun p q => ?_, ?_, H.gens, H.os, (by have := H.tok; show k ≠ 0; omega), Nat.le_trans H.flo hk', fun p q => ?_, H.g3⟩
  · rcases hm p q with rfl | ⟨h1, h2⟩
    · exact hc
    · obtain ⟨o, ho, hc⟩ := H.cell p h1
      exact ⟨o, hk _ _ h2 ho, hc⟩
  · rcases hm p q with rfl | ⟨h1, h2⟩
    · exact hn
    · exact H.new p h1
  · rw [hp.addrs]; exact H.nodup
  · rcases hm p q with rfl | ⟨h1, h2⟩
    · exact H.big (a, c) hp.has.mem
    · exact H.big p h1
theorem St.updS {h' : Heap} {k : Nat} {a : Addr} {c c' : Cel} (H : St h0 o0 cs s) (hp : Put cs a c c' cs') (hc : ∃ o, h'.get? a = some o ∧ c' o)
    (hk : Heap.SameBut a s.heap h') (hk' : s.toks ≤ k) : St h0 o0 cs' { s with heap := h', toks := k } :=
  H.upd hp hc (fun b o hb e => (hk.2 b hb).trans e) hk'

/-- some cells are forgotten -/
theorem St.sub (H : St h0 o0 cs s) (hs : cs'.Sublist cs) : St h0 o0 cs' s :=
  ⟨H.keep, fun p hp => H.cell p (hs.subset hp), fun p hp => H.new p (hs.subset hp), H.nodup.sublist (hs.map _), H.gens, H.os, H.tok, H.flo, fun p hp => H.big p (hs.subset hp), H.g3⟩
theorem St.perm (H : St h0 o0 cs s) (hs : cs'.Perm cs) : St h0 o0 cs' s :=
  ⟨H.keep, fun p hp => H.cell p (hs.mem_iff.mp hp), fun p hp => H.new p (hs.mem_iff.mp hp), ((hs.map Prod.fst).nodup_iff).mpr H.nodup, H.gens, H.os, H.tok, H.flo, fun p hp => H.big p (hs.mem_iff.mp hp), H.g3⟩
/-- a cell is told with less -/
theorem St.weak {a : Addr} {c c' : Cel} (H : St h0 o0 cs s) (hp : Put cs a c c' cs') (hc : ∀ o, c o → c' o) : St h0 o0 cs' s := by
  obtain ⟨o, ho, hco⟩ := H.get hp.has
  exact H.upd (h' := s.heap) (k := s.toks) hp ⟨o, ho, hc o hco⟩ (fun _ _ _ e => e) (Nat.le_refl _)
theorem St.pick {a c r} (H : St h0 o0 cs s) (h : Pick cs a c r) : St h0 o0 ((a, c) :: r) s := H.perm h.perm
theorem St.tail {p} (H : St h0 o0 (p :: cs) s) : St h0 o0 cs s := H.sub (List.sublist_cons_self _ _)
/-- the tokens' floor is lifted to here, and laid down again -/
theorem St.rebase (H : St h0 o0 cs s) : St h0 s cs s := ⟨H.keep, H.cell, H.new, H.nodup, rfl, rfl, H.tok, Nat.le_refl _, H.big, H.g3⟩
theorem St.back {s' : Shared} (H0 : St h0 o0 cs s) (H : St h0 s cs' s') : St h0 o0 cs' s' := ⟨H.keep, H.cell, H.new, H.nodup, H.gens.trans H0.gens, H.os.trans H0.os, H.tok, Nat.le_trans H0.flo H.flo, H.big, H.g3⟩
end
section
variable {prog : Program} {w : World} {M : Model} {A : Around} {E : Value → Shared → Prop} {s : Shared} {env : Env} {h0 : Heap} {o0 : Shared} {cs cs' : Cells}

theorem ns_of {a : Addr} {m} (H : St h0 o0 cs s) (h : Has cs a (cNs m)) : ∃ f, s.heap.Ns a f ∧ ∀ x v, m.lookup x = some v → f x = some v := by
  obtain ⟨o, ho, es, ep, hd, hk, hf⟩ := H.get h
  exact ⟨nsFind es, ⟨o, es, ep, ho, hd, hk, fun _ => rfl⟩, hf⟩
theorem of_ns {h : Heap} {a : Addr} {m : List (Str × Value)} {f : Str → Option Value} (hn : h.Ns a f) (e : ∀ x v, m.lookup x = some v → f x = some v) : ∃ o, h.get? a = some o ∧ cNs m o := by
  obtain ⟨o, es, ep, ho, hd, hk, hf⟩ := hn
  exact ⟨o, ho, es, ep, hd, hk, fun x v q => (hf x).trans (e x v q)⟩
theorem list_of {a : Addr} {xs} (H : St h0 o0 cs s) (h : Has cs a (cList xs)) : s.heap.IsList a xs.toArray := by
  obtain ⟨o, ho, n, rfl⟩ := H.get h
  exact ⟨_, ho, rfl, n, rfl⟩
theorem plist_of {a : Addr} {xs} (H : St h0 o0 cs s) (h : Has cs a (cList xs)) : s.heap.PlainList a xs.toArray := by
  obtain ⟨o, ho, n, rfl⟩ := H.get h
  exact ⟨n, ho⟩
theorem of_plist {h : Heap} {a : Addr} {xs : List Value} {ys : Array Value} (hl : h.PlainList a ys) (e : ys = xs.toArray) : ∃ o, h.get? a = some o ∧ cList xs o := by
  obtain ⟨n, hn⟩ := hl
  exact ⟨_, hn, n, by rw [e]⟩
theorem tup_of {a : Addr} {xs} (H : St h0 o0 cs s) (h : Has cs a (cTup xs)) : s.heap.IsTuple a xs.toArray := by
  obtain ⟨o, ho, n, rfl⟩ := H.get h
  exact ⟨_, ho, rfl, n, rfl⟩

theorem x_str {x : Str} {k : Nat} {pos : Pos} {Q : Value → Shared → Prop} (H : St h0 o0 cs s) (h : ∀ s', St h0 o0 cs s' → s'.toks = s.toks + 1 → Q (.str x s.toks) s') :
    wpAny M A (eval (.Constant (.str x) k pos) env) Q E s := Calls.Constant_str (h _ (H.toks (Nat.le_succ _)) rfl)
theorem x_int {i : Int} {k : Nat} {pos : Pos} {Q : Value → Shared → Prop} (H : St h0 o0 cs s) (h : ∀ t s', St h0 o0 cs s' → s'.toks = s.toks + 1 → Q (.int i t) s') :
    wpAny M A (eval (.Constant (.int i) k pos) env) Q E s := wpAny_Constant_int (h _ _ (H.toks (Nat.le_succ _)) rfl)

theorem x_name {x : Str} {pos : Pos} {L : Addr} {m} {v : Value} {Q : Value → Shared → Prop} (H : St h0 o0 cs s) (hp : Has cs L (cNs m)) (hL : env.locals = L) (hv : Look m x v) (hk : env.scope.kind = .function)
    (hl : env.kindOf x = some .local) (hd : (x == ("__debug__" : Str)) = false) (h : Q v s) : wpAny M A (eval (.Name x pos) env) Q E s := by
  obtain ⟨f, hf, hm⟩ := ns_of H hp
  subst hL
  exact wpAny_Name (wpAny_loadName_local hk hl hf (hm _ _ hv.eq) h) hd

/-- a global name of the text, a built-in's name -/
def GlobAt (h0 : Heap) (x : Str) (v : Value) : Prop := ∃ mg, h0.Ns mainGlobals mg ∧ mg x = some v
def BltAt (h0 : Heap) (x : Str) (v : Value) : Prop := ∃ mg mb, h0.Ns mainGlobals mg ∧ mg x = none ∧ h0.Ns builtinsNs mb ∧ mb x = some v

theorem x_glob {x : Str} {pos : Pos} {v : Value} {Q : Value → Shared → Prop} (H : St h0 o0 cs s) (hg : GlobAt h0 x v) (hk : env.scope.kind = .function) (hl : env.kindOf x = some .globalImplicit)
    (he : env.globals = mainGlobals) (hd : (x == ("__debug__" : Str)) = false) (h : Q v s) : wpAny M A (eval (.Name x pos) env) Q E s := by
  obtain ⟨mg, hn, hv⟩ := hg
  exact Name_function_global hk hl (loadGlobal_global (he ▸ hn.keeps H.keep) hv h) hd
theorem x_blt {x : Str} {pos : Pos} {v : Value} {Q : Value → Shared → Prop} (H : St h0 o0 cs s) (hg : BltAt h0 x v) (hk : env.scope.kind = .function) (hl : env.kindOf x = some .globalImplicit)
    (he : env.globals = mainGlobals) (hb : env.builtins = builtinsNs) (hd : (x == ("__debug__" : Str)) = false) (h : Q v s) : wpAny M A (eval (.Name x pos) env) Q E s := by
  obtain ⟨mg, mb, hn, hm, hb', hv⟩ := hg
  exact Name_function_global hk hl (loadGlobal_builtin (he ▸ hn.keeps H.keep) hm (hb ▸ hb'.keeps H.keep) hv h) hd

theorem x_store {x : Str} {L : Addr} {m m'} {v : Value} {Q : Unit → Shared → Prop} (H : St h0 o0 cs s) (hp : Put cs L (cNs m) (cNs m') cs') (hL : env.locals = L) (hs : SetN m x v m') (hk : env.scope.kind = .function)
    (hl : env.kindOf x = some .local) (h : ∀ s', St h0 o0 cs' s' → Q () s') : wpAny M A (storeName env x v) Q E s := by
  obtain ⟨f, hf, hm⟩ := ns_of H hp.has
  subst hL
  refine wpAny_storeName_local hl hf (fun h' hn hsb => ?_) (by rw [hk]; rfl)
  refine h _ (H.updS hp (of_ns hn fun y u q => ?_) hsb (Nat.le_succ _))
  have q' : (if y = x then some v else m.lookup y) = some u := (congrFun hs.eq y).trans q
  by_cases hy : y = x
  · rw [if_pos hy] at q' ⊢; exact q'
  · rw [if_neg hy] at q' ⊢; exact hm _ _ q'

theorem x_call {fa : Addr} {fd : FuncData} {o : Obj} {body : List Stmt} {args : List Value} {binds : List (Str × Value)} {Q : Value → Shared → Prop} (H : St h0 o0 cs s)
    (ho : h0.get? fa = some o) (hd : o.data = .func fd) (hbody : fd.body = .stmts body) (hlim : h0.NoLimit) (hcd : h0.CodeRec fd.code fd.qualname) (hroom : A.depth < recursionLimit)
    (hbind : bindArgs fd ⟨args, []⟩ = pure binds) (hcell : ∀ x ∈ fd.scope.names, x.2 ≠ .cell) (hloc : ∀ x ∈ binds, fd.scope.names.lookup x.1 = some .local)
    (hco : fd.scope.isCoroutine = false) (hgen : fd.scope.isGenerator = false) (hk : fd.scope.kind = .function) (hne : binds ≠ [])
    (h : ∀ L s', St h0 o0 ((L, cNs binds.reverse) :: cs) s' → wpAny (model prog w) (A.deeper (callEnv fd L fa)) (execs body (callEnv fd L fa)) (fun f s'' => Q (match f with | .ret v => v | _ => .none) s'') NoE s') :
    wpAny (model prog w) A (call (.ref fa) args) Q E s := by
  refine wpAny_call (codeAny_call_def (fd := fd) (body := body) (binds := binds) hroom (H.keep _ _ ho) hd (hlim.keeps H.keep) (hcd.keeps H.keep) hbody (fun M A E Q q => by rw [hbind]; exact wpAny_pure q) hcell hloc (fun h₁ hns hk₁ => ?_) hco hgen hk)
  refine wpAny_mono (h s.heap.objs.size _ (H.more (Nat.le_refl _) (of_ns hns fun _ _ q => q) hk₁ ?_)) (fun f s' q => q) fun _ _ q => q.elim
  exact Nat.le_add_right _ _

theorem x_try {body : List Stmt} {h₀ : ExceptHandler} {hs : List ExceptHandler} {pos : Pos} {Q : Flow → Shared → Prop}
    (h : wpAny (model prog w) A (execs body env) Q NoE s) (hQ : ∀ s', ¬ Q .next s' ∨ True) :
    wpAny (model prog w) A (exec (.Try body (h₀ :: hs) [] [] pos) env) Q E s := by
  refine wpAny_Try_except (wpAny_mono h (fun f s₁ q => ?_) fun _ _ q => q.elim)
  cases f <;> first | exact q | exact wpAny_execs_nil q
end
/-- what stands at the call's start: the text's own objects, the built-ins' names -/
structure Base (K : Frag) (h0 : Heap) : Prop where
  X : K.In h0
  lim : h0.NoLimit
  blt : ∃ mb, h0.Ns builtinsNs mb ∧ ∀ x : Str, x ≠ "__name__" → mb x = bootBuiltins x

def globsIn (K : Frag) : Array DictEntry := match K.lookup mainGlobals with
  | some ⟨_, _, .dict es _, _⟩ => es
  | _ => #[]
def globsOk (K : Frag) : Bool := (match K.lookup mainGlobals with | some ⟨_, _, .dict _ _, _⟩ => true | _ => false) && (globsIn K).toList.all fun e => match e.key with | .str _ _ => true | _ => false
def fdOf (K : Frag) (a : Addr) : FuncData := match K.lookup a with
  | some ⟨_, _, .func fd, _⟩ => fd
  | _ => default
def bodyOf (K : Frag) (a : Addr) : List Stmt := match (fdOf K a).body with
  | .stmts b => b
  | _ => []
def isStmts : FuncBody → Bool
  | .stmts _ => true
  | _ => false
def fnOk (K : Frag) (a : Addr) : Bool := match K.lookup a with
  | some ⟨_, _, .func fd, _⟩ => codeIn K fd.code fd.qualname && !fd.scope.isCoroutine && !fd.scope.isGenerator && fd.scope.kind == .function && fd.scope.names.all (fun x => x.2 != .cell) && isStmts fd.body
  | _ => false

section
variable {K : Frag} {h0 : Heap}
theorem Base.ns (B : Base K h0) (ok : globsOk K = true) : h0.Ns mainGlobals (nsFind (globsIn K)) := by
  unfold globsOk at ok
  obtain ⟨ok1, ok2⟩ := Bool.and_eq_true_iff.mp ok
  unfold globsIn at *
  split at ok1
  · rename_i c d es ep sl ho
    refine ⟨_, es, ep, B.X _ _ ho, rfl, ?_, fun _ => by simp only⟩
    simp only [ho] at ok2
    intro e he
    have := List.all_eq_true.mp ok2 e (Array.mem_toList_iff.mpr he)
    split at this
    · rename_i n t hk; exact ⟨n, t, hk⟩
    · cases this
  · cases ok1
theorem Base.glob (B : Base K h0) (ok : globsOk K = true) {x : Str} {v : Value} (hx : nsFind (globsIn K) x = some v) : GlobAt h0 x v := ⟨_, B.ns ok, hx⟩
theorem Base.bltAt (B : Base K h0) (ok : globsOk K = true) {x : Str} {v : Value} (hx : nsFind (globsIn K) x = none) (hn : x ≠ "__name__") (hb : bootBuiltins x = some v) : BltAt h0 x v := by
  obtain ⟨mb, h1, h2⟩ := B.blt
  exact ⟨_, mb, B.ns ok, hx, h1, (h2 x hn).trans hb⟩
end

section
variable {prog : Program} {w : World} {A : Around} {E : Value → Shared → Prop} {s : Shared} {env : Env} {h0 : Heap} {o0 : Shared} {cs cs' : Cells} {K : Frag}

theorem x_fn {fa : Addr} {args : List Value} {m : List (Str × Value)} {Q : Value → Shared → Prop} (B : Base K h0) (H : St h0 o0 cs s) (hf : fnOk K fa = true) (hroom : A.depth < recursionLimit)
    (hbind : bindArgs (fdOf K fa) ⟨args, []⟩ = pure m.reverse) (hloc : (m.all fun x => (fdOf K fa).scope.names.lookup x.1 == some .local) = true) (hne : (!m.isEmpty) = true)
    (h : ∀ L s', St h0 o0 ((L, cNs m) :: cs) s' → wpAny (model prog w) (A.deeper (callEnv (fdOf K fa) L fa)) (execs (bodyOf K fa) (callEnv (fdOf K fa) L fa)) (fun f s'' => Q (match f with | .ret v => v | _ => .none) s'') NoE s') :
    wpAny (model prog w) A (call (.ref fa) args) Q E s := by
  unfold fnOk at hf
  split at hf
  · rename_i c d fd sl ho
    simp only [Bool.and_eq_true, Bool.not_eq_true', beq_iff_eq] at hf
    obtain ⟨⟨⟨⟨⟨h1, h2⟩, h3⟩, h4⟩, h5⟩, h6⟩ := hf
    have e : fdOf K fa = fd := by unfold fdOf; rw [ho]
    have eb : fd.body = .stmts (bodyOf K fa) := by
      unfold bodyOf; rw [e]
      cases hb : fd.body with
      | stmts b => rfl
      | expr _ => rw [hb] at h6; cases h6
    rw [e] at hbind hloc h
    refine x_call H (B.X _ _ ho) rfl eb B.lim (codeRec_of B.X h1) hroom hbind (fun x hx => ?_) (fun x hx => ?_) h2 h3 h4 (fun q => ?_) (by rw [List.reverse_reverse]; exact h)
    · simpa using List.all_eq_true.mp h5 x hx
    · simpa using List.all_eq_true.mp hloc x (List.mem_reverse.mp hx)
    · rw [List.reverse_eq_nil_iff] at q; subst q; cases hne
  · cases hf

/-- nothing the walk knows is changed, tokens grow -/
theorem tokd {α : Type} {t : Sem α} {Q : α → Shared → Prop} {M : Model} (h : wpAny M A t (fun v s' => s.toks ≤ s'.toks → Q v s') E s) : wpAny M A t Q E s :=
  wpAny_with_toks (Nat.le_refl _) (wpAny_mono h (fun _ _ q => q) fun _ _ q _ => q)

theorem x_replace {x y z : Str} {t u v : Tok} {Q : Value → Shared → Prop} (H : St h0 o0 cs s) (hu : u ≠ 0) (hv : v ≠ 0) (huv : u ≠ v) (hyz : (y == z) = false)
    (hb : x.length + (x.length + 1) * z.length ≤ 16777216) (h : ∀ t' s', St h0 o0 cs s' → Q (.str (Txt.replace x y z) t') s') :
    wpAny (model prog w) A (call (.builtin "str.replace") [.str x t, .str y u, .str z v]) Q E s :=
  tokd (SC.replace hu hv huv hyz hb fun t' k hk => h t' _ (H.toks hk))

theorem replace_absent {x y z : Str} (h : Txt.contains x y = false) : Txt.replace x y z = x := by
  unfold Txt.contains at h
  have h1 : (Builtin.Str.occurrences x y 0 x.length 1).isEmpty = true := by simpa using h
  have h2 : (Builtin.Str.occurrences x y 0 x.length (x.length + 1)).isEmpty = true := by
    rcases StrLaws.occ_head_from x y 0 (x.length + 1) (by omega) with ⟨e, _⟩ | ⟨i, r, e, hi, ha, _⟩
    · rw [e]; rfl
    · rcases StrLaws.occ_head_from x y 0 1 (by omega) with ⟨_, hn⟩ | ⟨i', r', e', _⟩
      · exact absurd ha (hn i hi)
      · rw [e'] at h1; cases h1
  unfold Txt.replace
  rw [h2]; rfl

/-- if c in x: x = x.replace(c, r) -/
theorem x_escIf {x c r txt : Str} {t : Tok} {L : Addr} {k1 k2 k3 : Nat} {p1 p2 p3 p4 p5 p6 p7 p8 p9 p10 p11 : Pos} {Q : Flow → Shared → Prop}
    (H : St h0 o0 ((L, cNs [(x, .str txt t)]) :: cs) s) (hL : env.locals = L) (hk : env.scope.kind = .function) (hl : env.kindOf x = some .local) (hd : (x == ("__debug__" : Str)) = false)
    (hb : txt.length + (txt.length + 1) * r.length ≤ 16777216) (hyz : (c == r) = false) (hline : (p6.endLine == p9.line) = true)
    (h : ∀ t' s', St h0 o0 ((L, cNs [(x, .str (Txt.replace txt c r) t')]) :: cs) s' → Q .next s') :
    wpAny (model prog w) A (exec (.If (.Compare (.Constant (.str c) k1 p1) [.In] [.Name x p2] p3)
      [.Assign [.Name x p4] (.Call (.Attribute (.Name x p5) (Str.ofString "replace") p6) [.Constant (.str c) k2 p7, .Constant (.str r) k3 p8] [] p9) p10] [] p11) env) Q E s := by
  refine wpAny_If (wpAny_isTrue_Compare1 ?_ (by rfl))
  refine x_str H fun s1 H e1 => ?_
  refine x_name H .here hL .here hk hl hd ?_
  refine PyProof.Rows.in_str (wpAny_truthy_bool ?_)
  split
  · refine wpAny_execs_cons (wpAny_Assign_Name ?_)
    refine wpAny_Call_method (T := "str") (id := "str.replace") rfl (by rfl) hline F.plainAttrs_str F.slot_str_replace F.type_str_replace ?_
    refine x_name H .here hL .here hk hl hd ?_
    refine ⟨typeIs_str _ _ _, fun a e => (by cases e), ?_⟩
    refine callWith_method1 (args_cons ?_)
    refine x_str H fun s2 H2 e2 => args_cons (x_str H2 fun s3 H3 e3 => args_nil ?_)
    have := H.tok; have := H2.tok
    refine x_replace H3 (by omega) (by omega) (Nat.ne_of_lt (by omega)) hyz hb fun t' s4 H4 => ?_
    exact x_store H4 .here hL .here hk hl fun s5 H5 => wpAny_execs_nil (h _ _ H5)
  · rename_i hc
    refine wpAny_execs_nil ?_
    have hc' : Txt.contains txt c = false := by unfold Txt.contains; simpa using hc
    refine h t _ ?_
    rw [replace_absent hc']
    exact H
end
section
variable {prog : Program} {w : World} {A : Around} {E : Value → Shared → Prop} {s : Shared} {env : Env} {h0 : Heap} {o0 : Shared} {cs cs' : Cells} {K : Cells}

/-- an iterator: its cells at each place, what it hands out -/
structure Steps (prog : Program) (w : World) (A : Around) (h0 : Heap) (o0 : Shared) (it : Value) (f : Nat → Cells) (n : Nat) (V : Nat → Value → Prop) (Pre : Cells → Prop) : Prop where
  next : ∀ i C s (Q : Option Value → Shared → Prop) E, i < n → Pre C → St h0 o0 (f i ++ C) s → (∀ v s', V i v → St h0 o0 (f (i + 1) ++ C) s' → Q (some v) s') → wpAny (model prog w) A (pyNext it) Q E s
  done : ∀ C s (Q : Option Value → Shared → Prop) E, Pre C → St h0 o0 (f n ++ C) s → (∀ s', St h0 o0 C s' → Q none s') → wpAny (model prog w) A (pyNext it) Q E s
  self : ∀ i C s (Q : Value → Shared → Prop) E, St h0 o0 (f i ++ C) s → Q it s → wpAny (model prog w) A (pyIter it) Q E s
  mono : ∀ C C', Pre C → (∀ p ∈ C, p ∈ C') → Pre C'
  own : ∀ target i C v s (Q : Unit → Shared → Prop) E, V i v → St h0 o0 (f (i + 1) ++ C) s → (∀ s', St h0 o0 (f (i + 1) ++ C) s' → Q () s') → wpAny (model prog w) A (letOwnedTupleGo target it v) Q E s

theorem liter_of {a l : Addr} {i : Nat} (H : St h0 o0 cs s) (h : Has cs a (cLIter l i)) : s.heap.IsListIter a l i := by
  obtain ⟨o, ho, hc, hd⟩ := H.get h
  exact ⟨o, ho, hc, hd⟩

/-- a list's iterator never is one of those that own a tuple -/
theorem own_plain {target : Expr} {it : Addr} {l : Addr} {i : Nat} {v : Value} {Q : Unit → Shared → Prop} (hit : s.heap.IsListIter it l i) (h : Q () s) : wpAny (model prog w) A (letOwnedTupleGo target (.ref it) v) Q E s := by
  obtain ⟨o, ho, hc, hd⟩ := hit
  unfold letOwnedTupleGo
  split
  all_goals first
    | exact wpAny_pure h
    | (cases v with
       | ref a =>
         refine wpAny_bind (wpAny_load ho ?_)
         rw [hc, hd]
         show wpAny _ _ (if (["enumerate", "zip", "dict_itemiterator", "dict_reverseitemiterator", "odict_iterator", "itertools.zip_longest", "itertools.pairwise"].contains "list_iterator" && _) = true then _ else _) _ _ _
         rw [show (["enumerate", "zip", "dict_itemiterator", "dict_reverseitemiterator", "odict_iterator", "itertools.zip_longest", "itertools.pairwise"].contains "list_iterator") = false from by decide, Bool.false_and]
         exact wpAny_pure h
       | _ => exact wpAny_pure h)

theorem steps_list {it l : Addr} {xs : List Value} (hh : A.handled = none) : Steps prog w A h0 o0 (.ref it) (fun i => [(it, cLIter l i)]) xs.length (fun i v => xs[i]? = some v) (fun C => Has C l (cList xs)) where
  next := fun i C s Q E hi hl H hQ => by
    have hl' : s.heap.IsList l xs.toArray := list_of H (.there hl)
    have hit : s.heap.IsListIter it l i := liter_of H .here
    refine wpAny_pyNext_list_item hit hl' (x := xs[i]) (by simp [hi]) fun h' hit' hs' => ?_
    refine hQ _ _ (by simp [hi]) (H.updS (k := s.toks) .here ?_ hs' (Nat.le_refl _))
    obtain ⟨o, a, b, c⟩ := hit'
    exact ⟨o, a, b, c⟩
  done := fun C s Q E hl H hQ => by
    have hl' : s.heap.IsList l xs.toArray := list_of H (.there hl)
    have hit : s.heap.IsListIter it l xs.length := liter_of H .here
    refine wpAny_pyNext_list_end hh hit hl' (by simp) fun h' he' => hQ _ ?_
    have hn := H.new (it, cLIter l xs.length) (by simp)
    have hd := H.nodup
    simp only [List.singleton_append, List.map_cons, List.nodup_cons] at hd
    refine ⟨fun b o e => he' b o (fun q => ?_) (H.keep b o e), fun p hp => ?_, fun p hp => H.new p (by simp [hp]), hd.2, H.gens, H.os, H.tok, H.flo, fun p hp => H.big p (by simp [hp]), H.g3⟩
    · subst q; simp only at hn; rw [hn] at e; cases e
    · obtain ⟨o, ho, hc⟩ := H.cell p (by simp [hp])
      exact ⟨o, he' _ _ (fun q => hd.1 (q ▸ List.mem_map_of_mem hp)) ho, hc⟩
  self := fun i C s Q E H h => wpAny_pyIter_listiter (liter_of H .here) h
  mono := fun C C' h hs => Has.of_mem (hs _ h.mem)
  own := fun target i C v s Q E hv H h => own_plain (liter_of H .here) (h _ H)

/-- a cell by what a library's iterator says of the heap -/
def cWalk (I : Addr) (S : Nat → Heap → Prop) (i : Nat) : Cel := fun o => ∀ h : Heap, h.get? I = some o → S i h
theorem own_noref {target : Expr} {it v : Value} {Q : Unit → Shared → Prop} (hv : ∀ a, v ≠ .ref a) (h : Q () s) : wpAny (model prog w) A (letOwnedTupleGo target it v) Q E s := by
  unfold letOwnedTupleGo
  split
  all_goals first
    | exact wpAny_pure h
    | (cases v with
       | ref a => exact absurd rfl (hv a)
       | _ => cases it <;> exact wpAny_pure h)
theorem steps_walks {I : Addr} {n : Nat} {P : Nat → Value → Prop} {S : Nat → Heap → Prop} (W : Walks prog w A I [I] [I] n P S) (hv : ∀ i v, P i v → ∀ a, v ≠ .ref a) (hex : ∀ i h, S i h → ∃ o, h.get? I = some o) :
    Steps prog w A h0 o0 (.ref I) (fun i => [(I, cWalk I S i)]) n P (fun _ => True) where
  next := fun i C s Q E hi _ H hQ => by
    obtain ⟨o, ho, hc⟩ := H.get .here
    refine tokd (W.item i s _ _ hi (hc _ ho) fun v h' tk hP hS hk htk => ?_)
    have hn : h0.get? I = none := H.new (I, cWalk I S i) (by simp)
    refine hQ v _ hP (H.upd .here ?_ (fun b o hb e => hk b o (by simpa using hb) e) htk)
    obtain ⟨o', ho'⟩ := hex _ _ hS
    refine ⟨o', ho', fun h hh => W.frame _ _ _ hS fun b hb o e => ?_⟩
    rw [List.mem_singleton.mp hb] at e ⊢
    rw [ho'] at e; cases e
    exact hh
  done := fun C s Q E _ H hQ => by
    obtain ⟨o, ho, hc⟩ := H.get .here
    refine tokd (W.done s _ _ (hc _ ho) fun h' tk hk htk => hQ _ ?_)
    have hn := H.new (I, cWalk I S n) (by simp)
    have hd := H.nodup
    simp only [List.singleton_append, List.map_cons, List.nodup_cons] at hd
    refine ⟨fun b o e => hk b o (fun q => ?_) (H.keep b o e), fun p hp => ?_, fun p hp => H.new p (by simp [hp]), hd.2, H.gens, H.os, (by have := H.tok; simp only at htk ⊢; omega), Nat.le_trans H.flo htk, fun p hp => H.big p (by simp [hp]), H.g3⟩
    · rw [List.mem_singleton.mp q] at e; simp only at hn; rw [hn] at e; cases e
    · obtain ⟨o, ho, hc⟩ := H.cell p (by simp [hp])
      refine ⟨o, hk _ _ (fun q => hd.1 ?_) ho, hc⟩
      have := List.mem_map_of_mem (f := Prod.fst) hp
      rwa [List.mem_singleton.mp q] at this
  self := fun i C s Q E H h => by
    obtain ⟨o, ho, hc⟩ := H.get .here
    exact W.self i s Q E (hc _ ho) h
  mono := fun _ _ _ _ => trivial
  own := fun target i C v s Q E hP H h => own_noref (hv i v hP) (h _ H)

theorem St.swap {a b c : Cells} (H : St h0 o0 (a ++ (b ++ c)) s) : St h0 o0 (b ++ (a ++ c)) s :=
  H.perm (by rw [← List.append_assoc, ← List.append_assoc]; exact List.Perm.append_right _ List.perm_append_comm)
theorem St.drop {a b c : Cells} (H : St h0 o0 (b ++ (a ++ c)) s) : St h0 o0 (b ++ c) s :=
  H.sub (List.Sublist.append (List.Sublist.refl _) (List.sublist_append_right _ _))

/-- a for's loop -/
theorem for_core {target : Expr} {it : Value} {body : List Stmt} {f : Nat → Cells} {n : Nat} {V : Nat → Value → Prop} {Pre : Cells → Prop} {R : Flow → Shared → Prop} {R' : Result → Shared → Prop} (S : Steps prog w A h0 o0 it f n V Pre) (P : Nat → Cells → Prop)
    (hPre : ∀ i C, P i C → Pre (C ++ K))
    (turn : ∀ i v C K' s, i < n → V i v → P i C → (∀ C s, St h0 o0 (C ++ K') s → St h0 o0 (C ++ K) s) → St h0 o0 (C ++ K') s →
      wpAny (model prog w) A (assign target env v) (fun _ s₂ => wpAny (model prog w) A (execs body env) (fun f s₃ => match f with
        | .next | .cont => ∃ C', P (i + 1) C' ∧ St h0 o0 (C' ++ K') s₃
        | .brk => R .next s₃
        | .ret v => R (.ret v) s₃) NoE s₂) NoE s)
    (fin : ∀ C s, P n C → St h0 o0 (C ++ K) s → R .next s) (hR : ∀ f s, R f s → R' (.ok f) s) {C0 : Cells} (h0P : P 0 C0) (H : St h0 o0 (f 0 ++ (C0 ++ K)) s) :
    codeAny (model prog w) A (.forLoop target it body [] env) R' s := by
  refine codeAny_loop' rfl (fun k s => ∃ i C, i ≤ n ∧ k = n - i ∧ P i C ∧ St h0 o0 (f i ++ (C ++ K)) s) (fun k s hI => ?_) n ⟨0, C0, Nat.zero_le _, rfl, h0P, H⟩
  obtain ⟨i, C, hi, rfl, hP, H⟩ := hI
  show wpAny _ _ ((forTurn target it body [] env).onRaise (fun x => do noteFrame x env; theTreesLotGoes x)) _ _ s
  refine wpAny_noted ?_
  simp only [forTurn]
  refine wpAny_mono (E := NoE) ?_ (fun _ _ q => q) (fun _ _ q => q.elim)
  refine wpAny_bind (wpAny_standAt (wpAny_bind (wpAny_onRaise (wpAny_mono (E := NoE) ?_ (fun _ _ q => q) (fun _ _ q => q.elim)))))
  rcases Nat.lt_or_ge i n with hlt | hge
  · refine S.next i _ s _ _ hlt (hPre i C hP) H fun v s1 hv H1 => ?_
    refine wpAny_bind (S.own target i _ v s1 _ _ hv H1 fun s2 H2 => ?_)
    refine wpAny_bind (wpAny_mono (turn i v C (f (i + 1) ++ K) s2 hlt hv hP (fun C s q => q.drop) H2.swap) (fun _ s3 q3 => ?_) fun _ _ q => q)
    refine wpAny_bind (wpAny_mono q3 (fun fl s4 q4 => ?_) fun _ _ q => q)
    cases fl with
    | next =>
      obtain ⟨C', hP', H'⟩ := q4
      exact wpAny_pure (.inl ⟨rfl, n - (i + 1), by omega, i + 1, C', hlt, rfl, hP', H'.swap⟩)
    | cont =>
      obtain ⟨C', hP', H'⟩ := q4
      exact wpAny_pure (.inl ⟨rfl, n - (i + 1), by omega, i + 1, C', hlt, rfl, hP', H'.swap⟩)
    | brk => exact wpAny_pure (hR _ _ q4)
    | ret v => exact wpAny_pure (hR _ _ q4)
  · have e : i = n := by omega
    subst e
    exact S.done _ s _ _ (hPre i C hP) H fun s1 H1 => wpAny_pure (.inr ⟨rfl, codeAny_block (wpAny_execs_nil (hR _ _ (fin C s1 hP H1)))⟩)

/-- for target in (a list) -/
theorem x_for_list {target iter : Expr} {body : List Stmt} {pos : Pos} {Q : Flow → Shared → Prop} (hh : A.handled = none)
    (h : wpAny (model prog w) A (eval iter env) (fun x s₁ => ∃ l xs C0 K, ∃ P : Nat → Cells → Prop, x = .ref l ∧ P 0 C0 ∧ St h0 o0 (C0 ++ K) s₁ ∧ (∀ i C, P i C → Has (C ++ K) l (cList xs)) ∧
      (∀ i v C K' s, xs[i]? = some v → P i C → (∀ C s, St h0 o0 (C ++ K') s → St h0 o0 (C ++ K) s) → St h0 o0 (C ++ K') s →
        wpAny (model prog w) A (assign target env v) (fun _ s₂ => wpAny (model prog w) A (execs body env) (fun f s₃ => match f with
          | .next | .cont => ∃ C', P (i + 1) C' ∧ St h0 o0 (C' ++ K') s₃
          | .brk => Q .next s₃
          | .ret v => Q (.ret v) s₃) NoE s₂) NoE s) ∧
      (∀ C s, P xs.length C → St h0 o0 (C ++ K) s → Q .next s)) E s)
    (hs : ∀ x, foldedSetIterable iter env x = pure x) :
    wpAny (model prog w) A (exec (.For target iter body [] pos) env) Q E s := by
  refine wpAny_For (wpAny_mono h (fun x s₁ h₁ => ?_) fun _ _ q => q) hs
  obtain ⟨l, xs, C0, K, P, rfl, hP0, H, hl, turn, fin⟩ := h₁
  have hl' := hl 0 C0 hP0
  refine wpAny_pyIter_list (list_of H hl') ?_
  have H2 : St h0 o0 ((s₁.heap.objs.size, cLIter l 0) :: (C0 ++ K)) { s₁ with heap := s₁.heap.push { cls := .type "list_iterator", data := .fields #[.ref l, .int 0 0] } } :=
    H.push (k := s₁.toks) (c := cLIter l 0) ⟨rfl, rfl⟩ (Nat.le_refl _)
  refine for_core (R := Q) (steps_list (l := l) (xs := xs) hh) P (fun i C hP => hl i C hP) (fun i v C K' s hi hv hP hK H => turn i v C K' s hv hP hK H) fin (fun f s q => q) hP0 H2

/-- while test: body -/
theorem x_while {test : Expr} {body : List Stmt} {pos : Pos} {Q : Flow → Shared → Prop} (P : Nat → Cells → Prop)
    (turn : ∀ n C s, P n C → St h0 o0 (C ++ K) s → wpAny (model prog w) A (isTrue test env (eval test env)) (fun b s₂ =>
      if b then wpAny (model prog w) A (execs body env) (fun f s₃ => match f with
        | .next | .cont => ∃ m C', m < n ∧ P m C' ∧ St h0 o0 (C' ++ K) s₃
        | .brk => Q .next s₃
        | .ret v => Q (.ret v) s₃) NoE s₂
      else Q .next s₂) NoE s) {n : Nat} {C0 : Cells} (hP : P n C0) (H : St h0 o0 (C0 ++ K) s) :
    wpAny (model prog w) A (exec (.While test body [] pos) env) Q E s := by
  refine wpAny_While (codeAny_whileLoop (fun n s => ∃ C, P n C ∧ St h0 o0 (C ++ K) s) (fun n s hI => ?_) n ⟨C0, hP, H⟩)
  obtain ⟨C, hP, H⟩ := hI
  refine wpAny_mono (turn n C s hP H) (fun b s₂ q => ?_) fun _ _ q => q.elim
  cases b with
  | true =>
    simp only [if_true] at q ⊢
    refine wpAny_mono q (fun f s₃ q => ?_) fun _ _ q => q.elim
    cases f with
    | next => obtain ⟨m, C', h1, h2, h3⟩ := q; exact ⟨m, h1, C', h2, h3⟩
    | cont => obtain ⟨m, C', h1, h2, h3⟩ := q; exact ⟨m, h1, C', h2, h3⟩
    | brk => exact q
    | ret v => exact q
  | false =>
    simp only [Bool.false_eq_true, if_false] at q ⊢
    exact wpAny_execs_nil q
end
section
variable {prog : Program} {w : World} {A : Around} {E : Value → Shared → Prop} {s : Shared} {env : Env} {h0 : Heap} {o0 : Shared} {cs cs' : Cells} {K : Cells}

theorem x_append {l : Addr} {xs : List Value} {v : Value} {Q : Value → Shared → Prop} (H : St h0 o0 cs s) (hp : Put cs l (cList xs) (cList (xs ++ [v])) cs') (hsz : xs.length ≤ sizeLine) (h : ∀ s', St h0 o0 cs' s' → Q .none s') :
    wpAny (model prog w) A (call (.builtin "list.append") [.ref l, v]) Q E s := by
  refine wpAny_list_append_plain (hsz := by simpa using hsz) (plist_of H hp.has) fun h' hl hs => h _ (H.updS (k := s.toks) hp (of_plist hl (by simp)) hs (Nat.le_refl _))

abbrev compTests (ifs : List Expr) (cenv : Env) : Sem Bool := forIn ifs true fun c r => if r = true then do let ok ← isTrue c cenv (eval c cenv); pure (ForInStep.yield ok) else pure (ForInStep.yield r)
theorem x_tests0 {cenv : Env} {Q : Bool → Shared → Prop} (h : Q true s) : wpAny (model prog w) A (compTests [] cenv) Q E s := by
  unfold compTests; rw [List.forIn_nil]; exact wpAny_pure h
theorem x_tests1 {c : Expr} {cenv : Env} {Q : Bool → Shared → Prop} (h : wpAny (model prog w) A (isTrue c cenv (eval c cenv)) Q E s) : wpAny (model prog w) A (compTests [c] cenv) Q E s := by
  unfold compTests
  rw [List.forIn_cons]
  refine wpAny_bind (wpAny_bind (wpAny_mono h (fun ok s' q => wpAny_pure ?_) fun _ _ q => q))
  show wpAny _ _ (forIn [] ok _) _ _ _
  rw [List.forIn_nil]; exact wpAny_pure q

theorem comp_core {elt target iter : Expr} {ifs : List Expr} {scope : Scope} {pos : Pos} {it : Value} {D L : Addr} {cenv : Env} {f : Nat → Cells} {n : Nat} {V : Nat → Value → Prop} {Pre : Cells → Prop} {R' : Result → Shared → Prop}
    (S : Steps prog w A h0 o0 it f n V Pre) (P : Nat → List Value → Cells → Prop) (hPre : ∀ i ys C, P i ys C → Pre ((L, cNs []) :: (C ++ ((D, cList ys) :: K)))) (hn : n ≤ sizeLine)
    (turn : ∀ i v ys C K' s, i < n → V i v → P i ys C → St h0 o0 ((L, cNs []) :: (C ++ K')) s →
      wpAny (model prog w) A (assign target cenv v) (fun _ s₂ => wpAny (model prog w) A (compTests ifs cenv) (fun ok s₃ =>
        if ok = true then wpAny (model prog w) A (eval elt cenv) (fun y s₄ => ∃ m C', P (i + 1) (ys ++ [y]) C' ∧ St h0 o0 ((L, cNs m) :: (C' ++ K')) s₄) NoE s₃
        else ∃ m C', P (i + 1) ys C' ∧ St h0 o0 ((L, cNs m) :: (C' ++ K')) s₃) NoE s₂) NoE s)
    (fin : ∀ ys C s, P n ys C → St h0 o0 ((L, cNs []) :: (D, cList ys) :: (C ++ K)) s → R' (.ok .next) s) {C0 : Cells} (h0P : P 0 [] C0) (H : St h0 o0 (f 0 ++ ((L, cNs []) :: (C0 ++ ((D, cList []) :: K)))) s) :
    codeAny (model prog w) A (.compLoop (.ListComp elt [⟨target, iter, ifs, 0⟩] scope pos) 0 it (.ref D) cenv) R' s := by
  refine codeAny_loop rfl (fun k s => ∃ i ys C, i ≤ n ∧ ys.length ≤ i ∧ k = n - i ∧ P i ys C ∧ St h0 o0 (f i ++ ((L, cNs []) :: (C ++ ((D, cList ys) :: K)))) s) (fun k s hI => ?_) n ⟨0, [], C0, Nat.zero_le _, Nat.le_refl _, rfl, h0P, H⟩
  obtain ⟨i, ys, C, hi, hys, rfl, hP, H⟩ := hI
  show wpAny _ A ((compTurn (.ListComp elt [⟨target, iter, ifs, 0⟩] scope pos) 0 it (.ref D) cenv).onRaise (fun x => do noteFrame x cenv; theTreesLotGoes x)) _ _ s
  refine wpAny_noted ?_
  rw [compTurn_list]
  refine wpAny_mono (E := NoE) ?_ (fun _ _ q => q) (fun _ _ q => q.elim)
  refine wpAny_bind (wpAny_standAt (wpAny_bind ?_))
  rcases Nat.lt_or_ge i n with hlt | hge
  · refine S.next i _ s _ _ hlt (hPre i ys C hP) H fun v s1 hv H1 => ?_
    refine wpAny_bind (S.own target i _ v s1 _ _ hv H1 fun s2 H2 => ?_)
    have H2' : St h0 o0 ((L, cNs []) :: (C ++ ((D, cList ys) :: (f (i + 1) ++ K)))) s2 := H2.perm (by
      refine List.Perm.trans ?_ (List.perm_append_comm (l₁ := (L, cNs []) :: (C ++ ((D, cList ys) :: K))) (l₂ := f (i + 1)))
      simp only [List.cons_append, List.append_assoc]
      refine List.Perm.cons _ (List.Perm.append_left _ (List.Perm.cons _ List.perm_append_comm)))
    refine wpAny_bind (wpAny_mono (turn i v ys C ((D, cList ys) :: (f (i + 1) ++ K)) s2 hlt hv hP H2') (fun _ s3 q3 => ?_) fun _ _ q => q)
    refine wpAny_bind (wpAny_mono q3 (fun ok s4 q4 => ?_) fun _ _ q => q)
    have back : ∀ {m C' zs s}, St h0 o0 ((L, cNs m) :: (C' ++ ((D, cList zs) :: (f (i + 1) ++ K)))) s → St h0 o0 (f (i + 1) ++ ((L, cNs []) :: (C' ++ ((D, cList zs) :: K)))) s := fun {m C' zs s} q =>
      (q.weak (c' := cNs []) .here fun o ho => ho.sub .nil).perm (by
        refine List.Perm.trans (List.perm_append_comm (l₁ := f (i + 1)) (l₂ := (L, cNs []) :: (C' ++ ((D, cList zs) :: K)))) ?_
        simp only [List.cons_append, List.append_assoc]
        exact List.Perm.cons _ (List.Perm.append_left _ (List.Perm.cons _ List.perm_append_comm)))
    cases ok with
    | false =>
      simp only [Bool.false_eq_true, if_false] at q4
      obtain ⟨m, C', hP', H'⟩ := q4
      exact wpAny_pure ⟨rfl, n - (i + 1), by omega, i + 1, ys, C', hlt, by omega, rfl, hP', back H'⟩
    | true =>
      simp only [if_true] at q4
      refine wpAny_bind (wpAny_bind (wpAny_mono q4 (fun y s5 q5 => ?_) fun _ _ q => q))
      obtain ⟨m, C', hP', H'⟩ := q5
      have hput : ∀ (C' : Cells), Put (C' ++ ((D, cList ys) :: (f (i + 1) ++ K))) D (cList ys) (cList (ys ++ [y])) (C' ++ ((D, cList (ys ++ [y])) :: (f (i + 1) ++ K))) := fun C' => by
        induction C' with
        | nil => exact .here
        | cons p r ih => exact .there ih
      refine wpAny_bind (x_append H' (.there (hput C')) (by omega) fun s6 H6 => ?_)
      exact wpAny_pure (wpAny_pure ⟨rfl, n - (i + 1), by omega, i + 1, ys ++ [y], C', hlt, by rw [List.length_append, List.length_singleton]; omega, rfl, hP', back H6⟩)
  · have e : i = n := by omega
    subst e
    refine S.done _ s _ _ (hPre i ys C hP) H fun s1 H1 => wpAny_pure (fin ys C s1 hP (H1.perm ?_))
    exact List.Perm.cons _ (List.perm_middle).symm

/-- the frame that a comprehension leaves is forgotten -/
theorem St.unframe {L : Addr} {h' : Heap} {m : List (Str × Value)} (H : St h0 o0 ((L, cNs m) :: cs) s) (hsb : Heap.SameBut L s.heap h') : St h0 o0 cs { s with heap := h' } := by
  have nL : h0.get? L = none := H.new (L, cNs m) (by simp)
  have hd := H.nodup
  rw [List.map_cons, List.nodup_cons] at hd
  refine ⟨fun b o e => (hsb.2 b (fun q => ?_)).trans (H.keep b o e), fun p hp => ?_, fun p hp => H.new p (List.mem_cons_of_mem _ hp), hd.2, H.gens, H.os, H.tok, H.flo, fun p hp => H.big p (List.mem_cons_of_mem _ hp), H.g3⟩
  · subst q; rw [nL] at e; cases e
  · obtain ⟨o, ho, hc⟩ := H.cell p (List.mem_cons_of_mem _ hp)
    refine ⟨o, (hsb.2 _ (fun q => hd.1 ?_)).trans ho, hc⟩
    have : p.1 ∈ List.map Prod.fst cs := List.mem_map_of_mem hp
    rwa [q] at this

/-- a comprehension's turns, behind its iterator -/
theorem comp_block {elt target iter : Expr} {ifs : List Expr} {scope : Scope} {pos : Pos} {cl : List (Str × Addr)} {itv : Value} {RR : Value → Addr → Result → Shared → Prop} {f : Nat → Cells} {n : Nat} {V : Nat → Value → Prop} {Pre : Cells → Prop} {C0 K : Cells} {P : Nat → List Value → Cells → Prop}
    (hcell : ∀ y ∈ scope.names, y.2 ≠ .cell) (hkind : scope.kind = .function) (S : Steps prog w A h0 o0 itv f n V Pre) (hP0 : P 0 [] C0) (hsz : n ≤ sizeLine) (H2 : St h0 o0 (f 0 ++ (C0 ++ K)) s) (hl : ∀ i ys C, P i ys C → Pre (C ++ K))
    (turn : ∀ L i v ys C K' s, i < n → V i v → P i ys C → St h0 o0 ((L, cNs []) :: (C ++ K')) s →
        wpAny (model prog w) A (assign target (compEnvC scope cl L env) v) (fun _ s₂ => wpAny (model prog w) A (compTests ifs (compEnvC scope cl L env)) (fun ok s₃ =>
          if ok = true then wpAny (model prog w) A (eval elt (compEnvC scope cl L env)) (fun y s₄ => ∃ m C', P (i + 1) (ys ++ [y]) C' ∧ St h0 o0 ((L, cNs m) :: (C' ++ K')) s₄) NoE s₃
          else ∃ m C', P (i + 1) ys C' ∧ St h0 o0 ((L, cNs m) :: (C' ++ K')) s₃) NoE s₂) NoE s)
    (fin : ∀ L D ys C s, P n ys C → St h0 o0 ((L, cNs []) :: (D, cList ys) :: (C ++ K)) s → RR (.ref D) L (.ok .next) s) :
    wpAny (model prog w) A (newList []) (fun acc s₃ => wpAny (model prog w) A (newFunctionEnv scope env.globals cl [] env.qual none .none (some env)) (fun cenv s₄ =>
      codeAny (model prog w) A (.compStart (.ListComp elt [⟨target, iter, ifs, 0⟩] scope pos) 0 itv acc { cenv with scope := relabel scope env }) (RR acc cenv.locals) s₄) E s₃) E s := by
  refine wpAny_newObj_type ?_
  have H3 : St h0 o0 ((s.heap.objs.size, cList []) :: (f 0 ++ (C0 ++ K))) { s with heap := s.heap.push { cls := .type "list", data := .seq ([] : List Value).toArray } } :=
    H2.push (k := s.toks) (c := cList []) ⟨0, rfl⟩ (Nat.le_refl _)
  generalize hD : s.heap.objs.size = D at H3 ⊢
  generalize hs3 : ({ s with heap := s.heap.push { cls := .type "list", data := .seq ([] : List Value).toArray } } : Shared) = s3 at H3 ⊢
  clear hs3
  refine wpAny_newFunctionEnv hcell (by intro y hy; simp at hy) (fun h₁ hns₁ hsb₁ => ?_) hkind
  have H4 : St h0 o0 ((s3.heap.objs.size, cNs []) :: (D, cList []) :: (f 0 ++ (C0 ++ K))) { s3 with heap := h₁, toks := s3.toks + ([] : List (Str × Value)).length } := by
    refine H3.more (Nat.le_refl _) (of_ns hns₁ (m := []) fun x v q => by cases q) (fun b o e => ?_) ?_
    · exact (hsb₁.2 b (Nat.ne_of_lt (Heap.lt_size e))).trans (Heap.get?_push_of_some _ e)
    · exact Nat.le_add_right _ _
  generalize hL : s3.heap.objs.size = L at H4 ⊢
  generalize hs4 : ({ s3 with heap := h₁, toks := s3.toks + ([] : List (Str × Value)).length } : Shared) = s4 at H4 ⊢
  clear hs4
  have H5 : St h0 o0 (f 0 ++ ((L, cNs []) :: (C0 ++ ((D, cList []) :: K)))) s4 := H4.perm (by
    refine List.Perm.trans List.perm_middle ?_
    refine List.Perm.cons _ ?_
    refine List.Perm.trans (List.Perm.append_left _ List.perm_middle) ?_
    exact List.perm_middle)
  have loop : codeAny (model prog w) A (.compLoop (.ListComp elt [⟨target, iter, ifs, 0⟩] scope pos) 0 itv (.ref D) (compEnvC scope cl L env)) (RR (.ref D) L) s4 := by
    refine comp_core (K := K) S P (fun i ys C hP => S.mono _ _ (hl i ys C hP) fun p hp => ?_) hsz (fun i v ys C K' s hi hv hP H => turn L i v ys C K' s hi hv hP H) (fun ys C s hP H => fin L D ys C s hP H) hP0 H5
    rcases List.mem_append.mp hp with q | q
    · exact List.mem_cons_of_mem _ (List.mem_append_left _ q)
    · exact List.mem_cons_of_mem _ (List.mem_append_right _ (List.mem_cons_of_mem _ q))
  exact codeAny_compStart_list loop (S.self 0 _ _ _ _ H5 loop)

/-- a comprehension over anything that steps -/
theorem x_comp {elt target iter : Expr} {ifs : List Expr} {scope : Scope} {pos : Pos} {cl : List (Str × Addr)} {Q : Value → Shared → Prop}
    (hclos : closureFor scope env = pure cl) (hcell : ∀ y ∈ scope.names, y.2 ≠ .cell) (hkind : scope.kind = .function) (hnames : ∀ y ∈ scope.names, y.2 = .local → scope.names.lookup y.1 = some .local)
    (h : wpAny (model prog w) A (eval iter env) (fun x s₁ => wpAny (model prog w) A (pyIter x) (fun itv s₂ => ∃ f n V Pre C0 K, ∃ P : Nat → List Value → Cells → Prop, Steps prog w A h0 o0 itv f n V Pre ∧ P 0 [] C0 ∧ n ≤ sizeLine ∧ St h0 o0 (f 0 ++ (C0 ++ K)) s₂ ∧
      (∀ i ys C, P i ys C → Pre (C ++ K)) ∧
      (∀ L i v ys C K' s, i < n → V i v → P i ys C → St h0 o0 ((L, cNs []) :: (C ++ K')) s →
        wpAny (model prog w) A (assign target (compEnvC scope cl L env) v) (fun _ s₂ => wpAny (model prog w) A (compTests ifs (compEnvC scope cl L env)) (fun ok s₃ =>
          if ok = true then wpAny (model prog w) A (eval elt (compEnvC scope cl L env)) (fun y s₄ => ∃ m C', P (i + 1) (ys ++ [y]) C' ∧ St h0 o0 ((L, cNs m) :: (C' ++ K')) s₄) NoE s₃
          else ∃ m C', P (i + 1) ys C' ∧ St h0 o0 ((L, cNs m) :: (C' ++ K')) s₃) NoE s₂) NoE s) ∧
      (∀ D ys C s, P n ys C → St h0 o0 ((D, cList ys) :: (C ++ K)) s → Q (.ref D) s)) E s₁) E s)
    (hs : ∀ x, foldedSetIterable iter env x = pure x) :
    wpAny (model prog w) A (eval (.ListComp elt [⟨target, iter, ifs, 0⟩] scope pos) env) Q E s := by
  rw [eval_ListComp]
  refine wpAny_comprehension_free (use := none) rfl hs hclos hkind hnames (wpAny_mono h (fun x s₁ h₁ => wpAny_mono h₁ (fun itv s2 h₂ => ?_) fun _ _ q => q) fun _ _ q => q)
  obtain ⟨f, n, V, Pre, C0, K, P, S, hP0, hsz, H2, hl, turn, fin⟩ := h₂
  refine comp_block (RR := fun acc C => compPost (model prog w) A E none Q acc C) hcell hkind S hP0 hsz H2 hl turn fun L D ys C s hP H => ?_
  obtain ⟨f, hn, _⟩ := ns_of H .here
  exact ⟨f, hn, fun h' hsb => fin D ys C _ hP (H.unframe hsb)⟩

/-- name = (a comprehension), where the name is stored before the comprehension's own names go -/
theorem x_assign_comp {elt target iter : Expr} {ifs : List Expr} {scope : Scope} {pos py spos : Pos} {y : Str} {cl : List (Str × Addr)} {Q : Flow → Shared → Prop}
    (hsw : swapsWith (.ListComp elt [⟨target, iter, ifs, 0⟩] scope pos) (some (.Name y py)) spos.line env = pure true)
    (hclos : closureFor scope env = pure cl) (hcell : ∀ y ∈ scope.names, y.2 ≠ .cell) (hkind : scope.kind = .function) (hnames : ∀ y ∈ scope.names, y.2 = .local → scope.names.lookup y.1 = some .local)
    (h : wpAny (model prog w) A (eval iter env) (fun x s₁ => wpAny (model prog w) A (pyIter x) (fun itv s₂ => ∃ f n V Pre C0 K, ∃ P : Nat → List Value → Cells → Prop, Steps prog w A h0 o0 itv f n V Pre ∧ P 0 [] C0 ∧ n ≤ sizeLine ∧ St h0 o0 (f 0 ++ (C0 ++ K)) s₂ ∧
      (∀ i ys C, P i ys C → Pre (C ++ K)) ∧
      (∀ L i v ys C K' s, i < n → V i v → P i ys C → St h0 o0 ((L, cNs []) :: (C ++ K')) s →
        wpAny (model prog w) A (assign target (compEnvC scope cl L env) v) (fun _ s₂ => wpAny (model prog w) A (compTests ifs (compEnvC scope cl L env)) (fun ok s₃ =>
          if ok = true then wpAny (model prog w) A (eval elt (compEnvC scope cl L env)) (fun y s₄ => ∃ m C', P (i + 1) (ys ++ [y]) C' ∧ St h0 o0 ((L, cNs m) :: (C' ++ K')) s₄) NoE s₃
          else ∃ m C', P (i + 1) ys C' ∧ St h0 o0 ((L, cNs m) :: (C' ++ K')) s₃) NoE s₂) NoE s) ∧
      (∀ L D ys C s, P n ys C → St h0 o0 ((D, cList ys) :: (C ++ ((L, cNs []) :: K))) s → wpAny (model prog w) A (storeName env y (.ref D)) (fun _ s' => ∃ cs', St h0 o0 ((L, cNs []) :: cs') s' ∧ ∀ s'', St h0 o0 cs' s'' → Q .next s'') E s)) E s₁) E s)
    (hs : ∀ x, foldedSetIterable iter env x = pure x) :
    wpAny (model prog w) A (exec (.Assign [.Name y py] (.ListComp elt [⟨target, iter, ifs, 0⟩] scope pos) spos) env) Q E s := by
  rw [exec_Assign_Name_used _ _ _ _ hsw]
  refine wpAny_bind (wpAny_standAt (wpAny_bind ?_))
  show wpAny _ A (do let _ ← comprehension (.ListComp elt [⟨target, iter, ifs, 0⟩] scope pos) scope env _ (newList []) false (eval iter env) (some (assign (.Name y py) env))) _ _ s
  refine wpAny_bind (wpAny_mono (wpAny_comprehension_free (use := some (assign (.Name y py) env)) (Q := fun _ s' => Q .next s') rfl hs hclos hkind hnames
    (wpAny_mono h (fun xv s₁ h₁ => wpAny_mono h₁ (fun it s₂ h₂ => ?_) fun _ _ e => e) fun _ _ e => e)) (fun _ s' hq => wpAny_pure (wpAny_pure hq)) fun _ _ e => e)
  obtain ⟨f, n, V, Pre, C0, K, P, S, hP0, hsz, H2, hl, turn, fin⟩ := h₂
  refine comp_block (RR := fun acc C => compPost (model prog w) A E (some (assign (.Name y py) env)) (fun _ s' => Q .next s') acc C) hcell hkind S hP0 hsz H2 hl turn fun L D ys C s hP H => ?_
  show wpAny _ A (assign (.Name y py) env (.ref D)) _ _ _
  refine wpAny_assign_Name (wpAny_mono (fin L D ys C s hP (H.perm ?_)) (fun _ s' q => ?_) fun _ _ q => q)
  · refine List.Perm.trans (List.Perm.cons _ List.perm_middle) (List.Perm.swap _ _ _)
  · obtain ⟨cs', H', hq⟩ := q
    obtain ⟨f, hn, _⟩ := ns_of H' .here
    exact ⟨f, hn, fun h' hsb => hq _ (H'.unframe hsb)⟩

/-- [elt for target in (a list) if ..] -/
theorem x_comp_list {elt target iter : Expr} {ifs : List Expr} {scope : Scope} {pos : Pos} {cl : List (Str × Addr)} {Q : Value → Shared → Prop} (hh : A.handled = none)
    (hclos : closureFor scope env = pure cl) (hcell : ∀ y ∈ scope.names, y.2 ≠ .cell) (hkind : scope.kind = .function) (hnames : ∀ y ∈ scope.names, y.2 = .local → scope.names.lookup y.1 = some .local)
    (h : wpAny (model prog w) A (eval iter env) (fun x s₁ => ∃ l xs C0 K, ∃ P : Nat → List Value → Cells → Prop, x = .ref l ∧ P 0 [] C0 ∧ xs.length ≤ sizeLine ∧ St h0 o0 (C0 ++ K) s₁ ∧ (∀ i ys C, P i ys C → Has (C ++ K) l (cList xs)) ∧
      (∀ L i v ys C K' s, xs[i]? = some v → P i ys C → St h0 o0 ((L, cNs []) :: (C ++ K')) s →
        wpAny (model prog w) A (assign target (compEnvC scope cl L env) v) (fun _ s₂ => wpAny (model prog w) A (compTests ifs (compEnvC scope cl L env)) (fun ok s₃ =>
          if ok = true then wpAny (model prog w) A (eval elt (compEnvC scope cl L env)) (fun y s₄ => ∃ m C', P (i + 1) (ys ++ [y]) C' ∧ St h0 o0 ((L, cNs m) :: (C' ++ K')) s₄) NoE s₃
          else ∃ m C', P (i + 1) ys C' ∧ St h0 o0 ((L, cNs m) :: (C' ++ K')) s₃) NoE s₂) NoE s) ∧
      (∀ D ys C s, P xs.length ys C → St h0 o0 ((D, cList ys) :: (C ++ K)) s → Q (.ref D) s)) E s)
    (hs : ∀ x, foldedSetIterable iter env x = pure x) :
    wpAny (model prog w) A (eval (.ListComp elt [⟨target, iter, ifs, 0⟩] scope pos) env) Q E s := by
  refine x_comp (h0 := h0) (o0 := o0) hclos hcell hkind hnames (wpAny_mono h (fun x s₁ h₁ => ?_) fun _ _ q => q) hs
  obtain ⟨l, xs, C0, K, P, rfl, hP0, hsz, H, hl, turn, fin⟩ := h₁
  refine wpAny_pyIter_list (list_of H (hl 0 [] C0 hP0)) ?_
  exact ⟨_, _, _, _, C0, K, P, steps_list (l := l) (xs := xs) hh, hP0, hsz, H.push (k := s₁.toks) (c := cLIter l 0) ⟨rfl, rfl⟩ (Nat.le_refl _), fun i ys C hP => hl i ys C hP, fun L i v ys C K' s _ hv hP H => turn L i v ys C K' s hv hP H, fin⟩

/-- [elt for target in (a text) if ..] -/
theorem x_comp_str {elt target iter : Expr} {ifs : List Expr} {scope : Scope} {pos : Pos} {cl : List (Str × Addr)} {Q : Value → Shared → Prop} (hh : A.handled = none)
    (hclos : closureFor scope env = pure cl) (hcell : ∀ y ∈ scope.names, y.2 ≠ .cell) (hkind : scope.kind = .function) (hnames : ∀ y ∈ scope.names, y.2 = .local → scope.names.lookup y.1 = some .local)
    (h : wpAny (model prog w) A (eval iter env) (fun x s₁ => ∃ t tt C0 K, ∃ P : Nat → List Value → Cells → Prop, x = .str t tt ∧ P 0 [] C0 ∧ t.length ≤ sizeLine ∧ St h0 o0 (C0 ++ K) s₁ ∧
      (∀ L i c u ys C K' s, t.cps.toList[i]? = some c → P i ys C → St h0 o0 ((L, cNs []) :: (C ++ K')) s →
        wpAny (model prog w) A (assign target (compEnvC scope cl L env) (.str ⟨#[c]⟩ u)) (fun _ s₂ => wpAny (model prog w) A (compTests ifs (compEnvC scope cl L env)) (fun ok s₃ =>
          if ok = true then wpAny (model prog w) A (eval elt (compEnvC scope cl L env)) (fun y s₄ => ∃ m C', P (i + 1) (ys ++ [y]) C' ∧ St h0 o0 ((L, cNs m) :: (C' ++ K')) s₄) NoE s₃
          else ∃ m C', P (i + 1) ys C' ∧ St h0 o0 ((L, cNs m) :: (C' ++ K')) s₃) NoE s₂) NoE s) ∧
      (∀ D ys C s, P t.length ys C → St h0 o0 ((D, cList ys) :: (C ++ K)) s → Q (.ref D) s)) E s)
    (hs : ∀ x, foldedSetIterable iter env x = pure x) :
    wpAny (model prog w) A (eval (.ListComp elt [⟨target, iter, ifs, 0⟩] scope pos) env) Q E s := by
  refine x_comp (h0 := h0) (o0 := o0) hclos hcell hkind hnames (wpAny_mono h (fun x s₁ h₁ => ?_) fun _ _ q => q) hs
  obtain ⟨t, tt, C0, K, P, rfl, hP0, hsz, H, turn, fin⟩ := h₁
  have hn : ∀ i v, SignAt t i v → ∀ a, v ≠ .ref a := fun i v ⟨c, u, _, e⟩ a q => by rw [e] at q; cases q
  have turn' : ∀ L i v ys C K' s, i < t.cps.size → SignAt t i v → P i ys C → St h0 o0 ((L, cNs []) :: (C ++ K')) s →
        wpAny (model prog w) A (assign target (compEnvC scope cl L env) v) (fun _ s₂ => wpAny (model prog w) A (compTests ifs (compEnvC scope cl L env)) (fun ok s₃ =>
          if ok = true then wpAny (model prog w) A (eval elt (compEnvC scope cl L env)) (fun y s₄ => ∃ m C', P (i + 1) (ys ++ [y]) C' ∧ St h0 o0 ((L, cNs m) :: (C' ++ K')) s₄) NoE s₃
          else ∃ m C', P (i + 1) ys C' ∧ St h0 o0 ((L, cNs m) :: (C' ++ K')) s₃) NoE s₂) NoE s := by
    rintro L i v ys C K' s hi ⟨c, u, hc, rfl⟩ hP H
    exact turn L i c u ys C K' s (by simpa using hc) hP H
  cases ha : t.cps.all (· < 128)
  · refine wpAny_pyIter_wide ha ?_
    refine ⟨_, _, _, _, C0, K, P, steps_walks (Walks.strWide hh s₁.heap.objs.size t tt) hn (fun i h ⟨o, ho, _⟩ => ⟨o, ho⟩), hP0, hsz, H.push (k := s₁.toks) ?_ (Nat.le_refl _), fun _ _ _ _ => trivial, turn', fin⟩
    intro h hh'; exact ⟨_, hh', rfl, rfl⟩
  · refine wpAny_pyIter_ascii ha ?_
    refine ⟨_, _, _, _, C0, K, P, steps_walks (Walks.strAscii hh s₁.heap.objs.size t tt) hn (fun i h ⟨o, ho, _⟩ => ⟨o, ho⟩), hP0, hsz, H.push (k := s₁.toks) ?_ (Nat.le_refl _), fun _ _ _ _ => trivial, turn', fin⟩
    intro h hh'; exact ⟨_, hh', rfl, rfl⟩
end
section
variable {prog : Program} {w : World} {A : Around} {E : Value → Shared → Prop} {s : Shared} {env : Env} {h0 : Heap} {o0 : Shared} {cs cs' : Cells} {K : Cells} {Q : Value → Shared → Prop}

theorem x_mod {a b : Int} {t u : Tok} (H : St h0 o0 cs s) (hb : b ≠ 0) (h : ∀ t' s', St h0 o0 cs s' → Q (.int (a.fmod b) t') s') : wpAny (model prog w) A (binaryOp .Mod (.int a t) (.int b u)) Q E s :=
  mod_int' hb (h _ _ (H.toks (Nat.le_succ _)))
theorem x_fdiv {a b : Int} {t u : Tok} (H : St h0 o0 cs s) (hb : b ≠ 0) (hs : b.natAbs < 1073741824) (h : ∀ t' s', St h0 o0 cs s' → Q (.int (a.fdiv b) t') s') : wpAny (model prog w) A (binaryOp .FloorDiv (.int a t) (.int b u)) Q E s :=
  floordiv_int hb (h _ _ (H.toks (Nat.le_succ _))) (.inl (PyProof.noPylong_small hs))
theorem x_addi {a b : Int} {t u : Tok} (H : St h0 o0 cs s) (h : ∀ t' s', St h0 o0 cs s' → Q (.int (a + b) t') s') : wpAny (model prog w) A (binaryOp .Add (.int a t) (.int b u)) Q E s :=
  PyProof.Rows.add_int (h _ _ (H.toks (Nat.le_succ _)))
theorem x_subi {a b : Int} {t u : Tok} (H : St h0 o0 cs s) (h : ∀ t' s', St h0 o0 cs s' → Q (.int (a - b) t') s') : wpAny (model prog w) A (binaryOp .Sub (.int a t) (.int b u)) Q E s :=
  PyProof.Rows.sub_int (h _ _ (H.toks (Nat.le_succ _)))
theorem x_chr {i : Int} {t : Tok} (H : St h0 o0 cs s) (h1 : 0 ≤ i) (h2 : i ≤ 1114111) (h : ∀ x t' s', x = ⟨#[i.toNat]⟩ → x.length = 1 → St h0 o0 cs s' → t' ≠ 0 → Q (.str x t') s') : wpAny (model prog w) A (call (.builtin "chr") [.int i t]) Q E s :=
  chr_of_range h1 h2 (h _ _ _ rfl rfl (H.toks (Nat.le_succ _)) H.tok)
theorem x_adds {x y : Str} {t u : Tok} (H : St h0 o0 cs s) (hsz : x.length + y.length ≤ sizeLine) (h : ∀ t' s', St h0 o0 cs s' → Q (.str (x ++ y) t') s') : wpAny (model prog w) A (binaryOp .Add (.str x t) (.str y u)) Q E s :=
  tokd (SB.add (fun t' k hk => h t' _ (H.toks hk)) hsz)
theorem x_iadds {x y : Str} {t u : Tok} (H : St h0 o0 cs s) (hsz : x.length + y.length ≤ sizeLine) (h : ∀ t' s', St h0 o0 cs s' → Q (.str (x ++ y) t') s') : wpAny (model prog w) A (inplaceOp .Add (.str x t) (.str y u)) Q E s :=
  tokd (SB.iadd (fun t' k hk => h t' _ (H.toks hk)) hsz)

theorem x_ld {x : Str} {L : Addr} {m} {v : Value} (H : St h0 o0 cs s) (hp : Has cs L (cNs m)) (hL : env.locals = L) (hv : Look m x v) (hk : env.scope.kind = .function)
    (hl : env.kindOf x = some .local) (h : Q v s) : wpAny (model prog w) A (loadName env x) Q E s := by
  obtain ⟨f, hf, hm⟩ := ns_of H hp
  subst hL
  exact wpAny_loadName_local hk hl hf (hm _ _ hv.eq) h

theorem x_newList {vs : List Value} (H : St h0 o0 cs s) (hsz : vs.length ≤ sizeLine) (h : ∀ a s', St h0 o0 ((a, cList vs) :: cs) s' → s'.toks = s.toks → Q (.ref a) s') : wpAny (model prog w) A (newList vs) Q E s :=
  wpAny_newObj_type (h _ _ (H.push (k := s.toks) ⟨0, rfl⟩ (Nat.le_refl _)) rfl) (by show vs.toArray.size ≤ sizeLine; rw [List.size_toArray]; exact hsz)
theorem x_newTuple {vs : List Value} (H : St h0 o0 cs s) (hsz : vs.length ≤ sizeLine) (h : ∀ a s', St h0 o0 ((a, cTup vs) :: cs) s' → s'.toks = s.toks → Q (.ref a) s') : wpAny (model prog w) A (newTuple vs) Q E s :=
  wpAny_newObj_type (h _ _ (H.push (k := s.toks) ⟨0, rfl⟩ (Nat.le_refl _)) rfl) (by show vs.toArray.size ≤ sizeLine; rw [List.size_toArray]; exact hsz)

theorem x_len {l : Addr} {xs : List Value} (H : St h0 o0 cs s) (hl : Has cs l (cList xs)) (hz : xs.length ≤ sizeLine) (h : ∀ t' s', St h0 o0 cs s' → Q (.int xs.length t') s') : wpAny (model prog w) A (call (.builtin "len") [.ref l]) Q E s := by
  refine len_list (list_of H hl) (by rw [List.size_toArray]; rw [sizeLine_eq] at hz; omega) ?_
  rw [List.size_toArray]
  exact h _ _ (H.toks (Nat.le_add_right _ 2))

theorem isL_of {a : Addr} {xs} (H : St h0 o0 cs s) (h : Has cs a (cList xs)) : ∃ n, s.heap.get? a = some { cls := .type "list", data := .seq xs.toArray n } := by
  obtain ⟨o, ho, n, rfl⟩ := H.get h
  exact ⟨n, ho⟩

/-- a list's method -/
theorem x_lmeth {name : Str} {id : String} {pl : Sem Bool} {l : Addr} {xs : List Value} {Q : Value × List Value → Shared → Prop} (slot : Slot "list" name id) (hty : typeOf (.builtin id) = pure (.type "method_descriptor"))
    (H : St h0 o0 cs s) (hl : Has cs l (cList xs)) (h : Q (.builtin id, [.ref l]) s) : wpAny (model prog w) A (getMethod (.ref l) name pl) Q E s := by
  obtain ⟨n, ho⟩ := isL_of H hl
  exact getMethod_builtin (list_of H hl).typeIs PySem.F.plainAttrs_list slot hty (fun a e => by cases e; exact ⟨_, ho, rfl⟩) h

theorem cList_mapSeq {f : Array Value → Array Value} {xs ys : List Value} {n : Nat} (e : f xs.toArray = ys.toArray) : cList ys (Obj.mapSeq f { cls := .type "list", data := .seq xs.toArray n }) :=
  ⟨if (f xs.toArray).size == xs.toArray.size then n else n + 1, congrArg (fun z => ({ cls := .type "list", data := .seq z (if (f xs.toArray).size == xs.toArray.size then n else n + 1) } : Obj)) e⟩

theorem x_popAt {l : Addr} {p q : List Value} {y : Value} {i : Int} {u : Tok} (H : St h0 o0 cs s) (hi : i = p.length) (hp : Put cs l (cList (p ++ y :: q)) (cList (p ++ q)) cs') (hz : (p ++ y :: q).length ≤ sizeLine) (h : ∀ s', St h0 o0 cs' s' → Q y s') :
    wpAny (model prog w) A (call (.builtin "list.pop") [.ref l, .int i u]) Q E s := by
  obtain ⟨n, ho⟩ := isL_of H hp.has
  have hz' : (p ++ y :: q).toArray.size ≤ sizeLine := by rw [List.size_toArray]; exact hz
  have hy : (p ++ y :: q).toArray[p.length]? = some y := by simp
  have hlen : (p ++ y :: q).length = p.length + (q.length + 1) := by simp
  have hlt : p.length < 16777216 := by rw [sizeLine_eq] at hz; omega
  have h1 : Builtin.List.listFitsIndex i = true := by
    unfold Builtin.List.listFitsIndex
    rw [Bool.and_eq_true, decide_eq_true_eq, decide_eq_true_eq]
    omega
  have h2 : seqIndex? i (p ++ y :: q).toArray.size = some p.length := by
    rw [StrLaws.seqIndex_nonneg (by omega) (by rw [List.size_toArray]; omega), hi, Int.toNat_natCast]
  have H' : St h0 o0 cs' { s with heap := s.heap.update l (Obj.mapSeq fun xs => xs.eraseIdxIfInBounds p.length), toks := s.toks } := by
    have e : (p ++ y :: q).toArray.eraseIdxIfInBounds p.length = (p ++ q).toArray := by
      apply Array.toList_inj.mp
      simp [List.eraseIdx_append_of_length_le]
    exact H.updS hp ⟨_, Heap.get?_update_self _ ho rfl, cList_mapSeq e⟩ (Heap.SameBut.update ..) (Nat.le_refl _)
  exact call_meets PySem.F.slot_list_pop ⟨_, ho, rfl⟩ PySem.F.entry_list_pop (PySem.F.args_list_pop_2 _ _)
    (PySem.MeetsSeq.list_pop_at l _ n i u p.length y h1 h2 hy hz') ⟨ho, h _ H'⟩

theorem x_item {value slice : Expr} {l : Addr} {xs : List Value} {k : Int} {u : Tok} {v : Value} (H : St h0 o0 cs s) (hl : Has cs l (cList xs)) (hk0 : 0 ≤ k) (hk1 : k < 2 ^ 63) (hx : xs[k.toNat]? = some v)
    (hs : subscripted slice false (.ref l) (.int k u) = operate [.ref l, .int k u] (getItem (.ref l) (.int k u))) (h : Q v s) : wpAny (model prog w) A (subscriptTail value slice (.ref l) (.int k u)) Q E s :=
  tail_any (list_of H hl).typeIs slot_list_getitem.lookup (wpAny_getItem_list (list_of H hl) hk0 hk1 (by simpa using hx) h) hs

/-- xs[lo:hi] -/
theorem x_slice {value : Expr} {lower upper : Option Expr} {p pos : Pos}
    (h : wpAny (model prog w) A (eval value env) (fun o s₁ => wpAny (model prog w) A (evalPart lower env) (fun vl s₂ => wpAny (model prog w) A (evalPart upper env) (fun vu s₃ =>
      ∃ l xs lo hi cs ys, o = .ref l ∧ St h0 o0 cs s₃ ∧ s₃.heap.IsList l xs ∧ xs.size ≤ sizeLine ∧ IsPart vl lo ∧ IsPart vu hi ∧ slicePick xs lo hi none = List.toArray ys ∧ ∀ a s', St h0 o0 ((a, cList ys) :: cs) s' → Q (.ref a) s') E s₂) E s₁) E s) :
    wpAny (model prog w) A (eval (.Subscript value (.Slice lower upper none p) pos) env) Q E s := by
  refine Subscript_ (wpAny_mono h (fun o s1 h1 => ?_) fun _ _ q => q)
  refine wpAny_Slice (wpAny_mono h1 (fun vl s2 h2 => wpAny_mono h2 (fun vu s3 h3 => ?_) fun _ _ q => q) fun _ _ q => q)
  obtain ⟨l, xs, lo, hi, cs, ys, rfl, H, hl, hz, p1, p2, e, hq⟩ := h3
  refine wpAny_pure ?_
  have H1 : St h0 o0 cs { s3 with heap := s3.heap.push { cls := .type "slice", data := .fields #[vl, vu, .none] } } := H.grow (k := s3.toks) (fun b o e => Heap.get?_push_of_some _ e) (Nat.le_refl _)
  have H2 := H1.push (k := s3.toks) (o := { cls := .type "list", data := .seq (slicePick xs lo hi none) }) (c := cList ys) ⟨0, by rw [e]⟩ (Nat.le_refl _)
  refine tail_any (Heap.IsList.typeIs (hl.push _)) slot_list_getitem.lookup (wpAny_getItem_list_slice (hl.push _) (Heap.IsSliceOf.new ..) p1 p2 .none (by simp) (hq _ _ H2) hz) rfl

theorem x_split1 {x y : Str} {t u : Tok} (H : St h0 o0 cs s) (hy : (y.length == 0) = false) (hsz : x.length + 2 ≤ sizeLine)
    (h : ∀ a l s', l.map (·.1) = Txt.split x y → St h0 o0 ((a, cList (strValues l)) :: cs) s' → Q (.ref a) s') : wpAny (model prog w) A (call (.builtin "str.split") [.str x t, .str y u]) Q E s := by
  refine tokd ?_
  have key : ∀ (l : List (Str × Tok)) (k : Nat), l.map (·.1) = Txt.split x y → s.toks ≤ k → Q (.ref s.heap.objs.size) { s with heap := s.heap.push { cls := .type "list", data := .seq (strValues l).toArray }, toks := k } := fun l k hl hk =>
    h _ l _ hl (H.push (k := k) ⟨0, rfl⟩ hk)
  have hsz2 : (Builtin.Str.partsBetween x (Builtin.Str.occurrences x y 0 x.length (x.length + 1)) y.length).length ≤ sizeLine := by
    rw [StrLaws.partsBetween_eq]
    have h1 := StrLaws.occ_length_le x y 0 x.length (x.length + 1)
    have : ∀ (cuts : List Nat) (a : Nat), (StrLaws.partsFrom x y.length a cuts).length = cuts.length + 1 := by
      intro cuts
      induction cuts with
      | nil => intro a; rfl
      | cons c r ih => intro a; simp only [StrLaws.partsFrom, List.length_cons, ih]
    rw [this]; omega
  cases h1 : (decide (x.length < y.length) || decide (Builtin.Str.strKind x < Builtin.Str.strKind y))
  · cases hf : (Builtin.Str.occurrences x y 0 x.length (x.length + 1)).isEmpty
    · refine call_meets F.slot_str_split (typeIs_str _ _ _) F.entry_str_split (F.args_str_split_2 _ _) (meets_str_split_sep x y t u h1 hy hf (by omega) hsz2) ?_
      show s.toks ≤ _ → Q _ _
      rw [strsFrom_eq]
      intro hk
      exact key (numbered s.toks _) _ ((numbered_texts _ _).trans ((if_neg (ne_true_of_eq_false h1)).trans (if_neg (ne_true_of_eq_false hf))).symm) hk
    · exact call_meets F.slot_str_split (typeIs_str _ _ _) F.entry_str_split (F.args_str_split_2 _ _) (meets_str_split_not_found x y t u h1 hy hf)
        (fun hk => key [(x, t)] _ ((if_neg (ne_true_of_eq_false h1)).trans (if_pos hf)).symm hk)
  · exact call_meets F.slot_str_split (typeIs_str _ _ _) F.entry_str_split (F.args_str_split_2 _ _) (meets_str_split_cannot_occur x y t u h1)
      (fun hk => key [(x, t)] _ (if_pos h1).symm hk)

theorem x_join {x : Str} {t : Tok} {D : Addr} {l : List (Str × Tok)} (H : St h0 o0 cs s) (hl : Has cs D (cList (strValues l))) (hok : JoinOk x (l.map (·.1)) = true) (h : ∀ t' s', St h0 o0 cs s' → Q (.str (Txt.join x (l.map (·.1))) t') s') :
    wpAny (model prog w) A (call (.builtin "str.join") [.str x t, .ref D]) Q E s :=
  tokd (SC.join (list_of H hl) rfl hok fun t' k hk => h t' _ (H.toks hk))

theorem x_eqNil {a b : Addr} {xs : List Value} (H : St h0 o0 cs s) (ha : Has cs a (cList xs)) (hb : Has cs b (cList [])) (hu : A.units < cLine) (h : Q (.bool xs.isEmpty) s) : wpAny (model prog w) A (compareOp .Eq (.ref a) (.ref b)) Q E s := by
  refine cmp_ofEq ?_
  cases xs with
  | nil => exact SeqAt.RcAt.lists (e := fun _ => true) (list_of H ha) (list_of H hb) rfl hu (fun j h1 _ => absurd h1 (by simp)) _ _ _ _ h
  | cons x r => exact SeqAt.RcAt.lists_lengths (list_of H ha) (list_of H hb) (by simp) hu _ _ _ _ h
theorem x_neNil {a b : Addr} {xs : List Value} (H : St h0 o0 cs s) (ha : Has cs a (cList xs)) (hb : Has cs b (cList [])) (hu : A.units < cLine) (h : Q (.bool (!xs.isEmpty)) s) : wpAny (model prog w) A (compareOp .NotEq (.ref a) (.ref b)) Q E s := by
  refine cmp_ofNotEq ?_
  cases xs with
  | nil => exact SeqAt.RcNeAt.lists (e := fun _ => true) (list_of H ha) (list_of H hb) rfl hu (fun j h1 _ => absurd h1 (by simp)) _ _ _ _ h
  | cons x r => exact SeqAt.RcNeAt.lists_lengths (list_of H ha) (list_of H hb) (by simp) hu _ _ _ _ h

theorem preSum_ints (ns : List (Int × Tok)) : ∀ j, j ≤ ns.length → preSum (numAt ns.toArray) j = ((ns.map (·.1)).take j).sum := by
  intro j
  induction j with
  | zero => intro _; rfl
  | succ j ih =>
    intro hj
    rw [preSum, ih (by omega)]
    have hlt : j < (ns.map (·.1)).length := by rw [List.length_map]; exact hj
    rw [List.take_succ_eq_append_getElem hlt, List.sum_append]
    have : numAt ns.toArray j = (ns.map (·.1))[j] := by
      unfold numAt
      simp [show j < ns.length from hj]
    rw [this]; simp
theorem x_sum {l : Addr} {ns : List (Int × Tok)} (H : St h0 o0 cs s) (hh : A.handled = none) (hl : Has cs l (cList (ns.map fun p => .int p.1 p.2))) (h : ∀ t' s', St h0 o0 cs s' → Q (.int (ns.map (·.1)).sum t') s') :
    wpAny (model prog w) A (call (.builtin "sum") [.ref l]) Q E s := by
  refine tokd (sum_intListG (xs := ns.toArray) hh (by have := list_of H hl; simpa [intItems] using this) fun h' tk t' hk htk => ?_)
  have e := preSum_ints ns ns.length (Nat.le_refl _)
  rw [List.take_of_length_le (by simp)] at e
  rw [List.size_toArray, e]
  exact h t' _ (H.grow hk htk)
end
section
variable {prog : Program} {w : World} {A : Around} {E : Value → Shared → Prop} {s : Shared} {env : Env} {h0 : Heap} {o0 : Shared} {cs cs' : Cells} {K : Frag} {Q : Value → Shared → Prop}

theorem cell_of {c : Addr} {v : Option Value} (H : St h0 o0 cs s) (h : Has cs c (cCell v)) : s.heap.IsCell c v := by
  obtain ⟨o, ho, hd⟩ := H.get h
  exact ⟨o, ho, hd⟩
theorem x_cell {x : Str} {pos : Pos} {c : Addr} {v : Value} (H : St h0 o0 cs s) (hp : Has cs c (cCell (some v))) (hk : env.scope.kind = .function) (hl : env.kindOf x = some .cell) (hc : env.cells.lookup x = some c)
    (hd : (x == ("__debug__" : Str)) = false) (h : Q v s) : wpAny (model prog w) A (eval (.Name x pos) env) Q E s := wpAny_Name (wpAny_loadName_cell hk hl hc (cell_of H hp) h) hd
theorem x_free {x : Str} {pos : Pos} {c : Addr} {v : Value} (H : St h0 o0 cs s) (hp : Has cs c (cCell (some v))) (hk : env.scope.kind = .function) (hl : env.kindOf x = some .free) (hc : env.cells.lookup x = some c)
    (hd : (x == ("__debug__" : Str)) = false) (hcd : (x == ("__classdict__" : Str)) = false) (h : Q v s) : wpAny (model prog w) A (eval (.Name x pos) env) Q E s := wpAny_Name (wpAny_loadName_free hk hl hc (cell_of H hp) h hcd) hd
theorem x_stcell {x : Str} {c : Addr} {v : Value} {u : Option Value} {Q : Unit → Shared → Prop} (H : St h0 o0 cs s) (hp : Put cs c (cCell u) (cCell (some v)) cs') (hk : env.scope.kind = .function) (hl : env.kindOf x = some .cell)
    (hc : env.cells.lookup x = some c) (h : ∀ s', St h0 o0 cs' s' → Q () s') : wpAny (model prog w) A (storeName env x v) Q E s := by
  refine wpAny_storeName_cell hk hl hc (cell_of H hp.has) fun h' hn hsb => h _ (H.updS (k := s.toks) hp ?_ hsb (Nat.le_refl _))
  obtain ⟨o, ho, hd⟩ := hn
  exact ⟨o, ho, hd⟩

def fnOkC (K : Frag) (a : Addr) : Bool := match K.lookup a with
  | some ⟨_, _, .func fd, _⟩ => codeIn K fd.code fd.qualname && !fd.scope.isCoroutine && !fd.scope.isGenerator && fd.scope.kind == .function && isStmts fd.body && fd.closure.isEmpty
  | _ => false

/-- as St, the tokens left out -/
structure St0 (h0 : Heap) (o0 : Shared) (cs : Cells) (s : Shared) : Prop where
  keep : ∀ b o, h0.get? b = some o → s.heap.get? b = some o
  cell : ∀ p ∈ cs, ∃ o, s.heap.get? p.1 = some o ∧ p.2 o
  new : ∀ p ∈ cs, h0.get? p.1 = none
  nodup : (cs.map Prod.fst).Nodup
  gens : s.gens = o0.gens
  os : s.os = o0.os
  flo : o0.toks ≤ s.toks
  big : ∀ p ∈ cs, 3 < p.1
  g3 : ∃ o, h0.get? 3 = some o
theorem St.zero (H : St h0 o0 cs s) : St0 h0 o0 cs s := ⟨H.keep, H.cell, H.new, H.nodup, H.gens, H.os, H.flo, H.big, H.g3⟩
theorem St0.start (B : Base K s.heap) (ok : globsOk K = true) : St0 s.heap s [] s := ⟨fun _ _ e => e, (by intro p hp; cases hp), (by intro p hp; cases hp), List.nodup_nil, rfl, rfl, Nat.le_refl _, (by intro p hp; cases hp), let ⟨o, _, _, ho, _⟩ := B.ns ok; ⟨o, ho⟩⟩

/-- a def of one argument some of whose names are captured -/
theorem x_fnC {fa : Addr} {x : Str} {v : Value} (B : Base K h0) (H : St0 h0 o0 cs s) (hf : fnOkC K fa = true) (hroom : A.depth < recursionLimit)
    (hbind : bindArgs (fdOf K fa) ⟨[v], []⟩ = pure [(x, v)]) (hloc : (fdOf K fa).scope.names.lookup x = some .local)
    (h : ∀ L s', St h0 o0 ((L, cNs [(x, v)]) :: ((cellsFrom (L + 1) (fdOf K fa).scope.names []).map (fun p => (p.2, cCell none)) ++ cs)) s' →
      wpAny (model prog w) (A.deeper (callEnvC (fdOf K fa) L fa)) (execs (bodyOf K fa) (callEnvC (fdOf K fa) L fa)) (fun f s'' => Q (match f with | .ret v => v | _ => .none) s'') NoE s') :
    wpAny (model prog w) A (call (.ref fa) [v]) Q E s := by
  unfold fnOkC at hf
  split at hf
  · rename_i c d fd sl ho
    simp only [Bool.and_eq_true, Bool.not_eq_true', beq_iff_eq] at hf
    obtain ⟨⟨⟨⟨⟨h1, h2⟩, h3⟩, h4⟩, h6⟩, h7⟩ := hf
    have e : fdOf K fa = fd := by unfold fdOf; rw [ho]
    have eb : fd.body = .stmts (bodyOf K fa) := by
      unfold bodyOf; rw [e]
      cases hb : fd.body with
      | stmts b => rfl
      | expr _ => rw [hb] at h6; cases h6
    rw [e] at hbind hloc h
    refine wpAny_call (codeAny_call_function hroom (H.keep _ _ (B.X _ _ ho)) rfl h2 h3 eb ((codeRec_of B.X h1).keeps H.keep) ?_)
    rw [hbind, List.isEmpty_iff.mp h7]
    refine wpAny_pure ?_
    simp only [newFunctionEnv, Option.isSome_none, Bool.false_eq_true, if_false]
    refine wpAny_bind (wpAny_alloc ?_)
    refine wpAny_bind (wpAny_layCells _ (fun name kind cells => by cases hkc : kind == NameKind.cell <;> simp) _ _ _ _ ?_)
    have ok := cellsFrom_ok fd.scope.names (s.heap.push { cls := .type "frame", data := .dict #[] }) (s.heap.objs.size + 1) [] ⟨fun _ _ hm => (nomatch hm), List.Pairwise.nil⟩ (by rw [Heap.size_push]; exact Nat.le_refl _)
    rw [Heap.size_push] at ok
    rw [show ({ s with heap := s.heap.push { cls := .type "frame", data := .dict #[] } } : Shared).heap.objs.size = s.heap.objs.size + 1 from Heap.size_push ..]
    have hkeep : ∀ b o, s.heap.get? b = some o → (pushCells (s.heap.push { cls := .type "frame", data := .dict #[] }) fd.scope.names).get? b = some o := fun b o q => pushCells_keeps _ _ b o (Heap.get?_push_of_some _ q)
    have hns : (pushCells (s.heap.push { cls := .type "frame", data := .dict #[] }) fd.scope.names).Ns s.heap.objs.size (fun _ => none) := (Heap.Ns.new s.heap (.type "frame")).keeps (pushCells_keeps _ _)
    rw [List.forIn_cons]
    refine wpAny_bind (wpAny_bind (wpAny_bind ?_))
    refine wpAny_storeName_local (s := { s with heap := pushCells (s.heap.push { cls := .type "frame", data := .dict #[] }) fd.scope.names }) (env := { scope := fd.scope, locals := s.heap.objs.size, globals := fd.globals, cells := cellsFrom (s.heap.objs.size + 1) fd.scope.names [], qual := fd.qualname ++ ".<locals>.", func := some fa, code := fd.code, frame := some s.heap.objs.size, builtins := fd.builtins }) hloc hns (fun h' hn hsb => ?_) (by rw [h4]; rfl)
    refine wpAny_pure ?_
    show wpAny _ _ (forIn [] PUnit.unit _) _ _ _
    rw [List.forIn_nil]
    refine wpAny_pure (wpAny_pure ?_)
    have hk2 : ∀ b o, s.heap.get? b = some o → h'.get? b = some o := fun b o q => (hsb.2 b (Nat.ne_of_lt (Heap.lt_size q))).trans (hkeep b o q)
    refine ⟨(B.lim.keeps H.keep).keeps hk2, codeAny_func (wpAny_mono (h s.heap.objs.size _ ?_) (fun f s' q => q) fun _ _ q => q.elim)⟩
    have fresh3 : ∀ a, s.heap.objs.size ≤ a → 3 < a := fun a ha => by
      obtain ⟨o, ho⟩ := H.g3
      exact Nat.lt_of_lt_of_le (Heap.lt_size (H.keep _ _ ho)) ha
    have fresh : ∀ a, s.heap.objs.size ≤ a → a ∉ cs.map Prod.fst ∧ h0.get? a = none := fun a ha => by
      constructor
      · intro hm
        obtain ⟨p, hp, rfl⟩ := List.mem_map.mp hm
        obtain ⟨o, ho, _⟩ := H.cell p hp
        exact Nat.lt_irrefl _ (Nat.lt_of_lt_of_le (Heap.lt_size ho) ha)
      · cases e : h0.get? a with
        | none => rfl
        | some o => exact absurd (Heap.lt_size (H.keep _ _ e)) (Nat.not_lt.mpr ha)
    refine ⟨fun b o q => hk2 b o (H.keep b o q), fun p hp => ?_, fun p hp => ?_, ?_, H.gens, H.os, Nat.succ_ne_zero _, Nat.le_trans H.flo (Nat.le_succ _), fun p hp => ?_, H.g3⟩
    · rcases List.mem_cons.mp hp with rfl | hp
      · exact of_ns hn (m := [(x, v)]) fun y u q => by
          simp only [List.lookup_cons] at q
          by_cases hy : y = x
          · subst hy; simpa using q
          · have : (y == x) = false := by simpa using hy
            rw [this] at q; cases q
      · rcases List.mem_append.mp hp with hp | hp
        · obtain ⟨⟨n, c⟩, hm, rfl⟩ := List.mem_map.mp hp
          obtain ⟨⟨o, ho', hd'⟩, hle⟩ := ok.empty n c hm
          exact ⟨o, (hsb.2 c (Nat.ne_of_gt hle)).trans ho', hd'⟩
        · obtain ⟨o, ho', hc'⟩ := H.cell p hp
          exact ⟨o, hk2 _ _ ho', hc'⟩
    · rcases List.mem_cons.mp hp with rfl | hp
      · exact (fresh _ (Nat.le_refl _)).2
      · rcases List.mem_append.mp hp with hp | hp
        · obtain ⟨⟨n, c⟩, hm, rfl⟩ := List.mem_map.mp hp
          exact (fresh c (by have := (ok.empty n c hm).2; omega)).2
        · exact H.new p hp
    · rw [List.map_cons, List.map_append, List.nodup_cons, List.nodup_append]
      refine ⟨fun hm => ?_, ?_, H.nodup, ?_⟩
      · rcases List.mem_append.mp hm with hm | hm
        · rw [List.map_map] at hm
          obtain ⟨⟨n, c⟩, hm, e⟩ := List.mem_map.mp hm
          have := (ok.empty n c hm).2
          have e' : c = s.heap.objs.size := e
          rw [e'] at this
          exact Nat.lt_irrefl _ this
        · exact (fresh _ (Nat.le_refl _)).1 hm
      · rw [List.map_map, List.nodup_iff_pairwise_ne, List.pairwise_map]
        exact ok.apart
      · intro a ha b hb e
        rw [List.map_map] at ha
        obtain ⟨⟨n, c⟩, hm, e'⟩ := List.mem_map.mp ha
        have := (ok.empty n c hm).2
        have e2 : c = a := e'
        subst e e2
        exact (fresh c (by omega)).1 hb
    · rcases List.mem_cons.mp hp with rfl | hp
      · exact fresh3 _ (Nat.le_refl _)
      · rcases List.mem_append.mp hp with hp | hp
        · obtain ⟨⟨n, c⟩, hm, rfl⟩ := List.mem_map.mp hp
          exact fresh3 c (by have := (ok.empty n c hm).2; omega)
        · exact H.big p hp
  · cases hf

/-- the law's own address -/
theorem Base.addr {mg : Str → Option Value} {x : Str} {a b : Addr} (B : Base K h0) (ok : globsOk K = true) (hn : h0.Ns mainGlobals mg) (hx : nsFind (globsIn K) x = some (.ref b)) (hm : mg x = some (.ref a)) : a = b := by
  obtain ⟨o, es, ep, ho, hd, _, hf⟩ := hn
  obtain ⟨o', es', ep', ho', hd', _, hf'⟩ := B.ns ok
  rw [ho] at ho'; cases ho'
  rw [hd] at hd'; cases hd'
  have := (hf x).symm.trans ((hf' x).trans hx)
  rw [hm] at this
  exact Value.ref.inj (Option.some.inj this)
end

theorem ints_pairs {vs : List Value} {ns : List Int} (h : IntsAre vs ns) : ∃ ps : List (Int × Tok), vs = ps.map (fun p => Value.int p.1 p.2) ∧ ps.length = ns.length := by
  induction h with
  | nil => exact ⟨[], rfl, rfl⟩
  | cons n t _ ih =>
    obtain ⟨ps, e1, e2⟩ := ih
    exact ⟨(n, t) :: ps, by rw [e1]; rfl, by simp [e2]⟩

theorem law_good {c : ClaimW} {cl : Str → Option Addr} {mean : ExcName → Option Value} {args : List WData} {s₁ s' : Shared} {cs : Cells} (H : St s₁.heap s₁ cs s') (hg : s₁.gens = #[]) (hr : ∀ cls, c.raises args cls = false) (hp : c.post args (.bool true) args = true) :
    GoodWG c cl mean args s₁ (.ok (.ret (.bool true))) s' :=
  GoodW.toG ⟨.inl ⟨.bool true, .bool true, [], rfl, hr, .bool true, hp, unshared_nil⟩, H.keep, H.os, H.gens.trans hg⟩
section
variable {prog : Program} {w : World} {A : Around} {E : Value → Shared → Prop} {s : Shared} {env : Env} {h0 : Heap} {o0 : Shared} {cs cs' : Cells} {K : Frag} {Q : Value → Shared → Prop}

def isFnK (K : Frag) (a : Addr) : Bool := match K.lookup a with | some ⟨_, _, .func _, _⟩ => true | _ => false
/-- a def of the text is called by its name: its arguments -/
theorem x_callF {fa : Addr} {e : Expr} {rest : List Expr} {pos : Pos} (B : Base K h0) (hf : isFnK K fa = true)
    (h : wpAny (model prog w) A (spliced (backTo pos (starEach (e :: rest) env))) (fun vs s₁ => (∃ o0 cs, St h0 o0 cs s₁) ∧ wpAny (model prog w) A (call (.ref fa) vs) Q E s₁) E s)
    (he : starEach (e :: rest) env = (false, eval e env) :: starEach rest env := by rfl) :
    wpAny (model prog w) A (callWith pos (.ref fa) [] (backTo pos (starEach (e :: rest) env)) []) Q E s := by
  unfold isFnK at hf
  split at hf
  · rename_i c d fd sl ho
    refine callWith_def (o := ⟨c, d, .func fd, sl⟩) (fd := fd) rfl (wpAny_mono h (fun vs s₁ q => ?_) fun _ _ q => q) he
    obtain ⟨⟨o0, cs, H⟩, q⟩ := q
    exact ⟨H.keep _ _ (B.X _ _ ho), q⟩
  · cases hf

/-- a, b = (a tuple of two) -/
theorem x_unpack2 {a b : Str} {pa pb pos : Pos} {k : Nat} {t : Addr} {u v : Value} {Q : Unit → Shared → Prop} (hh : A.handled = none) (H : St h0 o0 cs s) (ht : Has cs t (cTup [u, v]))
    (h : ∀ s', St h0 o0 cs s' → wpAny (model prog w) A (storeName env a u) (fun _ s1 => wpAny (model prog w) A (storeName env b v) Q E s1) E s') :
    wpAny (model prog w) A (assign (.Tuple [.Name a pa, .Name b pb] k pos) env (.ref t)) Q E s := by
  refine wpAny_assign_Tuple hh (tup_of H ht) (by rfl) (by rfl) fun h' he => ?_
  have H' : St h0 o0 cs { s with heap := h' } := H.grow (k := s.toks) (fun b o e => he b o (Nat.ne_of_lt (Heap.lt_size e)) e) (Nat.le_refl _)
  refine wpAny_assignInOrder_more (t := assign (.Name a pa) env) (ts := [assign (.Name b pb) env]) (x := u) (xs := [v]) ?_
  refine wpAny_assign_Name (wpAny_mono (h _ H') (fun _ s1 q => ?_) fun _ _ q => q)
  refine wpAny_assignInOrder_more (t := assign (.Name b pb) env) (ts := []) (x := v) (xs := []) ?_
  refine wpAny_assign_Name (wpAny_mono q (fun _ s2 q => ?_) fun _ _ q => q)
  exact wpAny_assignInOrder_none q

theorem x_index {l : Addr} {xs : List Value} {x : Value} {j : Nat} (H : St h0 o0 cs s) (hl : Has cs l (cList xs)) (e : Value → Bool) (he : ∀ y ∈ xs, SeqAt.EqAt A.in1 s y x (e y)) (hj : j < xs.length) (hz : xs.length ≤ sizeLine)
    (hit : e xs[j] = true) (hno : ∀ m (hm : m < xs.length), m < j → e xs[m] = false) (h : ∀ t' s', St h0 o0 cs s' → Q (.int j t') s') : wpAny (model prog w) A (call (.builtin "list.index") [.ref l, x]) Q E s := by
  obtain ⟨n, ho⟩ := isL_of H hl
  rw [sizeLine_eq] at hz
  refine call_meets PySem.F.slot_list_index ⟨_, ho, rfl⟩ PySem.F.entry_list_index (PySem.F.args_list_index_2 _ _)
    (SeqAt.list_indexAt l xs.toArray n none #[] x e j (by simpa using hj) (by omega) (by simpa using hit) (fun m hm hlt => by simpa using hno m (by simpa using hm) hlt)) ⟨ho, fun y hy => he y (by simpa using hy), h _ _ (H.toks (Nat.le_succ _))⟩

theorem St.ne {a b : Addr} {c d : Cel} {r : Cells} (H : St h0 o0 cs s) (h1 : Pick cs a c r) (h2 : Has r b d) : a ≠ b := by
  have := (H.pick h1).nodup
  rw [List.map_cons, List.nodup_cons] at this
  intro e; subst e
  have q : (a, d).1 ∈ List.map Prod.fst r := List.mem_map_of_mem h2.mem
  exact this.1 q

theorem x_eqstr {x y : Str} {t u : Tok} (h : Q (.bool (x == y)) s) : wpAny (model prog w) A (compareOp .Eq (.str x t) (.str y u)) Q E s := cmp_ofEq (SeqAt.RcAt.str_str x t y u _ _ _ _ h)
theorem x_nestr {x y : Str} {t u : Tok} (h : Q (.bool (x != y)) s) : wpAny (model prog w) A (compareOp .NotEq (.str x t) (.str y u)) Q E s := by
  refine P.ne_str ?_
  have : (x.cps.toList != y.cps.toList) = (x != y) := by
    unfold bne
    rw [SeqAt.str_beq]
  rw [this]; exact h
theorem starts_iff (x y : Str) : Txt.startswith x y = y.cps.toList.isPrefixOf x.cps.toList := by
  unfold Txt.startswith
  rw [Bool.eq_iff_iff, Bool.and_eq_true, decide_eq_true_eq, StrLaws.subAt_eq, List.drop_zero, List.isPrefixOf_iff_prefix, List.prefix_iff_eq_take, beq_iff_eq]
  have e1 : y.length = y.cps.toList.length := by simp [Str.length]
  have e2 : x.length = x.cps.toList.length := by simp [Str.length]
  constructor
  · rintro ⟨_, h⟩; rw [← e1]; exact h.symm
  · intro h
    rw [← e1] at h
    refine ⟨?_, h.symm⟩
    have := congrArg List.length h
    rw [List.length_take] at this
    omega
end
section
variable {prog : Program} {w : World} {A : Around} {E : Value → Shared → Prop} {s : Shared} {env : Env} {h0 : Heap} {o0 : Shared} {cs cs' : Cells} {K : Cells} {Q : Value → Shared → Prop}

/-- a list of the call's start or one made since -/
inductive LAt (h0 : Heap) (cs : Cells) (l : Addr) (xs : List Value) : Prop where
  | old : h0.IsList l xs.toArray → LAt h0 cs l xs
  | new : Has cs l (cList xs) → LAt h0 cs l xs
theorem LAt.isList {l : Addr} {xs : List Value} (h : LAt h0 cs l xs) (H : St h0 o0 cs s) : s.heap.IsList l xs.toArray := by
  cases h with
  | old h => obtain ⟨o, ho, r⟩ := h; exact ⟨o, H.keep _ _ ho, r⟩
  | new h => exact list_of H h
theorem LAt.there {l : Addr} {xs : List Value} {p} (h : LAt h0 cs l xs) : LAt h0 (p :: cs) l xs := by
  cases h with
  | old h => exact .old h
  | new h => exact .new (.there h)
theorem LAt.mono {l : Addr} {xs : List Value} {cs cs' : Cells} (h : LAt h0 cs l xs) (hs : ∀ p ∈ cs, p ∈ cs') : LAt h0 cs' l xs := by
  cases h with
  | old h => exact .old h
  | new h => exact .new (Has.of_mem (hs _ h.mem))

theorem steps_listG {it l : Addr} {xs : List Value} (hh : A.handled = none) : Steps prog w A h0 o0 (.ref it) (fun i => [(it, cLIter l i)]) xs.length (fun i v => xs[i]? = some v) (fun C => LAt h0 C l xs) where
  next := fun i C s Q E hi hl H hQ => by
    have hl' : s.heap.IsList l xs.toArray := hl.there.isList H
    have hit : s.heap.IsListIter it l i := liter_of H .here
    refine wpAny_pyNext_list_item hit hl' (x := xs[i]) (by simp [hi]) fun h' hit' hs' => ?_
    refine hQ _ _ (by simp [hi]) (H.updS (k := s.toks) .here ?_ hs' (Nat.le_refl _))
    obtain ⟨o, a, b, c⟩ := hit'
    exact ⟨o, a, b, c⟩
  done := fun C s Q E hl H hQ => by
    have hl' : s.heap.IsList l xs.toArray := hl.there.isList H
    have hit : s.heap.IsListIter it l xs.length := liter_of H .here
    refine wpAny_pyNext_list_end hh hit hl' (by simp) fun h' he' => hQ _ ?_
    have hn := H.new (it, cLIter l xs.length) (by simp)
    have hd := H.nodup
    simp only [List.singleton_append, List.map_cons, List.nodup_cons] at hd
    refine ⟨fun b o e => he' b o (fun q => ?_) (H.keep b o e), fun p hp => ?_, fun p hp => H.new p (by simp [hp]), hd.2, H.gens, H.os, H.tok, H.flo, fun p hp => H.big p (by simp [hp]), H.g3⟩
    · subst q; simp only at hn; rw [hn] at e; cases e
    · obtain ⟨o, ho, hc⟩ := H.cell p (by simp [hp])
      exact ⟨o, he' _ _ (fun q => hd.1 (q ▸ List.mem_map_of_mem hp)) ho, hc⟩
  self := fun i C s Q E H h => wpAny_pyIter_listiter (liter_of H .here) h
  mono := fun C C' h hs => h.mono hs
  own := fun target i C v s Q E hv H h => own_plain (liter_of H .here) (h _ H)

theorem x_for_listG {target iter : Expr} {body : List Stmt} {pos : Pos} {Q : Flow → Shared → Prop} (hh : A.handled = none)
    (h : wpAny (model prog w) A (eval iter env) (fun x s₁ => ∃ l xs C0 K, ∃ P : Nat → Cells → Prop, x = .ref l ∧ P 0 C0 ∧ St h0 o0 (C0 ++ K) s₁ ∧ (∀ i C, P i C → LAt h0 (C ++ K) l xs) ∧
      (∀ i v C K' s, xs[i]? = some v → P i C → (∀ C s, St h0 o0 (C ++ K') s → St h0 o0 (C ++ K) s) → St h0 o0 (C ++ K') s →
        wpAny (model prog w) A (assign target env v) (fun _ s₂ => wpAny (model prog w) A (execs body env) (fun f s₃ => match f with
          | .next | .cont => ∃ C', P (i + 1) C' ∧ St h0 o0 (C' ++ K') s₃
          | .brk => Q .next s₃
          | .ret v => Q (.ret v) s₃) NoE s₂) NoE s) ∧
      (∀ C s, P xs.length C → St h0 o0 (C ++ K) s → Q .next s)) E s)
    (hs : ∀ x, foldedSetIterable iter env x = pure x) :
    wpAny (model prog w) A (exec (.For target iter body [] pos) env) Q E s := by
  refine wpAny_For (wpAny_mono h (fun x s₁ h₁ => ?_) fun _ _ q => q) hs
  obtain ⟨l, xs, C0, K, P, rfl, hP0, H, hl, turn, fin⟩ := h₁
  have hl' := hl 0 C0 hP0
  refine wpAny_pyIter_list (hl'.isList H) ?_
  have H2 : St h0 o0 ((s₁.heap.objs.size, cLIter l 0) :: (C0 ++ K)) { s₁ with heap := s₁.heap.push { cls := .type "list_iterator", data := .fields #[.ref l, .int 0 0] } } :=
    H.push (k := s₁.toks) (c := cLIter l 0) ⟨rfl, rfl⟩ (Nat.le_refl _)
  refine for_core (R := Q) (steps_listG (l := l) (xs := xs) hh) P (fun i C hP => hl i C hP) (fun i v C K' s hi hv hP hK H => turn i v C K' s hv hP hK H) fin (fun f s q => q) hP0 H2

/-- for target in (a text) -/
theorem x_for_str {target iter : Expr} {body : List Stmt} {pos : Pos} {Q : Flow → Shared → Prop} (hh : A.handled = none)
    (h : wpAny (model prog w) A (eval iter env) (fun x s₁ => ∃ t tt C0 K, ∃ P : Nat → Cells → Prop, x = .str t tt ∧ P 0 C0 ∧ St h0 o0 (C0 ++ K) s₁ ∧
      (∀ i c u C K' s, t.cps.toList[i]? = some c → P i C → (∀ C s, St h0 o0 (C ++ K') s → St h0 o0 (C ++ K) s) → St h0 o0 (C ++ K') s →
        wpAny (model prog w) A (assign target env (.str ⟨#[c]⟩ u)) (fun _ s₂ => wpAny (model prog w) A (execs body env) (fun f s₃ => match f with
          | .next | .cont => ∃ C', P (i + 1) C' ∧ St h0 o0 (C' ++ K') s₃
          | .brk => Q .next s₃
          | .ret v => Q (.ret v) s₃) NoE s₂) NoE s) ∧
      (∀ C s, P t.length C → St h0 o0 (C ++ K) s → Q .next s)) E s)
    (hs : ∀ x, foldedSetIterable iter env x = pure x) :
    wpAny (model prog w) A (exec (.For target iter body [] pos) env) Q E s := by
  refine wpAny_For (wpAny_mono h (fun x s₁ h₁ => ?_) fun _ _ q => q) hs
  obtain ⟨t, tt, C0, K, P, rfl, hP0, H, turn, fin⟩ := h₁
  have hn : ∀ i v, SignAt t i v → ∀ a, v ≠ .ref a := fun i v ⟨c, u, _, e⟩ a q => by rw [e] at q; cases q
  have turn' : ∀ i v C K' s, i < t.cps.size → SignAt t i v → P i C → (∀ C s, St h0 o0 (C ++ K') s → St h0 o0 (C ++ K) s) → St h0 o0 (C ++ K') s →
      wpAny (model prog w) A (assign target env v) (fun _ s₂ => wpAny (model prog w) A (execs body env) (fun f s₃ => match f with
        | .next | .cont => ∃ C', P (i + 1) C' ∧ St h0 o0 (C' ++ K') s₃
        | .brk => Q .next s₃
        | .ret v => Q (.ret v) s₃) NoE s₂) NoE s := by
    rintro i v C K' s hi ⟨c, u, hc, rfl⟩ hP hK H
    exact turn i c u C K' s (by simpa using hc) hP hK H
  cases ha : t.cps.all (· < 128)
  · refine wpAny_pyIter_wide ha ?_
    refine for_core (R := Q) (steps_walks (Walks.strWide hh s₁.heap.objs.size t tt) hn (fun i h ⟨o, ho, _⟩ => ⟨o, ho⟩)) P (fun _ _ _ => trivial) turn' fin (fun f s q => q) hP0 (H.push (k := s₁.toks) ?_ (Nat.le_refl _))
    intro h hh'; exact ⟨_, hh', rfl, rfl⟩
  · refine wpAny_pyIter_ascii ha ?_
    refine for_core (R := Q) (steps_walks (Walks.strAscii hh s₁.heap.objs.size t tt) hn (fun i h ⟨o, ho, _⟩ => ⟨o, ho⟩)) P (fun _ _ _ => trivial) turn' fin (fun f s q => q) hP0 (H.push (k := s₁.toks) ?_ (Nat.le_refl _))
    intro h hh'; exact ⟨_, hh', rfl, rfl⟩

def cRange (a b c : Int) : Cel := fun o => ∃ t u v, o = { cls := .type "range", data := .fields #[.int a t, .int b u, .int c v] }
/-- for target in (a range) -/
theorem x_for_range {target iter : Expr} {body : List Stmt} {pos : Pos} {Q : Flow → Shared → Prop} (hh : A.handled = none)
    (h : wpAny (model prog w) A (eval iter env) (fun x s₁ => ∃ r a b c n C0 K, ∃ P : Nat → Cells → Prop, x = .ref r ∧ P 0 C0 ∧ St h0 o0 (C0 ++ K) s₁ ∧ Has (C0 ++ K) r (cRange a b c) ∧ Builtin.Range.small a b c = true ∧ Builtin.Range.rangeSize a b c = (n : Nat) ∧
      (∀ i u C K' s, i < n → P i C → (∀ C s, St h0 o0 (C ++ K') s → St h0 o0 (C ++ K) s) → St h0 o0 (C ++ K') s →
        wpAny (model prog w) A (assign target env (.int (a + (i : Nat) * c) u)) (fun _ s₂ => wpAny (model prog w) A (execs body env) (fun f s₃ => match f with
          | .next | .cont => ∃ C', P (i + 1) C' ∧ St h0 o0 (C' ++ K') s₃
          | .brk => Q .next s₃
          | .ret v => Q (.ret v) s₃) NoE s₂) NoE s) ∧
      (∀ C s, P n C → St h0 o0 (C ++ K) s → Q .next s)) E s)
    (hs : ∀ x, foldedSetIterable iter env x = pure x) :
    wpAny (model prog w) A (exec (.For target iter body [] pos) env) Q E s := by
  refine wpAny_For (wpAny_mono h (fun x s₁ h₁ => ?_) fun _ _ q => q) hs
  obtain ⟨r, a, b, c, n, C0, K, P, rfl, hP0, H, hr, hsm, hn, turn, fin⟩ := h₁
  obtain ⟨o, ho, t, u, v, rfl⟩ := H.get hr
  refine wpAny_pyIter_range ho hsm ?_
  have H2 : St h0 o0 ((s₁.heap.objs.size, cWalk s₁.heap.objs.size (fun i h => IsRangeIter h s₁.heap.objs.size (a + (i : Nat) * c) ((n : Int) - (i : Nat)) c) 0) :: (C0 ++ K)) _ :=
    H.push (k := s₁.toks) (o := { cls := .type "range_iterator", data := .fields #[rawInt a, rawInt (Builtin.Range.rangeSize a b c), rawInt c] }) (fun h hh' => by
      show IsRangeIter _ _ _ _ _
      rw [hn] at hh'
      simpa using hh') (Nat.le_refl _)
  refine for_core (R := Q) (steps_walks (Walks.range hh s₁.heap.objs.size a c n) (fun i v ⟨t, e⟩ q q2 => by rw [e] at q2; cases q2) (fun i h q => ⟨_, q⟩)) P (fun _ _ _ => trivial) ?_ fin (fun f s q => q) hP0 H2
  rintro i v C K' s hi ⟨u, rfl⟩ hP hK H
  exact turn i u C K' s hi hP hK H

theorem x_range1 {n : Int} {t : Tok} (H : St h0 o0 cs s) (h : ∀ a s', St h0 o0 ((a, cRange 0 n 1) :: cs) s' → Q (.ref a) s') : wpAny (model prog w) A (call (.type "range") [.int n t]) Q E s :=
  call_range_1 (h _ _ (H.push (k := s.toks + 1 + 1) ⟨_, _, _, rfl⟩ (by omega)))
theorem x_range3 {a b c : Int} {t u v : Tok} (H : St h0 o0 cs s) (hc : c ≠ 0) (hp : Builtin.divisionGoesByPylong (b - a) c = false) (h : ∀ r s', St h0 o0 ((r, cRange a b c) :: cs) s' → Q (.ref r) s') : wpAny (model prog w) A (call (.type "range") [.int a t, .int b u, .int c v]) Q E s :=
  call_range_3 hc (h _ _ (H.push (k := s.toks) ⟨_, _, _, rfl⟩ (Nat.le_refl _))) (.inl hp)

theorem x_divmod {a b : Int} {t u : Tok} (H : St h0 o0 cs s) (hb : b ≠ 0) (hp : b.natAbs < 1073741824) (h : ∀ r t1 t2 s', St h0 o0 ((r, cTup [.int (a.fdiv b) t1, .int (a.fmod b) t2]) :: cs) s' → Q (.ref r) s') :
    wpAny (model prog w) A (call (.builtin "divmod") [.int a t, .int b u]) Q E s :=
  divmod_int hb (h _ _ _ _ (H.push (k := s.toks + 1 + 1) ⟨0, rfl⟩ (by omega))) (.inl (PyProof.noPylong_small (by omega)))

theorem x_listCopy {l : Addr} {xs : List Value} (H : St h0 o0 cs s) (hl : Has cs l (cList xs)) (hz : xs.length ≤ sizeLine) (h : ∀ a s', St h0 o0 ((a, cList xs) :: cs) s' → Q (.ref a) s') : wpAny (model prog w) A (call (.type "list") [.ref l]) Q E s := by
  obtain ⟨n, ho⟩ := isL_of H hl
  refine call_list_seq l (.inl rfl) ho rfl rfl (fun h' c' hk hg => h _ _ ?_) (by simpa using hz)
  exact H.more (k := s.toks) (Nat.le_refl _) ⟨_, hg, c', rfl⟩ hk (Nat.le_refl _)

theorem x_inList {l : Addr} {xs : List Value} {x : Value} (H : St h0 o0 cs s) (hl : Has cs l (cList xs)) (e : Value → Bool) (he : ∀ y ∈ xs, SeqAt.EqAt A.in1 s y x (e y)) (h : Q (.bool (xs.any e)) s) : wpAny (model prog w) A (compareOp .In x (.ref l)) Q E s :=
  SeqAt.in_listAt e (list_of H hl) (fun y hy => he y (by simpa using hy)) (by simpa using h)

theorem x_itemG {value slice : Expr} {l : Addr} {xs : List Value} {k : Int} {u : Tok} {v : Value} (H : St h0 o0 cs s) (hl : LAt h0 cs l xs) (hk0 : 0 ≤ k) (hk1 : k < 2 ^ 63) (hx : xs[k.toNat]? = some v)
    (hs : subscripted slice false (.ref l) (.int k u) = operate [.ref l, .int k u] (getItem (.ref l) (.int k u))) (h : Q v s) : wpAny (model prog w) A (subscriptTail value slice (.ref l) (.int k u)) Q E s :=
  tail_any (hl.isList H).typeIs slot_list_getitem.lookup (wpAny_getItem_list (hl.isList H) hk0 hk1 (by simpa using hx) h) hs
theorem x_neNilG {a b : Addr} {xs : List Value} (H : St h0 o0 cs s) (ha : LAt h0 cs a xs) (hb : Has cs b (cList [])) (hu : A.units < cLine) (h : Q (.bool (!xs.isEmpty)) s) : wpAny (model prog w) A (compareOp .NotEq (.ref a) (.ref b)) Q E s := by
  refine cmp_ofNotEq ?_
  cases xs with
  | nil => exact SeqAt.RcNeAt.lists (e := fun _ => true) (ha.isList H) (list_of H hb) rfl hu (fun j h1 _ => absurd h1 (by simp)) _ _ _ _ h
  | cons x r => exact SeqAt.RcNeAt.lists_lengths (ha.isList H) (list_of H hb) (by simp) hu _ _ _ _ h
theorem x_sumG {l : Addr} {ns : List (Int × Tok)} (H : St h0 o0 cs s) (hh : A.handled = none) (hl : LAt h0 cs l (ns.map fun p => .int p.1 p.2)) (h : ∀ t' s', St h0 o0 cs s' → Q (.int (ns.map (·.1)).sum t') s') :
    wpAny (model prog w) A (call (.builtin "sum") [.ref l]) Q E s := by
  refine tokd (sum_intListG (xs := ns.toArray) hh (by have := hl.isList H; simpa [intItems] using this) fun h' tk t' hk htk => ?_)
  have e := preSum_ints ns ns.length (Nat.le_refl _)
  rw [List.take_of_length_le (by simp)] at e
  rw [List.size_toArray, e]
  exact h t' _ (H.grow hk htk)
theorem x_pow {a n : Int} {t u : Tok} (H : St h0 o0 cs s) (hn : 0 ≤ n) (hn2 : n ≤ 1000000) (ha : a.natAbs < 2 ^ 64) (h : ∀ t' s', St h0 o0 cs s' → Q (.int (a ^ n.toNat) t') s') : wpAny (model prog w) A (binaryOp .Pow (.int a t) (.int n u)) Q E s :=
  pow_int_small hn hn2 ha (h _ _ (H.toks (Nat.le_succ _)))

/-- a dict of texts -/
def cDict (prog : Program) (w : World) (kvs : List (Str × Value)) : Cel := fun o => o.IsDictOf (PySem.strKind prog w) kvs
theorem dict_of {d : Addr} {kvs : List (Str × Value)} (H : St h0 o0 cs s) (h : Has cs d (cDict prog w kvs)) : s.heap.DictOf (PySem.strKind prog w) d kvs := by
  obtain ⟨o, ho, hc⟩ := H.get h
  exact Heap.dictOf_iff.mpr ⟨o, ho, hc⟩
theorem x_dict0 {pos : Pos} (H : St h0 o0 cs s) (h : ∀ d s', St h0 o0 ((d, cDict prog w []) :: cs) s' → Q (.ref d) s') : wpAny (model prog w) A (eval (.Dict [] [] pos) env) Q E s :=
  wpAny_Dict_empty (h _ _ (H.push (k := s.toks) (let ⟨o, ho, hc⟩ := Heap.dictOf_iff.mp (Heap.DictOf.new (knd := PySem.strKind prog w) s.heap); by
    rw [Heap.get?_push_size _ rfl] at ho; cases ho; exact hc) (Nat.le_refl _)))
theorem x_dget {value slice : Expr} {d : Addr} {kvs : List (Str × Value)} {k : Str} {u : Tok} {v : Value} (H : St h0 o0 cs s) (hl : Has cs d (cDict prog w kvs)) (hv : valueAt kvs k = some v)
    (hs : subscripted slice false (.ref d) (.str k u) = operate [.ref d, .str k u] (getItem (.ref d) (.str k u))) (h : ∀ s', St h0 o0 cs s' → Q v s') : wpAny (model prog w) A (subscriptTail value slice (.ref d) (.str k u)) Q E s :=
  tail_any (dict_of H hl).typeIs slot_dict_getitem.lookup (wpAny_getItem_of (strKind_is prog w k u) (dict_of H hl).mapOf hv (h _ (H.toks (Nat.le_succ _)))) hs
theorem x_dset {d : Addr} {kvs : List (Str × Value)} {k : Str} {u : Tok} {v : Value} {Q : Unit → Shared → Prop} (H : St h0 o0 cs s) (hp : Put cs d (cDict prog w kvs) (cDict prog w (stored kvs k v)) cs') (hz : kvs.length ≤ sizeLine)
    (h : ∀ s', St h0 o0 cs' s' → Q () s') : wpAny (model prog w) A (setItem (.ref d) (.str k u) v) Q E s := by
  refine wpAny_setItem_pairs (strKind_is prog w k u) (dict_of H hp.has) (fun h' hm hs => h _ (H.updS (k := s.toks + 1) hp ?_ hs (Nat.le_succ _))) hz
  exact Heap.dictOf_iff.mp hm
theorem x_notInD {d : Addr} {kvs : List (Str × Value)} {k : Str} {u : Tok} (H : St h0 o0 cs s) (hl : Has cs d (cDict prog w kvs)) (h : ∀ s', St h0 o0 cs s' → Q (.bool (!(valueAt kvs k).isSome)) s') :
    wpAny (model prog w) A (compareOp .NotIn (.str k u) (.ref d)) Q E s := by
  refine wpAny_notIn_of (strKind_is prog w k u) ?_ (dict_of H hl).mapOf (h _ (H.toks (Nat.le_succ _)))
  have := H.big _ hl.mem
  simp only [beq_eq_false_iff_ne, ne_eq]
  intro e
  have e2 : d = 1 := e
  subst e2
  exact absurd (show (3 : Nat) < 1 from this) (by decide)
/-- {text: .., ..} -/
theorem x_dict {keys : List (Option Expr)} {values : List Expr} {pos : Pos} (H : St h0 o0 cs s)
    (hall : keys.all (·.isSome) = true) (hl : keys.length = values.length) (hne : keys ≠ []) (hlen : keys.length ≤ 15)
    (h : ∀ d s', St h0 o0 ((d, cDict prog w []) :: cs) s' → wpAny (model prog w) A (evalPairs (pairTrees keys values env pos)) (fun vs s₁ => ∃ cs', allStrKeys vs = true ∧ ((strPairs vs).map (·.1)).Nodup ∧ St h0 o0 ((d, cDict prog w []) :: cs') s₁ ∧
      ∀ s₂, St h0 o0 ((d, cDict prog w (strPairs vs)) :: cs') s₂ → Q (.ref d) s₂) E s') :
    wpAny (model prog w) A (eval (.Dict keys values pos) env) Q E s := by
  refine wpAny_Dict_walk (knd := PySem.strKind prog w) hall hl hne hlen ?_
  refine wpAny_mono (h s.heap.objs.size _ (H.push (k := s.toks) (let ⟨o, ho, hc⟩ := Heap.dictOf_iff.mp (Heap.DictOf.new (knd := PySem.strKind prog w) s.heap); by
    rw [Heap.get?_push_size _ rfl] at ho; cases ho; exact hc) (Nat.le_refl _))) (fun vs s₁ h₁ => ?_) fun _ _ q => q
  obtain ⟨cs', hk, hn, H1, hq⟩ := h₁
  refine display_done_str hk hn (dict_of H1 .here) fun h' hm hs => hq _ (H1.updS (k := s₁.toks + vs.length) .here (Heap.dictOf_iff.mp hm) hs (Nat.le_add_right _ _))
/-- xs[lo:hi:st] -/
theorem x_slice3 {value step : Expr} {lower upper : Option Expr} {p pos : Pos}
    (h : wpAny (model prog w) A (eval value env) (fun o s₁ => wpAny (model prog w) A (evalPart lower env) (fun vl s₂ => wpAny (model prog w) A (evalPart upper env) (fun vu s₃ => wpAny (model prog w) A (eval step env) (fun vs s₄ =>
      ∃ l xs lo hi st cs ys, o = .ref l ∧ St h0 o0 cs s₄ ∧ s₄.heap.IsList l xs ∧ xs.size ≤ sizeLine ∧ IsPart vl lo ∧ IsPart vu hi ∧ IsPart vs st ∧ st ≠ some 0 ∧ slicePick xs lo hi st = List.toArray ys ∧ ∀ a s', St h0 o0 ((a, cList ys) :: cs) s' → Q (.ref a) s') E s₃) E s₂) E s₁) E s) :
    wpAny (model prog w) A (eval (.Subscript value (.Slice lower upper (some step) p) pos) env) Q E s := by
  refine Subscript_ (wpAny_mono h (fun o s1 h1 => ?_) fun _ _ q => q)
  refine wpAny_Slice (wpAny_mono h1 (fun vl s2 h2 => wpAny_mono h2 (fun vu s3 h3 => wpAny_mono h3 (fun vs s4 h4 => ?_) fun _ _ q => q) fun _ _ q => q) fun _ _ q => q)
  obtain ⟨l, xs, lo, hi, st, cs, ys, rfl, H, hl, hz, p1, p2, p3, hne, e, hq⟩ := h4
  have H1 : St h0 o0 cs { s4 with heap := s4.heap.push { cls := .type "slice", data := .fields #[vl, vu, vs] } } := H.grow (k := s4.toks) (fun b o e => Heap.get?_push_of_some _ e) (Nat.le_refl _)
  have H2 := H1.push (k := s4.toks) (o := { cls := .type "list", data := .seq (slicePick xs lo hi st) }) (c := cList ys) ⟨0, by rw [e]⟩ (Nat.le_refl _)
  refine tail_any (Heap.IsList.typeIs (hl.push _)) slot_list_getitem.lookup (wpAny_getItem_list_slice (hl.push _) (Heap.IsSliceOf.new ..) p1 p2 p3 hne (hq _ _ H2) hz) rfl
theorem x_neg {a : Int} {t : Tok} (H : St h0 o0 cs s) (h : ∀ t' s', St h0 o0 cs s' → Q (.int (-a) t') s') : wpAny (model prog w) A (unaryOp .USub (.int a t)) Q E s :=
  neg_int (h _ _ (H.toks (Nat.le_succ _)))
theorem x_nebb {a b : Bool} (h : Q (.bool (!(a == b))) s) : wpAny (model prog w) A (compareOp .NotEq (.bool a) (.bool b)) Q E s := cmp_ofNotEq (SeqAt.RcNeAt.bool_bool a b _ _ _ _ h)
theorem rev7 (xs : List Value) (h : xs.length = 7) : slicePick xs.toArray none none (some (-1)) = xs.reverse.toArray := by
  match xs, h with
  | [a, b, c, d, e, f, g], _ => with_unfolding_all rfl
theorem valueAt_stored (kvs : List (Str × Value)) (k : Str) (v : Value) (x : Str) : valueAt (stored kvs k v) x = if x = k then some v else valueAt kvs x := by
  unfold stored
  split
  · rename_i hany
    induction kvs with
    | nil => simp at hany
    | cons kv r ih =>
      simp only [List.map_cons, valueAt, List.find?_cons]
      by_cases h1 : kv.1 = k
      · subst h1
        simp only [if_true]
        by_cases h2 : x = kv.1
        · subst h2; simp
        · rw [if_neg h2, decide_eq_false (fun e => h2 e.symm)]
          simp only
          by_cases hr : (r.any fun q => decide (q.1 = kv.1)) = true
          · have := ih hr
            rw [if_neg h2] at this
            exact this
          · have hm : (r.map fun q => if q.1 = kv.1 then (q.1, v) else q) = r := by
              refine (List.map_congr_left fun q hq => ?_).trans (List.map_id r)
              have : q.1 ≠ kv.1 := fun e => hr (List.any_eq_true.mpr ⟨q, hq, by simp [e]⟩)
              simp [this]
            rw [hm]
      · rw [if_neg h1]
        have hr : (r.any fun q => decide (q.1 = k)) = true := by simpa [h1] using hany
        have := ih hr
        by_cases h2 : kv.1 = x
        · subst h2; simp [h1]
        · simp only [decide_eq_false h2]
          exact this
  · rename_i hany
    rw [valueAt, List.find?_append]
    by_cases h2 : x = k
    · subst h2
      have : kvs.find? (fun q => decide (q.1 = x)) = none := by
        rw [List.find?_eq_none]
        intro q hq e
        exact hany (List.any_eq_true.mpr ⟨q, hq, e⟩)
      simp [this]
    · rw [if_neg h2]
      have : ([(k, v)] : List (Str × Value)).find? (fun q => decide (q.1 = x)) = none := by simp [Ne.symm h2]
      rw [this, Option.or_none]; rfl
end
section
open PySem PyProof.Rows Builtin Builtin.Str
/-- the parts of a text between the places of a marker -/
def pcs (y : List Nat) : Nat → List Nat → List (List Nat)
  | _, [] => [[]]
  | k + 1, _ :: r => pcs y k r
  | 0, c :: r => if y.isPrefixOf (c :: r) then [] :: pcs y (y.length - 1) r else
    match pcs y 0 r with
    | p :: ps => (c :: p) :: ps
    | [] => [[c]]
/-- a text with every marker replaced -/
def rp (y z : List Nat) : Nat → List Nat → List Nat
  | _, [] => []
  | k + 1, _ :: r => rp y z k r
  | 0, c :: r => if y.isPrefixOf (c :: r) then z ++ rp y z (y.length - 1) r else c :: rp y z 0 r
def jn (z : List Nat) : List (List Nat) → List Nat
  | [] => []
  | [x] => x
  | x :: y :: r => x ++ z ++ jn z (y :: r)
def appHead (u : List Nat) : List (List Nat) → List (List Nat)
  | p :: ps => (u ++ p) :: ps
  | [] => [u]

theorem pcs_ne (y : List Nat) : ∀ (l : List Nat) (k : Nat), pcs y k l ≠ []
  | [], _ => by simp [pcs]
  | c :: r, k + 1 => by rw [pcs]; exact pcs_ne y r k
  | c :: r, 0 => by
    rw [pcs]
    split
    · simp
    · split <;> simp
theorem pcs_skip (y : List Nat) : ∀ (k : Nat) (l : List Nat), pcs y k l = pcs y 0 (l.drop k)
  | 0, l => by simp
  | k + 1, [] => by simp [pcs]
  | k + 1, c :: r => by rw [pcs, pcs_skip y k r, List.drop_succ_cons]
theorem rp_skip (y z : List Nat) : ∀ (k : Nat) (l : List Nat), rp y z k l = rp y z 0 (l.drop k)
  | 0, l => by simp
  | k + 1, [] => by simp [rp]
  | k + 1, c :: r => by rw [rp, rp_skip y z k r, List.drop_succ_cons]
theorem drop_pred {α : Type} (c : α) (r : List α) {n : Nat} (h : 1 ≤ n) : r.drop (n - 1) = (c :: r).drop n := by
  obtain ⟨m, rfl⟩ : ∃ m, n = m + 1 := ⟨n - 1, by omega⟩
  simp
theorem pcs_hit {y l : List Nat} (hy : 1 ≤ y.length) (h : y.isPrefixOf l = true) : pcs y 0 l = [] :: pcs y 0 (l.drop y.length) := by
  cases l with
  | nil => cases y with
    | nil => simp at hy
    | cons a b => simp at h
  | cons c r => rw [pcs, if_pos h, pcs_skip, drop_pred c r hy]
theorem rp_hit {y z l : List Nat} (hy : 1 ≤ y.length) (h : y.isPrefixOf l = true) : rp y z 0 l = z ++ rp y z 0 (l.drop y.length) := by
  cases l with
  | nil => cases y with
    | nil => simp at hy
    | cons a b => simp at h
  | cons c r => rw [rp, if_pos h, rp_skip, drop_pred c r hy]
theorem pcs_miss {y : List Nat} {c : Nat} {r : List Nat} (h : y.isPrefixOf (c :: r) = false) : pcs y 0 (c :: r) = appHead [c] (pcs y 0 r) := by
  rw [pcs, if_neg (by rw [h]; exact Bool.false_ne_true)]
  cases pcs y 0 r <;> rfl
theorem rp_miss {y z : List Nat} {c : Nat} {r : List Nat} (h : y.isPrefixOf (c :: r) = false) : rp y z 0 (c :: r) = c :: rp y z 0 r := by
  rw [rp, if_neg (by rw [h]; exact Bool.false_ne_true)]
theorem jn_cons (z x : List Nat) (ps : List (List Nat)) (h : ps ≠ []) : jn z (x :: ps) = x ++ z ++ jn z ps := by
  cases ps with
  | nil => exact absurd rfl h
  | cons p r => rfl
theorem jn_appHead (z u : List Nat) (ps : List (List Nat)) (h : ps ≠ []) : jn z (appHead u ps) = u ++ jn z ps := by
  cases ps with
  | nil => exact absurd rfl h
  | cons p r =>
    cases r with
    | nil => rfl
    | cons q r => simp only [appHead, jn, List.append_assoc]

theorem jn_pcs (y z : List Nat) (hy : 1 ≤ y.length) : ∀ (n : Nat) (l : List Nat), l.length ≤ n → jn z (pcs y 0 l) = rp y z 0 l
  | 0, l, hl => by
    have : l = [] := List.length_eq_zero_iff.mp (by omega)
    subst this; rfl
  | n + 1, [], hl => rfl
  | n + 1, c :: r, hl => by
    simp only [List.length_cons] at hl
    cases h : y.isPrefixOf (c :: r) with
    | true =>
      rw [pcs_hit hy h, rp_hit hy h, jn_cons _ _ _ (pcs_ne _ _ _), jn_pcs y z hy n _ (by rw [List.length_drop, List.length_cons]; omega)]
      rfl
    | false =>
      rw [pcs_miss h, rp_miss h, jn_appHead _ _ _ (pcs_ne _ _ _), jn_pcs y z hy n _ (by omega)]
      rfl

theorem pcs_gap (y : List Nat) : ∀ (n : Nat) (l : List Nat), n ≤ l.length → (∀ k, k < n → y.isPrefixOf (l.drop k) = false) → pcs y 0 l = appHead (l.take n) (pcs y 0 (l.drop n))
  | 0, l, _, _ => by
    simp only [List.take_zero, List.drop_zero]
    cases h : pcs y 0 l with
    | nil => exact absurd h (pcs_ne _ _ _)
    | cons p r => rfl
  | n + 1, [], h, _ => by simp at h
  | n + 1, c :: r, h, hn => by
    have h0 := hn 0 (by omega)
    rw [List.drop_zero] at h0
    rw [pcs_miss h0, pcs_gap y n r (by simpa using h) (fun k hk => by simpa using hn (k + 1) (by omega))]
    simp only [List.take_succ_cons, List.drop_succ_cons]
    cases pcs y 0 (List.drop n r) <;> rfl

theorem at_iff (x y : Str) (i : Nat) (hy : 1 ≤ y.length) : StrLaws.At x y x.length i ↔ y.cps.toList.isPrefixOf (x.cps.toList.drop i) = true := by
  unfold StrLaws.At
  rw [StrLaws.subAt_eq, List.isPrefixOf_iff_prefix, List.prefix_iff_eq_take, beq_iff_eq]
  have e1 : y.length = y.cps.toList.length := by simp [Str.length]
  have e2 : x.length = x.cps.toList.length := by simp [Str.length]
  constructor
  · rintro ⟨h1, h2⟩; rw [← e1]; exact h2.symm
  · intro h
    rw [← e1] at h
    refine ⟨?_, h.symm⟩
    have := congrArg List.length h
    rw [List.length_take, List.length_drop] at this
    omega

theorem parts_pcs (x y : Str) (hy : 1 ≤ y.length) : ∀ (cuts : List Nat) (a f : Nat), a ≤ x.length → StrLaws.ChainG x y x.length a cuts f → (∀ k, f ≤ k → ¬ StrLaws.At x y x.length k) →
    (StrLaws.partsFrom x y.length a cuts).map (·.cps.toList) = pcs y.cps.toList 0 (x.cps.toList.drop a)
  | [], a, f, ha, hc, hn => by
    have hf : f = a := hc
    subst hf
    have e2 : x.length = x.cps.toList.length := by simp [Str.length]
    have hg := pcs_gap y.cps.toList (x.cps.toList.drop f).length (x.cps.toList.drop f) (Nat.le_refl _) (fun k _ => by
      rw [List.drop_drop]
      have := hn (f + k) (by omega)
      rw [at_iff x y _ hy] at this
      exact Bool.not_eq_true _ ▸ this)
    rw [hg]
    simp only [List.take_length, List.drop_length, pcs, appHead, List.append_nil, StrLaws.partsFrom, List.map_cons, List.map_nil, StrLaws.strSub_toList]
    rw [List.take_of_length_le (by rw [List.length_drop]; omega)]
  | c :: r, a, f, ha, hc, hn => by
    obtain ⟨h1, h2, h3, h4⟩ := hc
    have e2 : x.length = x.cps.toList.length := by simp [Str.length]
    have ey : y.length = y.cps.toList.length := by simp [Str.length]
    have hcl : c + y.length ≤ x.length := h2.1
    have hg := pcs_gap y.cps.toList (c - a) (x.cps.toList.drop a) (by rw [List.length_drop]; omega) (fun k hk => by
      rw [List.drop_drop]
      have := h3 (a + k) (by omega) (by omega)
      rw [at_iff x y _ hy] at this
      exact Bool.not_eq_true _ ▸ this)
    have hit := (at_iff x y c hy).mp h2
    rw [hg, List.drop_drop, show a + (c - a) = c from by omega, pcs_hit (by omega) hit, List.drop_drop, ← ey]
    have ih := parts_pcs x y hy r (c + y.length) f hcl h4 hn
    simp only [StrLaws.partsFrom, List.map_cons, StrLaws.strSub_toList, appHead, List.append_nil, ih]

theorem glued_toList (z : Str) : ∀ parts : List Str, (glued z parts).cps.toList = jn z.cps.toList (parts.map (·.cps.toList)) := by
  intro parts
  rw [StrLaws.glued_eq_join]
  induction parts with
  | nil => rfl
  | cons x r ih =>
    cases r with
    | nil => rfl
    | cons q r =>
      show (x ++ z ++ Str.join z (q :: r)).cps.toList = _
      simp only [Str.cps_append, Array.toList_append, ih]
      rfl

theorem replace_rp (x y z : Str) (hy : 1 ≤ y.length) : (Txt.replace x y z).cps.toList = rp y.cps.toList z.cps.toList 0 x.cps.toList := by
  obtain ⟨f, hc, hn⟩ := StrLaws.occ_tight x y hy
  have hp := parts_pcs x y hy _ 0 f (Nat.zero_le _) hc hn
  rw [List.drop_zero] at hp
  have ey : y.length = y.cps.toList.length := by simp [Str.length]
  unfold Txt.replace
  have h0 : (y.length == 0) = false := by simp; omega
  rw [h0, Bool.false_and, Bool.or_false]
  rw [← jn_pcs y.cps.toList z.cps.toList (by omega) _ _ (Nat.le_refl _), ← hp]
  cases he : (occurrences x y 0 x.length (x.length + 1)).isEmpty
  · rw [if_neg Bool.false_ne_true, glued_toList, StrLaws.partsBetween_eq]
  · rw [if_pos rfl]
    rw [List.isEmpty_iff.mp he]
    simp only [StrLaws.partsFrom, List.map_cons, List.map_nil, jn, StrLaws.sub_whole]

theorem replace_len (x y z : Str) (hy : 1 ≤ y.length) : (Txt.replace x y z).length ≤ x.length * (z.length + 1) := by
  have key : ∀ (n : Nat) (l : List Nat), l.length ≤ n → (rp y.cps.toList z.cps.toList 0 l).length ≤ l.length * (z.cps.toList.length + 1) := by
    intro n
    induction n with
    | zero => intro l hl; have : l = [] := List.length_eq_zero_iff.mp (by omega); subst this; simp [rp]
    | succ n ih =>
      intro l hl
      cases l with
      | nil => simp [rp]
      | cons c r =>
        simp only [List.length_cons] at hl
        have ey : y.length = y.cps.toList.length := by simp [Str.length]
        cases h : y.cps.toList.isPrefixOf (c :: r) with
        | true =>
          rw [rp_hit (by omega) h, List.length_append]
          have := ih ((c :: r).drop y.cps.toList.length) (by rw [List.length_drop, List.length_cons]; omega)
          rw [List.length_drop, List.length_cons] at this
          rw [List.length_cons, Nat.add_mul]
          have h2 : (r.length + 1 - y.cps.toList.length) * (z.cps.toList.length + 1) ≤ r.length * (z.cps.toList.length + 1) := Nat.mul_le_mul_right _ (by omega)
          omega
        | false =>
          rw [rp_miss h, List.length_cons, List.length_cons, Nat.add_mul]
          have := ih r (by omega)
          omega
  have := key _ x.cps.toList (Nat.le_refl _)
  rw [← replace_rp x y z hy] at this
  simpa [Str.length] using this

theorem split_pcs (x y : Str) (hy : 1 ≤ y.length) (hk : Builtin.Str.strKind y = 1) : (Txt.split x y).map (·.cps.toList) = pcs y.cps.toList 0 x.cps.toList := by
  obtain ⟨f, hc, hn⟩ := StrLaws.occ_tight x y hy
  have hp := parts_pcs x y hy _ 0 f (Nat.zero_le _) hc hn
  rw [List.drop_zero] at hp
  rw [← hp]
  have e2 : x.length = x.cps.toList.length := by simp [Str.length]
  have one : ∀ (e : occurrences x y 0 x.length (x.length + 1) = []), [x].map (·.cps.toList) = (StrLaws.partsFrom x y.length 0 (occurrences x y 0 x.length (x.length + 1))).map (·.cps.toList) := fun e => by
    rw [e]; simp only [StrLaws.partsFrom, List.map_cons, List.map_nil, StrLaws.sub_whole]
  unfold Txt.split
  have hkk : (decide (Builtin.Str.strKind x < Builtin.Str.strKind y)) = false := by
    rw [hk]; unfold Builtin.Str.strKind; split <;> (try split) <;> simp
  rw [hkk, Bool.or_false]
  split
  · rename_i h
    have h := of_decide_eq_true h
    apply one
    cases e : occurrences x y 0 x.length (x.length + 1) with
    | nil => rfl
    | cons c r =>
      rw [e] at hc
      have := hc.2.1.1
      omega
  · split
    · rename_i h
      exact one (List.isEmpty_iff.mp h)
    · rw [StrLaws.partsBetween_eq]

theorem contains_iff (x y : Str) (hy : 1 ≤ y.length) : Txt.contains x y = true ↔ ∃ i, y.cps.toList.isPrefixOf (x.cps.toList.drop i) = true := by
  unfold Txt.contains
  rw [StrLaws.found_iff]
  constructor
  · rintro ⟨i, h⟩; exact ⟨i, (at_iff x y i hy).mp h⟩
  · rintro ⟨i, h⟩; exact ⟨i, (at_iff x y i hy).mpr h⟩
end
section
variable {prog : Program} {w : World} {A : Around} {E : Value → Shared → Prop} {s : Shared} {env : Env} {h0 : Heap} {o0 : Shared} {cs cs' : Cells} {Q : Value → Shared → Prop}

theorem x_getLast {l : Addr} {ys : List Value} {v : Value} {u : Tok} (H : St h0 o0 cs s) (hl : Has cs l (cList (ys ++ [v]))) (h : Q v s) : wpAny (model prog w) A (getItem (.ref l) (.int (-1) u)) Q E s := by
  refine wpAny_getItem_list_neg (list_of H hl) (by decide) (by simp; omega) (by decide) (x := v) ?_ h
  rw [List.size_toArray, List.length_append, List.length_singleton, show (-1 + ((ys.length + 1 : Nat) : Int)).toNat = ys.length from by omega]
  simp
theorem x_last {value slice : Expr} {l : Addr} {ys : List Value} {v : Value} {u : Tok} (H : St h0 o0 cs s) (hl : Has cs l (cList (ys ++ [v])))
    (hs : subscripted slice false (.ref l) (.int (-1) u) = operate [.ref l, .int (-1) u] (getItem (.ref l) (.int (-1) u))) (h : Q v s) : wpAny (model prog w) A (subscriptTail value slice (.ref l) (.int (-1) u)) Q E s :=
  tail_any (list_of H hl).typeIs slot_list_getitem.lookup (x_getLast H hl h) hs
theorem x_setLast {l : Addr} {ys : List Value} {y v : Value} {u : Tok} {Q : Unit → Shared → Prop} (H : St h0 o0 cs s) (hp : Put cs l (cList (ys ++ [y])) (cList (ys ++ [v])) cs')
    (h : ∀ s', St h0 o0 cs' s' → Q () s') : wpAny (model prog w) A (setItem (.ref l) (.int (-1) u) v) Q E s := by
  obtain ⟨n, ho⟩ := isL_of H hp.has
  have hl := list_of H hp.has
  unfold setItem
  try with_reducible refine wpAny_holding ?_
  first | refine wpAny_bind (wpAny_pure ?_) | skip
  refine wpAny_bind (wpAny_sequenceKey hl.typeIs (by decide) ?_)
  refine wpAny_bind (wpAny_callSpecial?_slot (name := Str.ofString "__setitem__") hl.typeIs slot_list_setitem
    (wpAny_call_entry slot_list_setitem hl.typeIs entry_list_setitem ?_ (args_list_setitem _ _ _)))
  show wpAny _ _ (Builtin.List.listSubscript? (.int (-1) u) >>= _) _ _ s
  refine wpAny_bind (wpAny_listSubscript_int (fitsIndex_neg (by decide) (by decide)) ?_)
  have hidx : seqIndex? (Int.negSucc 0) (ys ++ [y]).toArray.size = some ys.length := by
    have := seqIndex_neg (k := -1) (n := (ys ++ [y]).toArray.size) (by decide) (by simp; omega)
    rw [show (-1 + ((ys ++ [y]).toArray.size : Int)).toNat = ys.length from by simp; omega] at this
    exact this
  show wpAny _ _ ((Builtin.List.listItems (.ref l) >>= fun xs => pure ((seqIndex? (Int.negSucc 0) xs.size).bind fun i => xs[i]?.map (i, ·))) >>= _) _ _ s
  refine wpAny_bind (wpAny_bind ?_)
  show wpAny _ _ (seqItems? (.ref l) >>= _) _ _ s
  refine wpAny_bind (wpAny_seqItems ho rfl (wpAny_pure (wpAny_pure ?_)))
  rw [hidx]
  have hy : (ys ++ [y]).toArray[ys.length]? = some y := by simp
  simp only [Option.bind_some, hy, Option.map_some]
  show wpAny _ _ (setSeqItemAt l ys.length v >>= _) _ _ s
  have e : (ys ++ [y]).toArray.setIfInBounds ys.length v = (ys ++ [v]).toArray := by
    apply Array.toList_inj.mp
    simp
  have hfin := H.updS (k := s.toks) (h' := s.heap.update l (Obj.mapSeq (·.setIfInBounds ys.length v))) hp ⟨_, Heap.get?_update_self _ ho rfl, cList_mapSeq e⟩ (Heap.SameBut.update ..) (Nat.le_refl _)
  refine wpAny_bind (wpAny_setSeqItemAt ho rfl ?_)
  first
    | exact wpAny_bind (wpAny_pure (wpAny_pure ⟨.none, rfl, wpAny_pure (h _ hfin)⟩))
    | exact wpAny_pure ⟨.none, rfl, wpAny_pure (h _ hfin)⟩
theorem x_isiL {l : Addr} {xs : List Value} (H : St h0 o0 cs s) (hl : Has cs l (cList xs)) (h : ∀ s', St h0 o0 cs s' → Q (.bool false) s') : wpAny (model prog w) A (call (.builtin "isinstance") [.ref l, .type "str"]) Q E s := by
  obtain ⟨n, ho⟩ := isL_of H hl
  exact PySem.IsiPair.list_str ho rfl (h _ (H.toks (Nat.le_succ _)))
theorem x_pop0 {l : Addr} {ys : List Value} {y : Value} (H : St h0 o0 cs s) (hp : Put cs l (cList (ys ++ [y])) (cList ys) cs') (hz : (ys ++ [y]).length ≤ sizeLine) (h : ∀ s', St h0 o0 cs' s' → Q y s') :
    wpAny (model prog w) A (call (.builtin "list.pop") [.ref l]) Q E s := by
  obtain ⟨n, ho⟩ := isL_of H hp.has
  have hz' : (ys ++ [y]).toArray.size ≤ sizeLine := by rw [List.size_toArray]; exact hz
  have hsz : (ys ++ [y]).toArray.size - 1 = ys.length := by simp
  have hy : (ys ++ [y]).toArray[(ys ++ [y]).toArray.size - 1]? = some y := by rw [hsz]; simp
  have e : (ys ++ [y]).toArray.eraseIdxIfInBounds ((ys ++ [y]).toArray.size - 1) = ys.toArray := by
    rw [hsz]
    apply Array.toList_inj.mp
    simp [List.eraseIdx_append_of_length_le]
  exact call_meets PySem.F.slot_list_pop ⟨_, ho, rfl⟩ PySem.F.entry_list_pop (PySem.F.args_list_pop_1 _)
    (PySem.MeetsSeq.list_pop_last l _ n y hy hz') ⟨ho, h _ (H.updS (k := s.toks) hp ⟨_, Heap.get?_update_self _ ho rfl, cList_mapSeq e⟩ (Heap.SameBut.update ..) (Nat.le_refl _))⟩

theorem x_unpack3 {a b c : Str} {pa pb pc pos : Pos} {k : Nat} {t : Addr} {u v x : Value} {Q : Unit → Shared → Prop} (hh : A.handled = none) (H : St h0 o0 cs s) (ht : Has cs t (cTup [u, v, x]))
    (h : ∀ s', St h0 o0 cs s' → wpAny (model prog w) A (storeName env a u) (fun _ s1 => wpAny (model prog w) A (storeName env b v) (fun _ s2 => wpAny (model prog w) A (storeName env c x) Q E s2) E s1) E s') :
    wpAny (model prog w) A (assign (.Tuple [.Name a pa, .Name b pb, .Name c pc] k pos) env (.ref t)) Q E s := by
  refine wpAny_assign_Tuple hh (tup_of H ht) (by rfl) (by rfl) fun h' he => ?_
  have H' : St h0 o0 cs { s with heap := h' } := H.grow (k := s.toks) (fun b o e => he b o (Nat.ne_of_lt (Heap.lt_size e)) e) (Nat.le_refl _)
  refine wpAny_assignInOrder_more (t := assign (.Name a pa) env) (ts := [assign (.Name b pb) env, assign (.Name c pc) env]) (x := u) (xs := [v, x]) ?_
  refine wpAny_assign_Name (wpAny_mono (h _ H') (fun _ s1 q => ?_) fun _ _ q => q)
  refine wpAny_assignInOrder_more (t := assign (.Name b pb) env) (ts := [assign (.Name c pc) env]) (x := v) (xs := [x]) ?_
  refine wpAny_assign_Name (wpAny_mono q (fun _ s2 q => ?_) fun _ _ q => q)
  refine wpAny_assignInOrder_more (t := assign (.Name c pc) env) (ts := []) (x := x) (xs := []) ?_
  refine wpAny_assign_Name (wpAny_mono q (fun _ s3 q => ?_) fun _ _ q => q)
  exact wpAny_assignInOrder_none q

/-- x.partition(c) where c is in x -/
theorem x_partition {x y : Str} {t u : Tok} {c : Nat} {p q : List Nat} (H : St h0 o0 cs s) (hy : y.cps.toList = [c]) (hx : x.cps.toList = p ++ c :: q) (hp : c ∉ p) (hz : x.length ≤ sizeLine)
    (h : ∀ r a b t1 t2 s', a.cps.toList = p → b.cps.toList = q → St h0 o0 ((r, cTup [.str a t1, .str y u, .str b t2]) :: cs) s' → Q (.ref r) s') :
    wpAny (model prog w) A (call (.builtin "str.partition") [.str x t, .str y u]) Q E s := by
  have hyl : y.length = 1 := by
    have := congrArg List.length hy
    simpa [Str.length] using this
  have hxl : x.length = p.length + (q.length + 1) := by
    have := congrArg List.length hx
    simpa [Str.length] using this
  refine call_meets F.slot_str_partition (typeIs_str _ _ _) F.entry_str_partition (F.args_str_partition_2 _ _) (meets_str_partition x y t u (by rw [hyl]; rfl) hz) ?_
  rcases StrLaws.occ_head_from x y 0 1 (by omega) with ⟨e, hn⟩ | ⟨i, r, e, hi, ha, hmin⟩
  · exfalso
    refine hn p.length (Nat.zero_le _) ((at_iff x y p.length (by omega)).mpr ?_)
    rw [hx, hy]; simp [List.isPrefixOf]
  · have ha' := (at_iff x y i (by omega)).mp ha
    have hat : StrLaws.At x y x.length p.length := (at_iff x y p.length (by omega)).mpr (by rw [hx, hy]; simp [List.isPrefixOf])
    have hip : i = p.length := by
      rcases Nat.lt_trichotomy i p.length with hlt | heq | hgt
      · exfalso
        rw [hx, hy, List.drop_append_of_le_length (Nat.le_of_lt hlt), List.drop_eq_getElem_cons hlt, List.cons_append] at ha'
        simp only [List.isPrefixOf, Bool.and_true, beq_iff_eq] at ha'
        exact hp (ha' ▸ List.getElem_mem hlt)
      · exact heq
      · exact absurd hat (hmin p.length (Nat.zero_le _) hgt)
    subst hip
    rw [e]
    have H2 := H.push (k := s.toks + 1 + 1) (o := { cls := .type "tuple", data := .seq [.str (Builtin.Str.strSub x 0 p.length) s.toks, .str y u, .str (Builtin.Str.strSub x (p.length + y.length) x.length) (s.toks + 1)].toArray }) (c := cTup [.str (Builtin.Str.strSub x 0 p.length) s.toks, .str y u, .str (Builtin.Str.strSub x (p.length + y.length) x.length) (s.toks + 1)]) ⟨0, rfl⟩ (by omega)
    refine h _ _ _ _ _ _ ?_ ?_ H2
    · rw [StrLaws.strSub_toList, hx]; simp
    · rw [StrLaws.strSub_toList, hx, hyl, hxl, show p.length + 1 = (p ++ [c]).length from by simp, show p ++ c :: q = (p ++ [c]) ++ q from by simp, List.drop_left]
      exact List.take_of_length_le (by simp; omega)
end
local macro_rules | `(tactic| walk_at "mhas") => `(tactic| repeat (first | with_reducible exact Has.here | with_reducible apply Has.there))
local macro_rules | `(tactic| walk_at "mput") => `(tactic| repeat (first | with_reducible exact Put.here | with_reducible apply Put.there))
local macro_rules | `(tactic| walk_at "mlook") => `(tactic| repeat (first | with_reducible exact Look.here | (with_reducible apply Look.there; decide +kernel)))
local macro_rules | `(tactic| walk_at "msetn") => `(tactic| repeat (first | with_reducible exact SetN.here | with_reducible exact SetN.new | (with_reducible apply SetN.there; decide +kernel)))
local macro_rules | `(tactic| walk_at "mhas") => `(tactic| repeat (first | with_reducible exact Has.here | with_reducible apply Has.there | with_reducible apply Has.skip))
local macro_rules | `(tactic| walk_at "mput") => `(tactic| repeat (first | with_reducible exact Put.here | with_reducible apply Put.there | with_reducible apply Put.skip))
local macro_rules | `(tactic| walk_at "mpick") => `(tactic| repeat (first | with_reducible exact Pick.here | with_reducible apply Pick.there | with_reducible apply Pick.skip))
local macro_rules | `(tactic| walk_at "mnssub") => `(tactic| repeat (first | with_reducible exact NsSub.nil | (with_reducible apply NsSub.cons; focus walk_at "mlook")))
local macro_rules | `(tactic| walk_at "nm") => `(tactic| with_reducible refine x_name (by assumption) (by walk_at "mhas") (by kernel_rfl!) (by walk_at "mlook") (by kernel_rfl!) (by kernel_rfl!) (by decide +kernel) ?_)
local macro_rules | `(tactic| walk_at "sto") => `(tactic| (with_reducible refine x_store (by assumption) (by walk_at "mput") (by kernel_rfl!) (by walk_at "msetn") (by kernel_rfl!) (by kernel_rfl!) ?_; intro s H))
local macro_rules | `(tactic| walk_at "str") => `(tactic| (with_reducible refine x_str (by assumption) ?_; intro s H e))
local macro_rules | `(tactic| walk_at "int") => `(tactic| (with_reducible refine x_int (by assumption) ?_; intro t s H e))
local macro_rules | `(tactic| walk_at "pair") => `(tactic| (refine args_cons ?_; refine Tuple_ ?_; refine args_cons ?_; walk_at "str"; refine args_cons ?_; walk_at "str"; refine args_nil ?_; with_reducible refine x_newTuple (by assumption) (Nat.le_of_ble_eq_true (by kernel_rfl!)) ?_; intro a s H k))
local macro_rules | `(tactic| walk_at "ld") => `(tactic| with_reducible refine x_ld (by assumption) (by walk_at "mhas") (by kernel_rfl!) (by walk_at "mlook") (by kernel_rfl!) (by kernel_rfl!) ?_)
local macro_rules | `(tactic| walk_at "sarg") => `(tactic| (refine args_cons ?_; walk_at "str"))
/-- the six signs' references -/
def mk6 : Nat → List Nat
  | 38 => [38, 97, 109, 112, 59]
  | 60 => [38, 108, 116, 59]
  | 34 => [38, 113, 117, 111, 116, 59]
  | 9 => [38, 35, 120, 57, 59]
  | 10 => [38, 35, 120, 65, 59]
  | 13 => [38, 35, 120, 68, 59]
  | c => [c]
def signs6 : List Nat := [38, 60, 34, 9, 10, 13]

def enc (mk : Nat → List Nat) (S : Nat → Bool) (l : List Nat) : List Nat := l.flatMap fun c => if S c then mk c else [c]
theorem enc_cons (mk S c l) : enc mk S (c :: l) = (if S c then mk c else [c]) ++ enc mk S l := by simp [enc]
theorem enc_nil (mk S) : enc mk S [] = [] := rfl

/-- a family of references: each opens with &, none begins another, the signs are in none -/
structure Fam (mk : Nat → List Nat) (G : List Nat) : Prop where
  amp : 38 ∈ G
  head : ∀ s ∈ G, ∃ r, mk s = 38 :: r ∧ r ≠ [] ∧ ∀ c ∈ r, c ∉ G
  apart : ∀ s ∈ G, ∀ t ∈ G, s ≠ t → ¬ mk s <+: mk t

theorem fam6 : Fam mk6 signs6 := by
  refine ⟨by decide, ?_, ?_⟩
  · intro s hs
    simp only [signs6, List.mem_cons, List.not_mem_nil, or_false] at hs
    rcases hs with rfl | rfl | rfl | rfl | rfl | rfl <;> exact ⟨_, rfl, by decide, by decide⟩
  · decide

theorem rp_pass {y z : List Nat} : ∀ (u X : List Nat), (∀ k, k < u.length → y.isPrefixOf ((u ++ X).drop k) = false) → rp y z 0 (u ++ X) = u ++ rp y z 0 X
  | [], X, _ => rfl
  | c :: u, X, h => by
    have h0 := h 0 (by simp)
    rw [List.drop_zero, List.cons_append] at h0
    rw [List.cons_append, rp_miss h0, rp_pass u X (fun k hk => by have := h (k + 1) (by simp; omega); rwa [List.cons_append, List.drop_succ_cons] at this), List.cons_append]

section
variable {mk : Nat → List Nat} {G : List Nat} (F : Fam mk G)
include F

theorem Fam.len {s : Nat} (hs : s ∈ G) : 2 ≤ (mk s).length := by
  obtain ⟨r, e, hr, _⟩ := F.head s hs
  rw [e]
  cases r with
  | nil => exact absurd rfl hr
  | cons a b => simp

theorem Fam.notPre {s t : Nat} (hs : s ∈ G) (ht : t ∈ G) (hne : s ≠ t) (X : List Nat) : (mk s).isPrefixOf (mk t ++ X) = false := by
  rw [← Bool.not_eq_true, List.isPrefixOf_iff_prefix]
  intro h
  rcases List.prefix_or_prefix_of_prefix h (List.prefix_append (mk t) X) with q | q
  · exact F.apart s hs t ht hne q
  · exact F.apart t ht s hs (Ne.symm hne) q

theorem Fam.miss {s c : Nat} {r : List Nat} (hs : s ∈ G) (hc : c ≠ 38) : (mk s).isPrefixOf (c :: r) = false := by
  obtain ⟨q, e, _, _⟩ := F.head s hs
  rw [e, List.isPrefixOf_cons_cons]
  have : ((38 : Nat) == c) = false := by simpa using Ne.symm hc
  rw [this, Bool.false_and]

theorem Fam.pass {s t : Nat} {z X : List Nat} (hs : s ∈ G) (ht : t ∈ G) (hne : s ≠ t) : rp (mk s) z 0 (mk t ++ X) = mk t ++ rp (mk s) z 0 X := by
  refine rp_pass _ _ fun k hk => ?_
  cases k with
  | zero => exact F.notPre hs ht hne X
  | succ k =>
    obtain ⟨q, e, _, hq⟩ := F.head t ht
    rw [e] at hk ⊢
    rw [List.cons_append, List.drop_succ_cons]
    have hk' : k < q.length := by simpa using hk
    rw [List.drop_append_of_le_length (by omega), List.drop_eq_getElem_cons hk', List.cons_append]
    refine F.miss hs fun e38 => ?_
    exact hq _ (List.getElem_mem hk') (e38 ▸ F.amp)

/-- where & itself is written by its reference, each reference is read as its sign alone -/
theorem Fam.lawA {S : Nat → Bool} (hS : ∀ c, S c = true → c ∈ G) (h38 : S 38 = true) {s : Nat} (hs : S s = true) : ∀ l, rp (mk s) [s] 0 (enc mk S l) = enc mk (fun c => S c && c != s) l
  | [] => rfl
  | c :: r => by
    have ih := Fam.lawA hS h38 hs r
    rw [enc_cons, enc_cons]
    by_cases hc : c = s
    · subst hc
      have h1 : (S c && c != c) = false := by simp
      rw [if_pos hs, h1, if_neg (by simp), rp_hit (by have := F.len (hS c hs); omega) (by rw [List.isPrefixOf_iff_prefix]; exact List.prefix_append _ _), List.drop_left, ih]
    · have h1 : (c != s) = true := by simpa using hc
      rw [h1, Bool.and_true]
      cases hSc : S c with
      | true =>
        rw [if_pos rfl, F.pass (hS s hs) (hS c hSc) (Ne.symm hc), ih]
      | false =>
        rw [if_neg (by simp)]
        have : c ≠ 38 := fun e => by rw [e, h38] at hSc; cases hSc
        rw [List.singleton_append, rp_miss (F.miss (hS s hs) this), ih]; rfl

theorem Fam.pre_enc {S : Nat → Bool} (hS : ∀ c, S c = true → c ∈ G) : ∀ (q r : List Nat), (∀ c ∈ q, c ∉ G) → (q <+: enc mk S r ↔ q <+: r) ∧ (q <+: r → enc mk S r = q ++ enc mk S (r.drop q.length))
  | [], r, _ => by simp
  | a :: q, [], _ => by simp [enc_nil]
  | a :: q, d :: r, hq => by
    have ha : a ∉ G := hq a (by simp)
    have ih := Fam.pre_enc hS q r (fun c hc => hq c (by simp [hc]))
    rw [enc_cons]
    cases hd : S d with
    | true =>
      have hdG := hS d hd
      have hne : a ≠ d := fun e => ha (e ▸ hdG)
      obtain ⟨u, e, _, _⟩ := F.head d hdG
      have ha38 : a ≠ 38 := fun e => ha (e ▸ F.amp)
      rw [if_pos rfl, e, List.cons_append]
      constructor
      · constructor
        · intro h; exact absurd (List.cons_prefix_cons.mp h).1 ha38
        · intro h; exact absurd (List.cons_prefix_cons.mp h).1 hne
      · intro h; exact absurd (List.cons_prefix_cons.mp h).1 hne
    | false =>
      rw [if_neg (by simp), List.singleton_append]
      constructor
      · rw [List.cons_prefix_cons, List.cons_prefix_cons, ih.1]
      · intro h
        obtain ⟨h1, h2⟩ := List.cons_prefix_cons.mp h
        rw [ih.2 h2, h1]; simp

/-- where & stands bare, a reference in the text is read as its sign too -/
theorem Fam.lawB {S : Nat → Bool} (hS : ∀ c, S c = true → c ∈ G) (h38 : S 38 = false) {s : Nat} (hs : S s = true) : ∀ (n : Nat) (l : List Nat), l.length ≤ n →
    rp (mk s) [s] 0 (enc mk S l) = enc mk (fun c => S c && c != s) (rp (mk s) [s] 0 l) := by
  intro n
  have hsG := hS s hs
  have hs38 : s ≠ 38 := fun e => by rw [e, h38] at hs; cases hs
  have hs0 : (S s && s != s) = false := by simp
  induction n with
  | zero => intro l hl; have : l = [] := List.length_eq_zero_iff.mp (by omega); subst this; rfl
  | succ n ih =>
    intro l hl
    cases l with
    | nil => rfl
    | cons c r =>
      simp only [List.length_cons] at hl
      rw [enc_cons]
      by_cases hc38 : c = 38
      · subst hc38
        rw [if_neg (by rw [h38]; simp), List.singleton_append]
        obtain ⟨q, e, hq0, hq⟩ := F.head s hsG
        have hp := F.pre_enc hS q r hq
        cases hit : (mk s).isPrefixOf (38 :: r) with
        | true =>
          have hpre : q <+: r := by rw [e, List.isPrefixOf_iff_prefix, List.cons_prefix_cons] at hit; exact hit.2
          have hit' : (mk s).isPrefixOf (38 :: enc mk S r) = true := by rw [e, List.isPrefixOf_iff_prefix, List.cons_prefix_cons]; exact ⟨rfl, hp.1.mpr hpre⟩
          rw [rp_hit (by have := F.len hsG; omega) hit, rp_hit (by have := F.len hsG; omega) hit']
          have e1 : (38 :: r).drop (mk s).length = r.drop q.length := by rw [e]; simp
          have e2 : (38 :: enc mk S r).drop (mk s).length = enc mk S (r.drop q.length) := by rw [e, hp.2 hpre]; simp
          rw [e1, e2, List.singleton_append, List.singleton_append, enc_cons, hs0, if_neg (by simp), ih _ (by rw [List.length_drop]; omega)]; rfl
        | false =>
          have hit' : (mk s).isPrefixOf (38 :: enc mk S r) = false := by
            rw [← Bool.not_eq_true] at hit ⊢
            intro h; apply hit
            rw [e, List.isPrefixOf_iff_prefix, List.cons_prefix_cons] at h ⊢
            exact ⟨rfl, hp.1.mp h.2⟩
          have h0 : (S 38 && (38 : Nat) != s) = false := by rw [h38]; rfl
          rw [rp_miss hit, rp_miss hit', enc_cons, h0, if_neg (by simp), ih r (by omega)]; rfl
      · rw [rp_miss (F.miss hsG hc38), enc_cons]
        by_cases hc : c = s
        · subst hc
          rw [if_pos hs, hs0, if_neg (by simp), rp_hit (by have := F.len hsG; omega) (by rw [List.isPrefixOf_iff_prefix]; exact List.prefix_append _ _), List.drop_left, ih r (by omega)]
        · have h1 : (c != s) = true := by simpa using hc
          rw [h1, Bool.and_true]
          cases hSc : S c with
          | true => rw [if_pos rfl, F.pass hsG (hS c hSc) (Ne.symm hc), ih r (by omega)]
          | false => rw [if_neg (by simp), List.singleton_append, rp_miss (F.miss hsG hc38), ih r (by omega)]; rfl

/-- one reference after another is replaced by its sign -/
def unfold1 (mk : Nat → List Nat) (b : List Nat) (s : Nat) : List Nat := rp (mk s) [s] 0 b

theorem Fam.runA {S : Nat → Bool} (hS : ∀ c, S c = true → c ∈ G) (h38 : S 38 = true) : ∀ (pre : List Nat) (l : List Nat), 38 ∉ pre → pre.Nodup → (∀ s ∈ pre, S s = true) →
    pre.foldl (unfold1 mk) (enc mk S l) = enc mk (fun c => S c && !pre.contains c) l
  | [], l, _, _, _ => by simp
  | s :: pre, l, hn, hd, hs => by
    rw [List.foldl_cons, unfold1, F.lawA hS h38 (hs s (by simp))]
    rw [List.nodup_cons] at hd
    have h2 : 38 ≠ s := fun e => hn (by simp [e])
    rw [Fam.runA (S := fun c => S c && c != s) (fun c hc => hS c (by simp at hc; exact hc.1)) (by simp [h38, h2]) pre l (fun h => hn (by simp [h])) hd.2 (fun t ht => by
      have h3 : t ≠ s := fun e => hd.1 (e ▸ ht)
      simp [hs t (by simp [ht]), h3])]
    congr 1
    funext c
    simp only [List.contains_cons, Bool.not_or, Bool.and_assoc]
    rfl

theorem Fam.runB {S : Nat → Bool} (hS : ∀ c, S c = true → c ∈ G) (h38 : S 38 = false) : ∀ (post : List Nat) (l : List Nat), post.Nodup → (∀ s ∈ post, S s = true) →
    post.foldl (unfold1 mk) (enc mk S l) = enc mk (fun c => S c && !post.contains c) (post.foldl (unfold1 mk) l)
  | [], l, _, _ => by simp
  | s :: post, l, hd, hs => by
    rw [List.foldl_cons, List.foldl_cons, unfold1, F.lawB hS h38 (hs s (by simp)) _ l (Nat.le_refl _)]
    rw [List.nodup_cons] at hd
    rw [Fam.runB (S := fun c => S c && c != s) (fun c hc => hS c (by simp at hc; exact hc.1)) (by simp [h38]) post _ hd.2 (fun t ht => by
      have h3 : t ≠ s := fun e => hd.1 (e ▸ ht)
      simp [hs t (by simp [ht]), h3])]
    congr 1
    funext c
    simp only [List.contains_cons, Bool.not_or, Bool.and_assoc]
    rfl

theorem enc_none (l : List Nat) : enc mk (fun _ => false) l = l := by
  induction l with
  | nil => rfl
  | cons c r ih => rw [enc_cons, ih]; rfl

theorem Fam.back (hG : G.Nodup) {pre post : List Nat} (hp : (pre ++ 38 :: post).Perm G) (l : List Nat) :
    (pre ++ 38 :: post).foldl (unfold1 mk) (enc mk (fun c => G.contains c) l) = post.foldl (unfold1 mk) l := by
  have hd : (pre ++ 38 :: post).Nodup := hp.nodup_iff.mpr hG
  rw [List.nodup_append] at hd
  obtain ⟨d1, d2, d3⟩ := hd
  rw [List.nodup_cons] at d2
  have mem : ∀ c, c ∈ G ↔ c ∈ pre ∨ c = 38 ∨ c ∈ post := fun c => by rw [← hp.mem_iff]; simp
  have n1 : 38 ∉ pre := fun h => d3 38 h 38 (by simp) rfl
  rw [List.foldl_append, List.foldl_cons]
  rw [F.runA (S := fun c => G.contains c) (fun c hc => by simpa using hc) (by simpa using F.amp) pre l n1 d1 (fun s hs => by simp [mem, hs])]
  rw [unfold1, F.lawA (S := fun c => G.contains c && !pre.contains c) (fun c hc => by simp at hc; exact hc.1) (by simp [F.amp, n1]) (by simp [F.amp, n1])]
  rw [F.runB (S := fun c => G.contains c && !pre.contains c && c != 38) (fun c hc => by simp at hc; exact hc.1.1) (by simp) post l d2.2 (fun s hs => by
    have h1 : s ≠ 38 := fun e => d2.1 (e ▸ hs)
    have h2 : s ∉ pre := fun h => d3 s h s (by simp [hs]) rfl
    simp [mem, hs, h1, h2])]
  have : (fun c => (G.contains c && !pre.contains c && c != 38) && !post.contains c) = fun _ => false := by
    funext c
    have := mem c
    by_cases hc : c ∈ G
    · rcases this.mp hc with h | h | h <;> simp [h]
    · simp [hc]
  rw [this, enc_none F]
end

theorem rp_none {y z : List Nat} : ∀ l, (∀ k, y.isPrefixOf (l.drop k) = false) → rp y z 0 l = l
  | [], _ => rfl
  | c :: r, h => by
    rw [rp_miss (by simpa using h 0), rp_none r (fun k => by simpa using h (k + 1))]
theorem rp_le {y z : List Nat} (hy : 1 ≤ y.length) (hz : z.length ≤ y.length) : ∀ (n : Nat) (l : List Nat), l.length ≤ n → (rp y z 0 l).length ≤ l.length := by
  intro n
  induction n with
  | zero => intro l hl; have : l = [] := List.length_eq_zero_iff.mp (by omega); subst this; simp [rp]
  | succ n ih =>
    intro l hl
    cases l with
    | nil => simp [rp]
    | cons c r =>
      simp only [List.length_cons] at hl
      cases h : y.isPrefixOf (c :: r) with
      | true =>
        rw [rp_hit hy h, List.length_append]
        have h1 := ih ((c :: r).drop y.length) (by rw [List.length_drop, List.length_cons]; omega)
        have h2 := (List.isPrefixOf_iff_prefix.mp h).length_le
        rw [List.length_drop] at h1
        omega
      | false =>
        rw [rp_miss h, List.length_cons, List.length_cons]
        have := ih r (by omega)
        omega
theorem rp_lt {y z : List Nat} (hy : 1 ≤ y.length) (hz : z.length < y.length) : ∀ (n : Nat) (l : List Nat), l.length ≤ n → (∃ k, y.isPrefixOf (l.drop k) = true) → (rp y z 0 l).length < l.length := by
  intro n
  induction n with
  | zero =>
    intro l hl ⟨k, hk⟩
    have : l = [] := List.length_eq_zero_iff.mp (by omega)
    subst this
    simp at hk; subst hk; simp at hy
  | succ n ih =>
    intro l hl ⟨k, hk⟩
    cases l with
    | nil => simp at hk; subst hk; simp at hy
    | cons c r =>
      simp only [List.length_cons] at hl
      cases h : y.isPrefixOf (c :: r) with
      | true =>
        rw [rp_hit hy h, List.length_append]
        have h1 := rp_le (z := z) hy (by omega) _ ((c :: r).drop y.length) (Nat.le_refl _)
        have h2 := (List.isPrefixOf_iff_prefix.mp h).length_le
        rw [List.length_drop] at h1
        omega
      | false =>
        rw [rp_miss h, List.length_cons, List.length_cons]
        cases k with
        | zero => rw [List.drop_zero, h] at hk; cases hk
        | succ k =>
          have := ih r (by omega) ⟨k, by simpa using hk⟩
          omega

theorem rp_one (c : Nat) (z : List Nat) : ∀ l, rp [c] z 0 l = l.flatMap fun d => if d = c then z else [d]
  | [] => rfl
  | d :: r => by
    have ih := rp_one c z r
    by_cases h : d = c
    · subst h
      rw [rp_hit (by simp) (by simp [List.isPrefixOf]), List.flatMap_cons, if_pos rfl]
      simpa using ih
    · have h1 : ([c] : List Nat).isPrefixOf (d :: r) = false := by
        simp only [List.isPrefixOf, Bool.and_true]
        simpa using Ne.symm h
      rw [rp_miss h1, ih, List.flatMap_cons, if_neg h]; rfl

/-- one more sign is written by its reference -/
theorem enc_step {mk : Nat → List Nat} {S : Nat → Bool} {c : Nat} (h0 : S c = false) (h1 : ∀ s, S s = true → c ∉ mk s) (l : List Nat) : rp [c] (mk c) 0 (enc mk S l) = enc mk (fun d => S d || d == c) l := by
  rw [rp_one]
  induction l with
  | nil => rfl
  | cons d r ih =>
    rw [enc_cons, enc_cons, List.flatMap_append, ih]
    congr 1
    cases hd : S d with
    | true =>
      simp only [if_true, Bool.true_or]
      have := h1 d hd
      have : ∀ u : List Nat, c ∉ u → (u.flatMap fun d => if d = c then mk c else [d]) = u := by
        intro u
        induction u with
        | nil => intro _; rfl
        | cons a u ihu =>
          intro hu
          simp only [List.mem_cons, not_or] at hu
          rw [List.flatMap_cons, ihu hu.2, if_neg (Ne.symm hu.1)]; rfl
      exact this _ (h1 d hd)
    | false =>
      simp only [Bool.false_or, Bool.false_eq_true, if_false]
      by_cases hdc : d = c
      · subst hdc; simp
      · have : (d == c) = false := by simpa using hdc
        simp [this, hdc]

section
variable {mk : Nat → List Nat} {G : List Nat} (F : Fam mk G)
include F
/-- what stands behind each & of the writing -/
theorem Fam.parts : ∀ (l : List Nat), ∀ p ∈ (pcs [38] 0 (enc mk (fun c => G.contains c) l)).tail, ∃ s ∈ G, mk s <+: 38 :: p
  | [] => by intro p hp; simp [enc_nil, pcs] at hp
  | c :: r => by
    have ih := Fam.parts r
    rw [enc_cons]
    by_cases hc : c ∈ G
    · rw [if_pos (by simpa using hc)]
      obtain ⟨q, e, _, hq⟩ := F.head c hc
      rw [e, List.cons_append, pcs_hit (by simp) (by simp [List.isPrefixOf])]
      have hq38 : 38 ∉ q := fun h => hq 38 h F.amp
      have hgap := pcs_gap [38] q.length (q ++ enc mk (fun c => G.contains c) r) (by simp) (fun k hk => by
        rw [List.drop_append_of_le_length (by omega), List.drop_eq_getElem_cons hk, List.cons_append]
        simp only [List.isPrefixOf, Bool.and_true]
        have : q[k] ≠ 38 := fun e => hq38 (e ▸ List.getElem_mem hk)
        simpa using Ne.symm this)
      simp only [List.length_cons, List.length_nil, List.drop_succ_cons, List.drop_zero, List.tail_cons]
      rw [hgap, List.take_left, List.drop_left]
      intro p hp
      cases hx : pcs [38] 0 (enc mk (fun c => G.contains c) r) with
      | nil => exact absurd hx (pcs_ne _ _ _)
      | cons p0 ps =>
        rw [hx] at hp ih
        simp only [appHead, List.mem_cons] at hp
        rcases hp with rfl | hp
        · exact ⟨c, hc, by rw [e, List.cons_prefix_cons]; exact ⟨rfl, List.prefix_append _ _⟩⟩
        · exact ih p (by simpa using hp)
    · rw [if_neg (by simpa using hc), List.singleton_append]
      have hc38 : c ≠ 38 := fun e => hc (e ▸ F.amp)
      rw [pcs_miss (by simp only [List.isPrefixOf, Bool.and_true]; simpa using Ne.symm hc38)]
      intro p hp
      cases hx : pcs [38] 0 (enc mk (fun c => G.contains c) r) with
      | nil => exact absurd hx (pcs_ne _ _ _)
      | cons p0 ps =>
        rw [hx] at hp ih
        exact ih p hp
/-- & alone of the signs stands in the writing -/
theorem Fam.bare (l : List Nat) : ∀ c ∈ enc mk (fun c => G.contains c) l, c ∈ G → c = 38 := by
  intro c hc hG
  unfold enc at hc
  obtain ⟨d, hd, hc⟩ := List.mem_flatMap.mp hc
  by_cases h : d ∈ G
  · rw [if_pos (by simpa using h)] at hc
    obtain ⟨q, e, _, hq⟩ := F.head d h
    rw [e] at hc
    rcases List.mem_cons.mp hc with h1 | h1
    · exact h1
    · exact absurd hG (hq c h1)
  · rw [if_neg (by simpa using h)] at hc
    rw [List.mem_singleton.mp hc] at hG
    exact absurd hG h
theorem Fam.folds_le : ∀ (post l : List Nat), (∀ s ∈ post, s ∈ G) → (post.foldl (unfold1 mk) l).length ≤ l.length
  | [], l, _ => Nat.le_refl _
  | s :: post, l, h => by
    rw [List.foldl_cons]
    have hl := F.len (h s (by simp))
    exact Nat.le_trans (Fam.folds_le post _ (fun t ht => h t (by simp [ht]))) (rp_le (by omega) (by simp; omega) _ l (Nat.le_refl _))
theorem Fam.folds_iff : ∀ (post l : List Nat), (∀ s ∈ post, s ∈ G) → (post.foldl (unfold1 mk) l = l ↔ ∀ s ∈ post, ¬ ∃ k, (mk s).isPrefixOf (l.drop k) = true)
  | [], l, _ => by simp
  | s :: post, l, h => by
    rw [List.foldl_cons]
    have hl := F.len (h s (by simp))
    by_cases hx : ∃ k, (mk s).isPrefixOf (l.drop k) = true
    · have h1 := rp_lt (z := [s]) (by omega) (by simp; omega) _ l (Nat.le_refl _) hx
      have h2 := F.folds_le post (unfold1 mk l s) (fun t ht => h t (by simp [ht]))
      constructor
      · intro e
        rw [e] at h2
        unfold unfold1 at h2
        omega
      · intro q; exact absurd hx (q s (by simp))
    · have e : unfold1 mk l s = l := by
        unfold unfold1
        refine rp_none l fun k => ?_
        rw [← Bool.not_eq_true]
        exact fun q => hx ⟨k, q⟩
      rw [e, Fam.folds_iff post l (fun t ht => h t (by simp [ht]))]
      constructor
      · intro q t ht
        rcases List.mem_cons.mp ht with rfl | ht
        · exact hx
        · exact q t ht
      · intro q t ht; exact q t (by simp [ht])
end
/-- the seven signs' references -/
def mk7 : Nat → List Nat
  | 38 => [38, 97, 109, 112, 59]
  | 60 => [38, 108, 116, 59]
  | 62 => [38, 103, 116, 59]
  | 34 => [38, 113, 117, 111, 116, 59]
  | 13 => [38, 35, 49, 51, 59]
  | 10 => [38, 35, 49, 48, 59]
  | 9 => [38, 35, 48, 57, 59]
  | c => [c]
def signs7 : List Nat := [38, 60, 62, 34, 13, 10, 9]
theorem mk7_head : ∀ s ∈ signs7, ∃ r, mk7 s = 38 :: r ∧ r.length ≤ 5 ∧ 3 ≤ r.length ∧ ∀ c ∈ signs7, c ∉ r := by
  intro s hs
  simp only [signs7, List.mem_cons, List.not_mem_nil, or_false] at hs
  rcases hs with rfl | rfl | rfl | rfl | rfl | rfl | rfl <;> exact ⟨_, rfl, by decide, by decide, by decide⟩

def sb (c : Nat) (l : List Nat) : List Nat := l.flatMap fun d => if d = c then mk7 c else [d]
def runs (cs l : List Nat) : List Nat := cs.foldl (fun b c => sb c b) l
theorem sb_append (c : Nat) (a b : List Nat) : sb c (a ++ b) = sb c a ++ sb c b := by simp [sb]
theorem sb_nil (c : Nat) : sb c [] = [] := rfl
theorem sb_cons (c d : Nat) (l : List Nat) : sb c (d :: l) = (if d = c then mk7 c else [d]) ++ sb c l := by simp [sb]
theorem sb_free {c : Nat} : ∀ {l : List Nat}, c ∉ l → sb c l = l
  | [], _ => rfl
  | d :: l, h => by
    simp only [List.mem_cons, not_or] at h
    rw [sb_cons, if_neg (Ne.symm h.1), sb_free h.2]; rfl
theorem runs_append : ∀ (q a b : List Nat), runs q (a ++ b) = runs q a ++ runs q b
  | [], _, _ => rfl
  | c :: q, a, b => by
    show runs q (sb c (a ++ b)) = runs q (sb c a) ++ runs q (sb c b)
    rw [sb_append, runs_append]
theorem runs_nil : ∀ q : List Nat, runs q [] = []
  | [] => rfl
  | c :: q => runs_nil q
theorem runs_flat (q : List Nat) : ∀ l : List Nat, runs q l = l.flatMap fun d => runs q [d]
  | [] => runs_nil q
  | c :: l => by rw [show c :: l = [c] ++ l from rfl, runs_append, runs_flat q l]; simp
theorem runs_cat (p q l : List Nat) : runs (p ++ q) l = runs q (runs p l) := by simp [runs]
theorem runs_cons (c : Nat) (q l : List Nat) : runs (c :: q) l = runs q (sb c l) := rfl
theorem runs_free : ∀ {q l : List Nat}, (∀ c ∈ q, c ∉ l) → runs q l = l
  | [], l, _ => rfl
  | c :: q, l, h => by
    rw [runs_cons, sb_free (h c (by simp)), runs_free fun d hd => h d (by simp [hd])]
theorem sb_self (c : Nat) : sb c [c] = mk7 c := by simp [sb]
theorem sb_amp {r : List Nat} (h : 38 ∉ r) : sb 38 (38 :: r) = mk7 38 ++ r := by rw [sb_cons, if_pos rfl, sb_free h]

/-- what one sign becomes -/
theorem runs_sign {pre post : List Nat} (hp : (pre ++ 38 :: post).Perm signs7) (c : Nat) :
    runs (pre ++ 38 :: post) [c] = if c ∈ pre then runs signs7 (runs signs7 [c]) else runs signs7 [c] := by
  have hnd : (pre ++ 38 :: post).Nodup := hp.nodup_iff.mpr (by decide)
  have hin : ∀ d, d ∈ pre ++ 38 :: post ↔ d ∈ signs7 := fun d => hp.mem_iff
  have hsub : ∀ d ∈ pre, d ∈ signs7 := fun d hd => (hin d).mp (by simp [hd])
  have hsub2 : ∀ d ∈ post, d ∈ signs7 := fun d hd => (hin d).mp (by simp [hd])
  rw [List.nodup_append] at hnd
  obtain ⟨hn1, hn2, hn3⟩ := hnd
  rw [List.nodup_cons] at hn2
  have h38 : 38 ∉ pre := fun h => hn3 38 h 38 (by simp) rfl
  -- a reference stands, but its &
  have fixR : ∀ {q r : List Nat}, (∀ d ∈ q, d ∈ signs7) → 38 ∉ q → (∀ c ∈ signs7, c ∉ r) → runs q (38 :: r) = 38 :: r := fun {q r} hq h3 hr =>
    runs_free fun d hd hm => by
      rcases List.mem_cons.mp hm with e | e
      · exact h3 (e ▸ hd)
      · exact hr d (hq d hd) e
  have one : ∀ {q : List Nat} {c : Nat}, (∀ d ∈ q, d ∈ signs7) → 38 ∉ q → c ∈ q → runs q [c] = mk7 c := by
    intro q
    induction q with
    | nil => intro c _ _ h; cases h
    | cons d q ih =>
      intro c hq h3 hc
      rw [runs_cons]
      by_cases e : c = d
      · subst e
        obtain ⟨r, e1, _, _, hr⟩ := mk7_head c (hq c (by simp))
        rw [sb_self, e1, fixR (fun d hd => hq d (by simp [hd])) (fun h => h3 (by simp [h])) hr]
      · rw [sb_free (by simp [Ne.symm e])]
        exact ih (fun d hd => hq d (by simp [hd])) (fun h => h3 (by simp [h])) ((List.mem_cons.mp hc).resolve_left e)
  have rest7 : ∀ d ∈ [60, 62, 34, 13, 10, 9], d ∈ signs7 := by decide
  have all38 : runs signs7 [38] = mk7 38 := by decide
  have allc : ∀ c ∈ signs7, c ≠ 38 → runs signs7 [c] = mk7 c := by decide
  by_cases hc : c ∈ signs7
  · rcases List.mem_append.mp ((hin c).mpr hc) with h | h
    · rw [if_pos h, runs_cat, one hsub h38 h, runs_cons]
      have hne : c ≠ 38 := fun e => h38 (e ▸ h)
      obtain ⟨r, e1, _, _, hr⟩ := mk7_head c hc
      obtain ⟨r8, e8, _, _, hr8⟩ := mk7_head 38 (by decide)
      have hrr : ∀ d ∈ signs7, d ∉ r8 ++ r := fun d hd hm => (List.mem_append.mp hm).elim (hr8 d hd) (hr d hd)
      rw [allc c hc hne, e1, show signs7 = 38 :: [60, 62, 34, 13, 10, 9] from rfl, runs_cons, sb_amp (hr 38 (by decide)), e8, List.cons_append, fixR hsub2 hn2.1 hrr, fixR rest7 (by decide) hrr]
    · have hcp : c ∉ pre := fun h' => hn3 c h' c h rfl
      rw [if_neg hcp, runs_cat, runs_free (l := [c]) (fun d hd hm => hcp (by rw [List.mem_singleton] at hm; exact hm ▸ hd)), runs_cons]
      rcases List.mem_cons.mp h with e | h
      · subst e
        obtain ⟨r, e1, _, _, hr⟩ := mk7_head 38 (by decide)
        rw [all38, sb_self, e1, fixR hsub2 hn2.1 hr]
      · have hne : c ≠ 38 := fun e => hn2.1 (e ▸ h)
        rw [sb_free (by simp [Ne.symm hne]), one hsub2 hn2.1 h, allc c hc hne]
  · have f1 : ∀ q : List Nat, (∀ d ∈ q, d ∈ signs7) → runs q [c] = [c] := fun q hq => runs_free fun d hd hm => hc (by rw [List.mem_singleton] at hm; exact hm ▸ hq d hd)
    rw [f1 _ fun d hd => (hin d).mp hd, f1 signs7 (fun d h => h), f1 signs7 (fun d h => h)]
    split <;> rfl

theorem once_len (c : Nat) : 1 ≤ (runs signs7 [c]).length ∧ (runs signs7 [c]).length ≤ 6 := by
  by_cases hc : c ∈ signs7
  · have : ∀ c ∈ signs7, 1 ≤ (runs signs7 [c]).length ∧ (runs signs7 [c]).length ≤ 6 := by decide
    exact this c hc
  · rw [runs_free (fun d hd hm => hc (by rw [List.mem_singleton] at hm; exact hm ▸ hd))]; simp
theorem twice_len (c : Nat) : (runs signs7 (runs signs7 [c])).length ≤ 10 := by
  by_cases hc : c ∈ signs7
  · have : ∀ c ∈ signs7, (runs signs7 (runs signs7 [c])).length ≤ 10 := by decide
    exact this c hc
  · have f : runs signs7 [c] = [c] := runs_free (fun d hd hm => hc (by rw [List.mem_singleton] at hm; exact hm ▸ hd))
    rw [f, f]; simp
theorem twice_gt : ∀ c ∈ signs7, (runs signs7 [c]).length < (runs signs7 (runs signs7 [c])).length := by decide
theorem sb_len (c : Nat) (h : c ∈ signs7) : ∀ l : List Nat, l.length ≤ (sb c l).length
  | [] => by simp
  | d :: l => by
    have ih := sb_len c h l
    obtain ⟨r, e1, _, h3, _⟩ := mk7_head c h
    rw [sb_cons, List.length_append, List.length_cons]
    split
    · rw [e1, List.length_cons]; omega
    · simp; omega
theorem runs_len : ∀ (q l : List Nat), (∀ c ∈ q, c ∈ signs7) → l.length ≤ (runs q l).length
  | [], l, _ => Nat.le_refl _
  | c :: q, l, h => Nat.le_trans (sb_len c (h c (by simp)) l) (runs_len q _ fun d hd => h d (by simp [hd]))
theorem flat_len {f : Nat → List Nat} {k : Nat} (h : ∀ c, (f c).length ≤ k) : ∀ l : List Nat, (l.flatMap f).length ≤ k * l.length
  | [] => by simp
  | c :: l => by
    rw [List.flatMap_cons, List.length_append, List.length_cons, Nat.mul_succ]
    have := h c; have := flat_len h l; omega
theorem split38 {order : List Nat} (hp : order.Perm signs7) : ∃ pre post, order = pre ++ 38 :: post ∧ 38 ∉ pre := by
  have hm : 38 ∈ order := hp.mem_iff.mpr (by decide)
  obtain ⟨pre, post, e⟩ := List.append_of_mem hm
  refine ⟨pre, post, e, ?_⟩
  have hn : order.Nodup := hp.nodup_iff.mpr (by decide)
  rw [e, List.nodup_append] at hn
  exact fun h => hn.2.2 38 h 38 (by simp) rfl
theorem runs_all_len {order : List Nat} (hp : order.Perm signs7) (l : List Nat) : (runs order l).length ≤ 10 * l.length := by
  obtain ⟨pre, post, rfl, _⟩ := split38 hp
  rw [runs_flat]
  refine flat_len (fun c => ?_) l
  rw [runs_sign hp]
  split
  · exact twice_len c
  · have := (once_len c).2; omega
theorem runs_take_len {order : List Nat} (hp : order.Perm signs7) (i : Nat) (l : List Nat) : (runs (order.take i) l).length ≤ 10 * l.length := by
  refine Nat.le_trans ?_ (runs_all_len hp l)
  conv => rhs; rw [← List.take_append_drop i order, runs_cat]
  exact runs_len _ _ fun c hc => hp.mem_iff.mp (List.mem_of_mem_drop hc)

/-- the law's first row -/
theorem whole_iff {pre post : List Nat} (hp : (pre ++ 38 :: post).Perm signs7) (l : List Nat) : runs (pre ++ 38 :: post) l = runs signs7 l ↔ ∀ c ∈ pre, c ∉ l := by
  have hsub : ∀ d ∈ pre, d ∈ signs7 := fun d hd => hp.mem_iff.mp (by simp [hd])
  rw [runs_flat, runs_flat signs7]
  have step : ∀ c, (runs signs7 [c]).length ≤ (runs (pre ++ 38 :: post) [c]).length ∧ (c ∈ pre → (runs signs7 [c]).length < (runs (pre ++ 38 :: post) [c]).length) := fun c => by
    rw [runs_sign hp]
    split
    · rename_i h; exact ⟨Nat.le_of_lt (twice_gt c (hsub c h)), fun _ => twice_gt c (hsub c h)⟩
    · rename_i h; exact ⟨Nat.le_refl _, fun h' => absurd h' h⟩
  have le : ∀ l : List Nat, (l.flatMap fun d => runs signs7 [d]).length ≤ (l.flatMap fun d => runs (pre ++ 38 :: post) [d]).length := by
    intro l
    induction l with
    | nil => simp
    | cons c l ih => rw [List.flatMap_cons, List.flatMap_cons, List.length_append, List.length_append]; have := (step c).1; omega
  have lt : ∀ l : List Nat, (∃ c ∈ pre, c ∈ l) → (l.flatMap fun d => runs signs7 [d]).length < (l.flatMap fun d => runs (pre ++ 38 :: post) [d]).length := by
    intro l
    induction l with
    | nil => rintro ⟨c, _, h⟩; cases h
    | cons d l ih =>
      rintro ⟨c, hc, hm⟩
      rw [List.flatMap_cons, List.flatMap_cons, List.length_append, List.length_append]
      rcases List.mem_cons.mp hm with e | hm
      · subst e; have := (step c).2 hc; have := le l; omega
      · have := (step d).1; have := ih ⟨c, hc, hm⟩; omega
  constructor
  · intro e c hc hm
    have := lt l ⟨c, hc, hm⟩
    rw [e] at this
    exact Nat.lt_irrefl _ this
  · intro h
    induction l with
    | nil => rfl
    | cons d l ih =>
      rw [List.flatMap_cons, List.flatMap_cons, ih fun c hc hm => h c hc (by simp [hm]), runs_sign hp, if_neg fun hd => h d hd (by simp)]
theorem sb_rp (c : Nat) (l : List Nat) : rp [c] (mk7 c) 0 l = sb c l := rp_one c (mk7 c) l
/-- a tree's items: texts and boxes, first child and next sibling -/
inductive TL where
  | nil
  | txt (x : Str) (r : TL)
  | box (c : TL) (r : TL)
/-- the same in the heap -/
inductive HL where
  | nil
  | txt (x : Str) (t : Tok) (r : HL)
  | box (a : Addr) (c : HL) (r : HL)
abbrev It := (Str × Tok) ⊕ (Addr × HL)
def HL.its : HL → List It
  | .nil => []
  | .txt x t r => .inl (x, t) :: r.its
  | .box a c r => .inr (a, c) :: r.its
def HL.of : List It → HL
  | [] => .nil
  | .inl (x, t) :: r => .txt x t (HL.of r)
  | .inr (a, c) :: r => .box a c (HL.of r)
theorem HL.its_of : ∀ l : List It, (HL.of l).its = l
  | [] => rfl
  | .inl (x, t) :: r => by rw [HL.of, HL.its, HL.its_of r]
  | .inr (a, c) :: r => by rw [HL.of, HL.its, HL.its_of r]
theorem HL.of_its : ∀ c : HL, HL.of c.its = c
  | .nil => rfl
  | .txt x t r => by rw [HL.its, HL.of, HL.of_its r]
  | .box a c r => by rw [HL.its, HL.of, HL.of_its r]
def HL.er : HL → TL
  | .nil => .nil
  | .txt x _ r => .txt x r.er
  | .box _ c r => .box c.er r.er
/-- signs that a row may hold, at most -/
def TL.cnt : TL → Nat
  | .nil => 0
  | .txt x r => 2 + x.length + r.cnt
  | .box c r => 2 + c.cnt + r.cnt
def TL.dep : TL → Nat
  | .nil => 0
  | .txt _ r => r.dep
  | .box c r => max (c.dep + 1) r.dep
theorem TL.dep_le : ∀ c : TL, 2 * c.dep ≤ c.cnt
  | .nil => Nat.le_refl _
  | .txt x r => by have := r.dep_le; simp only [TL.dep, TL.cnt]; omega
  | .box c r => by have := c.dep_le; have := r.dep_le; simp only [TL.dep, TL.cnt]; omega

abbrev esc (l : List Nat) : List Nat := runs signs7 l
def tT : List Nat := [32, 116, 61]
def tB : List Nat := [32, 98, 61]
def TL.row : TL → List Nat
  | .nil => []
  | .txt x r => tT ++ 34 :: (esc x.cps.toList ++ 34 :: r.row)
  | .box c r => tB ++ 34 :: (esc c.row ++ 34 :: r.row)

/-- the signs of a text -/
def gs (l : List Nat) : Nat := l.countP (fun c => signs7.contains c)
theorem esc_flat (l : List Nat) : esc l = l.flatMap fun c => esc [c] := runs_flat _ _
theorem esc_plain {c : Nat} (h : c ∉ signs7) : esc [c] = [c] := runs_free fun d hd hm => h (by rw [List.mem_singleton] at hm; exact hm ▸ hd)
theorem esc_cons (c : Nat) (l : List Nat) : esc (c :: l) = esc [c] ++ esc l := runs_append signs7 [c] l
theorem esc_sign : ∀ c ∈ signs7, esc [c] = mk7 c := by decide
theorem gs_append (a b : List Nat) : gs (a ++ b) = gs a + gs b := List.countP_append
theorem gs_cons (c : Nat) (l : List Nat) : gs (c :: l) = gs [c] + gs l := gs_append [c] l
theorem gs_one (c : Nat) : gs [c] = if c ∈ signs7 then 1 else 0 := by
  unfold gs
  rw [List.countP_cons, List.countP_nil]
  by_cases h : c ∈ signs7 <;> simp [h]
theorem gs_esc : ∀ l : List Nat, gs (esc l) = gs l
  | [] => rfl
  | c :: l => by
    rw [esc_cons, gs_append, gs_cons, gs_esc l]
    congr 1
    by_cases h : c ∈ signs7
    · have : ∀ c ∈ signs7, gs (esc [c]) = gs [c] := by decide
      exact this c h
    · rw [esc_plain h]
theorem len_esc : ∀ l : List Nat, (esc l).length ≤ l.length + 5 * gs l
  | [] => Nat.le_refl _
  | c :: l => by
    have ih := len_esc l
    rw [esc_cons, List.length_append, gs_cons, List.length_cons]
    by_cases h : c ∈ signs7
    · have h1 : ∀ c ∈ signs7, (esc [c]).length ≤ 6 := by decide
      have := h1 c h
      rw [gs_one, if_pos h]; omega
    · rw [esc_plain h, List.length_singleton]; omega
theorem gs_le (l : List Nat) : gs l ≤ l.length := List.countP_le_length
theorem gs_row : ∀ c : TL, gs c.row ≤ c.cnt
  | .nil => Nat.le_refl _
  | .txt x r => by
    have ih := gs_row r
    have h0 : gs tT = 0 := by decide
    have h1 : gs [34] = 1 := by decide
    have h2 := gs_le x.cps.toList
    have h3 : x.length = x.cps.toList.length := by simp [Str.length]
    have e : gs (tT ++ 34 :: (esc x.cps.toList ++ 34 :: r.row)) = gs tT + (gs [34] + (gs (esc x.cps.toList) + (gs [34] + gs r.row))) := by
      rw [gs_append, gs_cons 34 (esc _ ++ _), gs_append, gs_cons 34 r.row]
    rw [TL.row, TL.cnt, e, gs_esc]; omega
  | .box c r => by
    have ih := gs_row r
    have ih2 := gs_row c
    have h0 : gs tB = 0 := by decide
    have h1 : gs [34] = 1 := by decide
    have e : gs (tB ++ 34 :: (esc c.row ++ 34 :: r.row)) = gs tB + (gs [34] + (gs (esc c.row) + (gs [34] + gs r.row))) := by
      rw [gs_append, gs_cons 34 (esc _ ++ _), gs_append, gs_cons 34 r.row]
    rw [TL.row, TL.cnt, e, gs_esc]; omega
theorem len_row : ∀ (c : TL) (d : Nat), c.dep ≤ d → c.row.length ≤ 6 * (d + 1) * c.cnt
  | .nil, d, _ => Nat.zero_le _
  | .txt x r, d, h => by
    have ih := len_row r d h
    have h2 := len_esc x.cps.toList
    have h3 := gs_le x.cps.toList
    have h4 : x.length = x.cps.toList.length := by simp [Str.length]
    have h5 : tT.length = 3 := rfl
    rw [TL.row, TL.cnt, List.length_append, List.length_cons, List.length_append, List.length_cons, Nat.mul_add]
    have h6 : 6 * 1 * (2 + x.length) ≤ 6 * (d + 1) * (2 + x.length) := Nat.mul_le_mul_right _ (by omega)
    omega
  | .box c r, d, h => by
    simp only [TL.dep] at h
    have ih := len_row r d (by omega)
    obtain ⟨e, rfl⟩ : ∃ e, d = e + 1 := ⟨d - 1, by omega⟩
    have ih2 := len_row c e (by omega)
    have h2 := len_esc c.row
    have h3 := gs_row c
    have h5 : tB.length = 3 := rfl
    rw [TL.row, TL.cnt, List.length_append, List.length_cons, List.length_append, List.length_cons, Nat.mul_add]
    have h6 : 6 * (e + 1 + 1) * (2 + c.cnt) = 6 * (e + 1) * c.cnt + 6 * c.cnt + 6 * (e + 1 + 1) * 2 := by
      have q : (6 * (e + 1) + 6) * c.cnt = 6 * (e + 1) * c.cnt + 6 * c.cnt := Nat.add_mul ..
      rw [Nat.mul_add, show 6 * (e + 1 + 1) = 6 * (e + 1) + 6 from by omega, q, Nat.add_comm]
    omega
/-- no row of ours is long -/
theorem row_small {c : TL} (h : c.cnt ≤ 504) : c.row.length ≤ 765072 ∧ (esc c.row).length ≤ 767592 := by
  have h1 := c.dep_le
  have h2 := len_row c 252 (by omega)
  have h3 := len_esc c.row
  have h4 := gs_row c
  have h5 : 6 * (252 + 1) * c.cnt ≤ 6 * (252 + 1) * 504 := Nat.mul_le_mul_left _ h
  omega

/-- a text's parts: what is ahead of its first sign; each sign with what is behind it -/
def seg : List Nat → List Nat × List (Nat × List Nat)
  | [] => ([], [])
  | c :: l => if c ∈ signs7 then ([], (c, (seg l).1) :: (seg l).2) else (c :: (seg l).1, (seg l).2)
theorem seg_glue : ∀ l : List Nat, (seg l).1 ++ (seg l).2.flatMap (fun p => p.1 :: p.2) = l
  | [] => rfl
  | c :: l => by
    have ih := seg_glue l
    rw [seg]
    split
    · rw [List.nil_append, List.flatMap_cons, List.cons_append, ih]
    · rw [List.cons_append, ih]
theorem seg_sign : ∀ l : List Nat, ∀ p ∈ (seg l).2, p.1 ∈ signs7
  | [], p, hp => by cases hp
  | c :: l, p, hp => by
    rw [seg] at hp
    split at hp
    · rename_i hc
      rcases List.mem_cons.mp hp with e | hp
      · rw [e]; exact hc
      · exact seg_sign l p hp
    · exact seg_sign l p hp
def nm7 : Nat → List Nat
  | 38 => [97, 109, 112]
  | 60 => [108, 116]
  | 62 => [103, 116]
  | 34 => [113, 117, 111, 116]
  | 13 => [35, 49, 51]
  | 10 => [35, 49, 48]
  | 9 => [35, 48, 57]
  | c => []
theorem mk_nm : ∀ c ∈ signs7, mk7 c = 38 :: (nm7 c ++ [59]) := by decide
theorem nm_free : ∀ c ∈ signs7, 59 ∉ nm7 c ∧ 38 ∉ nm7 c := by decide
theorem pcs_plain (d : Nat) : ∀ (u l : List Nat), d ∉ u → pcs [d] 0 (u ++ l) = appHead u (pcs [d] 0 l)
  | [], l, _ => by
    show pcs [d] 0 l = appHead [] (pcs [d] 0 l)
    cases h : pcs [d] 0 l with
    | nil => exact absurd h (pcs_ne _ _ _)
    | cons a r => rfl
  | c :: u, l, h => by
    simp only [List.mem_cons, not_or] at h
    rw [List.cons_append, pcs_miss (by simp [List.isPrefixOf, h.1]), pcs_plain d u l h.2]
    cases hp : pcs [d] 0 l with
    | nil => exact absurd hp (pcs_ne _ _ _)
    | cons a r => rfl
theorem pcs_at (d : Nat) (l : List Nat) : pcs [d] 0 (d :: l) = [] :: pcs [d] 0 l := by
  rw [pcs_hit (by simp) (by simp [List.isPrefixOf])]; rfl
/-- the writing of a text, parted at its & -/
theorem pcs_esc : ∀ l : List Nat, pcs [38] 0 (esc l) = (seg l).1 :: (seg l).2.map (fun p => nm7 p.1 ++ 59 :: p.2)
  | [] => rfl
  | c :: l => by
    have ih := pcs_esc l
    rw [esc_cons]
    by_cases h : c ∈ signs7
    · rw [esc_sign c h, mk_nm c h, seg, if_pos h, List.cons_append, pcs_at]
      have hf : 38 ∉ nm7 c ++ [59] := by
        intro hm
        rcases List.mem_append.mp hm with q | q
        · exact (nm_free c h).2 q
        · simp at q
      rw [pcs_plain 38 _ _ hf, ih]
      simp [appHead]
    · rw [esc_plain h, seg, if_neg h]
      have hc : 38 ∉ [c] := by
        intro hm
        rw [List.mem_singleton] at hm
        exact h (hm ▸ by decide)
      rw [pcs_plain 38 _ _ hc, ih]; rfl
theorem esc_bare (l : List Nat) : ∀ c ∈ esc l, c ∈ signs7 → c = 38 := by
  intro c hc hs
  rw [esc_flat] at hc
  obtain ⟨d, _, hd⟩ := List.mem_flatMap.mp hc
  by_cases h : d ∈ signs7
  · have : ∀ d ∈ signs7, ∀ c ∈ esc [d], c ∈ signs7 → c = 38 := by decide
    exact this d h c hd hs
  · rw [esc_plain h, List.mem_singleton] at hd
    exact absurd (hd ▸ hs) h
/-- a row's parts at its quotation marks -/
def TL.parts : TL → List (List Nat)
  | .nil => [[]]
  | .txt x r => tT :: esc x.cps.toList :: r.parts
  | .box c r => tB :: esc c.row :: r.parts
theorem TL.parts_ne : ∀ c : TL, c.parts ≠ []
  | .nil => by simp [TL.parts]
  | .txt _ _ => by simp [TL.parts]
  | .box _ _ => by simp [TL.parts]
theorem esc_no34 (l : List Nat) : 34 ∉ esc l := fun h => absurd (esc_bare l 34 h (by decide)) (by decide)
theorem pcs_row : ∀ c : TL, pcs [34] 0 c.row = c.parts
  | .nil => rfl
  | .txt x r => by
    rw [TL.row, pcs_plain 34 _ _ (by decide), pcs_at, pcs_plain 34 _ _ (esc_no34 _), pcs_at, pcs_row r, TL.parts]
    simp [appHead]
  | .box c r => by
    rw [TL.row, pcs_plain 34 _ _ (by decide), pcs_at, pcs_plain 34 _ _ (esc_no34 _), pcs_at, pcs_row r, TL.parts]
    simp [appHead]
section
variable {prog : Program} {w : World} {A : Around} {E : Value → Shared → Prop} {s : Shared} {env : Env} {h0 : Heap} {o0 : Shared} {cs cs' : Cells}

def rS (q : List Nat) (x : Str) : Str := ⟨(runs q x.cps.toList).toArray⟩
theorem rS_list (q : List Nat) (x : Str) : (rS q x).cps.toList = runs q x.cps.toList := rfl
theorem str_eq {x y : Str} (h : x.cps.toList = y.cps.toList) : x = y := Str.ext' (Array.toList_inj.mp h)
theorem rS_nil (x : Str) : rS [] x = x := str_eq rfl
theorem len_list (x : Str) : x.length = x.cps.toList.length := by simp [Str.length]
theorem rS_step {q : List Nat} {x a b : Str} {c : Nat} (ha : a.cps.toList = [c]) (hb : b.cps.toList = mk7 c) : Txt.replace (rS q x) a b = rS (q ++ [c]) x := by
  refine str_eq ?_
  rw [replace_rp _ _ _ (by rw [len_list, ha]; simp), ha, hb, rS_list, rS_list, runs_cat, sb_rp]; rfl
theorem rS_le (i : Nat) (x : Str) : (rS (signs7.take i) x).length ≤ (rS signs7 x).length := by
  rw [len_list, len_list (rS signs7 x), rS_list, rS_list]
  conv => rhs; rw [← List.take_append_drop i signs7, runs_cat]
  exact runs_len _ _ fun c hc => List.mem_of_mem_drop hc

theorem c_esc {P : Params} {txt : Str} {t : Tok} {Q : Value → Shared → Prop} (B : Base (hd.heap_39 P) h0) (H : St h0 o0 cs s) (hroom : A.depth < recursionLimit) (hlen : (rS signs7 txt).length ≤ 2000000)
    (h : ∀ t' s', St h0 o0 cs s' → Q (.str (rS signs7 txt) t') s') : wpAny (model prog w) A (call (.ref 28) [.str txt t]) Q E s := by
  have l : ∀ i, (rS (signs7.take i) txt).length ≤ 2000000 := fun i => Nat.le_trans (rS_le i txt) hlen
  have l0 := l 0; have l1 := l 1; have l2 := l 2; have l3 := l 3; have l4 := l 4; have l5 := l 5; have l6 := l 6
  have b1 : (Str.ofString "&amp;").length = 5 := by decide +kernel
  have b2 : (Str.ofString "&lt;").length = 4 := by decide +kernel
  have b3 : (Str.ofString "&gt;").length = 4 := by decide +kernel
  have b4 : (Str.ofString "&quot;").length = 6 := by decide +kernel
  have b5 : (Str.ofString "&#13;").length = 5 := by decide +kernel
  have b6 : (Str.ofString "&#10;").length = 5 := by decide +kernel
  have b7 : (Str.ofString "&#09;").length = 5 := by decide +kernel
  have e1 : Txt.replace txt (Str.ofString "&") (Str.ofString "&amp;") = rS [38] txt := by
    conv => lhs; rw [← rS_nil txt]
    exact rS_step (c := 38) (by decide +kernel) (by decide +kernel)
  have e2 : Txt.replace (rS [38] txt) (Str.ofString "<") (Str.ofString "&lt;") = rS [38, 60] txt := rS_step (c := 60) (by decide +kernel) (by decide +kernel)
  have e3 : Txt.replace (rS [38, 60] txt) (Str.ofString ">") (Str.ofString "&gt;") = rS [38, 60, 62] txt := rS_step (c := 62) (by decide +kernel) (by decide +kernel)
  have e4 : Txt.replace (rS [38, 60, 62] txt) (Str.ofString "\"") (Str.ofString "&quot;") = rS [38, 60, 62, 34] txt := rS_step (c := 34) (by decide +kernel) (by decide +kernel)
  have e5 : Txt.replace (rS [38, 60, 62, 34] txt) (Str.ofString "\r") (Str.ofString "&#13;") = rS [38, 60, 62, 34, 13] txt := rS_step (c := 13) (by decide +kernel) (by decide +kernel)
  have e6 : Txt.replace (rS [38, 60, 62, 34, 13] txt) (Str.ofString "\n") (Str.ofString "&#10;") = rS [38, 60, 62, 34, 13, 10] txt := rS_step (c := 10) (by decide +kernel) (by decide +kernel)
  have e7 : Txt.replace (rS [38, 60, 62, 34, 13, 10] txt) (Str.ofString "\t") (Str.ofString "&#09;") = rS signs7 txt := rS_step (c := 9) (by decide +kernel) (by decide +kernel)
  simp only [signs7, List.take_succ_cons, List.take_zero] at l0 l1 l2 l3 l4 l5 l6
  rw [rS_nil] at l0
  refine x_fn (m := [(Str.ofString "text", .str txt t)]) B H (by kernel_rfl!) hroom (by kernel_rfl!) (by kernel_rfl!) rfl fun L s1 H1 => ?_
  refine wpAny_execs_cons ?_
  refine x_try ?_ (fun _ => .inr trivial)
  refine wpAny_execs_cons ?_
  refine x_escIf H1 (by kernel_rfl!) (by kernel_rfl!) (by kernel_rfl!) (by decide +kernel) (by rw [b1]; omega) (by decide +kernel) rfl fun t1 s2 H2 => ?_
  rw [e1] at H2
  refine wpAny_execs_cons ?_
  refine x_escIf H2 (by kernel_rfl!) (by kernel_rfl!) (by kernel_rfl!) (by decide +kernel) (by rw [b2]; omega) (by decide +kernel) rfl fun t2 s3 H3 => ?_
  rw [e2] at H3
  refine wpAny_execs_cons ?_
  refine x_escIf H3 (by kernel_rfl!) (by kernel_rfl!) (by kernel_rfl!) (by decide +kernel) (by rw [b3]; omega) (by decide +kernel) rfl fun t3 s4 H4 => ?_
  rw [e3] at H4
  refine wpAny_execs_cons ?_
  refine x_escIf H4 (by kernel_rfl!) (by kernel_rfl!) (by kernel_rfl!) (by decide +kernel) (by rw [b4]; omega) (by decide +kernel) rfl fun t4 s5 H5 => ?_
  rw [e4] at H5
  refine wpAny_execs_cons ?_
  refine x_escIf H5 (by kernel_rfl!) (by kernel_rfl!) (by kernel_rfl!) (by decide +kernel) (by rw [b5]; omega) (by decide +kernel) rfl fun t5 s6 H6 => ?_
  rw [e5] at H6
  refine wpAny_execs_cons ?_
  refine x_escIf H6 (by kernel_rfl!) (by kernel_rfl!) (by kernel_rfl!) (by decide +kernel) (by rw [b6]; omega) (by decide +kernel) rfl fun t6 s7 H7 => ?_
  rw [e6] at H7
  refine wpAny_execs_cons ?_
  refine x_escIf H7 (by kernel_rfl!) (by kernel_rfl!) (by kernel_rfl!) (by decide +kernel) (by rw [b7]; omega) (by decide +kernel) rfl fun t7 s8 H8 => ?_
  rw [e7] at H8
  refine wpAny_execs_cons ?_
  refine wpAny_Return_some ?_
  refine x_name H8 .here (by kernel_rfl!) .here (by kernel_rfl!) (by kernel_rfl!) (by decide +kernel) ?_
  exact h _ _ H8.tail

def It.val : It → Value
  | .inl (x, t) => .str x t
  | .inr (a, _) => .ref a
def HL.vals (c : HL) : List Value := c.its.map It.val
def HL.cells : HL → Cells
  | .nil => []
  | .txt _ _ r => r.cells
  | .box a c r => (a, cList c.vals) :: (c.cells ++ r.cells)
def rowI : It → List Nat
  | .inl (x, _) => tT ++ 34 :: (esc x.cps.toList ++ [34])
  | .inr (_, c) => tB ++ 34 :: (esc c.er.row ++ [34])
theorem row_its : ∀ c : HL, c.er.row = c.its.flatMap rowI
  | .nil => rfl
  | .txt x t r => by rw [HL.er, TL.row, HL.its, List.flatMap_cons, ← row_its r, rowI]; simp
  | .box a c r => by rw [HL.er, TL.row, HL.its, List.flatMap_cons, ← row_its r, rowI]; simp
theorem box_in : ∀ (c : HL) {a : Addr} {c' : HL}, .inr (a, c') ∈ c.its → (a, cList c'.vals) ∈ c.cells ∧ (∀ p ∈ c'.cells, p ∈ c.cells) ∧ c'.er.dep + 1 ≤ c.er.dep ∧ c'.er.cnt + 2 ≤ c.er.cnt
  | .nil, a, c', h => by cases h
  | .txt x t r, a, c', h => by
    rw [HL.its] at h
    obtain ⟨h1, h2, h3, h4⟩ := box_in r ((List.mem_cons.mp h).resolve_left (by intro e; cases e))
    refine ⟨h1, h2, h3, ?_⟩
    simp only [HL.er, TL.cnt]; omega
  | .box b d r, a, c', h => by
    rw [HL.its] at h
    simp only [HL.cells, HL.er, TL.dep, TL.cnt]
    rcases List.mem_cons.mp h with e | h
    · injection e with e
      cases e
      exact ⟨by simp, fun p hp => by simp [hp], by omega, by omega⟩
    · obtain ⟨h1, h2, h3, h4⟩ := box_in r h
      exact ⟨by simp [h1], fun p hp => by simp [h2 p hp], by omega, by omega⟩
theorem txt_in : ∀ (c : HL) {x : Str} {t : Tok}, .inl (x, t) ∈ c.its → x.length + 2 ≤ c.er.cnt
  | .nil, _, _, h => by cases h
  | .txt y u r, x, t, h => by
    rw [HL.its] at h
    simp only [HL.er, TL.cnt]
    rcases List.mem_cons.mp h with e | h
    · injection e with e; cases e; omega
    · have := txt_in r h; omega
  | .box b d r, x, t, h => by
    rw [HL.its] at h
    have := txt_in r ((List.mem_cons.mp h).resolve_left (by intro e; cases e))
    simp only [HL.er, TL.cnt]; omega
theorem esc_le {x : Str} {n : Nat} (h : x.length ≤ n) : (rS signs7 x).length ≤ 6 * n := by
  rw [len_list, rS_list]
  have h1 := len_esc x.cps.toList
  have h2 := gs_le x.cps.toList
  rw [← len_list] at h1 h2
  show (esc x.cps.toList).length ≤ _
  omega
theorem take_row_le (l : List It) (i : Nat) : ((l.take i).flatMap rowI).length ≤ (l.flatMap rowI).length := by
  conv => rhs; rw [← List.take_append_drop i l, List.flatMap_append, List.length_append]
  omega

theorem c_row {P : Params} (B : Base (hd.heap_39 P) h0) : ∀ (d : Nat) (c : HL) (a : Addr) {A : Around} {E : Value → Shared → Prop} {s : Shared} {cs : Cells} {Q : Value → Shared → Prop}, c.er.dep ≤ d → St h0 o0 cs s → Has cs a (cList c.vals) → (∀ p ∈ c.cells, p ∈ cs) → c.er.cnt ≤ 504 → A.depth + d + 2 < recursionLimit → A.handled = none →
    (∀ x t' s', x.cps.toList = c.er.row → St h0 o0 cs s' → Q (.str x t') s') → wpAny (model prog w) A (call (.ref 42) [.ref a]) Q E s := by
  have bIsi : BltAt h0 (Str.ofString "isinstance") (.builtin "isinstance") := B.bltAt (by kernel_rfl!) (by kernel_rfl!) (by decide +kernel) (by decide +kernel)
  have bStr : BltAt h0 (Str.ofString "str") (.type "str") := B.bltAt (by kernel_rfl!) (by kernel_rfl!) (by decide +kernel) (by decide +kernel)
  have gEsc : GlobAt h0 (Str.ofString "_escape_attrib") (.ref 28) := B.glob (by kernel_rfl!) (by kernel_rfl!)
  have gRow : GlobAt h0 (Str.ofString "_law_row") (.ref 42) := B.glob (by kernel_rfl!) (by kernel_rfl!)
  have k1 : (Str.ofString " t=\"").cps.toList = tT ++ [34] := by decide +kernel
  have k2 : (Str.ofString " b=\"").cps.toList = tB ++ [34] := by decide +kernel
  have k3 : (Str.ofString "\"").cps.toList = [34] := by decide +kernel
  have n1 : (Str.ofString " t=\"").length = 4 := by decide +kernel
  have n2 : (Str.ofString " b=\"").length = 4 := by decide +kernel
  have n3 : (Str.ofString "\"").length = 1 := by decide +kernel
  intro d
  induction d using Nat.strongRecOn with
  | ind d ih =>
  intro c a A E s cs Q hd H ha hcs hcnt hroom hh h
  have hh' : ∀ env, (A.deeper env).handled = none := fun _ => hh
  have hrow := (row_small hcnt).1
  have hvl : c.vals.length = c.its.length := by unfold HL.vals; rw [List.length_map]
  refine x_fn (m := [(Str.ofString "items", .ref a)]) B H (by kernel_rfl!) (by omega) (by kernel_rfl!) (by kernel_rfl!) rfl fun L r0 R0 => ?_
  refine wpAny_execs_cons ?_
  refine wpAny_Assign_Name ?_
  walk_at "str"
  walk_at "sto"
  rename_i sa Ha _ sb Hb
  refine wpAny_execs_cons ?_
  refine x_for_list (h0 := h0) (o0 := o0) (hh' _) ?_ (fun _ => rfl)
  walk_at "nm"
  refine ⟨a, c.vals, (L, cNs [(Str.ofString "items", .ref a), (Str.ofString "row", .str (Str.ofString "") r0.toks)]) :: cs, [], (fun i C => ∃ (x : Str) (t : Tok), x.cps.toList = (c.its.take i).flatMap rowI ∧ C = (L, cNs [(Str.ofString "items", .ref a), (Str.ofString "row", .str x t)]) :: cs), rfl, ⟨_, _, (by rw [List.take_zero]; decide +kernel), rfl⟩, (by rw [List.append_nil]; exact Hb), ?_, ?_, ?_⟩
  · rintro i C ⟨x, t, _, rfl⟩
    exact .there ha.app
  · rintro i v C K' s hv ⟨x, t, hx, rfl⟩ hK H
    simp only [List.cons_append] at H
    obtain ⟨it, hit, rfl⟩ : ∃ it, c.its[i]? = some it ∧ v = it.val := by
      unfold HL.vals at hv
      rw [List.getElem?_map] at hv
      cases e : c.its[i]? with
      | none => rw [e] at hv; cases hv
      | some it => rw [e] at hv; exact ⟨it, rfl, (Option.some.inj hv).symm⟩
    have him : it ∈ c.its := List.mem_of_getElem? hit
    have htake : c.its.take (i + 1) = c.its.take i ++ [it] := by
      obtain ⟨hi, e⟩ := List.getElem?_eq_some_iff.mp hit
      rw [List.take_succ_eq_append_getElem hi, e]
    have hxl : x.length ≤ 765072 := by
      rw [len_list, hx]
      refine Nat.le_trans (take_row_le c.its i) ?_
      rw [← row_its]; exact hrow
    refine wpAny_assign_Name ?_
    walk_at "sto"
    refine wpAny_execs_cons ?_
    refine wpAny_If ?_
    refine wpAny_isTrue_value ?_
    refine Call_ ?_
    with_reducible refine x_blt (by assumption) bIsi (by kernel_rfl!) (by kernel_rfl!) (by kernel_rfl!) (by kernel_rfl!) (by decide +kernel) ?_
    refine PyProof.Rows.callWith_builtin1 ?_
    refine args_cons ?_
    walk_at "nm"
    refine args_cons ?_
    with_reducible refine x_blt (by assumption) bStr (by kernel_rfl!) (by kernel_rfl!) (by kernel_rfl!) (by kernel_rfl!) (by decide +kernel) ?_
    rename_i s2 H2
    refine args_nil ?_
    cases it with
    | inl p =>
      obtain ⟨y, u⟩ := p
      have hyl := txt_in c him
      have hye := esc_le (x := y) (n := 504) (by omega)
      refine PySem.IsiPair.str_str ?_
      refine wpAny_truthy_bool ?_
      rw [if_pos rfl]
      refine wpAny_execs_cons ?_
      refine wpAny_AugAssign_Name ?_
      walk_at "ld"
      refine wpAny_BinOp ?_
      refine wpAny_BinOp ?_
      walk_at "str"
      rename_i s3 H3 _
      refine Call_ ?_
      with_reducible refine x_glob (by assumption) gEsc (by kernel_rfl!) (by kernel_rfl!) (by kernel_rfl!) (by decide +kernel) ?_
      refine x_callF B (by kernel_rfl!) ?_
      refine args_cons ?_
      walk_at "nm"
      refine args_nil ⟨⟨_, _, H3⟩, ?_⟩
      refine c_esc B H3 (by show A.depth + 1 < recursionLimit; omega) (by omega) fun t4 s4 H4 => ?_
      with_reducible refine x_adds (by assumption) (by rw [sizeLine_eq, n1]; omega) ?_
      intro t5 s5 H5
      walk_at "str"
      rename_i s6 H6 _
      have hl5 : (Str.ofString " t=\"" ++ rS signs7 y).length = 4 + (rS signs7 y).length := by rw [Str.length_append, n1]
      with_reducible refine x_adds (by assumption) (by rw [sizeLine_eq, n3, hl5]; omega) ?_
      intro t7 s7 H7
      with_reducible refine x_iadds (by assumption) (by rw [sizeLine_eq, Str.length_append, n3, hl5]; omega) ?_
      intro t8 s8 H8
      walk_at "sto"
      rename_i s9 H9
      refine wpAny_execs_nil ?_
      refine wpAny_execs_nil ?_
      refine ⟨_, ⟨_, t8, ?_, rfl⟩, H9.weak .here (fun _ ho => ho.sub (by walk_at "mnssub"))⟩
      rw [htake, List.flatMap_append, List.flatMap_singleton, rowI]
      simp only [Str.cps_append, Array.toList_append, hx, k1, k3, rS_list, List.append_assoc]
      rfl
    | inr p =>
      obtain ⟨b, c'⟩ := p
      obtain ⟨hb1, hb2, hb3, hb4⟩ := box_in c him
      have hbig := row_small (c := c'.er) (by omega)
      refine x_isiL (l := b) (xs := c'.vals) H2 (.there (Has.app (Has.of_mem (hcs _ hb1)))) ?_
      intro s3 H3
      refine wpAny_truthy_bool ?_
      rw [if_neg Bool.false_ne_true]
      refine wpAny_execs_cons ?_
      refine wpAny_AugAssign_Name ?_
      walk_at "ld"
      refine wpAny_BinOp ?_
      refine wpAny_BinOp ?_
      walk_at "str"
      rename_i s4 H4 _
      refine Call_ ?_
      with_reducible refine x_glob (by assumption) gEsc (by kernel_rfl!) (by kernel_rfl!) (by kernel_rfl!) (by decide +kernel) ?_
      refine x_callF B (by kernel_rfl!) ?_
      refine args_cons ?_
      refine Call_ ?_
      with_reducible refine x_glob (by assumption) gRow (by kernel_rfl!) (by kernel_rfl!) (by kernel_rfl!) (by decide +kernel) ?_
      refine x_callF B (by kernel_rfl!) ?_
      refine args_cons ?_
      walk_at "nm"
      refine args_nil ⟨⟨_, _, H4⟩, ?_⟩
      refine ih (d - 1) (by omega) c' b (by omega) H4 (.there (Has.app (Has.of_mem (hcs _ hb1)))) (fun p hp => by simp [hcs p (hb2 p hp)]) (by omega) (by show A.depth + 1 + (d - 1) + 2 < recursionLimit; omega) (hh' _) ?_
      intro y t5 s5 hy H5
      refine args_nil ⟨⟨_, _, H5⟩, ?_⟩
      have hye : (rS signs7 y).length ≤ 767592 := by rw [len_list, rS_list, hy]; exact hbig.2
      refine c_esc B H5 (by show A.depth + 1 < recursionLimit; omega) (by omega) fun t6 s6 H6 => ?_
      with_reducible refine x_adds (by assumption) (by rw [sizeLine_eq, n2]; omega) ?_
      intro t7 s7 H7
      walk_at "str"
      have hl5 : (Str.ofString " b=\"" ++ rS signs7 y).length = 4 + (rS signs7 y).length := by rw [Str.length_append, n2]
      with_reducible refine x_adds (by assumption) (by rw [sizeLine_eq, n3, hl5]; omega) ?_
      intro t8 s8 H8
      with_reducible refine x_iadds (by assumption) (by rw [sizeLine_eq, Str.length_append, n3, hl5]; omega) ?_
      intro t9 s9 H9
      walk_at "sto"
      rename_i s10 H10
      refine wpAny_execs_nil ?_
      refine wpAny_execs_nil ?_
      refine ⟨_, ⟨_, t9, ?_, rfl⟩, H10.weak .here (fun _ ho => ho.sub (by walk_at "mnssub"))⟩
      rw [htake, List.flatMap_append, List.flatMap_singleton, rowI]
      simp only [Str.cps_append, Array.toList_append, hx, k2, k3, rS_list, hy, List.append_assoc]
      rfl
  · rintro C s ⟨x, t, hx, rfl⟩ H
    rw [List.append_nil] at H
    rw [hvl, List.take_length, ← row_its] at hx
    refine wpAny_execs_cons ?_
    refine wpAny_Return_some ?_
    walk_at "nm"
    exact h x t s hx H.tail

end
section
variable {prog : Program} {w : World} {A : Around} {E : Value → Shared → Prop} {s : Shared} {env : Env} {h0 : Heap} {o0 : Shared} {cs cs' : Cells}

theorem c_read {P : Params} {x : Str} {t : Tok} {l : List Nat} {Q : Value → Shared → Prop} (B : Base (hd.heap_39 P) h0) (H : St h0 o0 cs s) (hroom : A.depth < recursionLimit) (hu : A.units + 50 < cLine) (hh : A.handled = none) (hx : x.cps.toList = esc l) (hlen : x.length ≤ 1000000)
    (h : ∀ y t' s', y.cps.toList = l → St h0 o0 cs s' → Q (.str y t') s') : wpAny (model prog w) A (call (.ref 47) [.str x t]) Q E s := by
  have hh' : ∀ env, (A.deeper env).handled = none := fun _ => hh
  have hll : l.length ≤ 1000000 := Nat.le_trans (runs_len signs7 l fun _ h => h) (by show (esc l).length ≤ _; rw [← hx, ← len_list]; exact hlen)
  refine x_fn (m := [(Str.ofString "written", .str x t)]) B H (by kernel_rfl!) hroom (by kernel_rfl!) (by kernel_rfl!) rfl fun L r0 R0 => ?_
  refine wpAny_execs_cons ?_
  refine wpAny_Assign_Name ?_
  with_reducible refine x_dict R0 (by kernel_rfl!) (by kernel_rfl!) (List.cons_ne_nil _ _) (Nat.le_of_ble_eq_true (by kernel_rfl!)) fun d s4 H4 => ?_
  iterate 7 (with_reducible refine pairTrees_cons_walk ?_; walk_at "str"; walk_at "str")
  rename_i x1 X1 y1 z1 Z1 w1 x2 X2 y2 z2 Z2 w2 x3 X3 y3 z3 Z3 w3 x4 X4 y4 z4 Z4 w4 x5 X5 y5 z5 Z5 w5 x6 X6 y6 z6 Z6 w6 x7 X7 y7 z7 Z7 w7
  with_reducible refine pairTrees_nil_walk ?_
  with_reducible refine ⟨_, (by kernel_rfl!), ?nd, Z7, ?_⟩
  case nd =>
    have nd : [Str.ofString "amp", Str.ofString "lt", Str.ofString "gt", Str.ofString "quot", Str.ofString "#13", Str.ofString "#10", Str.ofString "#09"].Nodup := by decide +kernel
    exact nd
  intro s5 H5
  obtain ⟨kvs, hkv, H6⟩ : ∃ kvs : List (Str × Value), (∀ c ∈ signs7, ∀ a : Str, a.cps.toList = nm7 c → ∃ tk, valueAt kvs a = some (.str ⟨#[c]⟩ tk)) ∧
      St h0 o0 ((d, cDict prog w kvs) :: (L, cNs [(Str.ofString "written", .str x t)]) :: cs) s5 := by
    refine ⟨_, ?_, H5⟩
    intro c hc a ha
    simp only [signs7, List.mem_cons, List.not_mem_nil, or_false] at hc
    rcases hc with rfl | rfl | rfl | rfl | rfl | rfl | rfl
    · have e : a = Str.ofString "amp" := str_eq (ha.trans (by decide +kernel)); subst e; exact ⟨x1.toks, by kernel_rfl!⟩
    · have e : a = Str.ofString "lt" := str_eq (ha.trans (by decide +kernel)); subst e; exact ⟨x2.toks, by kernel_rfl!⟩
    · have e : a = Str.ofString "gt" := str_eq (ha.trans (by decide +kernel)); subst e; exact ⟨x3.toks, by kernel_rfl!⟩
    · have e : a = Str.ofString "quot" := str_eq (ha.trans (by decide +kernel)); subst e; exact ⟨x4.toks, by kernel_rfl!⟩
    · have e : a = Str.ofString "#13" := str_eq (ha.trans (by decide +kernel)); subst e; exact ⟨x5.toks, by kernel_rfl!⟩
    · have e : a = Str.ofString "#10" := str_eq (ha.trans (by decide +kernel)); subst e; exact ⟨x6.toks, by kernel_rfl!⟩
    · have e : a = Str.ofString "#09" := str_eq (ha.trans (by decide +kernel)); subst e; exact ⟨x7.toks, by kernel_rfl!⟩
  clear H5 X1 Z1 X2 Z2 X3 Z3 X4 Z4 X5 Z5 X6 Z6 X7 Z7 H4 R0 y1 y2 y3 y4 y5 y6 y7 w1 w2 w3 w4 w5 w6 w7
  walk_at "sto"
  rename_i s7 H7
  clear H6
  refine wpAny_execs_cons ?_
  refine wpAny_If ?_
  refine wpAny_isTrue_Compare1 ?_
  refine x_comp_str (h0 := h0) (o0 := o0) (cl := []) (hh' _) (by kernel_rfl!) (by decide) rfl (by decide +kernel) ?_ (fun _ => rfl)
  walk_at "nm"
  refine ⟨x, t, (d, cDict prog w kvs) :: (L, cNs [(Str.ofString "written", .str x t), (Str.ofString "signs", .ref d)]) :: cs, [], (fun i ys C => ys = [] ∧ C = (d, cDict prog w kvs) :: (L, cNs [(Str.ofString "written", .str x t), (Str.ofString "signs", .ref d)]) :: cs), rfl, ⟨rfl, rfl⟩, by rw [sizeLine_eq]; omega, by simpa using H7, ?_, ?_⟩
  · rintro Lc i c u ys C K2 s hc ⟨rfl, rfl⟩ H
    simp only [List.cons_append] at H
    have hcm : c ∈ esc l := by rw [← hx]; exact List.mem_of_getElem? hc
    refine wpAny_assign_Name ?_
    walk_at "sto"
    refine x_tests1 ?_
    refine wpAny_isTrue_Compare1 ?_
    walk_at "nm"
    walk_at "str"
    rename_i s23 H23 _
    refine SB.contains ?_
    refine wpAny_truthy_bool ?_
    have hn : Txt.contains (Str.ofString "<>\r\n\t") ⟨#[c]⟩ = false := by
      unfold Txt.contains
      rw [StrLaws.found_one, decide_eq_false_iff_not, show (Str.ofString "<>\r\n\t").cps.toList = [60, 62, 13, 10, 9] from by decide +kernel]
      intro hm
      have h1 : c ∈ signs7 := by
        simp only [signs7, List.mem_cons, List.not_mem_nil, or_false] at hm ⊢
        omega
      have h2 := esc_bare l c hcm h1
      subst h2
      simp at hm
    rw [hn, if_neg Bool.false_ne_true]
    exact ⟨_, _, ⟨rfl, rfl⟩, H23⟩
  rintro D ys C s ⟨rfl, rfl⟩ H
  refine List_ ?_
  refine args_nil ?_
  with_reducible refine x_newList (by assumption) (Nat.le_of_ble_eq_true (by kernel_rfl!)) fun z s24 H24 k24 => ?_
  with_reducible refine x_neNil (by assumption) (by walk_at "mhas") (by walk_at "mhas") ?_ ?_
  · show A.units + 3 < cLine; omega
  refine wpAny_truthy_bool ?_
  simp only [List.isEmpty_nil, Bool.not_true, Bool.false_eq_true, if_false]
  refine wpAny_execs_nil ?_
  have H25 := H24.tail.tail
  simp only [List.append_nil] at H25
  clear H24 H H7
  refine wpAny_execs_cons ?_
  refine wpAny_Assign_Name ?_
  refine MethodCall_ ?_
  walk_at "nm"
  with_reducible refine GM.split ?_
  refine callWith_method1 ?_
  refine args_cons ?_
  walk_at "str"
  rename_i s26 H26 _
  refine args_nil ?_
  refine x_split1 H26 (by decide +kernel) (by rw [sizeLine_eq]; omega) fun pa parts s27 hparts H27 => ?_
  have hp : parts.map (fun p => p.1.cps.toList) = (seg l).1 :: (seg l).2.map (fun p => nm7 p.1 ++ 59 :: p.2) := by
    have e := split_pcs x (Str.ofString "&") (by decide +kernel) (by decide +kernel)
    rw [← hparts, hx, show (Str.ofString "&").cps.toList = [38] from by decide +kernel, pcs_esc, List.map_map] at e
    exact e
  obtain ⟨⟨q, tq⟩, ps, rfl⟩ : ∃ p ps, parts = p :: ps := by
    cases parts with
    | nil => cases hp
    | cons p ps => exact ⟨p, ps, rfl⟩
  rw [List.map_cons, List.cons.injEq] at hp
  obtain ⟨hq, hps⟩ := hp
  have hpl : ps.length = (seg l).2.length := by have := congrArg List.length hps; rwa [List.length_map, List.length_map] at this
  have hsl : (seg l).2.length ≤ 1000000 := by
    have : ∀ m : List Nat, (seg m).2.length ≤ m.length := by
      intro m
      induction m with
      | nil => exact Nat.le_refl _
      | cons c m ih =>
        rw [seg]
        split
        · simp; omega
        · simp; omega
    exact Nat.le_trans (this l) hll
  walk_at "sto"
  refine wpAny_execs_cons ?_
  refine wpAny_Assign_Name ?_
  refine Subscript_ ?_
  walk_at "nm"
  walk_at "int"
  with_reducible refine x_item (by assumption) (by walk_at "mhas") (by omega) (by omega) (v := .str q tq) (by simp [strValues]) (by with_unfolding_all rfl) ?_
  walk_at "sto"
  refine wpAny_execs_cons ?_
  refine x_for_list (h0 := h0) (o0 := o0) (hh' _) ?_ (fun _ => rfl)
  refine x_slice (h0 := h0) (o0 := o0) ?_
  walk_at "nm"
  show wpAny _ _ (eval _ _) _ _ _
  walk_at "int"
  rename_i t28 s28 H28 _
  refine wpAny_pure ?_
  refine ⟨pa, _, some 1, none, _, strValues ps, rfl, H28, list_of H28 (by walk_at "mhas"), by rw [List.size_toArray, sizeLine_eq]; simp [strValues, hpl]; omega, .int 1 _, .none, (slicePick_from' _ 1).trans (by simp [strValues]), ?_⟩
  intro pb s29 H29
  refine ⟨pb, strValues ps, (pb, cList (strValues ps)) :: (pa, cList (strValues ((q, tq) :: ps))) :: (d, cDict prog w kvs) :: (L, cNs [(Str.ofString "written", .str x t), (Str.ofString "signs", .ref d), (Str.ofString "parts", .ref pa), (Str.ofString "text", .str q tq)]) :: cs, [],
    (fun i C => ∃ (y : Str) (ty : Tok), y.cps.toList = (seg l).1 ++ ((seg l).2.take i).flatMap (fun p => p.1 :: p.2) ∧ C = (pb, cList (strValues ps)) :: (pa, cList (strValues ((q, tq) :: ps))) :: (d, cDict prog w kvs) :: (L, cNs [(Str.ofString "written", .str x t), (Str.ofString "signs", .ref d), (Str.ofString "parts", .ref pa), (Str.ofString "text", .str y ty)]) :: cs), rfl, ⟨q, tq, by simpa using hq, rfl⟩, (by rw [List.append_nil]; exact H29), ?_, ?_, ?_⟩
  · rintro i C ⟨y, ty, _, rfl⟩
    exact Has.here
  · rintro i v C K' s hv ⟨y, ty, hy, rfl⟩ hK H
    simp only [List.cons_append] at H
    obtain ⟨p, tp, hpi, rfl⟩ : ∃ p tp, ps[i]? = some (p, tp) ∧ v = .str p tp := by
      unfold strValues at hv
      rw [List.getElem?_map] at hv
      cases e : ps[i]? with
      | none => rw [e] at hv; cases hv
      | some p => rw [e] at hv; exact ⟨p.1, p.2, rfl, (Option.some.inj hv).symm⟩
    obtain ⟨c, u, hci, hpe⟩ : ∃ c u, (seg l).2[i]? = some (c, u) ∧ p.cps.toList = nm7 c ++ 59 :: u := by
      have e1 : (ps.map (fun p => p.1.cps.toList))[i]? = some p.cps.toList := by rw [List.getElem?_map, hpi]; rfl
      rw [hps, List.getElem?_map] at e1
      cases e : (seg l).2[i]? with
      | none => rw [e] at e1; cases e1
      | some cu => rw [e] at e1; exact ⟨cu.1, cu.2, rfl, (Option.some.inj e1).symm⟩
    have hc7 : c ∈ signs7 := seg_sign l (c, u) (List.mem_of_getElem? hci)
    have htake : (seg l).2.take (i + 1) = (seg l).2.take i ++ [(c, u)] := by
      obtain ⟨hi, e⟩ := List.getElem?_eq_some_iff.mp hci
      rw [List.take_succ_eq_append_getElem hi, e]
    have htot : ((seg l).1 ++ ((seg l).2.take (i + 1)).flatMap (fun p => p.1 :: p.2)).length ≤ 1000000 := by
      refine Nat.le_trans ?_ hll
      conv => rhs; rw [← seg_glue l]
      conv => rhs; rw [← List.take_append_drop (i + 1) (seg l).2, List.flatMap_append]
      simp only [List.length_append]; omega
    have hplen : p.length ≤ 1000010 := by
      rw [len_list, hpe, List.length_append, List.length_cons]
      have h1 : ∀ c ∈ signs7, (nm7 c).length ≤ 4 := by decide
      have := h1 c hc7
      rw [htake, List.flatMap_append, List.flatMap_singleton] at htot
      simp only [List.length_append, List.length_cons] at htot
      omega
    refine wpAny_assign_Name ?_
    walk_at "sto"
    refine wpAny_execs_cons ?_
    refine Assign_Tuple ?_
    refine MethodCall_ ?_
    walk_at "nm"
    with_reducible refine GM.partition ?_
    refine callWith_method1 ?_
    refine args_cons ?_
    walk_at "str"
    rename_i s30 H30 _
    refine args_nil ?_
    refine x_partition (c := 59) (p := nm7 c) (q := u) H30 (by decide +kernel) hpe (nm_free c hc7).1 (by rw [sizeLine_eq]; omega) fun r na rs ta tb s31 hna hrs H31 => ?_
    refine x_unpack3 (hh' _) H31 .here fun s32 H32 => ?_
    walk_at "sto"
    walk_at "sto"
    walk_at "sto"
    obtain ⟨tk, hval⟩ := hkv c hc7 na hna
    refine wpAny_execs_cons ?_
    refine wpAny_If ?_
    refine wpAny_isTrue_BoolOp ?_
    refine wpAny_allTrue_Or_cons ?_
    refine wpAny_isTrue_Compare1 ?_
    walk_at "nm"
    walk_at "str"
    refine x_eqstr ?_
    refine wpAny_truthy_bool ?_
    rw [show (Str.ofString ";" == Str.ofString "") = false from by decide +kernel, if_neg Bool.false_ne_true]
    refine wpAny_allTrue_Or_cons ?_
    refine wpAny_isTrue_Compare1 ?_
    walk_at "nm"
    walk_at "nm"
    with_reducible refine x_notInD (by assumption) (by walk_at "mhas") ?_
    intro s33 H33
    rw [hval]
    refine wpAny_truthy_bool ?_
    simp only [Option.isSome_some, Bool.not_true, Bool.false_eq_true, if_false]
    refine wpAny_allTrue_Or_nil ?_
    rw [if_neg Bool.false_ne_true]
    refine wpAny_execs_nil ?_
    refine wpAny_execs_cons ?_
    refine wpAny_AugAssign_Name ?_
    walk_at "ld"
    refine wpAny_BinOp ?_
    refine Subscript_ ?_
    walk_at "nm"
    walk_at "nm"
    with_reducible refine x_dget (v := .str ⟨#[c]⟩ tk) (by assumption) (by walk_at "mhas") hval (by with_unfolding_all rfl) ?_
    intro s34 H34
    walk_at "nm"
    have hrl : rs.length ≤ 1000010 := by
      rw [len_list, hrs]
      rw [len_list, hpe] at hplen
      simp only [List.length_append, List.length_cons] at hplen; omega
    have hyl : y.length ≤ 1000000 := by
      rw [len_list, hy]
      rw [htake, List.flatMap_append] at htot
      simp only [List.length_append] at htot ⊢; omega
    have h1l : (⟨#[c]⟩ : Str).length = 1 := rfl
    with_reducible refine x_adds (by assumption) (by rw [sizeLine_eq, h1l]; omega) ?_
    intro t35 s35 H35
    with_reducible refine x_iadds (by assumption) (by rw [sizeLine_eq, Str.length_append, h1l]; omega) ?_
    intro t36 s36 H36
    walk_at "sto"
    rename_i s37 H37
    refine wpAny_execs_nil ?_
    refine ⟨_, ⟨y ++ (⟨#[c]⟩ ++ rs), t36, ?_, rfl⟩, ?_⟩
    · rw [htake, List.flatMap_append, List.flatMap_singleton]
      simp only [Str.cps_append, Array.toList_append, hy, hrs, List.append_assoc]
      rfl
    · exact H37.tail.weak (.there (.there (.there .here))) (fun _ ho => ho.sub (by walk_at "mnssub"))
  · rintro C s ⟨y, ty, hy, rfl⟩ H
    rw [List.append_nil] at H
    refine wpAny_execs_cons ?_
    refine wpAny_Return_some ?_
    walk_at "nm"
    refine h y ty s ?_ H.tail.tail.tail.tail
    rw [hy, List.take_of_length_le (by unfold strValues; rw [List.length_map, hpl]; exact Nat.le_refl _), seg_glue]

end
section
variable {prog : Program} {w : World} {A : Around} {E : Value → Shared → Prop} {s : Shared} {env : Env} {h0 : Heap} {o0 : Shared} {cs cs' : Cells}

def TL.its : TL → List (Str ⊕ TL)
  | .nil => []
  | .txt x r => .inl x :: r.its
  | .box c r => .inr c :: r.its
def TL.of : List (Str ⊕ TL) → TL
  | [] => .nil
  | .inl x :: r => .txt x (TL.of r)
  | .inr c :: r => .box c (TL.of r)
theorem TL.of_its : ∀ c : TL, TL.of c.its = c
  | .nil => rfl
  | .txt x r => by rw [TL.its, TL.of, TL.of_its r]
  | .box c r => by rw [TL.its, TL.of, TL.of_its r]
def erI : It → Str ⊕ TL
  | .inl (x, _) => .inl x
  | .inr (_, c) => .inr c.er
theorem er_of : ∀ hs : List It, (HL.of hs).er = TL.of (hs.map erI)
  | [] => rfl
  | .inl (x, t) :: r => by rw [HL.of, HL.er, er_of r]; rfl
  | .inr (a, c) :: r => by rw [HL.of, HL.er, er_of r]; rfl
def cellsI : It → Cells
  | .inl _ => []
  | .inr (a, c) => (a, cList c.vals) :: c.cells
theorem cells_of : ∀ hs : List It, (HL.of hs).cells = hs.flatMap cellsI
  | [] => rfl
  | .inl (x, t) :: r => by rw [HL.of, HL.cells, cells_of r]; rfl
  | .inr (a, c) :: r => by rw [HL.of, HL.cells, cells_of r]; rfl
def wrI : Str ⊕ TL → List Nat
  | .inl x => x.cps.toList
  | .inr c => c.row
def tagI : Str ⊕ TL → List Nat
  | .inl _ => tT
  | .inr _ => tB
theorem parts_its : ∀ c : TL, c.parts = c.its.flatMap (fun i => [tagI i, esc (wrI i)]) ++ [[]]
  | .nil => rfl
  | .txt x r => by rw [TL.parts, TL.its, List.flatMap_cons, parts_its r]; rfl
  | .box c r => by rw [TL.parts, TL.its, List.flatMap_cons, parts_its r]; rfl
theorem pair_at {α β : Type} (f g : α → β) : ∀ (l : List α) (r : List β) (i : Nat) (x : α), l[i]? = some x → (l.flatMap (fun a => [f a, g a]) ++ r)[2 * i]? = some (f x) ∧ (l.flatMap (fun a => [f a, g a]) ++ r)[2 * i + 1]? = some (g x)
  | [], r, i, x, h => by simp at h
  | a :: l, r, 0, x, h => by
    simp only [List.getElem?_cons_zero, Option.some.injEq] at h
    subst h
    exact ⟨rfl, rfl⟩
  | a :: l, r, i + 1, x, h => by
    have ih := pair_at f g l r i x (by simpa using h)
    rw [List.flatMap_cons]
    exact ih
theorem pair_len {α β : Type} (f g : α → β) : ∀ l : List α, (l.flatMap (fun a => [f a, g a])).length = 2 * l.length
  | [] => rfl
  | a :: l => by rw [List.flatMap_cons, List.length_append, pair_len f g l]; simp; omega
theorem tl_in : ∀ (c : TL) {i : Str ⊕ TL}, i ∈ c.its → match i with | .inl x => x.length + 2 ≤ c.cnt | .inr c' => c'.dep + 1 ≤ c.dep ∧ c'.cnt + 2 ≤ c.cnt
  | .nil, i, h => by cases h
  | .txt y r, i, h => by
    rcases List.mem_cons.mp h with e | h
    · subst e; simp only [TL.cnt]; omega
    · have := tl_in r h
      cases i with
      | inl x => simp only [TL.cnt] at this ⊢; omega
      | inr c' => simp only [TL.cnt, TL.dep] at this ⊢; omega
  | .box b r, i, h => by
    rcases List.mem_cons.mp h with e | h
    · subst e; simp only [TL.cnt, TL.dep]; omega
    · have := tl_in r h
      cases i with
      | inl x => simp only [TL.cnt] at this ⊢; omega
      | inr c' => simp only [TL.cnt, TL.dep] at this ⊢; omega
theorem its_len : ∀ c : TL, 2 * c.its.length ≤ c.cnt
  | .nil => Nat.le_refl _
  | .txt y r => by have := its_len r; simp only [TL.its, TL.cnt, List.length_cons]; omega
  | .box b r => by have := its_len r; simp only [TL.its, TL.cnt, List.length_cons]; omega
theorem wr_small {c : TL} {i : Str ⊕ TL} (h : i ∈ c.its) (hc : c.cnt ≤ 504) : (esc (wrI i)).length ≤ 767592 := by
  have := tl_in c h
  cases i with
  | inl x =>
    simp only at this
    have h1 := esc_le (x := x) (n := 504) (by omega)
    rw [len_list, rS_list] at h1
    exact Nat.le_trans h1 (by omega)
  | inr c' => exact (row_small (c := c') (by simp only at this; omega)).2
theorem range2 (n : Nat) (h : n ≤ 1000) : Builtin.Range.rangeSize 0 (2 * (n : Int)) 2 = (n : Nat) ∧ Builtin.Range.small 0 (2 * (n : Int)) 2 = true := by
  have e : Builtin.Range.rangeSize 0 (2 * (n : Int)) 2 = (n : Nat) := by
    unfold Builtin.Range.rangeSize
    simp only [show (2 : Int) > 0 by decide, if_true]
    split <;> omega
  refine ⟨e, ?_⟩
  have f : ∀ x : Int, -5000 ≤ x → x ≤ 5000 → Builtin.Range.rangeFitsLong x = true := by
    intro x h1 h2
    unfold Builtin.Range.rangeFitsLong
    rw [Bool.and_eq_true, decide_eq_true_eq, decide_eq_true_eq]
    omega
  unfold Builtin.Range.small
  rw [e, f 0 (by omega) (by omega), f (2 * (n : Int)) (by omega) (by omega), f 2 (by omega) (by omega), f (n : Nat) (by omega) (by omega), if_pos (by decide), f (2 * (n : Int) + (2 - 1)) (by omega) (by omega), Bool.or_true]
  rfl

end
section
variable {prog : Program} {w : World} {A : Around} {E : Value → Shared → Prop} {s : Shared} {env : Env} {h0 : Heap} {o0 : Shared} {cs cs' : Cells}

theorem wr_er (i : Str ⊕ TL) {y : Str} {u : Tok} (h : y.cps.toList = wrI i) (ht : tagI i = tT) : erI (.inl (y, u)) = i := by
  cases i with
  | inl x => exact congrArg Sum.inl (str_eq h)
  | inr c => exact absurd ht (show tB ≠ tT from by decide)
def eqT (k : Str) : Value → Bool := fun v => match v with | .str x _ => x == k | _ => false

theorem perm3 {α : Type} (X D R : List α) : (X ++ (D ++ R)).Perm (D ++ (X ++ R)) := by
  rw [← List.append_assoc, ← List.append_assoc]; exact List.Perm.append_right _ List.perm_append_comm

theorem c_items {P : Params} (B : Base (hd.heap_39 P) h0) : ∀ (d : Nat) (c : TL) (row : Str) (t : Tok) {A : Around} {E : Value → Shared → Prop} {s : Shared} {cs : Cells} {Q : Value → Shared → Prop}, c.dep ≤ d → St h0 o0 cs s → row.cps.toList = c.row → c.cnt ≤ 504 → A.depth + d + 2 < recursionLimit → A.units + 3 * d + 60 < cLine → A.handled = none →
    (∀ a (hl : HL) s', hl.er = c → St h0 o0 ((a, cList hl.vals) :: (hl.cells ++ cs)) s' → Q (.ref a) s') → wpAny (model prog w) A (call (.ref 54) [.str row t]) Q E s := by
  have bLen : BltAt h0 (Str.ofString "len") (.builtin "len") := B.bltAt (by kernel_rfl!) (by kernel_rfl!) (by decide +kernel) (by decide +kernel)
  have bRng : BltAt h0 (Str.ofString "range") (.type "range") := B.bltAt (by kernel_rfl!) (by kernel_rfl!) (by decide +kernel) (by decide +kernel)
  have gRead : GlobAt h0 (Str.ofString "_law_read") (.ref 47) := B.glob (by kernel_rfl!) (by kernel_rfl!)
  have gIts : GlobAt h0 (Str.ofString "_law_items") (.ref 54) := B.glob (by kernel_rfl!) (by kernel_rfl!)
  have k1 : (Str.ofString " t=").cps.toList = tT := by decide +kernel
  have k2 : (Str.ofString " b=").cps.toList = tB := by decide +kernel
  intro d
  induction d using Nat.strongRecOn with
  | ind d ih =>
  intro c row t A E s cs Q hd H hrow hcnt hroom hu hh h
  have hh' : ∀ env, (A.deeper env).handled = none := fun _ => hh
  have hrl := (row_small hcnt).1
  have hrowl : row.length ≤ 765072 := by rw [len_list, hrow]; exact hrl
  have hil := its_len c
  refine x_fn (m := [(Str.ofString "row", .str row t)]) B H (by kernel_rfl!) (by omega) (by kernel_rfl!) (by kernel_rfl!) rfl fun L r0 R0 => ?_
  refine wpAny_execs_cons ?_
  refine wpAny_Assign_Name ?_
  refine MethodCall_ ?_
  walk_at "nm"
  with_reducible refine GM.split ?_
  refine callWith_method1 ?_
  refine args_cons ?_
  walk_at "str"
  rename_i s1 H1 _
  refine args_nil ?_
  refine x_split1 H1 (by decide +kernel) (by rw [sizeLine_eq]; omega) fun pa parts s2 hparts H2 => ?_
  have hp : parts.map (fun p => p.1.cps.toList) = c.its.flatMap (fun i => [tagI i, esc (wrI i)]) ++ [[]] := by
    have e := split_pcs row (Str.ofString "\"") (by decide +kernel) (by decide +kernel)
    rw [← hparts, hrow, show (Str.ofString "\"").cps.toList = [34] from by decide +kernel, pcs_row, parts_its, List.map_map] at e
    exact e
  have hpl : parts.length = 2 * c.its.length + 1 := by
    have := congrArg List.length hp
    rw [List.length_map, List.length_append, pair_len] at this
    exact this
  have hpvl : (strValues parts).length = 2 * c.its.length + 1 := by unfold strValues; rw [List.length_map, hpl]
  obtain ⟨pi, tl, hpe⟩ : ∃ pi tl, parts = pi ++ [(Str.ofString "", tl)] := by
    obtain ⟨pi, ⟨lx, tl⟩, e⟩ : ∃ pi p, parts = pi ++ [p] := by
      have hne : parts ≠ [] := by intro e; rw [e] at hpl; simp at hpl
      exact ⟨parts.dropLast, parts.getLast hne, (List.dropLast_concat_getLast hne).symm⟩
    refine ⟨pi, tl, ?_⟩
    rw [e, List.map_append, List.map_cons, List.map_nil] at hp
    have hl := (List.append_inj' hp rfl).2
    have hl2 : lx.cps.toList = [] := by simpa using hl
    rw [e, str_eq (x := lx) (y := Str.ofString "") (hl2.trans (by decide +kernel))]
  have epv : strValues parts = strValues pi ++ [.str (Str.ofString "") tl] := by rw [hpe]; simp [strValues]
  walk_at "sto"
  refine wpAny_execs_cons ?_
  refine wpAny_If ?_
  refine wpAny_isTrue_BoolOp ?_
  refine wpAny_allTrue_Or_cons ?_
  refine wpAny_isTrue_Compare1 ?_
  refine wpAny_BinOp ?_
  refine Call_ ?_
  with_reducible refine x_blt (by assumption) bLen (by kernel_rfl!) (by kernel_rfl!) (by kernel_rfl!) (by kernel_rfl!) (by decide +kernel) ?_
  refine PyProof.Rows.callWith_builtin1 ?_
  refine args_cons ?_
  walk_at "nm"
  refine args_nil ?_
  with_reducible refine x_len (by assumption) (by walk_at "mhas") (by rw [hpvl, sizeLine_eq]; omega) ?_
  intro t3 s3 H3
  rw [hpvl]
  walk_at "int"
  with_reducible refine x_mod (by assumption) (by omega) ?_
  intro t4 s4 H4
  walk_at "int"
  refine PyProof.Rows.eq_int ?_
  refine wpAny_truthy_bool ?_
  have eodd : ((((2 * c.its.length + 1 : Nat) : Int).fmod 2) == 0) = false := by
    rw [Int.fmod_eq_emod_of_nonneg _ (by omega)]
    simp only [beq_eq_false_iff_ne]; omega
  rw [eodd, if_neg Bool.false_ne_true]
  refine wpAny_allTrue_Or_cons ?_
  refine wpAny_isTrue_Compare1 ?_
  refine Subscript_ ?_
  walk_at "nm"
  refine UnaryOp_ ?_
  walk_at "int"
  with_reducible refine x_neg (by assumption) ?_
  intro t5 s5 H5
  refine x_last (l := pa) (ys := strValues pi) (v := .str (Str.ofString "") tl) H5 (by rw [← epv]; walk_at "mhas") (by with_unfolding_all rfl) ?_
  walk_at "str"
  refine x_nestr ?_
  refine wpAny_truthy_bool ?_
  rw [show (Str.ofString "" != Str.ofString "") = false from by decide +kernel, if_neg Bool.false_ne_true]
  refine wpAny_allTrue_Or_nil ?_
  rw [if_neg Bool.false_ne_true]
  refine wpAny_execs_nil ?_
  refine wpAny_execs_cons ?_
  refine wpAny_Assign_Name ?_
  refine List_ ?_
  refine args_nil ?_
  with_reducible refine x_newList (by assumption) (Nat.le_of_ble_eq_true (by kernel_rfl!)) fun il s6 H6 k6 => ?_
  walk_at "sto"
  rename_i s7 H7
  refine wpAny_execs_cons ?_
  refine x_for_range (h0 := h0) (o0 := o0) (hh' _) ?_ (fun _ => rfl)
  refine Call_ ?_
  with_reducible refine x_blt (by assumption) bRng (by kernel_rfl!) (by kernel_rfl!) (by kernel_rfl!) (by kernel_rfl!) (by decide +kernel) ?_
  refine PyProof.Rows.callWith_type1 ?_
  refine args_cons ?_
  walk_at "int"
  refine args_cons ?_
  refine wpAny_BinOp ?_
  refine Call_ ?_
  with_reducible refine x_blt (by assumption) bLen (by kernel_rfl!) (by kernel_rfl!) (by kernel_rfl!) (by kernel_rfl!) (by decide +kernel) ?_
  refine PyProof.Rows.callWith_builtin1 ?_
  refine args_cons ?_
  walk_at "nm"
  refine args_nil ?_
  with_reducible refine x_len (by assumption) (by walk_at "mhas") (by rw [hpvl, sizeLine_eq]; omega) ?_
  intro t8 s8 H8
  rw [hpvl]
  walk_at "int"
  with_reducible refine x_subi (by assumption) ?_
  intro t9 s9 H9
  rw [show (((2 * c.its.length + 1 : Nat) : Int) - 1) = 2 * (c.its.length : Int) from by omega]
  refine args_cons ?_
  walk_at "int"
  refine args_nil ?_
  with_reducible refine x_range3 (by assumption) (by decide) (PyProof.noPylong_small (by decide)) ?_
  intro rg s10 H10
  obtain ⟨hr1, hr2⟩ := range2 c.its.length (by omega)
  clear H9 H8 H7 H6 H5 H4 H3 H2 H1 R0
  refine ⟨rg, 0, 2 * (c.its.length : Int), 2, c.its.length, (rg, cRange 0 (2 * (c.its.length : Int)) 2) :: (il, cList []) :: (pa, cList (strValues parts)) :: (L, cNs [(Str.ofString "row", .str row t), (Str.ofString "parts", .ref pa), (Str.ofString "items", .ref il)]) :: (([] : List It).flatMap cellsI ++ cs), [],
    (fun i C => ∃ hs : List It, hs.map erI = c.its.take i ∧ C = (rg, cRange 0 (2 * (c.its.length : Int)) 2) :: (il, cList (hs.map It.val)) :: (pa, cList (strValues parts)) :: (L, cNs [(Str.ofString "row", .str row t), (Str.ofString "parts", .ref pa), (Str.ofString "items", .ref il)]) :: (hs.flatMap cellsI ++ cs)), rfl, ⟨[], by simp, rfl⟩, (by rw [List.append_nil]; exact H10), .here, hr2, hr1, ?_, ?_⟩
  · rintro i u C K' s hi ⟨hs, hhs, rfl⟩ hK H
    simp only [List.cons_append] at H
    obtain ⟨it, hit⟩ : ∃ it, c.its[i]? = some it := ⟨_, List.getElem?_eq_getElem hi⟩
    have him : it ∈ c.its := List.mem_of_getElem? hit
    have hin := tl_in c him
    have hwl := wr_small him hcnt
    have htake : c.its.take (i + 1) = c.its.take i ++ [it] := by
      obtain ⟨hi, e⟩ := List.getElem?_eq_some_iff.mp hit
      rw [List.take_succ_eq_append_getElem hi, e]
    have hhl : hs.length ≤ 1000 := by have := congrArg List.length hhs; rw [List.length_map, List.length_take] at this; omega
    obtain ⟨⟨pt, tt⟩, ⟨pw, tw⟩, hp1, hp2, hq1, hq2⟩ : ∃ p1 p2 : Str × Tok, parts[2 * i]? = some p1 ∧ parts[2 * i + 1]? = some p2 ∧ p1.1.cps.toList = tagI it ∧ p2.1.cps.toList = esc (wrI it) := by
      obtain ⟨e1, e2⟩ := pair_at tagI (fun i => esc (wrI i)) c.its [[]] i it hit
      rw [← hp, List.getElem?_map] at e1 e2
      cases f1 : parts[2 * i]? with
      | none => rw [f1] at e1; cases e1
      | some p1 =>
        cases f2 : parts[2 * i + 1]? with
        | none => rw [f2] at e2; cases e2
        | some p2 => rw [f1] at e1; rw [f2] at e2; exact ⟨p1, p2, rfl, rfl, Option.some.inj e1, Option.some.inj e2⟩
    dsimp only at hq1 hq2
    refine wpAny_assign_Name ?_
    walk_at "sto"
    refine wpAny_execs_cons ?_
    refine wpAny_Assign_Name ?_
    refine Call_ ?_
    with_reducible refine x_glob (by assumption) gRead (by kernel_rfl!) (by kernel_rfl!) (by kernel_rfl!) (by decide +kernel) ?_
    refine x_callF B (by kernel_rfl!) ?_
    refine args_cons ?_
    refine Subscript_ ?_
    walk_at "nm"
    refine wpAny_BinOp ?_
    walk_at "nm"
    walk_at "int"
    with_reducible refine x_addi (by assumption) ?_
    intro t11 s11 H11
    with_reducible refine x_item (by assumption) (by walk_at "mhas") (by omega) (by omega) (v := .str pw tw) (by unfold strValues; rw [List.getElem?_map, show (0 + (i : Int) * 2 + 1).toNat = 2 * i + 1 from by omega, hp2, Option.map_some]) (by with_unfolding_all rfl) ?_
    refine args_nil ⟨⟨_, _, H11⟩, ?_⟩
    refine c_read (l := wrI it) B H11 (by show A.depth + 1 < recursionLimit; omega) (by show A.units + 3 + 50 < cLine; omega) (hh' _) hq2 (by rw [len_list, hq2]; omega) ?_
    intro y ty s12 hy H12
    walk_at "sto"
    refine wpAny_execs_cons ?_
    refine wpAny_If ?_
    refine wpAny_isTrue_BoolOp ?_
    refine wpAny_allTrue_Or_cons ?_
    refine wpAny_isTrue_Compare1 ?_
    walk_at "nm"
    refine wpAny_Constant_none ?_
    refine is_str_none ?_
    refine wpAny_truthy_bool ?_
    rw [if_neg Bool.false_ne_true]
    refine wpAny_allTrue_Or_cons ?_
    refine wpAny_isTrue_Compare1 ?_
    refine Subscript_ ?_
    walk_at "nm"
    walk_at "nm"
    with_reducible refine x_item (by assumption) (by walk_at "mhas") (by omega) (by omega) (v := .str pt tt) (by unfold strValues; rw [List.getElem?_map, show (0 + (i : Int) * 2).toNat = 2 * i from by omega, hp1, Option.map_some]) (by with_unfolding_all rfl) ?_
    refine List_ ?_
    walk_at "sarg"
    walk_at "sarg"
    refine args_nil ?_
    rename_i u1 U1 v1 u2 U2 v2
    with_reducible refine x_newList (by assumption) (Nat.le_of_ble_eq_true (by kernel_rfl!)) fun zl s13 H13 k13 => ?_
    have hpt : pt = Str.ofString " t=" ∨ pt = Str.ofString " b=" := by
      cases it with
      | inl x => exact .inl (str_eq (hq1.trans k1.symm))
      | inr c' => exact .inr (str_eq (hq1.trans k2.symm))
    refine SeqAt.notIn_listAt (eqT pt) (list_of H13 .here) ?_ ?_
    · intro y hy
      simp only [List.mem_toArray, List.mem_cons, List.not_mem_nil, or_false] at hy
      rcases hy with rfl | rfl
      · exact SeqAt.EqAt.str_str _ _ _ _
      · exact SeqAt.EqAt.str_str _ _ _ _
    have hany : ∀ a b : Tok, ([Value.str (Str.ofString " t=") a, Value.str (Str.ofString " b=") b].toArray.any (eqT pt)) = true := fun a b => by
      rw [List.any_toArray, List.any_cons, List.any_cons, List.any_nil, Bool.or_false]
      show ((Str.ofString " t=" == pt) || (Str.ofString " b=" == pt)) = true
      rcases hpt with rfl | rfl <;> simp
    rw [hany]
    refine wpAny_truthy_bool ?_
    simp only [Bool.not_true, Bool.false_eq_true, if_false]
    refine wpAny_allTrue_Or_nil ?_
    rw [if_neg Bool.false_ne_true]
    refine wpAny_execs_nil ?_
    have H14 := H13.tail
    clear H13
    refine wpAny_execs_cons ?_
    refine wpAny_Expr ?_
    refine MethodCall_ ?_
    walk_at "nm"
    with_reducible refine x_lmeth PySem.F.slot_list_append PySem.F.type_list_append (by assumption) (by walk_at "mhas") ?_
    refine callWith_method1 ?_
    refine args_cons ?_
    refine wpAny_IfExp ?_
    refine wpAny_isTrue_Compare1 ?_
    refine Subscript_ ?_
    walk_at "nm"
    walk_at "nm"
    with_reducible refine x_item (by assumption) (by walk_at "mhas") (by omega) (by omega) (v := .str pt tt) (by unfold strValues; rw [List.getElem?_map, show (0 + (i : Int) * 2).toNat = 2 * i from by omega, hp1, Option.map_some]) (by with_unfolding_all rfl) ?_
    walk_at "str"
    rename_i s15 H15 _
    refine x_eqstr ?_
    refine wpAny_truthy_bool ?_
    cases it with
    | inl x =>
      have e : pt = Str.ofString " t=" := str_eq (hq1.trans k1.symm)
      rw [e, show (Str.ofString " t=" == Str.ofString " t=") = true from by simp, if_pos rfl]
      walk_at "nm"
      refine args_nil ?_
      refine x_append (xs := hs.map It.val) H15 (by walk_at "mput") (by rw [List.length_map, sizeLine_eq]; omega) fun s16 H16 => ?_
      refine wpAny_execs_nil ?_
      refine ⟨_, ⟨hs ++ [.inl (y, ty)], ?_, rfl⟩, ?_⟩
      · rw [htake, List.map_append, hhs, List.map_cons, List.map_nil, wr_er (.inl x) hy rfl]
      · have H17 := H16.weak (a := L) (c' := cNs [(Str.ofString "row", .str row t), (Str.ofString "parts", .ref pa), (Str.ofString "items", .ref il)]) (.there (.there (.there .here))) (fun _ ho => ho.sub (by walk_at "mnssub"))
        simpa only [List.map_append, List.map_cons, List.map_nil, List.flatMap_append, List.flatMap_cons, List.flatMap_nil, cellsI, It.val, List.append_nil, List.cons_append] using H17
    | inr c' =>
      have e : pt = Str.ofString " b=" := str_eq (hq1.trans k2.symm)
      rw [e, show (Str.ofString " b=" == Str.ofString " t=") = false from by decide +kernel, if_neg Bool.false_ne_true]
      refine Call_ ?_
      with_reducible refine x_glob (by assumption) gIts (by kernel_rfl!) (by kernel_rfl!) (by kernel_rfl!) (by decide +kernel) ?_
      refine x_callF B (by kernel_rfl!) ?_
      refine args_cons ?_
      walk_at "nm"
      refine args_nil ⟨⟨_, _, H15⟩, ?_⟩
      simp only at hin
      refine ih (d - 1) (by omega) c' y ty (by omega) H15 hy (by omega) (by show A.depth + 1 + (d - 1) + 2 < recursionLimit; omega) (by show A.units + 3 + 3 * (d - 1) + 60 < cLine; omega) (hh' _) ?_
      intro b hl s16 hhl2 H16
      refine args_nil ?_
      refine x_append (xs := hs.map It.val) H16 (by walk_at "mput") (by rw [List.length_map, sizeLine_eq]; omega) fun s17 H17 => ?_
      refine wpAny_execs_nil ?_
      refine ⟨_, ⟨hs ++ [.inr (b, hl)], ?_, rfl⟩, ?_⟩
      · rw [htake, List.map_append, hhs, List.map_cons, List.map_nil, erI, hhl2]
      · have H18 := H17.weak (a := L) (c' := cNs [(Str.ofString "row", .str row t), (Str.ofString "parts", .ref pa), (Str.ofString "items", .ref il)]) (.there (Put.skip (.there (.there (.there .here))))) (fun _ ho => ho.sub (by walk_at "mnssub"))
        have H19 : St h0 o0 (((b, cList hl.vals) :: hl.cells) ++ ([(rg, cRange 0 (2 * (c.its.length : Int)) 2), (il, cList (hs.map It.val ++ [.ref b])), (pa, cList (strValues parts)), (L, cNs [(Str.ofString "row", .str row t), (Str.ofString "parts", .ref pa), (Str.ofString "items", .ref il)])] ++ (hs.flatMap cellsI ++ (cs ++ K')))) s17 := by
          simpa only [List.cons_append, List.nil_append, List.append_assoc] using H18
        have H20 := H19.swap
        have H21 : St h0 o0 ([(rg, cRange 0 (2 * (c.its.length : Int)) 2), (il, cList (hs.map It.val ++ [.ref b])), (pa, cList (strValues parts)), (L, cNs [(Str.ofString "row", .str row t), (Str.ofString "parts", .ref pa), (Str.ofString "items", .ref il)])] ++ (hs.flatMap cellsI ++ (((b, cList hl.vals) :: hl.cells) ++ (cs ++ K')))) s17 :=
          H20.perm (List.Perm.append_left _ (perm3 _ _ _))
        simpa only [List.map_append, List.map_cons, List.map_nil, List.flatMap_append, List.flatMap_cons, List.flatMap_nil, cellsI, It.val, List.append_nil, List.cons_append, List.nil_append, List.append_assoc] using H21
  · rintro C s ⟨hs, hhs, rfl⟩ H
    rw [List.append_nil] at H
    rw [List.take_length] at hhs
    refine wpAny_execs_cons ?_
    refine wpAny_Return_some ?_
    walk_at "nm"
    have H20 := (((H.tail.pick (a := L) (by walk_at "mpick")).tail.pick (a := pa) (by walk_at "mpick")).tail)
    refine h il (HL.of hs) s (by rw [er_of, hhs, TL.of_its]) ?_
    rw [cells_of]
    unfold HL.vals
    rw [HL.its_of]
    exact H20

end
section
variable {prog : Program} {w : World} {A : Around} {E : Value → Shared → Prop} {s : Shared} {env : Env} {h0 : Heap} {o0 : Shared} {cs cs' : Cells}

def sc (ch : List Value) : List (Addr × List It) → Cells
  | [] => []
  | (a, its) :: r => (a, cList (its.map It.val ++ ch)) :: (its.flatMap cellsI ++ sc [.ref a] r)
def cntI : It → Nat
  | .inl (x, _) => 2 + x.length
  | .inr (_, c) => 2 + c.er.cnt
def cntL (l : List It) : Nat := (l.map cntI).sum
theorem cntL_snoc (l : List It) (i : It) : cntL (l ++ [i]) = cntL l + cntI i := by simp [cntL]
theorem cnt_of : ∀ l : List It, (HL.of l).er.cnt = cntL l
  | [] => rfl
  | .inl (x, t) :: r => by rw [HL.of, HL.er, TL.cnt, cnt_of r]; simp [cntL, cntI]
  | .inr (a, c) :: r => by rw [HL.of, HL.er, TL.cnt, cnt_of r]; simp [cntL, cntI]
def cntF : List (Addr × List It) → Nat
  | [] => 0
  | (_, its) :: r => 2 + cntL its + cntF r
theorem cells_inr (a : Addr) (its : List It) : cellsI (.inr (a, HL.of its)) = (a, cList (its.map It.val)) :: its.flatMap cellsI := by
  rw [cellsI, cells_of]; unfold HL.vals; rw [HL.its_of]
/-- a list is closed -/
theorem St.close {a b : Addr} {its its2 : List It} {r : List (Addr × List It)} {R : Cells} (H : St h0 o0 ((a, cList (its.map It.val)) :: ((its.flatMap cellsI ++ sc [.ref a] ((b, its2) :: r)) ++ R)) s) :
    St h0 o0 ((b, cList ((its2 ++ [(Sum.inr (a, HL.of its) : It)]).map It.val)) :: (((its2 ++ [(Sum.inr (a, HL.of its) : It)]).flatMap cellsI ++ sc [.ref b] r) ++ R)) s := by
  have H1 : St h0 o0 (((a, cList (its.map It.val)) :: its.flatMap cellsI) ++ ([(b, cList (its2.map It.val ++ [.ref a]))] ++ (its2.flatMap cellsI ++ (sc [.ref b] r ++ R)))) s := by
    simpa only [sc, List.cons_append, List.nil_append, List.append_assoc] using H
  have H2 := H1.swap
  have H3 : St h0 o0 ([(b, cList (its2.map It.val ++ [.ref a]))] ++ (its2.flatMap cellsI ++ (((a, cList (its.map It.val)) :: its.flatMap cellsI) ++ (sc [.ref b] r ++ R)))) s :=
    H2.perm (List.Perm.append_left _ (perm3 _ _ _))
  have e : (its2 ++ [(Sum.inr (a, HL.of its) : It)]).flatMap cellsI = its2.flatMap cellsI ++ ((a, cList (its.map It.val)) :: its.flatMap cellsI) := by
    rw [List.flatMap_append, List.flatMap_singleton, cells_inr]
  rw [e]
  simpa only [List.map_append, List.map_cons, List.map_nil, It.val, List.cons_append, List.nil_append, List.append_assoc] using H3
theorem St.closeAll : ∀ (r : List (Addr × List It)) {a : Addr} {its : List It} {R : Cells}, St h0 o0 ((a, cList (its.map It.val)) :: ((its.flatMap cellsI ++ sc [.ref a] r) ++ R)) s →
    ∃ tr c, (a :: r.map (·.1)).getLast? = some tr ∧ HL.cells c = HL.cells c ∧ c.er.cnt ≤ cntL its + cntF r ∧ St h0 o0 ((tr, cList c.vals) :: (c.cells ++ R)) s
  | [], a, its, R, H => by
    refine ⟨a, HL.of its, rfl, rfl, by rw [cnt_of]; exact Nat.le_add_right _ _, ?_⟩
    rw [cells_of]; unfold HL.vals; rw [HL.its_of]
    simpa only [sc, List.append_nil] using H
  | (b, its2) :: r, a, its, R, H => by
    obtain ⟨tr, c, h1, h2, h3, h4⟩ := St.closeAll r (St.close H)
    refine ⟨tr, c, ?_, rfl, ?_, h4⟩
    · rw [List.map_cons, List.getLast?_cons_cons]; exact h1
    · have e : cntI (Sum.inr (a, HL.of its)) = 2 + cntL its := by rw [← cnt_of]; rfl
      rw [cntL_snoc, e] at h3
      rw [cntF]; omega

theorem its_er : ∀ c : HL, c.er.its = c.its.map erI
  | .nil => rfl
  | .txt x t r => by rw [HL.er, TL.its, HL.its, List.map_cons, its_er r]; rfl
  | .box a c r => by rw [HL.er, TL.its, HL.its, List.map_cons, its_er r]; rfl
/-- like trees are equal -/
theorem eq_rc (H : St h0 o0 cs s) : ∀ (d : Nat) (c1 c2 : HL) (a b : Addr) (A : Around), c1.er.dep ≤ d → c1.er = c2.er → Has cs a (cList c1.vals) → Has cs b (cList c2.vals) → (∀ p ∈ c1.cells, p ∈ cs) → (∀ p ∈ c2.cells, p ∈ cs) →
    (∀ p ∈ c1.cells, ∀ q ∈ c2.cells, p.1 ≠ q.1) → A.units + d + 1 < cLine → SeqAt.RcAt A s (.ref a) (.ref b) true := by
  intro d
  induction d using Nat.strongRecOn with
  | ind d ih =>
  intro c1 c2 a b A hd he ha hb h1 h2 hdis hu
  have hie : c1.its.map erI = c2.its.map erI := by rw [← its_er, ← its_er, he]
  have hlen : c1.its.length = c2.its.length := by have := congrArg List.length hie; rwa [List.length_map, List.length_map] at this
  have key : SeqAt.RcAt A s (.ref a) (.ref b) ((List.range c1.vals.toArray.size).all (fun _ => true)) := by
    refine SeqAt.RcAt.lists (list_of H ha) (list_of H hb) (by rw [List.size_toArray, List.size_toArray]; unfold HL.vals; rw [List.length_map, List.length_map, hlen]) (by omega) ?_
    intro j j1 j2
    have j1' : j < c1.its.length := by simpa [HL.vals] using j1
    have j2' : j < c2.its.length := by simpa [HL.vals] using j2
    have e1 : c1.vals.toArray[j] = c1.its[j].val := by simp [HL.vals]
    have e2 : c2.vals.toArray[j] = c2.its[j].val := by simp [HL.vals]
    rw [e1, e2]
    have hm1 : c1.its[j] ∈ c1.its := List.getElem_mem j1'
    have hm2 : c2.its[j] ∈ c2.its := List.getElem_mem j2'
    have hej : erI c1.its[j] = erI c2.its[j] := by
      have q1 : (c1.its.map erI)[j]? = some (erI c1.its[j]) := by simp [j1']
      have q2 : (c2.its.map erI)[j]? = some (erI c2.its[j]) := by simp [j2']
      rw [hie, q2] at q1
      exact (Option.some.inj q1).symm
    generalize c1.its[j] = i1 at *
    generalize c2.its[j] = i2 at *
    match i1, i2, hej with
    | .inl (x, t), .inl (y, u), hej =>
      have : x = y := Sum.inl.inj hej
      subst this
      have q := SeqAt.EqAt.str_str (A := A.in1) (s := s) x t x u
      rw [show (x == x) = true from by simp] at q
      exact q
    | .inr (p, k1), .inr (q, k2), hej =>
      obtain ⟨b1, b2, b3, _⟩ := box_in c1 hm1
      obtain ⟨g1, g2, _, _⟩ := box_in c2 hm2
      refine SeqAt.EqAt.of_refs (hdis _ b1 _ g1) (ih (d - 1) (by omega) k1 k2 p q A.in1 (by omega) (Sum.inr.inj hej) (Has.of_mem (h1 _ b1)) (Has.of_mem (h2 _ g1)) (fun r hr => h1 _ (b2 r hr)) (fun r hr => h2 _ (g2 r hr)) (fun r hr r' hr' => hdis _ (b2 r hr) _ (g2 r' hr')) ?_)
      show A.units + 1 + (d - 1) + 1 < cLine
      omega
  rwa [show ((List.range c1.vals.toArray.size).all (fun _ => true)) = true from by simp] at key

end
section
variable {prog : Program} {w : World} {A : Around} {E : Value → Shared → Prop} {s : Shared} {env : Env} {h0 : Heap} {o0 : Shared} {cs cs' : Cells}

theorem St.closeF {F : Cells} {a b : Addr} {its its2 : List It} {r : List (Addr × List It)} {R : Cells} (H : St h0 o0 (F ++ ((a, cList (its.map It.val)) :: ((its.flatMap cellsI ++ sc [.ref a] ((b, its2) :: r)) ++ R))) s) :
    St h0 o0 (F ++ ((b, cList ((its2 ++ [(Sum.inr (a, HL.of its) : It)]).map It.val)) :: (((its2 ++ [(Sum.inr (a, HL.of its) : It)]).flatMap cellsI ++ sc [.ref b] r) ++ R))) s := by
  have H1 := H.perm (List.perm_append_comm (l₁ := (a, cList (its.map It.val)) :: ((its.flatMap cellsI ++ sc [.ref a] ((b, its2) :: r)) ++ R)) (l₂ := F))
  rw [List.cons_append, List.append_assoc _ R F] at H1
  have H2 := H1.close
  rw [← List.append_assoc _ R F, ← List.cons_append] at H2
  exact H2.perm List.perm_append_comm

set_option maxHeartbeats 2000000 in
theorem c_tree {P : Params} {l : Addr} {ns : List (Int × Tok)} {Q : Value → Shared → Prop} (B : Base (hd.heap_39 P) h0) (H : St h0 o0 cs s) (hl : Has cs l (cList (ns.map fun p => .int p.1 p.2))) (hns : ns.length ≤ 63) (hroom : A.depth < recursionLimit) (hu : A.units + 50 < cLine) (hh : A.handled = none)
    (h : ∀ tr (c : HL) s', c.er.cnt ≤ 504 → St h0 o0 ((tr, cList c.vals) :: (c.cells ++ cs)) s' → Q (.ref tr) s') : wpAny (model prog w) A (call (.ref 35) [.ref l]) Q E s := by
  have bChr : BltAt h0 (Str.ofString "chr") (.builtin "chr") := B.bltAt (by kernel_rfl!) (by kernel_rfl!) (by decide +kernel) (by decide +kernel)
  have bLen : BltAt h0 (Str.ofString "len") (.builtin "len") := B.bltAt (by kernel_rfl!) (by kernel_rfl!) (by decide +kernel) (by decide +kernel)
  have bIsi : BltAt h0 (Str.ofString "isinstance") (.builtin "isinstance") := B.bltAt (by kernel_rfl!) (by kernel_rfl!) (by decide +kernel) (by decide +kernel)
  have bStr : BltAt h0 (Str.ofString "str") (.type "str") := B.bltAt (by kernel_rfl!) (by kernel_rfl!) (by decide +kernel) (by decide +kernel)
  have hh' : ∀ env, (A.deeper env).handled = none := fun _ => hh
  refine x_fn (m := [(Str.ofString "script", .ref l)]) B H (by kernel_rfl!) hroom (by kernel_rfl!) (by kernel_rfl!) rfl fun L r0 R0 => ?_
  refine wpAny_execs_cons ?_
  refine wpAny_Assign_Name ?_
  refine List_ ?_
  iterate 16 walk_at "sarg"
  refine args_nil ?_
  with_reducible refine x_newList (by assumption) (Nat.le_of_ble_eq_true (by kernel_rfl!)) fun pl s19 H19 k19 => ?_
  obtain ⟨ps, hps, hb, H20⟩ : ∃ ps : List (Str × Tok), ps.length = 16 ∧ (∀ p ∈ ps, p.1.length ≤ 6) ∧ St h0 o0 ((pl, cList (ps.map fun p => .str p.1 p.2)) :: (L, cNs [(Str.ofString "script", .ref l)]) :: cs) s19 := by
    refine ⟨[(_, _), (_, _), (_, _), (_, _), (_, _), (_, _), (_, _), (_, _), (_, _), (_, _), (_, _), (_, _), (_, _), (_, _), (_, _), (_, _)], rfl, ?_, H19⟩
    intro p hp
    simp only [List.mem_cons, List.not_mem_nil, or_false] at hp
    rcases hp with rfl | rfl | rfl | rfl | rfl | rfl | rfl | rfl | rfl | rfl | rfl | rfl | rfl | rfl | rfl | rfl
    all_goals (dsimp only; decide +kernel)
  clear H19
  walk_at "sto"
  refine wpAny_execs_cons ?_
  refine wpAny_Assign_Name ?_
  refine List_ ?_
  refine args_nil ?_
  with_reducible refine x_newList (by assumption) (Nat.le_of_ble_eq_true (by kernel_rfl!)) fun tr s21 H21 k21 => ?_
  walk_at "sto"
  refine wpAny_execs_cons ?_
  refine wpAny_Assign_Name ?_
  refine List_ ?_
  refine args_cons ?_
  walk_at "nm"
  refine args_nil ?_
  with_reducible refine x_newList (by assumption) (Nat.le_of_ble_eq_true (by kernel_rfl!)) fun ab s22 H22 k22 => ?_
  walk_at "sto"
  rename_i s23 H23
  have H24 := ((H23.pick (a := L) (by walk_at "mpick")).pick (a := ab) (by walk_at "mpick")).pick (a := pl) (by walk_at "mpick")
  clear H20 H21 H22 H23 R0
  refine wpAny_execs_cons ?_
  refine x_for_list (h0 := h0) (o0 := o0) (hh' _) ?_ (fun _ => rfl)
  walk_at "nm"
  refine ⟨l, ns.map fun p => .int p.1 p.2, _, cs, (fun i C => ∃ (a : Addr) (its : List It) (r : List (Addr × List It)), (a :: r.map (·.1)).getLast? = some tr ∧ cntL its + cntF r ≤ 8 * i ∧ r.length ≤ i ∧
    C = (pl, cList (ps.map fun p => .str p.1 p.2)) :: (ab, cList (r.reverse.map (fun f => Value.ref f.1) ++ [.ref a])) :: (L, cNs [(Str.ofString "script", .ref l), (Str.ofString "pieces", .ref pl), (Str.ofString "tree", .ref tr), (Str.ofString "above", .ref ab)]) :: (a, cList (its.map It.val)) :: (its.flatMap cellsI ++ sc [.ref a] r)), rfl, ⟨tr, [], [], rfl, Nat.le_refl _, Nat.le_refl _, rfl⟩, H24, ?_, ?_, ?_⟩
  · rintro i C ⟨a, its, r, _, _, _, rfl⟩
    exact Has.skip hl
  · rintro i v C K' s hv ⟨a, its, r, hroot, hcnt, hrl, rfl⟩ hK H
    simp only [List.cons_append] at H
    obtain ⟨x, tx, hx, rfl⟩ : ∃ x tx, ns[i]? = some (x, tx) ∧ v = .int x tx := by
      rw [List.getElem?_map] at hv
      cases e : ns[i]? with
      | none => rw [e] at hv; cases hv
      | some p => rw [e] at hv; exact ⟨p.1, p.2, rfl, (Option.some.inj hv).symm⟩
    have hi : i < 63 := by
      have := (List.getElem?_eq_some_iff.mp hx).1
      omega
    have hil : its.length ≤ 600 := by
      have : ∀ m : List It, m.length ≤ cntL m := by
        intro m
        induction m with
        | nil => exact Nat.le_refl _
        | cons i m ih =>
          have e : cntL (i :: m) = cntI i + cntL m := by simp [cntL]
          have e2 : 1 ≤ cntI i := by cases i <;> simp only [cntI] <;> omega
          rw [e, List.length_cons]; omega
      have := this its
      omega
    refine wpAny_assign_Name ?_
    walk_at "sto"
    refine wpAny_execs_cons ?_
    refine wpAny_Assign_Name ?_
    refine wpAny_BinOp ?_
    walk_at "nm"
    walk_at "int"
    with_reducible refine x_fdiv (by assumption) (by omega) (by omega) ?_
    intro t1 s1 H1
    walk_at "sto"
    refine wpAny_execs_cons ?_
    refine wpAny_Assign_Name ?_
    refine wpAny_BinOp ?_
    walk_at "nm"
    walk_at "int"
    with_reducible refine x_mod (by assumption) (by omega) ?_
    intro t2 s2 H2
    walk_at "sto"
    have hc0 : 0 ≤ (x.fdiv 5).fmod 1112064 := Int.fmod_nonneg_of_pos _ (by omega)
    have hc1 : (x.fdiv 5).fmod 1112064 < 1112064 := Int.fmod_lt_of_pos _ (by omega)
    refine wpAny_execs_cons ?_
    refine wpAny_Assign_Name ?_
    refine Subscript_ ?_
    walk_at "nm"
    refine UnaryOp_ ?_
    walk_at "int"
    with_reducible refine x_neg (by assumption) ?_
    intro t3 s3 H3
    refine x_last (l := ab) H3 (by walk_at "mhas") (by with_unfolding_all rfl) ?_
    walk_at "sto"
    rename_i s4 H4
    clear H1 H2 H3
    refine wpAny_execs_cons ?_
    refine wpAny_If ?_
    refine wpAny_isTrue_Compare1 ?_
    refine wpAny_BinOp ?_
    walk_at "nm"
    walk_at "int"
    with_reducible refine x_mod (by assumption) (by omega) ?_
    intro t5 s5 H5
    walk_at "int"
    refine PyProof.Rows.eq_int ?_
    refine wpAny_truthy_bool ?_
    split
    · refine wpAny_execs_cons ?_
      refine wpAny_Expr ?_
      refine MethodCall_ ?_
      walk_at "nm"
      with_reducible refine x_lmeth PySem.F.slot_list_append PySem.F.type_list_append (by assumption) (by walk_at "mhas") ?_
      refine callWith_method1 ?_
      refine args_cons ?_
      refine List_ ?_
      refine args_nil ?_
      with_reducible refine x_newList (by assumption) (Nat.le_of_ble_eq_true (by kernel_rfl!)) fun n s6 H6 k6 => ?_
      refine args_nil ?_
      refine x_append (xs := its.map It.val) H6 (by walk_at "mput") (by rw [List.length_map, sizeLine_eq]; omega) fun s7 H7 => ?_
      refine wpAny_execs_cons ?_
      refine wpAny_Expr ?_
      refine MethodCall_ ?_
      walk_at "nm"
      with_reducible refine x_lmeth PySem.F.slot_list_append PySem.F.type_list_append (by assumption) (by walk_at "mhas") ?_
      refine callWith_method1 ?_
      refine args_cons ?_
      refine Subscript_ ?_
      walk_at "nm"
      refine UnaryOp_ ?_
      walk_at "int"
      with_reducible refine x_neg (by assumption) ?_
      intro t8 s8 H8
      refine x_last (l := a) (ys := its.map It.val) (v := .ref n) H8 (by walk_at "mhas") (by with_unfolding_all rfl) ?_
      refine args_nil ?_
      refine x_append (xs := r.reverse.map (fun f => Value.ref f.1) ++ [.ref a]) H8 (by walk_at "mput") (by rw [List.length_append, List.length_map, List.length_reverse, List.length_singleton, sizeLine_eq]; omega) fun s9 H9 => ?_
      refine wpAny_execs_nil ?_
      refine wpAny_execs_nil ?_
      refine ⟨_, ⟨n, [], (a, its) :: r, ?_, ?_, ?_, rfl⟩, ?_⟩
      · rw [List.map_cons, List.getLast?_cons_cons]; exact hroot
      · simp only [cntF]; simp only [cntL, List.map_nil, List.sum_nil] at hcnt ⊢; omega
      · simp; omega
      · have H10 := (((H9.weak (a := L) (c' := cNs [(Str.ofString "script", .ref l), (Str.ofString "pieces", .ref pl), (Str.ofString "tree", .ref tr), (Str.ofString "above", .ref ab)]) (.there (.there (.there .here))) (fun _ ho => ho.sub (by walk_at "mnssub"))).pick (a := n) (by walk_at "mpick")).pick (a := L) (by walk_at "mpick")).pick (a := ab) (by walk_at "mpick")
        have H11 := H10.pick (a := pl) (by walk_at "mpick")
        simpa only [sc, List.map_nil, List.flatMap_nil, List.nil_append, List.reverse_cons, List.map_append, List.map_cons, List.cons_append, List.append_assoc] using H11
    · refine wpAny_execs_cons ?_
      refine wpAny_If ?_
      refine wpAny_isTrue_Compare1 ?_
      refine wpAny_BinOp ?_
      walk_at "nm"
      walk_at "int"
      with_reducible refine x_mod (by assumption) (by omega) ?_
      intro t6 s6 H6
      walk_at "int"
      refine PyProof.Rows.eq_int ?_
      refine wpAny_truthy_bool ?_
      split
      · refine wpAny_execs_cons ?_
        refine wpAny_If ?_
        refine wpAny_isTrue_Compare1 ?_
        refine Call_ ?_
        with_reducible refine x_blt (by assumption) bLen (by kernel_rfl!) (by kernel_rfl!) (by kernel_rfl!) (by kernel_rfl!) (by decide +kernel) ?_
        refine PyProof.Rows.callWith_builtin1 ?_
        refine args_cons ?_
        walk_at "nm"
        refine args_nil ?_
        have elen : (r.reverse.map (fun f : Addr × List It => Value.ref f.1) ++ [Value.ref a]).length = r.length + 1 := by simp
        with_reducible refine x_len (by assumption) (by walk_at "mhas") (by rw [elen, sizeLine_eq]; omega) ?_
        intro t7 s7 H7
        rw [elen]
        walk_at "int"
        rename_i t8 s8 H8 _
        refine PyProof.Rows.gt_int ?_
        refine wpAny_truthy_bool ?_
        cases r with
        | nil =>
          simp only [List.length_nil, show decide ((1 : Int) < ((0 + 1 : Nat) : Int)) = false from by decide, Bool.false_eq_true, if_false]
          refine wpAny_execs_nil ?_
          refine wpAny_execs_nil ?_
          refine wpAny_execs_nil ?_
          refine wpAny_execs_nil ?_
          refine ⟨_, ⟨a, its, [], hroot, by omega, Nat.zero_le _, rfl⟩, ?_⟩
          exact H8.weak (a := L) (.there (.there .here)) (fun _ ho => ho.sub (by walk_at "mnssub"))
        | cons f r' =>
          obtain ⟨b, its2⟩ := f
          rw [show decide ((1 : Int) < (((((b, its2) :: r').length + 1 : Nat)) : Int)) = true from decide_eq_true (by simp; omega), if_pos rfl]
          refine wpAny_execs_cons ?_
          refine wpAny_Expr_any ?_
          refine MethodCall_ ?_
          walk_at "nm"
          with_reducible refine x_lmeth PySem.F.slot_list_pop PySem.F.type_list_pop (by assumption) (by walk_at "mhas") ?_
          refine callWith_method0 ?_
          refine x_pop0 (ys := ((b, its2) :: r').reverse.map (fun f => Value.ref f.1)) (y := .ref a) H8 (by walk_at "mput") (by rw [elen, sizeLine_eq]; omega) fun s9 H9 => ?_
          refine wpAny_execs_nil ?_
          refine wpAny_execs_nil ?_
          refine wpAny_execs_nil ?_
          refine wpAny_execs_nil ?_
          refine ⟨_, ⟨b, its2 ++ [.inr (a, HL.of its)], r', ?_, ?_, ?_, rfl⟩, ?_⟩
          · rw [List.map_cons, List.getLast?_cons_cons] at hroot; exact hroot
          · have e : cntI (Sum.inr (a, HL.of its)) = 2 + cntL its := by rw [← cnt_of]; rfl
            rw [cntL_snoc, e]
            simp only [cntF] at hcnt; omega
          · rw [List.length_cons] at hrl; omega
          · have H10 := H9.weak (a := L) (c' := cNs [(Str.ofString "script", .ref l), (Str.ofString "pieces", .ref pl), (Str.ofString "tree", .ref tr), (Str.ofString "above", .ref ab)]) (.there (.there .here)) (fun _ ho => ho.sub (by walk_at "mnssub"))
            have H11 := ((H10.pick (a := L) (by walk_at "mpick")).pick (a := ab) (by walk_at "mpick")).pick (a := pl) (by walk_at "mpick")
            have H12 : St h0 o0 ([(pl, cList (ps.map fun p => .str p.1 p.2)), (ab, cList (((b, its2) :: r').reverse.map (fun f : Addr × List It => Value.ref f.1))), (L, cNs [(Str.ofString "script", .ref l), (Str.ofString "pieces", .ref pl), (Str.ofString "tree", .ref tr), (Str.ofString "above", .ref ab)])] ++ ((a, cList (its.map It.val)) :: ((its.flatMap cellsI ++ sc [.ref a] ((b, its2) :: r')) ++ K'))) s9 := H11
            have H13 := St.closeF H12
            simpa only [List.reverse_cons, List.map_append, List.map_cons, List.map_nil, List.cons_append, List.nil_append, List.append_assoc] using H13
      · refine wpAny_execs_cons ?_
        refine wpAny_If ?_
        refine wpAny_isTrue_Compare1 ?_
        refine wpAny_BinOp ?_
        walk_at "nm"
        walk_at "int"
        with_reducible refine x_mod (by assumption) (by omega) ?_
        intro t7 s7 H7
        walk_at "int"
        refine PyProof.Rows.eq_int ?_
        refine wpAny_truthy_bool ?_
        split
        · refine wpAny_execs_cons ?_
          refine wpAny_Expr ?_
          refine MethodCall_ ?_
          walk_at "nm"
          with_reducible refine x_lmeth PySem.F.slot_list_append PySem.F.type_list_append (by assumption) (by walk_at "mhas") ?_
          refine callWith_method1 ?_
          refine args_cons ?_
          walk_at "str"
          rename_i tP sP HP eP _ s8 H8 _
          refine args_nil ?_
          refine x_append (xs := its.map It.val) H8 (by walk_at "mput") (by rw [List.length_map, sizeLine_eq]; omega) fun s9 H9 => ?_
          refine wpAny_execs_nil ?_
          refine wpAny_execs_nil ?_
          refine wpAny_execs_nil ?_
          refine wpAny_execs_nil ?_
          refine ⟨_, ⟨a, its ++ [.inl (Str.ofString "", sP.toks)], r, hroot, ?_, by omega, rfl⟩, ?_⟩
          · rw [cntL_snoc]
            have e0 : (Str.ofString "").length = 0 := by decide +kernel
            simp only [cntI, e0]; omega
          · have H10 := H9.weak (a := L) (c' := cNs [(Str.ofString "script", .ref l), (Str.ofString "pieces", .ref pl), (Str.ofString "tree", .ref tr), (Str.ofString "above", .ref ab)]) (.there (.there .here)) (fun _ ho => ho.sub (by walk_at "mnssub"))
            simpa only [List.map_append, List.map_cons, List.map_nil, It.val, List.flatMap_append, List.flatMap_cons, List.flatMap_nil, cellsI, List.append_nil, List.cons_append] using H10
        · rename_i tP sP HP eP _
          have e0 : (Str.ofString "").length = 0 := by decide +kernel
          clear H7 H6 H5 H4 H
          refine wpAny_execs_cons ?_
          refine wpAny_mono (Q := fun f s' => f = .next ∧ ∃ (pre : List It) (y : Str) (u : Tok), cntL (pre ++ [.inl (y, u)]) ≤ cntL its + 2 ∧ St h0 o0 ((pl, cList (ps.map fun p => .str p.1 p.2)) :: (ab, cList (r.reverse.map (fun f => Value.ref f.1) ++ [.ref a])) :: (L, cNs [(Str.ofString "script", .ref l), (Str.ofString "pieces", .ref pl), (Str.ofString "tree", .ref tr), (Str.ofString "above", .ref ab), (Str.ofString "x", .int x tx), (Str.ofString "rest", .int (x.fdiv 5) t1), (Str.ofString "code", .int ((x.fdiv 5).fmod 1112064) t2), (Str.ofString "items", .ref a)]) :: (a, cList (pre.map It.val ++ [.str y u])) :: ((pre.flatMap cellsI ++ sc [.ref a] r) ++ K')) s') (E := NoE) ?_ ?_ (fun _ _ q => q.elim)
          · refine wpAny_If ?_
            refine wpAny_isTrue_BoolOp ?_
            refine wpAny_allTrue_Or_cons ?_
            refine wpAny_isTrue_Compare1 ?_
            walk_at "nm"
            refine List_ ?_
            refine args_nil ?_
            with_reducible refine x_newList (by assumption) (Nat.le_of_ble_eq_true (by kernel_rfl!)) fun z s8 H8 k8 => ?_
            with_reducible refine x_eqNil (xs := its.map It.val) H8 (by walk_at "mhas") (by walk_at "mhas") ?_ ?_
            · show A.units + 3 < cLine; omega
            refine wpAny_truthy_bool ?_
            have H9 := H8.tail
            clear H8 HP
            rcases List.eq_nil_or_concat its with rfl | ⟨pre, last, rfl⟩
            · simp only [List.map_nil, List.isEmpty_nil, if_true]
              refine wpAny_execs_cons ?_
              refine wpAny_Expr ?_
              refine MethodCall_ ?_
              walk_at "nm"
              with_reducible refine x_lmeth (xs := ([] : List It).map It.val) PySem.F.slot_list_append PySem.F.type_list_append (by assumption) (by walk_at "mhas") ?_
              refine callWith_method1 ?_
              refine args_cons ?_
              walk_at "str"
              rename_i s10 H10 _
              refine args_nil ?_
              refine x_append (xs := ([] : List It).map It.val) H10 (by walk_at "mput") (by rw [List.length_map, sizeLine_eq]; omega) fun s11 H11 => ?_
              refine wpAny_execs_nil ?_
              refine ⟨rfl, [], Str.ofString "", s8.toks, ?_, H11⟩
              simp only [List.nil_append, cntL, List.map_cons, List.map_nil, List.sum_cons, List.sum_nil, cntI, e0]; omega
            · have hne : ((pre ++ [last]).map It.val).isEmpty = false := by simp
              rw [List.concat_eq_append] at *
              rw [hne, if_neg Bool.false_ne_true]
              have emap : (pre ++ [last]).map It.val = pre.map It.val ++ [last.val] := by simp
              have hpl2 : pre.length ≤ 600 := by rw [List.length_append] at hil; omega
              refine wpAny_allTrue_Or_cons ?_
              refine wpAny_isTrue_Not ?_
              refine wpAny_isTrue_value ?_
              refine Call_ ?_
              with_reducible refine x_blt (by assumption) bIsi (by kernel_rfl!) (by kernel_rfl!) (by kernel_rfl!) (by kernel_rfl!) (by decide +kernel) ?_
              refine PyProof.Rows.callWith_builtin1 ?_
              refine args_cons ?_
              refine Subscript_ ?_
              walk_at "nm"
              refine UnaryOp_ ?_
              walk_at "int"
              with_reducible refine x_neg (by assumption) ?_
              intro t12 s12 H12
              refine x_last (l := a) (ys := pre.map It.val) (v := last.val) H12 (by rw [← emap]; walk_at "mhas") (by with_unfolding_all rfl) ?_
              refine args_cons ?_
              with_reducible refine x_blt (by assumption) bStr (by kernel_rfl!) (by kernel_rfl!) (by kernel_rfl!) (by kernel_rfl!) (by decide +kernel) ?_
              refine args_nil ?_
              cases last with
              | inl p =>
                obtain ⟨y, u⟩ := p
                refine PySem.IsiPair.str_str ?_
                refine wpAny_truthy_bool ?_
                simp only [Bool.not_true, Bool.false_eq_true, if_false]
                refine wpAny_allTrue_Or_nil ?_
                rw [if_neg Bool.false_ne_true]
                refine wpAny_execs_nil ?_
                refine ⟨rfl, pre, y, u, by omega, ?_⟩
                simpa only [List.map_append, List.map_cons, List.map_nil, It.val, List.flatMap_append, List.flatMap_cons, List.flatMap_nil, cellsI, List.append_nil, List.cons_append] using H12
              | inr p =>
                obtain ⟨b, c'⟩ := p
                refine x_isiL (l := b) (xs := c'.vals) H12 (Has.of_mem (by simp [cellsI])) ?_
                intro s13 H13
                refine wpAny_truthy_bool ?_
                simp only [Bool.not_false, if_true]
                refine wpAny_execs_cons ?_
                refine wpAny_Expr ?_
                refine MethodCall_ ?_
                walk_at "nm"
                with_reducible refine x_lmeth (xs := (pre ++ [(Sum.inr (b, c') : It)]).map It.val) PySem.F.slot_list_append PySem.F.type_list_append (by assumption) (by walk_at "mhas") ?_
                refine callWith_method1 ?_
                refine args_cons ?_
                walk_at "str"
                rename_i s10 H10 _
                refine args_nil ?_
                refine x_append (xs := (pre ++ [(Sum.inr (b, c') : It)]).map It.val) H10 (by walk_at "mput") (by rw [List.length_map, List.length_append, List.length_singleton, sizeLine_eq]; omega) fun s11 H11 => ?_
                refine wpAny_execs_nil ?_
                refine ⟨rfl, pre ++ [.inr (b, c')], Str.ofString "", s13.toks, ?_, H11⟩
                rw [cntL_snoc]
                simp only [cntI, e0]; omega
          · rintro f s20 ⟨rfl, pre, y, u, hcn, H20⟩
            clear HP
            have hpl2 : pre.length ≤ 600 ∧ y.length ≤ 600 := by
              rw [cntL_snoc] at hcn
              simp only [cntI] at hcn
              have : ∀ m : List It, m.length ≤ cntL m := by
                intro m
                induction m with
                | nil => exact Nat.le_refl _
                | cons i m ih =>
                  have e : cntL (i :: m) = cntI i + cntL m := by simp [cntL]
                  have e2 : 1 ≤ cntI i := by cases i <;> simp only [cntI] <;> omega
                  rw [e, List.length_cons]; omega
              have := this pre
              omega
            have close : ∀ (z : Str) (tz : Tok) (s' : Shared), z.length ≤ y.length + 6 → St h0 o0 ((pl, cList (ps.map fun p => .str p.1 p.2)) :: (ab, cList (r.reverse.map (fun f => Value.ref f.1) ++ [.ref a])) :: (L, cNs [(Str.ofString "script", .ref l), (Str.ofString "pieces", .ref pl), (Str.ofString "tree", .ref tr), (Str.ofString "above", .ref ab), (Str.ofString "x", .int x tx), (Str.ofString "rest", .int (x.fdiv 5) t1), (Str.ofString "code", .int ((x.fdiv 5).fmod 1112064) t2), (Str.ofString "items", .ref a)]) :: (a, cList (pre.map It.val ++ [.str z tz])) :: ((pre.flatMap cellsI ++ sc [.ref a] r) ++ K')) s' →
                ∃ C', (∃ (a : Addr) (its : List It) (r : List (Addr × List It)), (a :: r.map (·.1)).getLast? = some tr ∧ cntL its + cntF r ≤ 8 * (i + 1) ∧ r.length ≤ i + 1 ∧
                  C' = (pl, cList (ps.map fun p => .str p.1 p.2)) :: (ab, cList (r.reverse.map (fun f => Value.ref f.1) ++ [.ref a])) :: (L, cNs [(Str.ofString "script", .ref l), (Str.ofString "pieces", .ref pl), (Str.ofString "tree", .ref tr), (Str.ofString "above", .ref ab)]) :: (a, cList (its.map It.val)) :: (its.flatMap cellsI ++ sc [.ref a] r)) ∧ St h0 o0 (C' ++ K') s' := by
              intro z tz s' hz Hz
              refine ⟨_, ⟨a, pre ++ [.inl (z, tz)], r, hroot, ?_, by omega, rfl⟩, ?_⟩
              · rw [cntL_snoc] at hcn ⊢
                simp only [cntI] at hcn ⊢; omega
              · have H30 := Hz.weak (a := L) (c' := cNs [(Str.ofString "script", .ref l), (Str.ofString "pieces", .ref pl), (Str.ofString "tree", .ref tr), (Str.ofString "above", .ref ab)]) (.there (.there .here)) (fun _ ho => ho.sub (by walk_at "mnssub"))
                simpa only [List.map_append, List.map_cons, List.map_nil, It.val, List.flatMap_append, List.flatMap_cons, List.flatMap_nil, cellsI, List.append_nil, List.cons_append] using H30
            refine wpAny_execs_cons ?_
            refine wpAny_If ?_
            refine wpAny_isTrue_Compare1 ?_
            refine wpAny_BinOp ?_
            walk_at "nm"
            walk_at "int"
            with_reducible refine x_mod (by assumption) (by omega) ?_
            intro t21 s21 H21
            walk_at "int"
            refine PyProof.Rows.eq_int ?_
            refine wpAny_truthy_bool ?_
            split
            · refine wpAny_execs_cons ?_
              refine wpAny_AugAssign_SubscriptAny ?_
              walk_at "nm"
              refine UnaryOp_ ?_
              walk_at "int"
              with_reducible refine x_neg (by assumption) ?_
              intro t22 s22 H22
              refine x_getLast (l := a) (ys := pre.map It.val) (v := .str y u) H22 (by walk_at "mhas") ?_
              refine Subscript_ ?_
              walk_at "nm"
              refine wpAny_BinOp ?_
              walk_at "nm"
              walk_at "int"
              with_reducible refine x_mod (by assumption) (by omega) ?_
              intro t23 s23 H23
              have hb0 : 0 ≤ (x.fdiv 5).fmod 16 := Int.fmod_nonneg_of_pos _ (by omega)
              have hb1 : (x.fdiv 5).fmod 16 < 16 := Int.fmod_lt_of_pos _ (by omega)
              obtain ⟨p, hp⟩ : ∃ p, ps[((x.fdiv 5).fmod 16).toNat]? = some p := ⟨_, List.getElem?_eq_getElem (by omega)⟩
              with_reducible refine x_item (by assumption) (by walk_at "mhas") hb0 (by omega) (v := .str p.1 p.2) (by rw [List.getElem?_map, hp, Option.map_some]) (by with_unfolding_all rfl) ?_
              have hpl := hb p (List.mem_of_getElem? hp)
              with_reducible refine x_iadds (by assumption) (by rw [sizeLine_eq]; omega) ?_
              intro t24 s24 H24
              refine x_setLast (l := a) (ys := pre.map It.val) (y := .str y u) (v := .str (y ++ p.1) t24) H24 (by walk_at "mput") fun s25 H25 => ?_
              refine wpAny_execs_nil ?_
              refine wpAny_execs_nil ?_
              refine wpAny_execs_nil ?_
              refine wpAny_execs_nil ?_
              refine wpAny_execs_nil ?_
              exact close _ _ _ (by rw [Str.length_append]; omega) H25
            · refine wpAny_execs_cons ?_
              refine wpAny_AugAssign_SubscriptAny ?_
              walk_at "nm"
              refine UnaryOp_ ?_
              walk_at "int"
              with_reducible refine x_neg (by assumption) ?_
              intro t22 s22 H22
              refine x_getLast (l := a) (ys := pre.map It.val) (v := .str y u) H22 (by walk_at "mhas") ?_
              refine Call_ ?_
              with_reducible refine x_blt (by assumption) bChr (by kernel_rfl!) (by kernel_rfl!) (by kernel_rfl!) (by kernel_rfl!) (by decide +kernel) ?_
              refine PyProof.Rows.callWith_builtin1 ?_
              refine args_cons ?_
              refine wpAny_IfExp ?_
              refine wpAny_isTrue_Compare1 ?_
              walk_at "nm"
              walk_at "int"
              refine PyProof.Rows.lt_int ?_
              refine wpAny_truthy_bool ?_
              split
              · rename_i hlt
                have hlt' : (x.fdiv 5).fmod 1112064 < 55296 := of_decide_eq_true hlt
                walk_at "nm"
                refine args_nil ?_
                with_reducible refine x_chr (by assumption) (by omega) (by omega) ?_
                intro cz t4 s4 _ hcz H4 _
                with_reducible refine x_iadds (by assumption) (by rw [sizeLine_eq]; omega) ?_
                intro t24 s24 H24
                refine x_setLast (l := a) (ys := pre.map It.val) (y := .str y u) (v := .str (y ++ cz) t24) H24 (by walk_at "mput") fun s25 H25 => ?_
                refine wpAny_execs_nil ?_
                refine wpAny_execs_nil ?_
                refine wpAny_execs_nil ?_
                refine wpAny_execs_nil ?_
                refine wpAny_execs_nil ?_
                exact close _ _ _ (by rw [Str.length_append]; omega) H25
              · refine wpAny_BinOp ?_
                walk_at "nm"
                walk_at "int"
                with_reducible refine x_addi (by assumption) ?_
                intro t6 s7 H7
                refine args_nil ?_
                with_reducible refine x_chr (by assumption) (by omega) (by omega) ?_
                intro cz t4 s4 _ hcz H4 _
                with_reducible refine x_iadds (by assumption) (by rw [sizeLine_eq]; omega) ?_
                intro t24 s24 H24
                refine x_setLast (l := a) (ys := pre.map It.val) (y := .str y u) (v := .str (y ++ cz) t24) H24 (by walk_at "mput") fun s25 H25 => ?_
                refine wpAny_execs_nil ?_
                refine wpAny_execs_nil ?_
                refine wpAny_execs_nil ?_
                refine wpAny_execs_nil ?_
                refine wpAny_execs_nil ?_
                exact close _ _ _ (by rw [Str.length_append]; omega) H25
  · rintro C s ⟨a, its, r, hroot, hcnt, hrl, rfl⟩ H
    simp only [List.cons_append] at H
    rw [List.length_map] at hcnt
    refine wpAny_execs_cons ?_
    refine wpAny_Return_some ?_
    walk_at "nm"
    obtain ⟨tr', c, h1, _, h3, h4⟩ := St.closeAll r H.tail.tail.tail
    rw [hroot] at h1
    cases h1
    exact h tr c s (by omega) h4

end
section
variable {prog : Program} {w : World} {A : Around} {E : Value → Shared → Prop} {s : Shared} {env : Env} {h0 : Heap} {o0 : Shared} {cs cs' : Cells}

theorem c_law {P : Params} {l : Addr} {ns : List (Int × Tok)} {Q : Value → Shared → Prop} (B : Base (hd.heap_39 P) h0) (H : St0 h0 o0 [] s) (hl : h0.IsList l (ns.map fun p => Value.int p.1 p.2).toArray) (hns : ns.length ≤ 63)
    (hroom : A.depth + 300 < recursionLimit) (hu : A.units + 1000 < cLine) (hh : A.handled = none)
    (h : ∀ cs s', St h0 o0 cs s' → Q (.bool true) s') : wpAny (model prog w) A (call (.ref 61) [.ref l]) Q E s := by
  have gTree : GlobAt h0 (Str.ofString "_law_tree") (.ref 35) := B.glob (by kernel_rfl!) (by kernel_rfl!)
  have gRow : GlobAt h0 (Str.ofString "_law_row") (.ref 42) := B.glob (by kernel_rfl!) (by kernel_rfl!)
  have gIts : GlobAt h0 (Str.ofString "_law_items") (.ref 54) := B.glob (by kernel_rfl!) (by kernel_rfl!)
  have hh' : ∀ env, (A.deeper env).handled = none := fun _ => hh
  refine x_fnC (x := Str.ofString "script") B H (by kernel_rfl!) (by omega) (by kernel_rfl!) (by kernel_rfl!) fun L r0 R0 => ?_
  replace R0 : St h0 o0 [(L, cNs [(Str.ofString "script", .ref l)])] r0 := R0
  refine wpAny_execs_cons ?_
  refine wpAny_Assign_Name ?_
  refine Call_ ?_
  with_reducible refine x_glob (by assumption) gTree (by kernel_rfl!) (by kernel_rfl!) (by kernel_rfl!) (by decide +kernel) ?_
  refine x_callF B (by kernel_rfl!) ?_
  refine args_cons ?_
  refine x_slice (h0 := h0) (o0 := o0) ?_
  walk_at "nm"
  refine wpAny_pure ?_
  show wpAny _ _ (eval _ _) _ _ _
  walk_at "int"
  rename_i t1 s1 H1 _
  have hlk : s1.heap.IsList l (ns.map fun p => Value.int p.1 p.2).toArray := by
    obtain ⟨o, ho, r⟩ := hl
    exact ⟨o, H1.keep _ _ ho, r⟩
  have hz : (ns.map fun p => Value.int p.1 p.2).toArray.size ≤ sizeLine := by rw [List.size_toArray, List.length_map, sizeLine_eq]; omega
  refine ⟨l, _, none, some 63, _, ns.map (fun p => Value.int p.1 p.2), rfl, H1, hlk, hz, .none, .int 63 _, (slicePick_upto' _ 63).trans (by rw [List.take_of_length_le (by simpa using hns)]), ?_⟩
  intro a1 s2 H2
  refine args_nil ⟨⟨_, _, H2⟩, ?_⟩
  refine c_tree (ns := ns) B H2 .here hns (by show A.depth + 1 < recursionLimit; omega) (by show A.units + 3 + 50 < cLine; omega) (hh' _) fun tr c s3 hcnt H3 => ?_
  have hdep := c.er.dep_le
  walk_at "sto"
  refine wpAny_execs_cons ?_
  refine wpAny_Return_some ?_
  refine wpAny_Compare1 ?_
  refine Call_ ?_
  with_reducible refine x_glob (by assumption) gIts (by kernel_rfl!) (by kernel_rfl!) (by kernel_rfl!) (by decide +kernel) ?_
  refine x_callF B (by kernel_rfl!) ?_
  refine args_cons ?_
  refine Call_ ?_
  with_reducible refine x_glob (by assumption) gRow (by kernel_rfl!) (by kernel_rfl!) (by kernel_rfl!) (by decide +kernel) ?_
  refine x_callF B (by kernel_rfl!) ?_
  refine args_cons ?_
  walk_at "nm"
  rename_i s4 H4
  refine args_nil ⟨⟨_, _, H4⟩, ?_⟩
  refine c_row B 252 c tr (by omega) H4 .here (fun p hp => by simp [hp]) hcnt (by show A.depth + 1 + 252 + 2 < recursionLimit; omega) (hh' _) fun x t5 s5 hx H5 => ?_
  refine args_nil ⟨⟨_, _, H5⟩, ?_⟩
  refine c_items B 252 c.er x t5 (by omega) H5 hx hcnt (by show A.depth + 1 + 252 + 2 < recursionLimit; omega) (by show A.units + 3 + 3 * 252 + 60 < cLine; omega) (hh' _) fun b c2 s6 her H6 => ?_
  walk_at "nm"
  refine cmp_ofEq ?_
  have hnd := H6.nodup
  refine eq_rc H6 252 c2 c b tr _ (by rw [her]; omega) her .here (Has.of_mem (by simp)) (fun p hp => by simp [hp]) (fun p hp => by simp [hp]) ?_ ?_ _ _ _ _ ?_
  · intro p hp q hq e
    rw [List.map_cons, List.nodup_cons, List.map_append, List.nodup_append] at hnd
    exact hnd.2.2.2 p.1 (List.mem_map_of_mem hp) q.1 (List.mem_map_of_mem (f := Prod.fst) (by simp [hq])) e
  · show A.units + 3 + 252 + 1 < cLine; omega
  · exact h _ _ H6

end

end Mine
open PySem PySem.W PyProof.Rows
theorem PySem.Challenge.cw_dn0277_02_holds : PySem.Challenge.rw_dn0277_02.Holds := by
  refine Mine.hd ?_
  intro w s₀ s₁ mg mb G Y fa o pm cd doc dV kV ho hd hcd hD hmg hg args vals as hpre hlay hrd hwl hlo
  have KX := kIn_of Y
  have T := G.T
  have B : Mine.Base (Mine.hd.heap_39 w.params) s₁.heap := ⟨KX, T.nolimit, mb, T.b, T.builtins⟩
  have efa : fa = 61 := B.addr (by kernel_rfl!) T.g (by kernel_rfl!) hmg
  subst efa
  wrow_args hpre hlay hrd hwl hlo
  rename_i ns _ _ _ _ _ _ _ l vs _ hL _ _ _ hI _ hcond _
  obtain ⟨ps, rfl, hps⟩ := Mine.ints_pairs hI
  refine wpAny_mono (Q := fun v s' => v = .bool true ∧ ∃ cs, Mine.St s₁.heap s₁ cs s') (E := Mine.NoE) ?_ ?_ (fun _ _ q => q.elim)
  · refine Mine.c_law B (Mine.St0.start B (by kernel_rfl!)) hL (by rw [hps]; omega) (by decide) (by decide) rfl fun cs s' H => ⟨rfl, cs, H⟩
  · rintro v s' ⟨rfl, cs, H⟩
    exact Mine.law_good H hg (fun _ => rfl) (postW_of rfl (w_eq_bool (w_res rfl) w_lit) rfl)

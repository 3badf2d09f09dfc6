import PyProof.Rows.All
import Wide.All
import OpenK.AllK
import Wide.FinOn
import KE.KBoundM
import KE.KDictList
import KE.KDictOf
import KE.KEqDict
import KE.KFromBytes
import KE.KItemsList
import KE.KLam
import KE.KListMore
import KE.KPar
import KE.KRevIter
import KE.KRevSl
import KE.KSetDisp
import KE.KSortTup
import KE.KTypeName
import KE.KxPercentT
import PyProof.RulesDelMore
import Lean
import PySem.Challenge.RW_dn0277_09
open PySem PySem.W PyProof.Rows
set_option linter.unusedVariables false
set_option linter.unusedSectionVars false
set_option linter.unusedSimpArgs false
set_option Elab.async false
set_option maxRecDepth 100000
set_option maxHeartbeats 8000000
namespace Mine
theorem look : PySem.Challenge.rw_dn0277_09.wellSaid = true := by
 delta OpenLaw.wellSaid
 repeat' (first | with_reducible refine look_both ?_ ?_ | delta OpenRow.wellSaid | delta OpenRow.partSaid | delta looksOpen | delta OpenScript.wellSaid)
 all_goals decide +kernel
open_top hd for PySem.Challenge.rw_dn0277_09.row
set_option maxHeartbeats 4000000
open PySem PySem.W PySem.Calls PyProof.Rows
open PySem.Str (ofString)
abbrev aa := @wpAny_bind
abbrev ab := @wpAny_pure
abbrev ad := @wpAny_mono
abbrev ae := @Nat.le_refl
abbrev af := @sizeLine_eq
abbrev ag := @List.length_map
abbrev ah := @Str.length_append
abbrev ai := @List.map_append
abbrev aj := @Nat.le_of_eq
abbrev ak := @List.sublist_cons_self
abbrev am := @List.mem_cons_of_mem
abbrev an := @List.append_assoc
abbrev ao := @List.length_append
abbrev ap := @List.map_cons
abbrev aq := @List.mem_map_of_mem
abbrev au := @List.mem_cons_self
abbrev aw := @wpAny_holding
abbrev VP := Value → Shared → Prop
abbrev FP := Flow → Shared → Prop
abbrev RP := Result → Shared → Prop
abbrev GP := Shared → Prop
variable {prog : Program} {w : World} {A : Around} {E : VP} {s : Shared} {env : Env} {h0 : Heap} {o0 : Shared}
theorem aD {a b c : Nat} (h : a ≤ b) (e : Nat.ble b c = true) : a ≤ c := Nat.le_trans h (Nat.le_of_ble_eq_true e)
theorem aF {a b c d : Nat} (h1 : a ≤ c) (h2 : b ≤ d) : a + b ≤ c + d := Nat.add_le_add h1 h2
theorem aX {a r : Nat} (k : Nat) (h : a + k < r) : a < r := Nat.lt_of_le_of_lt (Nat.le_add_right a k) h
noncomputable abbrev bM := Obj → Prop
noncomputable abbrev az := List (Addr × bM)
noncomputable abbrev NoE : Value → Shared → Prop := fun _ _ => False
noncomputable def ay (xs : List Value) : bM := fun o => ∃ n, o = { cls := .type "list", data := .seq xs.toArray n }
noncomputable def a8 (xs : List Value) : bM := fun o => ∃ n, o = { cls := .type "tuple", data := .seq xs.toArray n }
noncomputable def cNs (m : List (Str × Value)) : bM := fun o => ∃ es ep, o.data = .dict es ep ∧ StrKeys es ∧ ∀ x v, m.lookup x = some v → nsFind es x = some v
noncomputable def aN (v : Option Value) : bM := fun o => o.data = .cell v
noncomputable def ce (l : Addr) (i : Nat) : bM := fun o => o.cls = .type "list_iterator" ∧ o.data = .fields #[.ref l, .int i 0]
noncomputable def GensOk (a b : Array GenState) : Prop := (∀ (g : Nat) (x : GenState), a[g]? = some x → b[g]? = some x) ∧ (AllBare a → AllBare b)
theorem GensOk.refl {a : Array GenState} : GensOk a a := ⟨fun _ _ e => e, id⟩
theorem GensOk.trans {a b c : Array GenState} (x : GensOk a b) (y : GensOk b c) : GensOk a c := ⟨fun g z e => y.1 g z (x.1 g z e), fun h => y.2 (x.2 h)⟩
structure St (h0 : Heap) (o0 : Shared) (cs : az) (s : Shared) : Prop where
 keep : ∀ b o, h0.get? b = some o → s.heap.get? b = some o
 cell : ∀ p ∈ cs, ∃ o, s.heap.get? p.1 = some o ∧ p.2 o
 new : ∀ p ∈ cs, h0.get? p.1 = none
 nodup : (cs.map Prod.fst).Nodup
 gens : GensOk o0.gens s.gens
 os : s.os = o0.os
 tok : s.toks ≠ 0
 flo : o0.toks ≤ s.toks
 big : ∀ p ∈ cs, 3 < p.1
 g3 : ∃ o, h0.get? 3 = some o
inductive Has : az → Addr → bM → Prop where
 | here {a c r} : Has ((a, c) :: r) a c
 | there {p a c r} : Has r a c → Has (p :: r) a c
inductive Put : az → Addr → bM → bM → az → Prop where
 | here {a c c' r} : Put ((a, c) :: r) a c c' ((a, c') :: r)
 | there {p a c c' r r'} : Put r a c c' r' → Put (p :: r) a c c' (p :: r')
inductive Look : List (Str × Value) → Str → Value → Prop where
 | here {x v r} : Look ((x, v) :: r) x v
 | there {x y u v r} : (x == y) = false → Look r x v → Look ((y, u) :: r) x v
inductive SetN : List (Str × Value) → Str → Value → List (Str × Value) → Prop where
 | new {x v} : SetN [] x v [(x, v)]
 | here {x u v r} : SetN ((x, u) :: r) x v ((x, v) :: r)
 | there {x y u v r r'} : (x == y) = false → SetN r x v r' → SetN ((y, u) :: r) x v ((y, u) :: r')
inductive Pick : az → Addr → bM → az → Prop where
 | here {a c r} : Pick ((a, c) :: r) a c r
 | there {p a c r r'} : Pick r a c r' → Pick (p :: r) a c (p :: r')
theorem Look.n {x y : Str} {u v : Value} {r : List (Str × Value)} (h : Look r x v) (e : (x == y) = false := by decide +kernel) : Look ((y, u) :: r) x v := .there e h
theorem SetN.n {x y : Str} {u v : Value} {r r' : List (Str × Value)} (h : SetN r x v r') (e : (x == y) = false := by decide +kernel) : SetN ((y, u) :: r) x v ((y, u) :: r') := .there e h
theorem Has.t2 {p q a c r} (h : Has r a c) : Has (p :: q :: r) a c := .there (.there h)
theorem Has.t4 {p q p2 q2 a c r} (h : Has r a c) : Has (p :: q :: p2 :: q2 :: r) a c := .t2 (.t2 h)
theorem Put.t2 {p q a c c' r r'} (h : Put r a c c' r') : Put (p :: q :: r) a c c' (p :: q :: r') := .there (.there h)
theorem Put.t4 {p q p2 q2 a c c' r r'} (h : Put r a c c' r') : Put (p :: q :: p2 :: q2 :: r) a c c' (p :: q :: p2 :: q2 :: r') := .t2 (.t2 h)
theorem Pick.t2 {p q a c r r'} (h : Pick r a c r') : Pick (p :: q :: r) a c (p :: q :: r') := .there (.there h)
theorem Pick.t4 {p q p2 q2 a c r r'} (h : Pick r a c r') : Pick (p :: q :: p2 :: q2 :: r) a c (p :: q :: p2 :: q2 :: r') := .t2 (.t2 h)
theorem Look.n4 {x y1 y2 y3 y4 : Str} {u1 u2 u3 u4 v : Value} {r : List (Str × Value)} (h : Look r x v) (e1 : (x == y1) = false := by decide +kernel) (e2 : (x == y2) = false := by decide +kernel) (e3 : (x == y3) = false := by decide +kernel) (e4 : (x == y4) = false := by decide +kernel) : Look ((y1, u1) :: (y2, u2) :: (y3, u3) :: (y4, u4) :: r) x v := .n (.n (.n (.n h e4) e3) e2) e1
theorem SetN.n4 {x y1 y2 y3 y4 : Str} {u1 u2 u3 u4 v : Value} {r r' : List (Str × Value)} (h : SetN r x v r') (e1 : (x == y1) = false := by decide +kernel) (e2 : (x == y2) = false := by decide +kernel) (e3 : (x == y3) = false := by decide +kernel) (e4 : (x == y4) = false := by decide +kernel) : SetN ((y1, u1) :: (y2, u2) :: (y3, u3) :: (y4, u4) :: r) x v ((y1, u1) :: (y2, u2) :: (y3, u3) :: (y4, u4) :: r') := .n (.n (.n (.n h e4) e3) e2) e1
theorem Pick.perm {cs a c r} (h : Pick cs a c r) : ((a, c) :: r).Perm cs := by
 induction h with
 | here => exact .refl _
 | there _ ih => exact (List.Perm.swap _ _ _).trans (ih.cons _)
theorem Has.mem {cs a c} (h : Has cs a c) : (a, c) ∈ cs := by
 induction h with
 | here => exact au
 | there _ ih => exact am _ ih
theorem Has.of_mem {cs : az} {a c} (h : (a, c) ∈ cs) : Has cs a c := by
 induction cs with
 | nil => cases h
 | cons p r ih =>
  rcases List.mem_cons.mp h with rfl | h
  ·exact .here
  ·exact .there (ih h)
theorem Has.app {cs K : az} {a c} (h : Has cs a c) : Has (cs ++ K) a c := .of_mem (List.mem_append_left _ h.mem)
theorem Put.has {cs a c c' cs'} (h : Put cs a c c' cs') : Has cs a c := by
 induction h with
 | here => exact .here
 | there _ ih => exact .there ih
theorem Put.addrs {cs a c c' cs'} (h : Put cs a c c' cs') : cs'.map Prod.fst = cs.map Prod.fst := by
 induction h with
 | here => rfl
 | there _ ih => simp [ih]
theorem Put.mem' {cs a c c' cs'} (h : Put cs a c c' cs') (nd : (cs.map Prod.fst).Nodup) : ∀ p ∈ cs', p = (a, c') ∨ (p ∈ cs ∧ p.1 ≠ a) := by
 induction h with
 | @here a c c' r =>
  intro p hp
  rcases List.mem_cons.mp hp with rfl | hp
  ·exact .inl rfl
  ·refine .inr ⟨am _ hp, fun e => ?_⟩
   rw [ap, List.nodup_cons] at nd
   have q : p.1 ∈ r.map Prod.fst := aq hp
   rw [e] at q
   exact nd.1 q
 | @there p a c c' r r' hr ih =>
  rw [ap, List.nodup_cons] at nd
  intro q hq
  rcases List.mem_cons.mp hq with rfl | hq
  ·refine .inr ⟨au, fun e => nd.1 ?_⟩
   rw [e]
   exact aq hr.has.mem
  ·rcases ih nd.2 q hq with h | ⟨h, h'⟩
   ·exact .inl h
   ·exact .inr ⟨am _ h, h'⟩
theorem Has.skip {xs r : az} {a c} (h : Has r a c) : Has (xs ++ r) a c := .of_mem (List.mem_append_right _ h.mem)
theorem Put.skip {xs r r' : az} {a c c'} (h : Put r a c c' r') : Put (xs ++ r) a c c' (xs ++ r') := by
 induction xs with
 | nil => exact h
 | cons p x ih => exact .there ih
theorem Pick.skip {xs r r' : az} {a c} (h : Pick r a c r') : Pick (xs ++ r) a c (xs ++ r') := by
 induction xs with
 | nil => exact h
 | cons p x ih => exact .there ih
theorem Look.eq {m x v} (h : Look m x v) : m.lookup x = some v := by
 induction h with
 | here => simp
 | there hn _ ih => simp only [List.lookup_cons, hn]; exact ih
theorem SetN.eq {m x v m'} (h : SetN m x v m') : (fun y => if y = x then some v else m.lookup y) = fun y => m'.lookup y := by
 induction h with
 | @new x v =>
  funext y
  by_cases hy : y = x
  ·subst hy; simp
  ·have : (y == x) = false := by simpa using hy
   simp [List.lookup_cons, hy, this]
 | @here x u v r =>
  funext y
  by_cases hy : y = x
  ·subst hy; simp
  ·have : (y == x) = false := by simpa using hy
   simp [List.lookup_cons, hy, this]
 | @there x y u v r r' hn _ ih =>
  funext z
  have ih := congrFun ih z
  by_cases hz : z = y
  ·subst hz
   have hzx : ¬ z = x := fun e => by subst e; simp at hn
   simp [hzx]
  ·have h1 : (z == y) = false := by simpa using hz
   simp only [List.lookup_cons, h1]
   exact ih
inductive NsSub : List (Str × Value) → List (Str × Value) → Prop where
 | nil {m} : NsSub [] m
 | cons {x v r m} : Look m x v → NsSub r m → NsSub ((x, v) :: r) m
theorem NsSub.look {m' m} (h : NsSub m' m) : ∀ x v, m'.lookup x = some v → m.lookup x = some v := by
 induction h with
 | nil => intro x v e; cases e
 | @cons y u r m hl _ ih =>
  intro x v e
  rw [List.lookup_cons] at e
  by_cases hx : (x == y) = true
  ·rw [hx] at e; cases e
   rw [beq_iff_eq.mp hx]; exact hl.eq
  ·rw [Bool.not_eq_true] at hx
   rw [hx] at e
   exact ih x v e
theorem cNs.sub {m' m : List (Str × Value)} {o : Obj} (h : cNs m o) (hs : NsSub m' m) : cNs m' o := by
 obtain ⟨es, ep, h1, h2, h3⟩ := h
 exact ⟨es, ep, h1, h2, fun x v e => h3 x v (hs.look x v e)⟩
section
variable {cs cs' : az}
theorem St.get {a : Addr} {c : bM} (H : St h0 o0 cs s) (h : Has cs a c) : ∃ o, s.heap.get? a = some o ∧ c o := H.cell _ h.mem
theorem St.grow {h' : Heap} {k : Nat} (H : St h0 o0 cs s) (hk : ∀ b o, s.heap.get? b = some o → h'.get? b = some o) (hk' : s.toks ≤ k) : St h0 o0 cs { s with heap := h', toks := k } :=
 ⟨fun b o e => hk b o (H.keep b o e), fun p hp => let ⟨o, ho, hc⟩ := H.cell p hp; ⟨o, hk _ _ ho, hc⟩, H.new, H.nodup, H.gens, H.os, (by have := H.tok; show k ≠ 0; lia), Nat.le_trans H.flo hk', H.big, H.g3⟩
theorem St.toks {k : Nat} (H : St h0 o0 cs s) (hk' : s.toks ≤ k) : St h0 o0 cs { s with toks := k } := H.grow (h' := s.heap) (fun _ _ e => e) hk'
theorem St.fresh {a : Addr} (H : St h0 o0 cs s) (ha : s.heap.objs.size ≤ a) : a ∉ cs.map Prod.fst ∧ h0.get? a = none ∧ 3 < a := by
 refine ⟨?_, ?_, ?_⟩
 ·intro hm
  obtain ⟨p, hp, rfl⟩ := List.mem_map.mp hm
  obtain ⟨o, ho, _⟩ := H.cell p hp
  exact Nat.lt_irrefl _ (Nat.lt_of_lt_of_le (Heap.lt_size ho) ha)
 ·cases e : h0.get? a with
  | none => rfl
  | some o => exact absurd (Heap.lt_size (H.keep _ _ e)) (Nat.not_lt.mpr ha)
 ·obtain ⟨o, ho⟩ := H.g3
  exact Nat.lt_of_lt_of_le (Heap.lt_size (H.keep _ _ ho)) ha
theorem St.more {h' : Heap} {k : Nat} {a : Addr} {c : bM} (H : St h0 o0 cs s) (ha : s.heap.objs.size ≤ a) (hc : ∃ o, h'.get? a = some o ∧ c o)
  (hk : ∀ b o, s.heap.get? b = some o → h'.get? b = some o) (hk' : s.toks ≤ k) : St h0 o0 ((a, c) :: cs) { s with heap := h', toks := k } := by
 have f := H.fresh ha
 have G := H.grow hk hk'
 refine ⟨G.keep, fun p hp => ?_, fun p hp => ?_, ?_, G.gens, G.os, G.tok, G.flo, fun p hp => ?_, H.g3⟩
 ·rcases List.mem_cons.mp hp with rfl | hp
  ·exact hc
  ·exact G.cell p hp
 ·rcases List.mem_cons.mp hp with rfl | hp
  ·exact f.2.1
  ·exact G.new p hp
 ·rw [ap, List.nodup_cons]; exact ⟨f.1, H.nodup⟩
 ·rcases List.mem_cons.mp hp with rfl | hp
  ·exact f.2.2
  ·exact G.big p hp
theorem St.push {k : Nat} {o : Obj} {c : bM} (H : St h0 o0 cs s) (hc : c o) (hk' : s.toks ≤ k) (hf : o.isFreed = false := by rfl) :
  St h0 o0 ((s.heap.objs.size, c) :: cs) { s with heap := s.heap.push o, toks := k } :=
 H.more (ae _) ⟨o, Heap.get?_push_size _ hf, hc⟩ (fun b o e => Heap.get?_push_of_some _ e) hk'
theorem St.upd {h' : Heap} {k : Nat} {a : Addr} {c c' : bM} (H : St h0 o0 cs s) (hp : Put cs a c c' cs') (hc : ∃ o, h'.get? a = some o ∧ c' o)
  (hk : ∀ b o, b ≠ a → s.heap.get? b = some o → h'.get? b = some o) (hk' : s.toks ≤ k) : St h0 o0 cs' { s with heap := h', toks := k } := by
 have hm := hp.mem' H.nodup
 have hn : h0.get? a = none := H.new _ hp.has.mem
 refine ⟨fun b o e => hk b o (fun q => by subst q; rw [hn] at e; cases e) (H.keep b o e), fun p q => ?_, fun p q => ?_, ?_, H.gens, H.os, (by have := H.tok; show k ≠ 0; lia), Nat.le_trans H.flo hk', fun p q => ?_, H.g3⟩
 ·rcases hm p q with rfl | ⟨h1, h2⟩
  ·exact hc
  ·obtain ⟨o, ho, hc⟩ := H.cell p h1
   exact ⟨o, hk _ _ h2 ho, hc⟩
 ·rcases hm p q with rfl | ⟨h1, h2⟩
  ·exact hn
  ·exact H.new p h1
 ·rw [hp.addrs]; exact H.nodup
 ·rcases hm p q with rfl | ⟨h1, h2⟩
  ·exact H.big (a, c) hp.has.mem
  ·exact H.big p h1
theorem St.updS {h' : Heap} {k : Nat} {a : Addr} {c c' : bM} (H : St h0 o0 cs s) (hp : Put cs a c c' cs') (hc : ∃ o, h'.get? a = some o ∧ c' o)
  (hk : Heap.SameBut a s.heap h') (hk' : s.toks ≤ k) : St h0 o0 cs' { s with heap := h', toks := k } :=
 H.upd hp hc (fun b o hb e => (hk.2 b hb).trans e) hk'
theorem St.sub (H : St h0 o0 cs s) (hs : cs'.Sublist cs) : St h0 o0 cs' s :=
 ⟨H.keep, fun p hp => H.cell p (hs.subset hp), fun p hp => H.new p (hs.subset hp), H.nodup.sublist (hs.map _), H.gens, H.os, H.tok, H.flo, fun p hp => H.big p (hs.subset hp), H.g3⟩
theorem St.perm (H : St h0 o0 cs s) (hs : cs'.Perm cs) : St h0 o0 cs' s :=
 ⟨H.keep, fun p hp => H.cell p (hs.mem_iff.mp hp), fun p hp => H.new p (hs.mem_iff.mp hp), ((hs.map Prod.fst).nodup_iff).mpr H.nodup, H.gens, H.os, H.tok, H.flo, fun p hp => H.big p (hs.mem_iff.mp hp), H.g3⟩
theorem St.weak {a : Addr} {c c' : bM} (H : St h0 o0 cs s) (hp : Put cs a c c' cs') (hc : ∀ o, c o → c' o) : St h0 o0 cs' s := by
 obtain ⟨o, ho, hco⟩ := H.get hp.has
 exact H.upd (h' := s.heap) (k := s.toks) hp ⟨o, ho, hc o hco⟩ (fun _ _ _ e => e) (ae _)
theorem St.pick {a c r} (H : St h0 o0 cs s) (h : Pick cs a c r) : St h0 o0 ((a, c) :: r) s := H.perm h.perm
theorem St.tail {p} (H : St h0 o0 (p :: cs) s) : St h0 o0 cs s := H.sub (ak _ _)
theorem St.rebase (H : St h0 o0 cs s) : St h0 s cs s := ⟨H.keep, H.cell, H.new, H.nodup, .refl, rfl, H.tok, ae _, H.big, H.g3⟩
theorem St.back {s' : Shared} (H0 : St h0 o0 cs s) (H : St h0 s cs' s') : St h0 o0 cs' s' := ⟨H.keep, H.cell, H.new, H.nodup, H0.gens.trans H.gens, H.os.trans H0.os, H.tok, Nat.le_trans H0.flo H.flo, H.big, H.g3⟩
end
section
variable {M : Model} {cs cs' : az}
theorem eY {a : Addr} {m} (H : St h0 o0 cs s) (h : Has cs a (cNs m)) : ∃ f, s.heap.Ns a f ∧ ∀ x v, m.lookup x = some v → f x = some v := by
 obtain ⟨o, ho, es, ep, hd, hk, hf⟩ := H.get h
 exact ⟨nsFind es, ⟨o, es, ep, ho, hd, hk, fun _ => rfl⟩, hf⟩
theorem dD {h : Heap} {a : Addr} {m : List (Str × Value)} {f : Str → Option Value} (hn : h.Ns a f) (e : ∀ x v, m.lookup x = some v → f x = some v) : ∃ o, h.get? a = some o ∧ cNs m o := by
 obtain ⟨o, es, ep, ho, hd, hk, hf⟩ := hn
 exact ⟨o, ho, es, ep, hd, hk, fun x v q => (hf x).trans (e x v q)⟩
theorem aU {a : Addr} {xs} (H : St h0 o0 cs s) (h : Has cs a (ay xs)) : s.heap.IsList a xs.toArray := by
 obtain ⟨o, ho, n, rfl⟩ := H.get h
 exact ⟨_, ho, rfl, n, rfl⟩
theorem ou {a : Addr} {xs} (H : St h0 o0 cs s) (h : Has cs a (ay xs)) : s.heap.PlainList a xs.toArray := by
 obtain ⟨o, ho, n, rfl⟩ := H.get h
 exact ⟨n, ho⟩
theorem ox {h : Heap} {a : Addr} {xs : List Value} {ys : Array Value} (hl : h.PlainList a ys) (e : ys = xs.toArray) : ∃ o, h.get? a = some o ∧ ay xs o := by
 obtain ⟨n, hn⟩ := hl
 exact ⟨_, hn, n, by rw [e]⟩
theorem fw {a : Addr} {xs} (H : St h0 o0 cs s) (h : Has cs a (a8 xs)) : s.heap.IsTuple a xs.toArray := by
 obtain ⟨o, ho, n, rfl⟩ := H.get h
 exact ⟨_, ho, rfl, n, rfl⟩
theorem lY {x : Str} {k : Nat} {pos : Pos} {Q : VP} (H : St h0 o0 cs s) (h : ∀ s', St h0 o0 cs s' → s'.toks = s.toks + 1 → Q (.str x s.toks) s') :
  wpAny M A (eval (.Constant (.str x) k pos) env) Q E s := Calls.Constant_str (h _ (H.toks (Nat.le_succ _)) rfl)
theorem x_int {i : Int} {k : Nat} {pos : Pos} {Q : VP} (H : St h0 o0 cs s) (h : ∀ t s', St h0 o0 cs s' → s'.toks = s.toks + 1 → Q (.int i t) s') :
  wpAny M A (eval (.Constant (.int i) k pos) env) Q E s := wpAny_Constant_int (h _ _ (H.toks (Nat.le_succ _)) rfl)
theorem eI {x : Str} {pos : Pos} {L : Addr} {m} {v : Value} {Q : VP} (H : St h0 o0 cs s) (hp : Has cs L (cNs m)) (hL : env.locals = L) (hv : Look m x v) (hk : env.scope.kind = .function)
  (hl : env.kindOf x = some .local) (hd : (x == ("__debug__" : Str)) = false) (h : Q v s) : wpAny M A (eval (.Name x pos) env) Q E s := by
 obtain ⟨f, hf, hm⟩ := eY H hp
 subst hL
 exact wpAny_Name (wpAny_loadName_local hk hl hf (hm _ _ hv.eq) h) hd
noncomputable def bA (h0 : Heap) (x : Str) (v : Value) : Prop := ∃ mg, h0.Ns mainGlobals mg ∧ mg x = some v
noncomputable def bD (h0 : Heap) (x : Str) (v : Value) : Prop := ∃ mg mb, h0.Ns mainGlobals mg ∧ mg x = none ∧ h0.Ns builtinsNs mb ∧ mb x = some v
theorem x_glob {x : Str} {pos : Pos} {v : Value} {Q : VP} (H : St h0 o0 cs s) (hg : bA h0 x v) (hk : env.scope.kind = .function) (hl : env.kindOf x = some .globalImplicit)
  (he : env.globals = mainGlobals) (hd : (x == ("__debug__" : Str)) = false) (h : Q v s) : wpAny M A (eval (.Name x pos) env) Q E s := by
 obtain ⟨mg, hn, hv⟩ := hg
 exact Name_function_global hk hl (loadGlobal_global (he ▸ hn.keeps H.keep) hv h) hd
theorem x_blt {x : Str} {pos : Pos} {v : Value} {Q : VP} (H : St h0 o0 cs s) (hg : bD h0 x v) (hk : env.scope.kind = .function) (hl : env.kindOf x = some .globalImplicit)
  (he : env.globals = mainGlobals) (hb : env.builtins = builtinsNs) (hd : (x == ("__debug__" : Str)) = false) (h : Q v s) : wpAny M A (eval (.Name x pos) env) Q E s := by
 obtain ⟨mg, mb, hn, hm, hb', hv⟩ := hg
 exact Name_function_global hk hl (loadGlobal_builtin (he ▸ hn.keeps H.keep) hm (hb ▸ hb'.keeps H.keep) hv h) hd
theorem iZ {x : Str} {L : Addr} {m m'} {v : Value} {Q : Unit → Shared → Prop} (H : St h0 o0 cs s) (hp : Put cs L (cNs m) (cNs m') cs') (hL : env.locals = L) (hs : SetN m x v m') (hk : env.scope.kind = .function)
  (hl : env.kindOf x = some .local) (h : ∀ s', St h0 o0 cs' s' → Q () s') : wpAny M A (storeName env x v) Q E s := by
 obtain ⟨f, hf, hm⟩ := eY H hp.has
 subst hL
 refine wpAny_storeName_local hl hf (fun h' hn hsb => ?_) (by rw [hk]; rfl)
 refine h _ (H.updS hp (dD hn fun y u q => ?_) hsb (Nat.le_succ _))
 have q' : (if y = x then some v else m.lookup y) = some u := (congrFun hs.eq y).trans q
 by_cases hy : y = x
 ·rw [if_pos hy] at q' ⊢; exact q'
 ·rw [if_neg hy] at q' ⊢; exact hm _ _ q'
theorem x_try {body : List Stmt} {h₀ : ExceptHandler} {hs : List ExceptHandler} {pos : Pos} {Q : FP}
  (h : wpAny (model prog w) A (execs body env) Q NoE s) (hQ : ∀ s', ¬ Q .next s' ∨ True) :
  wpAny (model prog w) A (exec (.Try body (h₀ :: hs) [] [] pos) env) Q E s := by
 refine wpAny_Try_except (ad h (fun f s₁ q => ?_) fun _ _ q => q.elim)
 cases f <;> first | exact q | exact wpAny_execs_nil q
end
structure Base (K : Frag) (h0 : Heap) : Prop where
 X : K.In h0
 lim : h0.NoLimit
 blt : ∃ mb, h0.Ns builtinsNs mb ∧ ∀ x : Str, x ≠ "__name__" → mb x = bootBuiltins x
noncomputable def eh (K : Frag) : Array DictEntry := match K.lookup mainGlobals with
 | some ⟨_, _, .dict es _, _⟩ => es
 | _ => #[]
noncomputable def fb (K : Frag) : Bool := (match K.lookup mainGlobals with | some ⟨_, _, .dict _ _, _⟩ => true | _ => false) && (eh K).toList.all fun e => match e.key with | .str _ _ => true | _ => false
noncomputable def aK (K : Frag) (a : Addr) : FuncData := match K.lookup a with
 | some ⟨_, _, .func fd, _⟩ => fd
 | _ => default
noncomputable def aZ (K : Frag) (a : Addr) : List Stmt := match (aK K a).body with
 | .stmts b => b
 | _ => []
noncomputable def jo : FuncBody → Bool
 | .stmts _ => true
 | _ => false
noncomputable def pI (K : Frag) (a : Addr) : Bool := match K.lookup a with
 | some ⟨_, _, .func fd, _⟩ => codeIn K fd.code fd.qualname && !fd.scope.isCoroutine && !fd.scope.isGenerator && fd.scope.kind == .function && fd.scope.names.all (fun x => x.2 != .cell) && jo fd.body
 | _ => false
section
variable {K : Frag}
theorem Base.ns (B : Base K h0) (ok : fb K = true) : h0.Ns mainGlobals (nsFind (eh K)) := by
 unfold fb at ok
 obtain ⟨ok1, ok2⟩ := Bool.and_eq_true_iff.mp ok
 unfold eh at *
 split at ok1
 ·rename_i c d es ep sl ho
  refine ⟨_, es, ep, B.X _ _ ho, rfl, ?_, fun _ => by simp only⟩
  simp only [ho] at ok2
  intro e he
  have := List.all_eq_true.mp ok2 e (Array.mem_toList_iff.mpr he)
  split at this
  ·rename_i n t hk; exact ⟨n, t, hk⟩
  ·cases this
 ·cases ok1
theorem Base.glob (B : Base K h0) (ok : fb K = true) {x : Str} {v : Value} (hx : nsFind (eh K) x = some v) : bA h0 x v := ⟨_, B.ns ok, hx⟩
theorem Base.bltAt (B : Base K h0) (ok : fb K = true) {x : Str} {v : Value} (hx : nsFind (eh K) x = none) (hn : x ≠ "__name__") (hb : bootBuiltins x = some v) : bD h0 x v := by
 obtain ⟨mb, h1, h2⟩ := B.blt
 exact ⟨_, mb, B.ns ok, hx, h1, (h2 x hn).trans hb⟩
end
section
variable {cs cs' : az} {K : Frag}
theorem di {α : Type} {t : Sem α} {Q : α → Shared → Prop} {M : Model} (h : wpAny M A t (fun v s' => s.toks ≤ s'.toks → Q v s') E s) : wpAny M A t Q E s :=
 wpAny_with_toks (ae _) (ad h (fun _ _ q => q) fun _ _ q _ => q)
theorem mM {x y z : Str} {t u v : Tok} {Q : VP} (H : St h0 o0 cs s) (hu : u ≠ 0) (hv : v ≠ 0) (huv : u ≠ v) (hyz : (y == z) = false)
  (hb : x.length + (x.length + 1) * z.length ≤ 16777216) (h : ∀ t' s', St h0 o0 cs s' → Q (.str (Txt.replace x y z) t') s') :
  wpAny (model prog w) A (call (.builtin "str.replace") [.str x t, .str y u, .str z v]) Q E s :=
 di (SC.replace hu hv huv hyz hb fun t' k hk => h t' _ (H.toks hk))
theorem gC {x y z : Str} (h : Txt.contains x y = false) : Txt.replace x y z = x := by
 unfold Txt.contains at h
 have h1 : (Builtin.Str.occurrences x y 0 x.length 1).isEmpty = true := by simpa using h
 have h2 : (Builtin.Str.occurrences x y 0 x.length (x.length + 1)).isEmpty = true := by
  rcases StrLaws.occ_head_from x y 0 (x.length + 1) (by lia) with ⟨e, _⟩ | ⟨i, r, e, hi, ha, _⟩
  ·rw [e]; rfl
  ·rcases StrLaws.occ_head_from x y 0 1 (by lia) with ⟨_, hn⟩ | ⟨i', r', e', _⟩
   ·exact absurd ha (hn i hi)
   ·rw [e'] at h1; cases h1
 unfold Txt.replace
 rw [h2]; rfl
theorem x_escIf {x c r txt : Str} {t : Tok} {L : Addr} {k1 k2 k3 : Nat} {p1 p2 p3 p4 p5 p6 p7 p8 p9 p10 p11 : Pos} {Q : FP}
  (H : St h0 o0 ((L, cNs [(x, .str txt t)]) :: cs) s) (hL : env.locals = L) (hk : env.scope.kind = .function) (hl : env.kindOf x = some .local) (hd : (x == ("__debug__" : Str)) = false)
  (hb : txt.length + (txt.length + 1) * r.length ≤ 16777216) (hyz : (c == r) = false) (hline : (p6.endLine == p9.line) = true)
  (h : ∀ t' s', St h0 o0 ((L, cNs [(x, .str (Txt.replace txt c r) t')]) :: cs) s' → Q .next s') :
  wpAny (model prog w) A (exec (.If (.Compare (.Constant (.str c) k1 p1) [.In] [.Name x p2] p3)
   [.Assign [.Name x p4] (.Call (.Attribute (.Name x p5) (ofString "replace") p6) [.Constant (.str c) k2 p7, .Constant (.str r) k3 p8] [] p9) p10] [] p11) env) Q E s := by
 refine wpAny_If (wpAny_isTrue_Compare1 ?_ (by rfl))
 refine lY H fun s1 H e1 => ?_
 refine eI H .here hL .here hk hl hd ?_
 refine PyProof.Rows.in_str (wpAny_truthy_bool ?_)
 split
 ·refine wpAny_execs_cons (wpAny_Assign_Name ?_)
  refine wpAny_Call_method (T := "str") (id := "str.replace") rfl (by rfl) hline F.plainAttrs_str F.slot_str_replace F.type_str_replace ?_
  refine eI H .here hL .here hk hl hd ?_
  refine ⟨typeIs_str _ _ _, fun a e => (by cases e), ?_⟩
  refine callWith_method1 (args_cons ?_)
  refine lY H fun s2 H2 e2 => args_cons (lY H2 fun s3 H3 e3 => args_nil ?_)
  have := H.tok; have := H2.tok
  refine mM H3 (by lia) (by lia) (Nat.ne_of_lt (by lia)) hyz hb fun t' s4 H4 => ?_
  exact iZ H4 .here hL .here hk hl fun s5 H5 => wpAny_execs_nil (h _ _ H5)
 ·rename_i hc
  refine wpAny_execs_nil ?_
  have hc' : Txt.contains txt c = false := by unfold Txt.contains; simpa using hc
  refine h t _ ?_
  rw [gC hc']
  exact H
end
theorem lp1 {n i k : Nat} (h : n - i = k + 1) : n - (i + 1) = k := by lia
theorem lp2 {n i : Nat} (h : n - i = 0) (h2 : i ≤ n) : i = n := by lia
theorem lp3 {n i k : Nat} (h : n - i = k + 1) : i < n := by lia
theorem lp4 {n i : Nat} (h : i < n) : n - (i + 1) < n - i := by lia
theorem lp5 {j k : Nat} (h : ¬ j < k) (h2 : j < k + 1) : j = k := by lia
section
variable {cs cs' : az} {K : az}
structure cH (prog : Program) (w : World) (A : Around) (h0 : Heap) (o0 : Shared) (it : Value) (f : Nat → az) (n : Nat) (V : Nat → Value → Prop) (Pre : az → Prop) : Prop where
 next : ∀ i C s (Q : Option Value → Shared → Prop) E, i < n → Pre C → St h0 o0 (f i ++ C) s → (∀ v s', V i v → St h0 o0 (f (i + 1) ++ C) s' → Q (some v) s') → wpAny (model prog w) A (pyNext it) Q E s
 done : ∀ C s (Q : Option Value → Shared → Prop) E, Pre C → St h0 o0 (f n ++ C) s → (∀ s', St h0 o0 C s' → Q none s') → wpAny (model prog w) A (pyNext it) Q E s
 self : ∀ i C s (Q : VP) E, St h0 o0 (f i ++ C) s → Q it s → wpAny (model prog w) A (pyIter it) Q E s
 mono : ∀ C C', Pre C → (∀ p ∈ C, p ∈ C') → Pre C'
 own : ∀ target i C v s (Q : Unit → Shared → Prop) E, V i v → St h0 o0 (f (i + 1) ++ C) s → (∀ s', St h0 o0 (f (i + 1) ++ C) s' → Q () s') → wpAny (model prog w) A (letOwnedTupleGo target it v) Q E s
theorem cR {a l : Addr} {i : Nat} (H : St h0 o0 cs s) (h : Has cs a (ce l i)) : s.heap.IsListIter a l i := by
 obtain ⟨o, ho, hc, hd⟩ := H.get h
 exact ⟨o, ho, hc, hd⟩
theorem m9 {target : Expr} {it : Addr} {l : Addr} {i : Nat} {v : Value} {Q : Unit → Shared → Prop} (hit : s.heap.IsListIter it l i) (h : Q () s) : wpAny (model prog w) A (letOwnedTupleGo target (.ref it) v) Q E s := by
 obtain ⟨o, ho, hc, hd⟩ := hit
 unfold letOwnedTupleGo
 split
 all_goals first
  | exact ab h
  | (cases v with
   | ref a =>
    refine aa (wpAny_load ho ?_)
    rw [hc, hd]
    show wpAny _ _ (if (["enumerate", "zip", "dict_itemiterator", "dict_reverseitemiterator", "odict_iterator", "itertools.zip_longest", "itertools.pairwise"].contains "list_iterator" && _) = true then _ else _) _ _ _
    rw [show (["enumerate", "zip", "dict_itemiterator", "dict_reverseitemiterator", "odict_iterator", "itertools.zip_longest", "itertools.pairwise"].contains "list_iterator") = false from by decide, Bool.false_and]
    exact ab h
   | _ => exact ab h)
theorem cx {it l : Addr} {xs : List Value} (hh : A.handled = none) : cH prog w A h0 o0 (.ref it) (fun i => [(it, ce l i)]) xs.length (fun i v => xs[i]? = some v) (fun C => Has C l (ay xs)) where
 next := fun i C s Q E hi hl H hQ => by
  have hl' : s.heap.IsList l xs.toArray := aU H (.there hl)
  have hit : s.heap.IsListIter it l i := cR H .here
  refine wpAny_pyNext_list_item hit hl' (x := xs[i]) (by simp [hi]) fun h' hit' hs' => ?_
  refine hQ _ _ (by simp [hi]) (H.updS (k := s.toks) .here ?_ hs' (ae _))
  obtain ⟨o, a, b, c⟩ := hit'
  exact ⟨o, a, b, c⟩
 done := fun C s Q E hl H hQ => by
  have hl' : s.heap.IsList l xs.toArray := aU H (.there hl)
  have hit : s.heap.IsListIter it l xs.length := cR H .here
  refine wpAny_pyNext_list_end hh hit hl' (by simp) fun h' he' => hQ _ ?_
  have hn := H.new (it, ce l xs.length) (by simp)
  have hd := H.nodup
  simp only [List.singleton_append, ap, List.nodup_cons] at hd
  refine ⟨fun b o e => he' b o (fun q => ?_) (H.keep b o e), fun p hp => ?_, fun p hp => H.new p (by simp [hp]), hd.2, H.gens, H.os, H.tok, H.flo, fun p hp => H.big p (by simp [hp]), H.g3⟩
  ·subst q; simp only at hn; rw [hn] at e; cases e
  ·obtain ⟨o, ho, hc⟩ := H.cell p (by simp [hp])
   exact ⟨o, he' _ _ (fun q => hd.1 (q ▸ aq hp)) ho, hc⟩
 self := fun i C s Q E H h => wpAny_pyIter_listiter (cR H .here) h
 mono := fun C C' h hs => Has.of_mem (hs _ h.mem)
 own := fun target i C v s Q E hv H h => m9 (cR H .here) (h _ H)
noncomputable def mE (I : Addr) (S : Nat → Heap → Prop) (i : Nat) : bM := fun o => ∀ h : Heap, h.get? I = some o → S i h
theorem iI {target : Expr} {it v : Value} {Q : Unit → Shared → Prop} (hv : ∀ a, v ≠ .ref a) (h : Q () s) : wpAny (model prog w) A (letOwnedTupleGo target it v) Q E s := by
 unfold letOwnedTupleGo
 split
 all_goals first
  | exact ab h
  | (cases v with
   | ref a => exact absurd rfl (hv a)
   | _ => cases it <;> exact ab h)
theorem jU {I : Addr} {n : Nat} {P : Nat → Value → Prop} {S : Nat → Heap → Prop} (W : Walks prog w A I [I] [I] n P S) (hv : ∀ i v, P i v → ∀ a, v ≠ .ref a) (hex : ∀ i h, S i h → ∃ o, h.get? I = some o) :
  cH prog w A h0 o0 (.ref I) (fun i => [(I, mE I S i)]) n P (fun _ => True) where
 next := fun i C s Q E hi _ H hQ => by
  obtain ⟨o, ho, hc⟩ := H.get .here
  refine di (W.item i s _ _ hi (hc _ ho) fun v h' tk hP hS hk htk => ?_)
  have hn : h0.get? I = none := H.new (I, mE I S i) (by simp)
  refine hQ v _ hP (H.upd .here ?_ (fun b o hb e => hk b o (by simpa using hb) e) htk)
  obtain ⟨o', ho'⟩ := hex _ _ hS
  refine ⟨o', ho', fun h hh => W.frame _ _ _ hS fun b hb o e => ?_⟩
  rw [List.mem_singleton.mp hb] at e ⊢
  rw [ho'] at e; cases e
  exact hh
 done := fun C s Q E _ H hQ => by
  obtain ⟨o, ho, hc⟩ := H.get .here
  refine di (W.done s _ _ (hc _ ho) fun h' tk hk htk => hQ _ ?_)
  have hn := H.new (I, mE I S n) (by simp)
  have hd := H.nodup
  simp only [List.singleton_append, ap, List.nodup_cons] at hd
  refine ⟨fun b o e => hk b o (fun q => ?_) (H.keep b o e), fun p hp => ?_, fun p hp => H.new p (by simp [hp]), hd.2, H.gens, H.os, (by have := H.tok; simp only at htk ⊢; lia), Nat.le_trans H.flo htk, fun p hp => H.big p (by simp [hp]), H.g3⟩
  ·rw [List.mem_singleton.mp q] at e; simp only at hn; rw [hn] at e; cases e
  ·obtain ⟨o, ho, hc⟩ := H.cell p (by simp [hp])
   refine ⟨o, hk _ _ (fun q => hd.1 ?_) ho, hc⟩
   have := aq (f := Prod.fst) hp
   rwa [List.mem_singleton.mp q] at this
 self := fun i C s Q E H h => by
  obtain ⟨o, ho, hc⟩ := H.get .here
  exact W.self i s Q E (hc _ ho) h
 mono := fun _ _ _ _ => trivial
 own := fun target i C v s Q E hP H h => iI (hv i v hP) (h _ H)
theorem St.swap {a b c : az} (H : St h0 o0 (a ++ (b ++ c)) s) : St h0 o0 (b ++ (a ++ c)) s :=
 H.perm (by rw [← an, ← an]; exact List.Perm.append_right _ List.perm_append_comm)
theorem St.drop {a b c : az} (H : St h0 o0 (b ++ (a ++ c)) s) : St h0 o0 (b ++ c) s :=
 H.sub (List.Sublist.append (List.Sublist.refl _) (List.sublist_append_right _ _))
theorem pH {target : Expr} {it : Value} {body : List Stmt} {f : Nat → az} {n : Nat} {V : Nat → Value → Prop} {Pre : az → Prop} {R : FP} {R' : RP} (S : cH prog w A h0 o0 it f n V Pre) (P : Nat → az → Prop)
  (hPre : ∀ i C, P i C → Pre (C ++ K))
  (turn : ∀ i v C K' s, i < n → V i v → P i C → (∀ C s, St h0 o0 (C ++ K') s → St h0 o0 (C ++ K) s) → St h0 o0 (C ++ K') s →
   wpAny (model prog w) A (assign target env v) (fun _ s₂ => wpAny (model prog w) A (execs body env) (fun f s₃ => match f with
    | .next | .cont => ∃ C', P (i + 1) C' ∧ St h0 o0 (C' ++ K') s₃
    | .brk => R .next s₃
    | .ret v => R (.ret v) s₃) NoE s₂) NoE s)
  (fin : ∀ C s, P n C → St h0 o0 (C ++ K) s → R .next s) (hR : ∀ f s, R f s → R' (.ok f) s) {C0 : az} (h0P : P 0 C0) (H : St h0 o0 (f 0 ++ (C0 ++ K)) s) :
  codeAny (model prog w) A (.forLoop target it body [] env) R' s := by
 refine codeAny_loop' rfl (fun k s => ∃ i C, i ≤ n ∧ k = n - i ∧ P i C ∧ St h0 o0 (f i ++ (C ++ K)) s) (fun k s hI => ?_) n ⟨0, C0, Nat.zero_le _, rfl, h0P, H⟩
 obtain ⟨i, C, hi, rfl, hP, H⟩ := hI
 show wpAny _ _ ((forTurn target it body [] env).onRaise (fun x => do noteFrame x env; theTreesLotGoes x)) _ _ s
 refine wpAny_noted ?_
 simp only [forTurn]
 refine ad (E := NoE) ?_ (fun _ _ q => q) (fun _ _ q => q.elim)
 refine aa (wpAny_standAt (aa (wpAny_onRaise (ad (E := NoE) ?_ (fun _ _ q => q) (fun _ _ q => q.elim)))))
 rcases Nat.lt_or_ge i n with hlt | hge
 ·refine S.next i _ s _ _ hlt (hPre i C hP) H fun v s1 hv H1 => ?_
  refine aa (S.own target i _ v s1 _ _ hv H1 fun s2 H2 => ?_)
  refine aa (ad (turn i v C (f (i + 1) ++ K) s2 hlt hv hP (fun C s q => q.drop) H2.swap) (fun _ s3 q3 => ?_) fun _ _ q => q)
  refine aa (ad q3 (fun fl s4 q4 => ?_) fun _ _ q => q)
  cases fl with
  | next =>
   obtain ⟨C', hP', H'⟩ := q4
   exact ab (.inl ⟨rfl, n - (i + 1), lp4 hlt, i + 1, C', hlt, rfl, hP', H'.swap⟩)
  | cont =>
   obtain ⟨C', hP', H'⟩ := q4
   exact ab (.inl ⟨rfl, n - (i + 1), lp4 hlt, i + 1, C', hlt, rfl, hP', H'.swap⟩)
  | brk => exact ab (hR _ _ q4)
  | ret v => exact ab (hR _ _ q4)
 ·have e : i = n := Nat.le_antisymm hi hge
  subst e
  exact S.done _ s _ _ (hPre i C hP) H fun s1 H1 => ab (.inr ⟨rfl, codeAny_block (wpAny_execs_nil (hR _ _ (fin C s1 hP H1)))⟩)
theorem kY {target iter : Expr} {body : List Stmt} {pos : Pos} {Q : FP} (hh : A.handled = none)
  (h : wpAny (model prog w) A (eval iter env) (fun x s₁ => ∃ l xs C0 K, ∃ P : Nat → az → Prop, x = .ref l ∧ P 0 C0 ∧ St h0 o0 (C0 ++ K) s₁ ∧ (∀ i C, P i C → Has (C ++ K) l (ay xs)) ∧
   (∀ i v C K' s, xs[i]? = some v → P i C → (∀ C s, St h0 o0 (C ++ K') s → St h0 o0 (C ++ K) s) → St h0 o0 (C ++ K') s →
    wpAny (model prog w) A (assign target env v) (fun _ s₂ => wpAny (model prog w) A (execs body env) (fun f s₃ => match f with
     | .next | .cont => ∃ C', P (i + 1) C' ∧ St h0 o0 (C' ++ K') s₃
     | .brk => Q .next s₃
     | .ret v => Q (.ret v) s₃) NoE s₂) NoE s) ∧
   (∀ C s, P xs.length C → St h0 o0 (C ++ K) s → Q .next s)) E s)
  (hs : ∀ x, foldedSetIterable iter env x = pure x) :
  wpAny (model prog w) A (exec (.For target iter body [] pos) env) Q E s := by
 refine wpAny_For (ad h (fun x s₁ h₁ => ?_) fun _ _ q => q) hs
 obtain ⟨l, xs, C0, K, P, rfl, hP0, H, hl, turn, fin⟩ := h₁
 have hl' := hl 0 C0 hP0
 refine wpAny_pyIter_list (aU H hl') ?_
 have H2 : St h0 o0 ((s₁.heap.objs.size, ce l 0) :: (C0 ++ K)) { s₁ with heap := s₁.heap.push { cls := .type "list_iterator", data := .fields #[.ref l, .int 0 0] } } :=
  H.push (k := s₁.toks) (c := ce l 0) ⟨rfl, rfl⟩ (ae _)
 refine pH (R := Q) (cx (l := l) (xs := xs) hh) P (fun i C hP => hl i C hP) (fun i v C K' s hi hv hP hK H => turn i v C K' s hv hP hK H) fin (fun f s q => q) hP0 H2
theorem x_while {test : Expr} {body : List Stmt} {pos : Pos} {Q : FP} (P : Nat → az → Prop)
  (turn : ∀ n C s, P n C → St h0 o0 (C ++ K) s → wpAny (model prog w) A (isTrue test env (eval test env)) (fun b s₂ =>
   if b then wpAny (model prog w) A (execs body env) (fun f s₃ => match f with
    | .next | .cont => ∃ m C', m < n ∧ P m C' ∧ St h0 o0 (C' ++ K) s₃
    | .brk => Q .next s₃
    | .ret v => Q (.ret v) s₃) NoE s₂
   else Q .next s₂) NoE s) {n : Nat} {C0 : az} (hP : P n C0) (H : St h0 o0 (C0 ++ K) s) :
  wpAny (model prog w) A (exec (.While test body [] pos) env) Q E s := by
 refine wpAny_While (codeAny_whileLoop (fun n s => ∃ C, P n C ∧ St h0 o0 (C ++ K) s) (fun n s hI => ?_) n ⟨C0, hP, H⟩)
 obtain ⟨C, hP, H⟩ := hI
 refine ad (turn n C s hP H) (fun b s₂ q => ?_) fun _ _ q => q.elim
 cases b with
 | true =>
  simp only [if_true] at q ⊢
  refine ad q (fun f s₃ q => ?_) fun _ _ q => q.elim
  cases f with
  | next => obtain ⟨m, C', h1, h2, h3⟩ := q; exact ⟨m, h1, C', h2, h3⟩
  | cont => obtain ⟨m, C', h1, h2, h3⟩ := q; exact ⟨m, h1, C', h2, h3⟩
  | brk => exact q
  | ret v => exact q
 | false =>
  simp only [Bool.false_eq_true, if_false] at q ⊢
  exact wpAny_execs_nil q
theorem gn {l : Addr} {xs : List Value} {v : Value} {Q : VP} (H : St h0 o0 cs s) (hp : Put cs l (ay xs) (ay (xs ++ [v])) cs') (hsz : xs.length ≤ sizeLine) (h : ∀ s', St h0 o0 cs' s' → Q .none s') :
  wpAny (model prog w) A (call (.builtin "list.append") [.ref l, v]) Q E s := by
 refine wpAny_list_append_plain (hsz := by simpa using hsz) (ou H hp.has) fun h' hl hs => h _ (H.updS (k := s.toks) hp (ox hl (by simp)) hs (ae _))
noncomputable abbrev ba (ifs : List Expr) (cenv : Env) : Sem Bool := forIn ifs true fun c r => if r = true then do let ok ← isTrue c cenv (eval c cenv); pure (ForInStep.yield ok) else pure (ForInStep.yield r)
theorem gk {cenv : Env} {Q : Bool → Shared → Prop} (h : Q true s) : wpAny (model prog w) A (ba [] cenv) Q E s := by
 unfold ba; rw [List.forIn_nil]; exact ab h
theorem ny {c : Expr} {cenv : Env} {Q : Bool → Shared → Prop} (h : wpAny (model prog w) A (isTrue c cenv (eval c cenv)) Q E s) : wpAny (model prog w) A (ba [c] cenv) Q E s := by
 unfold ba
 rw [List.forIn_cons]
 refine aa (aa (ad h (fun ok s' q => ab ?_) fun _ _ q => q))
 show wpAny _ _ (forIn [] ok _) _ _ _
 rw [List.forIn_nil]; exact ab q
theorem lF {elt target iter : Expr} {ifs : List Expr} {scope : Scope} {pos : Pos} {it : Value} {D L : Addr} {cenv : Env} {f : Nat → az} {n : Nat} {V : Nat → Value → Prop} {Pre : az → Prop} {R' : RP} {E1 : VP}
  (S : cH prog w A h0 o0 it f n V Pre) (P : Nat → List Value → az → Prop) (hPre : ∀ i ys C, P i ys C → Pre ((L, cNs []) :: (C ++ ((D, ay ys) :: K)))) (hn : n ≤ sizeLine)
  (turn : ∀ i v ys C K' s, i < n → V i v → P i ys C → St h0 o0 ((L, cNs []) :: (C ++ K')) s →
   wpAny (model prog w) A (assign target cenv v) (fun _ s₂ => wpAny (model prog w) A (ba ifs cenv) (fun ok s₃ =>
    if ok = true then wpAny (model prog w) A (eval elt cenv) (fun y s₄ => ∃ m C', P (i + 1) (ys ++ [y]) C' ∧ St h0 o0 ((L, cNs m) :: (C' ++ K')) s₄) E1 s₃
    else ∃ m C', P (i + 1) ys C' ∧ St h0 o0 ((L, cNs m) :: (C' ++ K')) s₃) E1 s₂) E1 s)
  (hE : ∀ x s, E1 x s → notedBy (model prog w) A cenv (fun x s' => R' (.error x) s') x s) (fin : ∀ ys C s, P n ys C → St h0 o0 ((L, cNs []) :: (D, ay ys) :: (C ++ K)) s → R' (.ok .next) s) {C0 : az} (h0P : P 0 [] C0) (H : St h0 o0 (f 0 ++ ((L, cNs []) :: (C0 ++ ((D, ay []) :: K)))) s) :
  codeAny (model prog w) A (.compLoop (.ListComp elt [⟨target, iter, ifs, 0⟩] scope pos) 0 it (.ref D) cenv) R' s := by
 refine codeAny_loop rfl (fun k s => ∃ i ys C, i ≤ n ∧ ys.length ≤ i ∧ k = n - i ∧ P i ys C ∧ St h0 o0 (f i ++ ((L, cNs []) :: (C ++ ((D, ay ys) :: K)))) s) (fun k s hI => ?_) n ⟨0, [], C0, Nat.zero_le _, ae _, rfl, h0P, H⟩
 obtain ⟨i, ys, C, hi, hys, rfl, hP, H⟩ := hI
 show wpAny _ A ((compTurn (.ListComp elt [⟨target, iter, ifs, 0⟩] scope pos) 0 it (.ref D) cenv).onRaise (fun x => do noteFrame x cenv; theTreesLotGoes x)) _ _ s
 refine wpAny_noted ?_
 rw [compTurn_list]
 refine ad (E := E1) ?_ (fun _ _ q => q) hE
 refine aa (wpAny_standAt (aa ?_))
 rcases Nat.lt_or_ge i n with hlt | hge
 ·refine S.next i _ s _ _ hlt (hPre i ys C hP) H fun v s1 hv H1 => ?_
  refine aa (S.own target i _ v s1 _ _ hv H1 fun s2 H2 => ?_)
  have H2' : St h0 o0 ((L, cNs []) :: (C ++ ((D, ay ys) :: (f (i + 1) ++ K)))) s2 := H2.perm (by
   refine List.Perm.trans ?_ (List.perm_append_comm (l₁ := (L, cNs []) :: (C ++ ((D, ay ys) :: K))) (l₂ := f (i + 1)))
   simp only [List.cons_append, an]
   refine List.Perm.cons _ (List.Perm.append_left _ (List.Perm.cons _ List.perm_append_comm)))
  refine aa (ad (turn i v ys C ((D, ay ys) :: (f (i + 1) ++ K)) s2 hlt hv hP H2') (fun _ s3 q3 => ?_) fun _ _ q => q)
  refine aa (ad q3 (fun ok s4 q4 => ?_) fun _ _ q => q)
  have back : ∀ {m C' zs s}, St h0 o0 ((L, cNs m) :: (C' ++ ((D, ay zs) :: (f (i + 1) ++ K)))) s → St h0 o0 (f (i + 1) ++ ((L, cNs []) :: (C' ++ ((D, ay zs) :: K)))) s := fun {m C' zs s} q =>
   (q.weak (c' := cNs []) .here fun o ho => ho.sub .nil).perm (by
    refine List.Perm.trans (List.perm_append_comm (l₁ := f (i + 1)) (l₂ := (L, cNs []) :: (C' ++ ((D, ay zs) :: K)))) ?_
    simp only [List.cons_append, an]
    exact List.Perm.cons _ (List.Perm.append_left _ (List.Perm.cons _ List.perm_append_comm)))
  cases ok with
  | false =>
   simp only [Bool.false_eq_true, if_false] at q4
   obtain ⟨m, C', hP', H'⟩ := q4
   exact ab ⟨rfl, n - (i + 1), lp4 hlt, i + 1, ys, C', hlt, Nat.le_succ_of_le hys, rfl, hP', back H'⟩
  | true =>
   simp only [if_true] at q4
   refine aa (aa (ad q4 (fun y s5 q5 => ?_) fun _ _ q => q))
   obtain ⟨m, C', hP', H'⟩ := q5
   have hput : ∀ (C' : az), Put (C' ++ ((D, ay ys) :: (f (i + 1) ++ K))) D (ay ys) (ay (ys ++ [y])) (C' ++ ((D, ay (ys ++ [y])) :: (f (i + 1) ++ K))) := fun C' => by
    induction C' with
    | nil => exact .here
    | cons p r ih => exact .there ih
   refine aa (gn H' (.there (hput C')) (by lia) fun s6 H6 => ?_)
   exact ab (ab ⟨rfl, n - (i + 1), lp4 hlt, i + 1, ys ++ [y], C', hlt, (by rw [ao, List.length_singleton]; exact Nat.succ_le_succ hys), rfl, hP', back H6⟩)
 ·have e : i = n := Nat.le_antisymm hi hge
  subst e
  refine S.done _ s _ _ (hPre i ys C hP) H fun s1 H1 => ab (fin ys C s1 hP (H1.perm ?_))
  exact List.Perm.cons _ (List.perm_middle).symm
theorem St.unframe {L : Addr} {h' : Heap} {m : List (Str × Value)} (H : St h0 o0 ((L, cNs m) :: cs) s) (hsb : Heap.SameBut L s.heap h') : St h0 o0 cs { s with heap := h' } := by
 have nL : h0.get? L = none := H.new (L, cNs m) (by simp)
 have hd := H.nodup
 rw [ap, List.nodup_cons] at hd
 refine ⟨fun b o e => (hsb.2 b (fun q => ?_)).trans (H.keep b o e), fun p hp => ?_, fun p hp => H.new p (am _ hp), hd.2, H.gens, H.os, H.tok, H.flo, fun p hp => H.big p (am _ hp), H.g3⟩
 ·subst q; rw [nL] at e; cases e
 ·obtain ⟨o, ho, hc⟩ := H.cell p (am _ hp)
  refine ⟨o, (hsb.2 _ (fun q => hd.1 ?_)).trans ho, hc⟩
  have : p.1 ∈ List.map Prod.fst cs := aq hp
  rwa [q] at this
theorem f0 {elt target iter : Expr} {ifs : List Expr} {scope : Scope} {pos : Pos} {cl : List (Str × Addr)} {itv : Value} {RR : Value → Addr → Result → Shared → Prop} {f : Nat → az} {n : Nat} {V : Nat → Value → Prop} {Pre : az → Prop} {C0 K : az} {P : Nat → List Value → az → Prop} {E1 : Addr → Value → Shared → Prop}
  (hcell : ∀ y ∈ scope.names, y.2 ≠ .cell) (hkind : scope.kind = .function) (S : cH prog w A h0 o0 itv f n V Pre) (hP0 : P 0 [] C0) (hsz : n ≤ sizeLine) (H2 : St h0 o0 (f 0 ++ (C0 ++ K)) s) (hl : ∀ i ys C, P i ys C → Pre (C ++ K))
  (turn : ∀ L i v ys C K' s, i < n → V i v → P i ys C → St h0 o0 ((L, cNs []) :: (C ++ K')) s →
    wpAny (model prog w) A (assign target (compEnvC scope cl L env) v) (fun _ s₂ => wpAny (model prog w) A (ba ifs (compEnvC scope cl L env)) (fun ok s₃ =>
     if ok = true then wpAny (model prog w) A (eval elt (compEnvC scope cl L env)) (fun y s₄ => ∃ m C', P (i + 1) (ys ++ [y]) C' ∧ St h0 o0 ((L, cNs m) :: (C' ++ K')) s₄) (E1 L) s₃
     else ∃ m C', P (i + 1) ys C' ∧ St h0 o0 ((L, cNs m) :: (C' ++ K')) s₃) (E1 L) s₂) (E1 L) s)
  (hE : ∀ L D x s, E1 L x s → notedBy (model prog w) A (compEnvC scope cl L env) (fun x s' => RR (.ref D) L (.error x) s') x s) (fin : ∀ L D ys C s, P n ys C → St h0 o0 ((L, cNs []) :: (D, ay ys) :: (C ++ K)) s → RR (.ref D) L (.ok .next) s) :
  wpAny (model prog w) A (newList []) (fun acc s₃ => wpAny (model prog w) A (newFunctionEnv scope env.globals cl [] env.qual none .none (some env)) (fun cenv s₄ =>
   codeAny (model prog w) A (.compStart (.ListComp elt [⟨target, iter, ifs, 0⟩] scope pos) 0 itv acc { cenv with scope := relabel scope env }) (RR acc cenv.locals) s₄) E s₃) E s := by
 refine wpAny_newObj_type ?_
 have H3 : St h0 o0 ((s.heap.objs.size, ay []) :: (f 0 ++ (C0 ++ K))) { s with heap := s.heap.push { cls := .type "list", data := .seq ([] : List Value).toArray } } :=
  H2.push (k := s.toks) (c := ay []) ⟨0, rfl⟩ (ae _)
 generalize hD : s.heap.objs.size = D at H3 ⊢
 generalize hs3 : ({ s with heap := s.heap.push { cls := .type "list", data := .seq ([] : List Value).toArray } } : Shared) = s3 at H3 ⊢
 clear hs3
 refine wpAny_newFunctionEnv hcell (by intro y hy; simp at hy) (fun h₁ hns₁ hsb₁ => ?_) hkind
 have H4 : St h0 o0 ((s3.heap.objs.size, cNs []) :: (D, ay []) :: (f 0 ++ (C0 ++ K))) { s3 with heap := h₁, toks := s3.toks + ([] : List (Str × Value)).length } := by
  refine H3.more (ae _) (dD hns₁ (m := []) fun x v q => by cases q) (fun b o e => ?_) ?_
  ·exact (hsb₁.2 b (Nat.ne_of_lt (Heap.lt_size e))).trans (Heap.get?_push_of_some _ e)
  ·exact Nat.le_add_right _ _
 generalize hL : s3.heap.objs.size = L at H4 ⊢
 generalize hs4 : ({ s3 with heap := h₁, toks := s3.toks + ([] : List (Str × Value)).length } : Shared) = s4 at H4 ⊢
 clear hs4
 have H5 : St h0 o0 (f 0 ++ ((L, cNs []) :: (C0 ++ ((D, ay []) :: K)))) s4 := H4.perm (by
  refine List.Perm.trans List.perm_middle ?_
  refine List.Perm.cons _ ?_
  refine List.Perm.trans (List.Perm.append_left _ List.perm_middle) ?_
  exact List.perm_middle)
 have loop : codeAny (model prog w) A (.compLoop (.ListComp elt [⟨target, iter, ifs, 0⟩] scope pos) 0 itv (.ref D) (compEnvC scope cl L env)) (RR (.ref D) L) s4 := by
  refine lF (E1 := E1 L) (K := K) S P (fun i ys C hP => S.mono _ _ (hl i ys C hP) fun p hp => ?_) hsz (fun i v ys C K' s hi hv hP H => turn L i v ys C K' s hi hv hP H) (hE L D) (fun ys C s hP H => fin L D ys C s hP H) hP0 H5
  rcases List.mem_append.mp hp with q | q
  ·exact am _ (List.mem_append_left _ q)
  ·exact am _ (List.mem_append_right _ (am _ q))
 exact codeAny_compStart_list loop (S.self 0 _ _ _ _ H5 loop)
theorem lG {elt target iter : Expr} {ifs : List Expr} {scope : Scope} {pos : Pos} {cl : List (Str × Addr)} {itv : Value} {RR : Value → Addr → Result → Shared → Prop} {f : Nat → az} {n : Nat} {V : Nat → Value → Prop} {Pre : az → Prop} {C0 K : az} {P : Nat → List Value → az → Prop}
  (hcell : ∀ y ∈ scope.names, y.2 ≠ .cell) (hkind : scope.kind = .function) (S : cH prog w A h0 o0 itv f n V Pre) (hP0 : P 0 [] C0) (hsz : n ≤ sizeLine) (H2 : St h0 o0 (f 0 ++ (C0 ++ K)) s) (hl : ∀ i ys C, P i ys C → Pre (C ++ K))
  (turn : ∀ L i v ys C K' s, i < n → V i v → P i ys C → St h0 o0 ((L, cNs []) :: (C ++ K')) s →
    wpAny (model prog w) A (assign target (compEnvC scope cl L env) v) (fun _ s₂ => wpAny (model prog w) A (ba ifs (compEnvC scope cl L env)) (fun ok s₃ =>
     if ok = true then wpAny (model prog w) A (eval elt (compEnvC scope cl L env)) (fun y s₄ => ∃ m C', P (i + 1) (ys ++ [y]) C' ∧ St h0 o0 ((L, cNs m) :: (C' ++ K')) s₄) NoE s₃
     else ∃ m C', P (i + 1) ys C' ∧ St h0 o0 ((L, cNs m) :: (C' ++ K')) s₃) NoE s₂) NoE s)
  (fin : ∀ L D ys C s, P n ys C → St h0 o0 ((L, cNs []) :: (D, ay ys) :: (C ++ K)) s → RR (.ref D) L (.ok .next) s) :
  wpAny (model prog w) A (newList []) (fun acc s₃ => wpAny (model prog w) A (newFunctionEnv scope env.globals cl [] env.qual none .none (some env)) (fun cenv s₄ =>
   codeAny (model prog w) A (.compStart (.ListComp elt [⟨target, iter, ifs, 0⟩] scope pos) 0 itv acc { cenv with scope := relabel scope env }) (RR acc cenv.locals) s₄) E s₃) E s :=
 f0 (E1 := fun _ => NoE) hcell hkind S hP0 hsz H2 hl turn (fun _ _ _ _ q => q.elim) fin
end
section
variable {cs cs' : az} {K : az} {Q : VP}
theorem x_mod {a b : Int} {t u : Tok} (H : St h0 o0 cs s) (hb : b ≠ 0) (h : ∀ t' s', St h0 o0 cs s' → Q (.int (a.fmod b) t') s') : wpAny (model prog w) A (binaryOp .Mod (.int a t) (.int b u)) Q E s :=
 mod_int' hb (h _ _ (H.toks (Nat.le_succ _)))
theorem x_fdiv {a b : Int} {t u : Tok} (H : St h0 o0 cs s) (hb : b ≠ 0) (hs : b.natAbs < 1073741824) (h : ∀ t' s', St h0 o0 cs s' → Q (.int (a.fdiv b) t') s') : wpAny (model prog w) A (binaryOp .FloorDiv (.int a t) (.int b u)) Q E s :=
 floordiv_int hb (h _ _ (H.toks (Nat.le_succ _))) (.inl (PyProof.noPylong_small hs))
theorem x_addi {a b : Int} {t u : Tok} (H : St h0 o0 cs s) (h : ∀ t' s', St h0 o0 cs s' → Q (.int (a + b) t') s') : wpAny (model prog w) A (binaryOp .Add (.int a t) (.int b u)) Q E s :=
 PyProof.Rows.add_int (h _ _ (H.toks (Nat.le_succ _)))
theorem x_adds {x y : Str} {t u : Tok} (H : St h0 o0 cs s) (hsz : x.length + y.length ≤ sizeLine) (h : ∀ t' s', St h0 o0 cs s' → Q (.str (x ++ y) t') s') : wpAny (model prog w) A (binaryOp .Add (.str x t) (.str y u)) Q E s :=
 di (SB.add (fun t' k hk => h t' _ (H.toks hk)) hsz)
theorem x_iadds {x y : Str} {t u : Tok} (H : St h0 o0 cs s) (hsz : x.length + y.length ≤ sizeLine) (h : ∀ t' s', St h0 o0 cs s' → Q (.str (x ++ y) t') s') : wpAny (model prog w) A (inplaceOp .Add (.str x t) (.str y u)) Q E s :=
 di (SB.iadd (fun t' k hk => h t' _ (H.toks hk)) hsz)
theorem cK {vs : List Value} (H : St h0 o0 cs s) (hsz : vs.length ≤ sizeLine) (h : ∀ a s', St h0 o0 ((a, ay vs) :: cs) s' → s'.toks = s.toks → Q (.ref a) s') : wpAny (model prog w) A (newList vs) Q E s :=
 wpAny_newObj_type (h _ _ (H.push (k := s.toks) ⟨0, rfl⟩ (ae _)) rfl) (by show vs.toArray.size ≤ sizeLine; rw [List.size_toArray]; exact hsz)
theorem eH {vs : List Value} (H : St h0 o0 cs s) (hsz : vs.length ≤ sizeLine) (h : ∀ a s', St h0 o0 ((a, a8 vs) :: cs) s' → s'.toks = s.toks → Q (.ref a) s') : wpAny (model prog w) A (newTuple vs) Q E s :=
 wpAny_newObj_type (h _ _ (H.push (k := s.toks) ⟨0, rfl⟩ (ae _)) rfl) (by show vs.toArray.size ≤ sizeLine; rw [List.size_toArray]; exact hsz)
theorem x_len {l : Addr} {xs : List Value} (H : St h0 o0 cs s) (hl : Has cs l (ay xs)) (hz : xs.length ≤ sizeLine) (h : ∀ t' s', St h0 o0 cs s' → Q (.int xs.length t') s') : wpAny (model prog w) A (call (.builtin "len") [.ref l]) Q E s := by
 refine len_list (aU H hl) (by rw [List.size_toArray]; rw [af] at hz; lia) ?_
 rw [List.size_toArray]
 exact h _ _ (H.toks (Nat.le_add_right _ 2))
theorem bU {a : Addr} {xs} (H : St h0 o0 cs s) (h : Has cs a (ay xs)) : ∃ n, s.heap.get? a = some { cls := .type "list", data := .seq xs.toArray n } := by
 obtain ⟨o, ho, n, rfl⟩ := H.get h
 exact ⟨n, ho⟩
theorem x_lmeth {name : Str} {id : String} {pl : Sem Bool} {l : Addr} {xs : List Value} {Q : Value × List Value → Shared → Prop} (slot : Slot "list" name id) (hty : typeOf (.builtin id) = pure (.type "method_descriptor"))
  (H : St h0 o0 cs s) (hl : Has cs l (ay xs)) (h : Q (.builtin id, [.ref l]) s) : wpAny (model prog w) A (getMethod (.ref l) name pl) Q E s := by
 obtain ⟨n, ho⟩ := bU H hl
 exact getMethod_builtin (aU H hl).typeIs PySem.F.plainAttrs_list slot hty (fun a e => by cases e; exact ⟨_, ho, rfl⟩) h
theorem bw {f : Array Value → Array Value} {xs ys : List Value} {n : Nat} (e : f xs.toArray = ys.toArray) : ay ys (Obj.mapSeq f { cls := .type "list", data := .seq xs.toArray n }) :=
 ⟨if (f xs.toArray).size == xs.toArray.size then n else n + 1, congrArg (fun z => ({ cls := .type "list", data := .seq z (if (f xs.toArray).size == xs.toArray.size then n else n + 1) } : Obj)) e⟩
theorem l3 {value : Expr} {lower upper : Option Expr} {p pos : Pos}
  (h : wpAny (model prog w) A (eval value env) (fun o s₁ => wpAny (model prog w) A (evalPart lower env) (fun vl s₂ => wpAny (model prog w) A (evalPart upper env) (fun vu s₃ =>
   ∃ l xs lo hi cs ys, o = .ref l ∧ St h0 o0 cs s₃ ∧ s₃.heap.IsList l xs ∧ xs.size ≤ sizeLine ∧ IsPart vl lo ∧ IsPart vu hi ∧ slicePick xs lo hi none = List.toArray ys ∧ ∀ a s', St h0 o0 ((a, ay ys) :: cs) s' → Q (.ref a) s') E s₂) E s₁) E s) :
  wpAny (model prog w) A (eval (.Subscript value (.Slice lower upper none p) pos) env) Q E s := by
 refine Subscript_ (ad h (fun o s1 h1 => ?_) fun _ _ q => q)
 refine wpAny_Slice (ad h1 (fun vl s2 h2 => ad h2 (fun vu s3 h3 => ?_) fun _ _ q => q) fun _ _ q => q)
 obtain ⟨l, xs, lo, hi, cs, ys, rfl, H, hl, hz, p1, p2, e, hq⟩ := h3
 refine ab ?_
 have H1 : St h0 o0 cs { s3 with heap := s3.heap.push { cls := .type "slice", data := .fields #[vl, vu, .none] } } := H.grow (k := s3.toks) (fun b o e => Heap.get?_push_of_some _ e) (ae _)
 have H2 := H1.push (k := s3.toks) (o := { cls := .type "list", data := .seq (slicePick xs lo hi none) }) (c := ay ys) ⟨0, by rw [e]⟩ (ae _)
 refine tail_any (Heap.IsList.typeIs (hl.push _)) slot_list_getitem.lookup (wpAny_getItem_list_slice (hl.push _) (Heap.IsSliceOf.new ..) p1 p2 .none (by simp) (hq _ _ H2) hz) rfl
theorem x_join {x : Str} {t : Tok} {D : Addr} {l : List (Str × Tok)} (H : St h0 o0 cs s) (hl : Has cs D (ay (strValues l))) (hok : JoinOk x (l.map (·.1)) = true) (h : ∀ t' s', St h0 o0 cs s' → Q (.str (Txt.join x (l.map (·.1))) t') s') :
  wpAny (model prog w) A (call (.builtin "str.join") [.str x t, .ref D]) Q E s :=
 di (SC.join (aU H hl) rfl hok fun t' k hk => h t' _ (H.toks hk))
theorem x_neNil {a b : Addr} {xs : List Value} (H : St h0 o0 cs s) (ha : Has cs a (ay xs)) (hb : Has cs b (ay [])) (hu : A.units < cLine) (h : Q (.bool (!xs.isEmpty)) s) : wpAny (model prog w) A (compareOp .NotEq (.ref a) (.ref b)) Q E s := by
 refine cmp_ofNotEq ?_
 cases xs with
 | nil => exact SeqAt.RcNeAt.lists (e := fun _ => true) (aU H ha) (aU H hb) rfl hu (fun j h1 _ => absurd h1 (by simp)) _ _ _ _ h
 | cons x r => exact SeqAt.RcNeAt.lists_lengths (aU H ha) (aU H hb) (by simp) hu _ _ _ _ h
end
section
variable {cs cs' : az} {K : Frag} {Q : VP}
theorem jt {c : Addr} {v : Option Value} (H : St h0 o0 cs s) (h : Has cs c (aN v)) : s.heap.IsCell c v := by
 obtain ⟨o, ho, hd⟩ := H.get h
 exact ⟨o, ho, hd⟩
theorem x_cell {x : Str} {pos : Pos} {c : Addr} {v : Value} (H : St h0 o0 cs s) (hp : Has cs c (aN (some v))) (hk : env.scope.kind = .function) (hl : env.kindOf x = some .cell) (hc : env.cells.lookup x = some c)
  (hd : (x == ("__debug__" : Str)) = false) (h : Q v s) : wpAny (model prog w) A (eval (.Name x pos) env) Q E s := wpAny_Name (wpAny_loadName_cell hk hl hc (jt H hp) h) hd
theorem x_free {x : Str} {pos : Pos} {c : Addr} {v : Value} (H : St h0 o0 cs s) (hp : Has cs c (aN (some v))) (hk : env.scope.kind = .function) (hl : env.kindOf x = some .free) (hc : env.cells.lookup x = some c)
  (hd : (x == ("__debug__" : Str)) = false) (hcd : (x == ("__classdict__" : Str)) = false) (h : Q v s) : wpAny (model prog w) A (eval (.Name x pos) env) Q E s := wpAny_Name (wpAny_loadName_free hk hl hc (jt H hp) h hcd) hd
theorem nA {x : Str} {c : Addr} {v : Value} {u : Option Value} {Q : Unit → Shared → Prop} (H : St h0 o0 cs s) (hp : Put cs c (aN u) (aN (some v)) cs') (hk : env.scope.kind = .function) (hl : env.kindOf x = some .cell)
  (hc : env.cells.lookup x = some c) (h : ∀ s', St h0 o0 cs' s' → Q () s') : wpAny (model prog w) A (storeName env x v) Q E s := by
 refine wpAny_storeName_cell hk hl hc (jt H hp.has) fun h' hn hsb => h _ (H.updS (k := s.toks) hp ?_ hsb (ae _))
 obtain ⟨o, ho, hd⟩ := hn
 exact ⟨o, ho, hd⟩
noncomputable def gN (K : Frag) (a : Addr) : Bool := match K.lookup a with
 | some ⟨_, _, .func fd, _⟩ => codeIn K fd.code fd.qualname && !fd.scope.isCoroutine && !fd.scope.isGenerator && fd.scope.kind == .function && jo fd.body && fd.closure.isEmpty
 | _ => false
structure St0 (h0 : Heap) (o0 : Shared) (cs : az) (s : Shared) : Prop where
 keep : ∀ b o, h0.get? b = some o → s.heap.get? b = some o
 cell : ∀ p ∈ cs, ∃ o, s.heap.get? p.1 = some o ∧ p.2 o
 new : ∀ p ∈ cs, h0.get? p.1 = none
 nodup : (cs.map Prod.fst).Nodup
 gens : GensOk o0.gens s.gens
 os : s.os = o0.os
 flo : o0.toks ≤ s.toks
 big : ∀ p ∈ cs, 3 < p.1
 g3 : ∃ o, h0.get? 3 = some o
theorem x_fnC {fa : Addr} {x : Str} {v : Value} (B : Base K h0) (H : St0 h0 o0 cs s) (hf : gN K fa = true) (hroom : A.depth < recursionLimit)
  (hbind : bindArgs (aK K fa) ⟨[v], []⟩ = pure [(x, v)]) (hloc : (aK K fa).scope.names.lookup x = some .local)
  (h : ∀ L s', St h0 o0 ((L, cNs [(x, v)]) :: ((cellsFrom (L + 1) (aK K fa).scope.names []).map (fun p => (p.2, aN none)) ++ cs)) s' →
   wpAny (model prog w) (A.deeper (callEnvC (aK K fa) L fa)) (execs (aZ K fa) (callEnvC (aK K fa) L fa)) (fun f s'' => Q (match f with | .ret v => v | _ => .none) s'') NoE s') :
  wpAny (model prog w) A (call (.ref fa) [v]) Q E s := by
 unfold gN at hf
 split at hf
 ·rename_i c d fd sl ho
  simp only [Bool.and_eq_true, Bool.not_eq_true', beq_iff_eq] at hf
  obtain ⟨⟨⟨⟨⟨h1, h2⟩, h3⟩, h4⟩, h6⟩, h7⟩ := hf
  have e : aK K fa = fd := by unfold aK; rw [ho]
  have eb : fd.body = .stmts (aZ K fa) := by
   unfold aZ; rw [e]
   cases hb : fd.body with
   | stmts b => rfl
   | expr _ => rw [hb] at h6; cases h6
  rw [e] at hbind hloc h
  refine wpAny_call (codeAny_call_function hroom (H.keep _ _ (B.X _ _ ho)) rfl h2 h3 eb ((codeRec_of B.X h1).keeps H.keep) ?_)
  rw [hbind, List.isEmpty_iff.mp h7]
  refine ab ?_
  simp only [newFunctionEnv, Option.isSome_none, Bool.false_eq_true, if_false]
  refine aa (wpAny_alloc ?_)
  refine aa (wpAny_layCells _ (fun name kind cells => by cases hkc : kind == NameKind.cell <;> simp) _ _ _ _ ?_)
  have ok := cellsFrom_ok fd.scope.names (s.heap.push { cls := .type "frame", data := .dict #[] }) (s.heap.objs.size + 1) [] ⟨fun _ _ hm => (nomatch hm), List.Pairwise.nil⟩ (by rw [Heap.size_push]; exact ae _)
  rw [Heap.size_push] at ok
  rw [show ({ s with heap := s.heap.push { cls := .type "frame", data := .dict #[] } } : Shared).heap.objs.size = s.heap.objs.size + 1 from Heap.size_push ..]
  have hkeep : ∀ b o, s.heap.get? b = some o → (pushCells (s.heap.push { cls := .type "frame", data := .dict #[] }) fd.scope.names).get? b = some o := fun b o q => pushCells_keeps _ _ b o (Heap.get?_push_of_some _ q)
  have hns : (pushCells (s.heap.push { cls := .type "frame", data := .dict #[] }) fd.scope.names).Ns s.heap.objs.size (fun _ => none) := (Heap.Ns.new s.heap (.type "frame")).keeps (pushCells_keeps _ _)
  rw [List.forIn_cons]
  refine aa (aa (aa ?_))
  refine wpAny_storeName_local (s := { s with heap := pushCells (s.heap.push { cls := .type "frame", data := .dict #[] }) fd.scope.names }) (env := { scope := fd.scope, locals := s.heap.objs.size, globals := fd.globals, cells := cellsFrom (s.heap.objs.size + 1) fd.scope.names [], qual := fd.qualname ++ ".<locals>.", func := some fa, code := fd.code, frame := some s.heap.objs.size, builtins := fd.builtins }) hloc hns (fun h' hn hsb => ?_) (by rw [h4]; rfl)
  refine ab ?_
  show wpAny _ _ (forIn [] PUnit.unit _) _ _ _
  rw [List.forIn_nil]
  refine ab (ab ?_)
  have hk2 : ∀ b o, s.heap.get? b = some o → h'.get? b = some o := fun b o q => (hsb.2 b (Nat.ne_of_lt (Heap.lt_size q))).trans (hkeep b o q)
  refine ⟨(B.lim.keeps H.keep).keeps hk2, codeAny_func (ad (h s.heap.objs.size _ ?_) (fun f s' q => q) fun _ _ q => q.elim)⟩
  have fresh3 : ∀ a, s.heap.objs.size ≤ a → 3 < a := fun a ha => by
   obtain ⟨o, ho⟩ := H.g3
   exact Nat.lt_of_lt_of_le (Heap.lt_size (H.keep _ _ ho)) ha
  have fresh : ∀ a, s.heap.objs.size ≤ a → a ∉ cs.map Prod.fst ∧ h0.get? a = none := fun a ha => by
   constructor
   ·intro hm
    obtain ⟨p, hp, rfl⟩ := List.mem_map.mp hm
    obtain ⟨o, ho, _⟩ := H.cell p hp
    exact Nat.lt_irrefl _ (Nat.lt_of_lt_of_le (Heap.lt_size ho) ha)
   ·cases e : h0.get? a with
    | none => rfl
    | some o => exact absurd (Heap.lt_size (H.keep _ _ e)) (Nat.not_lt.mpr ha)
  refine ⟨fun b o q => hk2 b o (H.keep b o q), fun p hp => ?_, fun p hp => ?_, ?_, H.gens, H.os, Nat.succ_ne_zero _, Nat.le_trans H.flo (Nat.le_succ _), fun p hp => ?_, H.g3⟩
  ·rcases List.mem_cons.mp hp with rfl | hp
   ·exact dD hn (m := [(x, v)]) fun y u q => by
     simp only [List.lookup_cons] at q
     by_cases hy : y = x
     ·subst hy; simpa using q
     ·have : (y == x) = false := by simpa using hy
      rw [this] at q; cases q
   ·rcases List.mem_append.mp hp with hp | hp
    ·obtain ⟨⟨n, c⟩, hm, rfl⟩ := List.mem_map.mp hp
     obtain ⟨⟨o, ho', hd'⟩, hle⟩ := ok.empty n c hm
     exact ⟨o, (hsb.2 c (Nat.ne_of_gt hle)).trans ho', hd'⟩
    ·obtain ⟨o, ho', hc'⟩ := H.cell p hp
     exact ⟨o, hk2 _ _ ho', hc'⟩
  ·rcases List.mem_cons.mp hp with rfl | hp
   ·exact (fresh _ (ae _)).2
   ·rcases List.mem_append.mp hp with hp | hp
    ·obtain ⟨⟨n, c⟩, hm, rfl⟩ := List.mem_map.mp hp
     exact (fresh c (by have := (ok.empty n c hm).2; lia)).2
    ·exact H.new p hp
  ·rw [ap, ai, List.nodup_cons, List.nodup_append]
   refine ⟨fun hm => ?_, ?_, H.nodup, ?_⟩
   ·rcases List.mem_append.mp hm with hm | hm
    ·rw [List.map_map] at hm
     obtain ⟨⟨n, c⟩, hm, e⟩ := List.mem_map.mp hm
     have := (ok.empty n c hm).2
     have e' : c = s.heap.objs.size := e
     rw [e'] at this
     exact Nat.lt_irrefl _ this
    ·exact (fresh _ (ae _)).1 hm
   ·rw [List.map_map, List.nodup_iff_pairwise_ne, List.pairwise_map]
    exact ok.apart
   ·intro a ha b hb e
    rw [List.map_map] at ha
    obtain ⟨⟨n, c⟩, hm, e'⟩ := List.mem_map.mp ha
    have := (ok.empty n c hm).2
    have e2 : c = a := e'
    subst e e2
    exact (fresh c (by lia)).1 hb
  ·rcases List.mem_cons.mp hp with rfl | hp
   ·exact fresh3 _ (ae _)
   ·rcases List.mem_append.mp hp with hp | hp
    ·obtain ⟨⟨n, c⟩, hm, rfl⟩ := List.mem_map.mp hp
     exact fresh3 c (by have := (ok.empty n c hm).2; lia)
    ·exact H.big p hp
 ·cases hf
theorem Base.addr {mg : Str → Option Value} {x : Str} {a b : Addr} (B : Base K h0) (ok : fb K = true) (hn : h0.Ns mainGlobals mg) (hx : nsFind (eh K) x = some (.ref b)) (hm : mg x = some (.ref a)) : a = b := by
 obtain ⟨o, es, ep, ho, hd, _, hf⟩ := hn
 obtain ⟨o', es', ep', ho', hd', _, hf'⟩ := B.ns ok
 rw [ho] at ho'; cases ho'
 rw [hd] at hd'; cases hd'
 have := (hf x).symm.trans ((hf' x).trans hx)
 rw [hm] at this
 exact Value.ref.inj (Option.some.inj this)
end
theorem ints_pairs {vs : List Value} {ns : List Int} (h : IntsAre vs ns) : ∃ ps : List (Int × Tok), vs = ps.map (fun p => Value.int p.1 p.2) ∧ ps.length = ns.length := by
 induction h with
 | nil => exact ⟨[], rfl, rfl⟩
 | cons n t _ ih =>
  obtain ⟨ps, e1, e2⟩ := ih
  exact ⟨(n, t) :: ps, by rw [e1]; rfl, by simp [e2]⟩
section
variable {cs cs' : az} {K : Frag} {Q : VP}
noncomputable def pw (K : Frag) (a : Addr) : Bool := match K.lookup a with | some ⟨_, _, .func _, _⟩ => true | _ => false
theorem x_callF {fa : Addr} {e : Expr} {rest : List Expr} {pos : Pos} (B : Base K h0) (hf : pw K fa = true)
  (h : wpAny (model prog w) A (spliced (backTo pos (starEach (e :: rest) env))) (fun vs s₁ => (∃ o0 cs, St h0 o0 cs s₁) ∧ wpAny (model prog w) A (call (.ref fa) vs) Q E s₁) E s)
  (he : starEach (e :: rest) env = (false, eval e env) :: starEach rest env := by rfl) :
  wpAny (model prog w) A (callWith pos (.ref fa) [] (backTo pos (starEach (e :: rest) env)) []) Q E s := by
 unfold pw at hf
 split at hf
 ·rename_i c d fd sl ho
  refine callWith_def (o := ⟨c, d, .func fd, sl⟩) (fd := fd) rfl (ad h (fun vs s₁ q => ?_) fun _ _ q => q) he
  obtain ⟨⟨o0, cs, H⟩, q⟩ := q
  exact ⟨H.keep _ _ (B.X _ _ ho), q⟩
 ·cases hf
theorem mI {a b : Str} {pa pb pos : Pos} {k : Nat} {t : Addr} {u v : Value} {Q : Unit → Shared → Prop} (hh : A.handled = none) (H : St h0 o0 cs s) (ht : Has cs t (a8 [u, v]))
  (h : ∀ s', St h0 o0 cs s' → wpAny (model prog w) A (storeName env a u) (fun _ s1 => wpAny (model prog w) A (storeName env b v) Q E s1) E s') :
  wpAny (model prog w) A (assign (.Tuple [.Name a pa, .Name b pb] k pos) env (.ref t)) Q E s := by
 refine wpAny_assign_Tuple hh (fw H ht) (by rfl) (by rfl) fun h' he => ?_
 have H' : St h0 o0 cs { s with heap := h' } := H.grow (k := s.toks) (fun b o e => he b o (Nat.ne_of_lt (Heap.lt_size e)) e) (ae _)
 refine wpAny_assignInOrder_more (t := assign (.Name a pa) env) (ts := [assign (.Name b pb) env]) (x := u) (xs := [v]) ?_
 refine wpAny_assign_Name (ad (h _ H') (fun _ s1 q => ?_) fun _ _ q => q)
 refine wpAny_assignInOrder_more (t := assign (.Name b pb) env) (ts := []) (x := v) (xs := []) ?_
 refine wpAny_assign_Name (ad q (fun _ s2 q => ?_) fun _ _ q => q)
 exact wpAny_assignInOrder_none q
theorem St.ne {a b : Addr} {c d : bM} {r : az} (H : St h0 o0 cs s) (h1 : Pick cs a c r) (h2 : Has r b d) : a ≠ b := by
 have := (H.pick h1).nodup
 rw [ap, List.nodup_cons] at this
 intro e; subst e
 have q : (a, d).1 ∈ List.map Prod.fst r := aq h2.mem
 exact this.1 q
theorem x_eqstr {x y : Str} {t u : Tok} (h : Q (.bool (x == y)) s) : wpAny (model prog w) A (compareOp .Eq (.str x t) (.str y u)) Q E s := cmp_ofEq (SeqAt.RcAt.str_str x t y u _ _ _ _ h)
theorem x_nestr {x y : Str} {t u : Tok} (h : Q (.bool (x != y)) s) : wpAny (model prog w) A (compareOp .NotEq (.str x t) (.str y u)) Q E s := by
 refine P.ne_str ?_
 have : (x.cps.toList != y.cps.toList) = (x != y) := by
  unfold bne
  rw [SeqAt.str_beq]
 rw [this]; exact h
end
section
variable {cs cs' : az} {K : az} {Q : VP}
inductive LAt (h0 : Heap) (cs : az) (l : Addr) (xs : List Value) : Prop where
 | old : h0.IsList l xs.toArray → LAt h0 cs l xs
 | new : Has cs l (ay xs) → LAt h0 cs l xs
theorem LAt.isList {l : Addr} {xs : List Value} (h : LAt h0 cs l xs) (H : St h0 o0 cs s) : s.heap.IsList l xs.toArray := by
 cases h with
 | old h => obtain ⟨o, ho, r⟩ := h; exact ⟨o, H.keep _ _ ho, r⟩
 | new h => exact aU H h
noncomputable def lL (a b c : Int) : bM := fun o => ∃ t u v, o = { cls := .type "range", data := .fields #[.int a t, .int b u, .int c v] }
theorem nB {n : Int} {t : Tok} (H : St h0 o0 cs s) (h : ∀ a s', St h0 o0 ((a, lL 0 n 1) :: cs) s' → Q (.ref a) s') : wpAny (model prog w) A (call (.type "range") [.int n t]) Q E s :=
 call_range_1 (h _ _ (H.push (k := s.toks + 1 + 1) ⟨_, _, _, rfl⟩ (by lia)))
theorem x_itemG {value slice : Expr} {l : Addr} {xs : List Value} {k : Int} {u : Tok} {v : Value} (H : St h0 o0 cs s) (hl : LAt h0 cs l xs) (hk0 : 0 ≤ k) (hk1 : k < 2 ^ 63) (hx : xs[k.toNat]? = some v)
  (hs : subscripted slice false (.ref l) (.int k u) = operate [.ref l, .int k u] (getItem (.ref l) (.int k u))) (h : Q v s) : wpAny (model prog w) A (subscriptTail value slice (.ref l) (.int k u)) Q E s :=
 tail_any (hl.isList H).typeIs slot_list_getitem.lookup (wpAny_getItem_list (hl.isList H) hk0 hk1 (by simpa using hx) h) hs
theorem x_pow {a n : Int} {t u : Tok} (H : St h0 o0 cs s) (hn : 0 ≤ n) (hn2 : n ≤ 1000000) (ha : a.natAbs < 2 ^ 64) (h : ∀ t' s', St h0 o0 cs s' → Q (.int (a ^ n.toNat) t') s') : wpAny (model prog w) A (binaryOp .Pow (.int a t) (.int n u)) Q E s :=
 pow_int_small hn hn2 ha (h _ _ (H.toks (Nat.le_succ _)))
noncomputable def aM (prog : Program) (w : World) (kvs : List (Str × Value)) : bM := fun o => o.IsDictOf (PySem.strKind prog w) kvs
theorem cr {d : Addr} {kvs : List (Str × Value)} (H : St h0 o0 cs s) (h : Has cs d (aM prog w kvs)) : s.heap.DictOf (PySem.strKind prog w) d kvs := by
 obtain ⟨o, ho, hc⟩ := H.get h
 exact Heap.dictOf_iff.mpr ⟨o, ho, hc⟩
theorem x_dict0 {pos : Pos} (H : St h0 o0 cs s) (h : ∀ d s', St h0 o0 ((d, aM prog w []) :: cs) s' → Q (.ref d) s') : wpAny (model prog w) A (eval (.Dict [] [] pos) env) Q E s :=
 wpAny_Dict_empty (h _ _ (H.push (k := s.toks) (let ⟨o, ho, hc⟩ := Heap.dictOf_iff.mp (Heap.DictOf.new (knd := PySem.strKind prog w) s.heap); by
  rw [Heap.get?_push_size _ rfl] at ho; cases ho; exact hc) (ae _)))
theorem x_dget {value slice : Expr} {d : Addr} {kvs : List (Str × Value)} {k : Str} {u : Tok} {v : Value} (H : St h0 o0 cs s) (hl : Has cs d (aM prog w kvs)) (hv : valueAt kvs k = some v)
  (hs : subscripted slice false (.ref d) (.str k u) = operate [.ref d, .str k u] (getItem (.ref d) (.str k u))) (h : ∀ s', St h0 o0 cs s' → Q v s') : wpAny (model prog w) A (subscriptTail value slice (.ref d) (.str k u)) Q E s :=
 tail_any (cr H hl).typeIs slot_dict_getitem.lookup (wpAny_getItem_of (strKind_is prog w k u) (cr H hl).mapOf hv (h _ (H.toks (Nat.le_succ _)))) hs
theorem x_dset {d : Addr} {kvs : List (Str × Value)} {k : Str} {u : Tok} {v : Value} {Q : Unit → Shared → Prop} (H : St h0 o0 cs s) (hp : Put cs d (aM prog w kvs) (aM prog w (stored kvs k v)) cs') (hz : kvs.length ≤ sizeLine)
  (h : ∀ s', St h0 o0 cs' s' → Q () s') : wpAny (model prog w) A (setItem (.ref d) (.str k u) v) Q E s := by
 refine wpAny_setItem_pairs (strKind_is prog w k u) (cr H hp.has) (fun h' hm hs => h _ (H.updS (k := s.toks + 1) hp ?_ hs (Nat.le_succ _))) hz
 exact Heap.dictOf_iff.mp hm
theorem x_neg {a : Int} {t : Tok} (H : St h0 o0 cs s) (h : ∀ t' s', St h0 o0 cs s' → Q (.int (-a) t') s') : wpAny (model prog w) A (unaryOp .USub (.int a t)) Q E s :=
 neg_int (h _ _ (H.toks (Nat.le_succ _)))
end
section
open PySem PyProof.Rows Builtin Builtin.Str
noncomputable def f8 (y : List Nat) : Nat → List Nat → List (List Nat)
 | _, [] => [[]]
 | k + 1, _ :: r => f8 y k r
 | 0, c :: r => if y.isPrefixOf (c :: r) then [] :: f8 y (y.length - 1) r else
  match f8 y 0 r with
  | p :: ps => (c :: p) :: ps
  | [] => [[c]]
noncomputable def rp (y z : List Nat) : Nat → List Nat → List Nat
 | _, [] => []
 | k + 1, _ :: r => rp y z k r
 | 0, c :: r => if y.isPrefixOf (c :: r) then z ++ rp y z (y.length - 1) r else c :: rp y z 0 r
noncomputable def jn (z : List Nat) : List (List Nat) → List Nat
 | [] => []
 | [x] => x
 | x :: y :: r => x ++ z ++ jn z (y :: r)
noncomputable def em (u : List Nat) : List (List Nat) → List (List Nat)
 | p :: ps => (u ++ p) :: ps
 | [] => [u]
theorem jf (y : List Nat) : ∀ (l : List Nat) (k : Nat), f8 y k l ≠ []
 | [], _ => by simp [f8]
 | c :: r, k + 1 => by rw [f8]; exact jf y r k
 | c :: r, 0 => by
  rw [f8]
  split
  ·simp
  ·split <;> simp
theorem j7 (y : List Nat) : ∀ (k : Nat) (l : List Nat), f8 y k l = f8 y 0 (l.drop k)
 | 0, l => by simp
 | k + 1, [] => by simp [f8]
 | k + 1, c :: r => by rw [f8, j7 y k r, List.drop_succ_cons]
theorem me (y z : List Nat) : ∀ (k : Nat) (l : List Nat), rp y z k l = rp y z 0 (l.drop k)
 | 0, l => by simp
 | k + 1, [] => by simp [rp]
 | k + 1, c :: r => by rw [rp, me y z k r, List.drop_succ_cons]
theorem iR {α : Type} (c : α) (r : List α) {n : Nat} (h : 1 ≤ n) : r.drop (n - 1) = (c :: r).drop n := by
 obtain ⟨m, rfl⟩ : ∃ m, n = m + 1 := ⟨n - 1, by lia⟩
 simp
theorem mn {y l : List Nat} (hy : 1 ≤ y.length) (h : y.isPrefixOf l = true) : f8 y 0 l = [] :: f8 y 0 (l.drop y.length) := by
 cases l with
 | nil => cases y with
  | nil => simp at hy
  | cons a b => simp at h
 | cons c r => rw [f8, if_pos h, j7, iR c r hy]
theorem lh {y z l : List Nat} (hy : 1 ≤ y.length) (h : y.isPrefixOf l = true) : rp y z 0 l = z ++ rp y z 0 (l.drop y.length) := by
 cases l with
 | nil => cases y with
  | nil => simp at hy
  | cons a b => simp at h
 | cons c r => rw [rp, if_pos h, me, iR c r hy]
theorem j8 {y : List Nat} {c : Nat} {r : List Nat} (h : y.isPrefixOf (c :: r) = false) : f8 y 0 (c :: r) = em [c] (f8 y 0 r) := by
 rw [f8, if_neg (by rw [h]; exact Bool.false_ne_true)]
 cases f8 y 0 r <;> rfl
theorem jc {y z : List Nat} {c : Nat} {r : List Nat} (h : y.isPrefixOf (c :: r) = false) : rp y z 0 (c :: r) = c :: rp y z 0 r := by
 rw [rp, if_neg (by rw [h]; exact Bool.false_ne_true)]
theorem mv (z x : List Nat) (ps : List (List Nat)) (h : ps ≠ []) : jn z (x :: ps) = x ++ z ++ jn z ps := by
 cases ps with
 | nil => exact absurd rfl h
 | cons p r => rfl
theorem lA (z u : List Nat) (ps : List (List Nat)) (h : ps ≠ []) : jn z (em u ps) = u ++ jn z ps := by
 cases ps with
 | nil => exact absurd rfl h
 | cons p r =>
  cases r with
  | nil => rfl
  | cons q r => simp only [em, jn, an]
theorem lz (y z : List Nat) (hy : 1 ≤ y.length) : ∀ (n : Nat) (l : List Nat), l.length ≤ n → jn z (f8 y 0 l) = rp y z 0 l
 | 0, l, hl => by
  have : l = [] := List.length_eq_zero_iff.mp (by lia)
  subst this; rfl
 | n + 1, [], hl => rfl
 | n + 1, c :: r, hl => by
  simp only [List.length_cons] at hl
  cases h : y.isPrefixOf (c :: r) with
  | true =>
   rw [mn hy h, lh hy h, mv _ _ _ (jf _ _ _), lz y z hy n _ (by rw [List.length_drop, List.length_cons]; lia)]
   rfl
  | false =>
   rw [j8 h, jc h, lA _ _ _ (jf _ _ _), lz y z hy n _ (by lia)]
   rfl
theorem jg (y : List Nat) : ∀ (n : Nat) (l : List Nat), n ≤ l.length → (∀ k, k < n → y.isPrefixOf (l.drop k) = false) → f8 y 0 l = em (l.take n) (f8 y 0 (l.drop n))
 | 0, l, _, _ => by
  simp only [List.take_zero, List.drop_zero]
  cases h : f8 y 0 l with
  | nil => exact absurd h (jf _ _ _)
  | cons p r => rfl
 | n + 1, [], h, _ => by simp at h
 | n + 1, c :: r, h, hn => by
  have h0 := hn 0 (by lia)
  rw [List.drop_zero] at h0
  rw [j8 h0, jg y n r (by simpa using h) (fun k hk => by simpa using hn (k + 1) (by lia))]
  simp only [List.take_succ_cons, List.drop_succ_cons]
  cases f8 y 0 (List.drop n r) <;> rfl
theorem lP (x y : Str) (i : Nat) (hy : 1 ≤ y.length) : StrLaws.At x y x.length i ↔ y.cps.toList.isPrefixOf (x.cps.toList.drop i) = true := by
 unfold StrLaws.At
 rw [StrLaws.subAt_eq, List.isPrefixOf_iff_prefix, List.prefix_iff_eq_take, beq_iff_eq]
 have e1 : y.length = y.cps.toList.length := by simp [Str.length]
 have e2 : x.length = x.cps.toList.length := by simp [Str.length]
 constructor
 ·rintro ⟨h1, h2⟩; rw [← e1]; exact h2.symm
 ·intro h
  rw [← e1] at h
  refine ⟨?_, h.symm⟩
  have := congrArg List.length h
  rw [List.length_take, List.length_drop] at this
  lia
theorem iG (x y : Str) (hy : 1 ≤ y.length) : ∀ (cuts : List Nat) (a f : Nat), a ≤ x.length → StrLaws.ChainG x y x.length a cuts f → (∀ k, f ≤ k → ¬ StrLaws.At x y x.length k) →
  (StrLaws.partsFrom x y.length a cuts).map (·.cps.toList) = f8 y.cps.toList 0 (x.cps.toList.drop a)
 | [], a, f, ha, hc, hn => by
  have hf : f = a := hc
  subst hf
  have e2 : x.length = x.cps.toList.length := by simp [Str.length]
  have hg := jg y.cps.toList (x.cps.toList.drop f).length (x.cps.toList.drop f) (ae _) (fun k _ => by
   rw [List.drop_drop]
   have := hn (f + k) (by lia)
   rw [lP x y _ hy] at this
   exact Bool.not_eq_true _ ▸ this)
  rw [hg]
  simp only [List.take_length, List.drop_length, f8, em, List.append_nil, StrLaws.partsFrom, ap, List.map_nil, StrLaws.strSub_toList]
  rw [List.take_of_length_le (by rw [List.length_drop]; lia)]
 | c :: r, a, f, ha, hc, hn => by
  obtain ⟨h1, h2, h3, h4⟩ := hc
  have e2 : x.length = x.cps.toList.length := by simp [Str.length]
  have ey : y.length = y.cps.toList.length := by simp [Str.length]
  have hcl : c + y.length ≤ x.length := h2.1
  have hg := jg y.cps.toList (c - a) (x.cps.toList.drop a) (by rw [List.length_drop]; lia) (fun k hk => by
   rw [List.drop_drop]
   have := h3 (a + k) (by lia) (by lia)
   rw [lP x y _ hy] at this
   exact Bool.not_eq_true _ ▸ this)
  have hit := (lP x y c hy).mp h2
  rw [hg, List.drop_drop, show a + (c - a) = c from by lia, mn (by lia) hit, List.drop_drop, ← ey]
  have ih := iG x y hy r (c + y.length) f hcl h4 hn
  simp only [StrLaws.partsFrom, ap, StrLaws.strSub_toList, em, List.append_nil, ih]
theorem e9 (z : Str) : ∀ parts : List Str, (glued z parts).cps.toList = jn z.cps.toList (parts.map (·.cps.toList)) := by
 intro parts
 rw [StrLaws.glued_eq_join]
 induction parts with
 | nil => rfl
 | cons x r ih =>
  cases r with
  | nil => rfl
  | cons q r =>
   show (x ++ z ++ Str.join z (q :: r)).cps.toList = _
   simp only [Str.cps_append, Array.toList_append, ih]
   rfl
theorem gB (x y z : Str) (hy : 1 ≤ y.length) : (Txt.replace x y z).cps.toList = rp y.cps.toList z.cps.toList 0 x.cps.toList := by
 obtain ⟨f, hc, hn⟩ := StrLaws.occ_tight x y hy
 have hp := iG x y hy _ 0 f (Nat.zero_le _) hc hn
 rw [List.drop_zero] at hp
 have ey : y.length = y.cps.toList.length := by simp [Str.length]
 unfold Txt.replace
 have h0 : (y.length == 0) = false := by simp; lia
 rw [h0, Bool.false_and, Bool.or_false]
 rw [← lz y.cps.toList z.cps.toList (by lia) _ _ (ae _), ← hp]
 cases he : (occurrences x y 0 x.length (x.length + 1)).isEmpty
 ·rw [if_neg Bool.false_ne_true, e9, StrLaws.partsBetween_eq]
 ·rw [if_pos rfl]
  rw [List.isEmpty_iff.mp he]
  simp only [StrLaws.partsFrom, ap, List.map_nil, jn, StrLaws.sub_whole]
theorem jY (x y z : Str) (hy : 1 ≤ y.length) : (Txt.replace x y z).length ≤ x.length * (z.length + 1) := by
 have key : ∀ (n : Nat) (l : List Nat), l.length ≤ n → (rp y.cps.toList z.cps.toList 0 l).length ≤ l.length * (z.cps.toList.length + 1) := by
  intro n
  induction n with
  | zero => intro l hl; have : l = [] := List.length_eq_zero_iff.mp (by lia); subst this; simp [rp]
  | succ n ih =>
   intro l hl
   cases l with
   | nil => simp [rp]
   | cons c r =>
    simp only [List.length_cons] at hl
    have ey : y.length = y.cps.toList.length := by simp [Str.length]
    cases h : y.cps.toList.isPrefixOf (c :: r) with
    | true =>
     rw [lh (by lia) h, ao]
     have := ih ((c :: r).drop y.cps.toList.length) (by rw [List.length_drop, List.length_cons]; lia)
     rw [List.length_drop, List.length_cons] at this
     rw [List.length_cons, Nat.add_mul]
     have h2 : (r.length + 1 - y.cps.toList.length) * (z.cps.toList.length + 1) ≤ r.length * (z.cps.toList.length + 1) := Nat.mul_le_mul_right _ (by lia)
     lia
    | false =>
     rw [jc h, List.length_cons, List.length_cons, Nat.add_mul]
     have := ih r (by lia)
     lia
 have := key _ x.cps.toList (ae _)
 rw [← gB x y z hy] at this
 simpa [Str.length] using this
end
section
variable {cs cs' : az} {Q : VP}
theorem mP {l : Addr} {ys : List Value} {v : Value} {u : Tok} (H : St h0 o0 cs s) (hl : Has cs l (ay (ys ++ [v]))) (h : Q v s) : wpAny (model prog w) A (getItem (.ref l) (.int (-1) u)) Q E s := by
 refine wpAny_getItem_list_neg (aU H hl) (by decide) (by simp; lia) (by decide) (x := v) ?_ h
 rw [List.size_toArray, ao, List.length_singleton, show (-1 + ((ys.length + 1 : Nat) : Int)).toNat = ys.length from by lia]
 simp
theorem x_last {value slice : Expr} {l : Addr} {ys : List Value} {v : Value} {u : Tok} (H : St h0 o0 cs s) (hl : Has cs l (ay (ys ++ [v])))
  (hs : subscripted slice false (.ref l) (.int (-1) u) = operate [.ref l, .int (-1) u] (getItem (.ref l) (.int (-1) u))) (h : Q v s) : wpAny (model prog w) A (subscriptTail value slice (.ref l) (.int (-1) u)) Q E s :=
 tail_any (aU H hl).typeIs slot_list_getitem.lookup (mP H hl h) hs
theorem x_pop0 {l : Addr} {ys : List Value} {y : Value} (H : St h0 o0 cs s) (hp : Put cs l (ay (ys ++ [y])) (ay ys) cs') (hz : (ys ++ [y]).length ≤ sizeLine) (h : ∀ s', St h0 o0 cs' s' → Q y s') :
  wpAny (model prog w) A (call (.builtin "list.pop") [.ref l]) Q E s := by
 obtain ⟨n, ho⟩ := bU H hp.has
 have hz' : (ys ++ [y]).toArray.size ≤ sizeLine := by rw [List.size_toArray]; exact hz
 have hsz : (ys ++ [y]).toArray.size - 1 = ys.length := by simp
 have hy : (ys ++ [y]).toArray[(ys ++ [y]).toArray.size - 1]? = some y := by rw [hsz]; simp
 have e : (ys ++ [y]).toArray.eraseIdxIfInBounds ((ys ++ [y]).toArray.size - 1) = ys.toArray := by
  rw [hsz]
  apply Array.toList_inj.mp
  simp [List.eraseIdx_append_of_length_le]
 exact call_meets PySem.F.slot_list_pop ⟨_, ho, rfl⟩ PySem.F.entry_list_pop (PySem.F.args_list_pop_1 _)
  (PySem.MeetsSeq.list_pop_last l _ n y hy hz') ⟨ho, h _ (H.updS (k := s.toks) hp ⟨_, Heap.get?_update_self _ ho rfl, bw e⟩ (Heap.SameBut.update ..) (ae _))⟩
theorem mH {a b c : Str} {pa pb pc pos : Pos} {k : Nat} {t : Addr} {u v x : Value} {Q : Unit → Shared → Prop} (hh : A.handled = none) (H : St h0 o0 cs s) (ht : Has cs t (a8 [u, v, x]))
  (h : ∀ s', St h0 o0 cs s' → wpAny (model prog w) A (storeName env a u) (fun _ s1 => wpAny (model prog w) A (storeName env b v) (fun _ s2 => wpAny (model prog w) A (storeName env c x) Q E s2) E s1) E s') :
  wpAny (model prog w) A (assign (.Tuple [.Name a pa, .Name b pb, .Name c pc] k pos) env (.ref t)) Q E s := by
 refine wpAny_assign_Tuple hh (fw H ht) (by rfl) (by rfl) fun h' he => ?_
 have H' : St h0 o0 cs { s with heap := h' } := H.grow (k := s.toks) (fun b o e => he b o (Nat.ne_of_lt (Heap.lt_size e)) e) (ae _)
 refine wpAny_assignInOrder_more (t := assign (.Name a pa) env) (ts := [assign (.Name b pb) env, assign (.Name c pc) env]) (x := u) (xs := [v, x]) ?_
 refine wpAny_assign_Name (ad (h _ H') (fun _ s1 q => ?_) fun _ _ q => q)
 refine wpAny_assignInOrder_more (t := assign (.Name b pb) env) (ts := [assign (.Name c pc) env]) (x := v) (xs := [x]) ?_
 refine wpAny_assign_Name (ad q (fun _ s2 q => ?_) fun _ _ q => q)
 refine wpAny_assignInOrder_more (t := assign (.Name c pc) env) (ts := []) (x := x) (xs := []) ?_
 refine wpAny_assign_Name (ad q (fun _ s3 q => ?_) fun _ _ q => q)
 exact wpAny_assignInOrder_none q
end
inductive Ents : List DictEntry → List (Str × Value) → Prop where
 | nil : Ents [] []
 | cons {e es x v m} : (∃ t, e.key = .str x t) → e.val = v → Ents es m → Ents (e :: es) ((x, v) :: m)
noncomputable def bg (C dx : Addr) : bM := fun o => o = instObj C dx
noncomputable def cAttrs (m : List (Str × Value)) : bM := fun o => ∃ es n, o = dictOf es n ∧ Ents es m
theorem Ents.length {es m} (h : Ents es m) : es.length = m.length := by
 induction h with
 | nil => rfl
 | cons _ _ _ ih => simp [ih]
theorem Ents.find {es m} (h : Ents es m) (name : Str) : (es.find? (·.key.isStr name)).map (·.val) = m.lookup name := by
 induction h with
 | nil => rfl
 | @cons e es x v m hk hv _ ih =>
  obtain ⟨t, hk⟩ := hk
  rw [List.find?_cons, List.lookup_cons, hk]
  simp only [Value.isStr]
  by_cases q : x = name
  ·subst q; simp [hv]
  ·have q1 : (x == name) = false := by simpa using q
   have q2 : (name == x) = false := by simpa using Ne.symm q
   rw [q1, q2]; exact ih
theorem Ents.noRef {es m} (h : Ents es m) : es.any (·.refKey) = false := by
 induction h with
 | nil => rfl
 | @cons e es x v m hk hv _ ih =>
  obtain ⟨t, hk⟩ := hk
  rw [List.any_cons, ih, Bool.or_false]
  unfold DictEntry.refKey
  rw [hk]
theorem cAttrs.look {m : List (Str × Value)} {o : Obj} (h : cAttrs m o) (name : Str) : lookIn name o = some (m.lookup name) := by
 obtain ⟨es, n, rfl, he⟩ := h
 unfold lookIn dictOf
 dsimp only
 have hf := he.find name
 cases e : es.find? (·.key.isStr name) with
 | some en => rw [e] at hf; simpa using hf
 | none => rw [e] at hf; rw [he.noRef]; simpa using hf
theorem Ents.put {es m m'} {x : Str} {v : Value} {hsh : Int} {t : Tok} (h : Ents es m) (hs : SetN m x v m') : Ents (putL x hsh (.str x t) v es) m' := by
 induction hs generalizing es with
 | new => cases h; exact .cons ⟨t, rfl⟩ rfl .nil
 | @here x u v r =>
  cases h with
  | @cons e es _ _ _ hk hv hr =>
   obtain ⟨t', hk⟩ := hk
   rw [putL, if_pos (by rw [hk]; simp [Value.isStr])]
   exact .cons ⟨t', hk⟩ rfl hr
 | @there x y u v r r' hne _ ih =>
  cases h with
  | @cons e es _ _ _ hk hv hr =>
   obtain ⟨t', hk⟩ := hk
   have q : (y == x) = false := by
    have := hne
    simp only [beq_eq_false_iff_ne] at this ⊢
    exact Ne.symm this
   rw [putL, if_neg (by rw [hk]; simp only [Value.isStr, q]; decide)]
   exact .cons ⟨t', hk⟩ hv (ih hr)
section
variable {cs cs' : az} {K : Frag} {x dx C : Addr} {m m' : List (Str × Value)} {name : Str}
theorem eg (H : St h0 o0 cs s) (hx : Has cs x (bg C dx)) (hd : Has cs dx (cAttrs m)) : ∃ od, cAttrs m od ∧ PySem.W.InstAt s.heap x (instObj C dx) C (some od) := by
 obtain ⟨o, ho, rfl⟩ := H.get hx
 obtain ⟨od, hod, hc⟩ := H.get hd
 exact ⟨od, hc, ho, rfl, rfl, hod⟩
noncomputable def dA (K : Frag) (C : Addr) (name : Str) : Bool :=
 findIn K (.ref C) "__getattribute__" == some (some (.builtin "object.__getattribute__")) && (match clsIn K C with | some cd => cd.hasDict | none => false) &&
  (match findIn K (.ref C) name with
  | some none => true
  | some (some a) => (match specialIn K a "__get__" with | some none => true | some (some _) => takesIn K a == some false | none => false)
  | none => false)
theorem no {od : Obj} {v : Value} (ok : dA K C name = true) (hc : cAttrs m od) (hv : m.lookup name = some v) : findObj K C (some od) name = some (.value v) := by
 unfold dA at ok
 rw [Bool.and_eq_true, Bool.and_eq_true] at ok
 obtain ⟨⟨_, ok2⟩, ok3⟩ := ok
 unfold findObj
 cases e1 : clsIn K C with
 | none => rw [e1] at ok2; cases ok2
 | some cd =>
  rw [e1] at ok2
  have ow : PySem.W.ownOf cd (some od) name = some (some v) := by
   unfold PySem.W.ownOf
   rw [if_pos ok2]
   show lookIn name od = _
   rw [hc.look, hv]
  rw [Option.bind_some]
  cases e2 : findIn K (.ref C) name with
  | none => rw [e2] at ok3; cases ok3
  | some a =>
   rw [e2] at ok3
   rw [Option.bind_some]
   cases a with
   | none =>
    simp only [Option.bind_some, ow]
   | some a =>
    dsimp only at ok3 ⊢
    cases e3 : specialIn K a "__get__" with
    | none => rw [e3] at ok3; cases ok3
    | some g =>
     rw [e3] at ok3
     cases g with
     | none => simp only [Option.bind_some, ow]
     | some g =>
      have e4 : takesIn K a = some false := by simpa using ok3
      simp only [Option.bind_some, e4, ow]
theorem nP {v : Value} {expr : Bool} {Q : VP} (B : Base K h0) (H : St h0 o0 cs s) (hx : Has cs x (bg C dx)) (hd : Has cs dx (cAttrs m)) (hv : Look m name v) (ok : dA K C name = true) (hh : handedIn v = true)
  (h : ∀ s', St h0 o0 cs s' → Q v s') : wpAny (model prog w) A (getAttr (.ref x) name expr) Q E s := by
 obtain ⟨od, hc, I⟩ := eg H hx hd
 have ga : findIn K (.ref C) "__getattribute__" = some (some (.builtin "object.__getattribute__")) := by
  unfold dA at ok
  rw [Bool.and_eq_true, Bool.and_eq_true] at ok
  exact eq_of_beq ok.1.1
 exact get_value (B.X.keeps H.keep) I ga (no ok hc hv.eq) hh (h _ (H.toks (Nat.le_succ _)))
noncomputable def gG (K : Frag) (C : Addr) (name : Str) (f : Addr) : Bool :=
 findIn K (.ref C) "__getattribute__" == some (some (.builtin "object.__getattribute__")) && findIn K (.ref C) "__getattr__" == some none && findIn K (.ref C) name == some (some (.ref f)) && typeIn K (.ref f) == some (.type "function")
theorem x_meth {f : Addr} {pl : Sem Bool} {Q : Value × List Value → Shared → Prop} (B : Base K h0) (H : St h0 o0 cs s) (hx : Has cs x (bg C dx)) (hd : Has cs dx (cAttrs m)) (hv : m.lookup name = none) (ok : gG K C name f = true)
  (h : Q (.ref f, [.ref x]) s) : wpAny (model prog w) A (getMethod (.ref x) name pl) Q E s := by
 obtain ⟨od, hc, I⟩ := eg H hx hd
 unfold gG at ok
 simp only [Bool.and_eq_true] at ok
 obtain ⟨⟨⟨o1, o2⟩, o3⟩, o4⟩ := ok
 refine method_fn (B.X.keeps H.keep) I (eq_of_beq o1) (eq_of_beq o2) (eq_of_beq o3) (eq_of_beq o4) ?_ h
 show (lookIn name od).map _ = _
 rw [hc.look, hv]; rfl
noncomputable def jV (K : Frag) (C : Addr) (name : Str) : Bool :=
 findIn K (.ref C) "__setattr__" == some (some (.builtin "object.__setattr__")) && plainOver K C && takerIn K C name == some none && (clsIn K C).any (·.hasDict)
theorem mK {v : Value} {Q : Unit → Shared → Prop} (B : Base K h0) (H : St h0 o0 cs s) (hx : Has cs x (bg C dx)) (hp : Put cs dx (cAttrs m) (cAttrs m') cs') (hs : SetN m name v m') (hz : m.length ≤ 900) (ok : jV K C name = true)
  (h : ∀ s', St h0 o0 cs' s' → Q () s') : wpAny (model prog w) A (setAttr (.ref x) name v) Q E s := by
 unfold jV at ok
 simp only [Bool.and_eq_true] at ok
 obtain ⟨⟨⟨o1, o2⟩, o3⟩, o4⟩ := ok
 obtain ⟨od, hc, I⟩ := eg H hx hp.has
 refine set_plain (B.X.keeps H.keep) I (eq_of_beq o1) ?_
 have H1 : St h0 o0 cs { s with toks := s.toks + 1 } := H.toks (Nat.le_succ _)
 obtain ⟨od1, hc1, I1⟩ := eg H1 hx hp.has
 have X1 : K.In s.heap := B.X.keeps H.keep
 refine osa_open X1 I1 o2 (eq_of_beq o3) fun b => ?_
 obtain ⟨cd, hcd, hd'⟩ := any_some o4
 obtain ⟨es, n, rfl, he⟩ := hc1
 have D : s.heap.get? dx = some (dictOf es n) := I1.dict
 have hxx : s.heap.get? x = some (instObj C dx) := I1.at_
 refine aa (ab (aa (aa (wpAny_loadPart hxx (aa (Looks.here (s := { s with toks := s.toks + 1 }) (looks_clsIn X1 hcd) ?_))))))
 rw [hd']
 refine ab (a := some dx) (aa (ab (aa ?_)))
 unfold nsSet
 refine aa (aa (wpAny_askSetting (ab (aa (wpAny_mkText (aa (wpAny_loadPart D ?_)))))))
 dsimp only
 have c : (!es.toArray.any (·.key.isStr name) && es.toArray.any (·.refKey)) = false := by
  rw [List.any_toArray, List.any_toArray, he.noRef, Bool.and_false]
 rw [aRefKeyMayBeTheName_at, c]
 refine wpAny_updatePart D ?_
 have hlen : ∀ (l : List DictEntry) (hsh : Int) (k u : Value), (putL name hsh k u l).length ≤ l.length + 1 := by
  intro l hsh k u
  induction l with
  | nil => simp [putL]
  | cons e r ih =>
   rw [putL]
   split
   ·simp
   ·simp only [List.length_cons]; lia
 have hel := he.length
 have D' := Heap.get?_update_self (Obj.putName name (PyData.keyHash w.params name) (.str name (s.toks + 1)) v) D (by rw [putName_dict]; rfl)
 rw [putName_dict] at D'
 refine aa (wpAny_lookBehind D' (pastItsLine_dict (by rw [List.size_toArray, af]; have := hlen es (PyData.keyHash w.params name) (.str name (s.toks + 1)) v; lia)) ?_)
 refine ab ?_
 refine h _ (H.updS (k := s.toks + 1 + 1) hp ⟨_, D', _, _, rfl, he.put hs⟩ (Heap.SameBut.update ..) (by lia))
theorem x_fnB {fa : Addr} {ar : Args} {m : List (Str × Value)} {R : RP} (B : Base K h0) (H : St h0 o0 cs s) (hf : pI K fa = true) (hroom : A.depth < recursionLimit)
  (hbind : BindsTo s (aK K fa) ar m.reverse) (hloc : (m.all fun x => (aK K fa).scope.names.lookup x.1 == some .local) = true)
  (h : ∀ L s', St h0 o0 ((L, cNs m) :: cs) s' → wpAny (model prog w) (A.deeper (callEnv (aK K fa) L fa)) (execs (aZ K fa) (callEnv (aK K fa) L fa)) (fun f s'' => R (.ok (.ret (match f with | .ret v => v | _ => .none))) s'') NoE s') :
  codeAny (model prog w) A (.call (.ref fa) ar) R s := by
 unfold pI at hf
 split at hf
 ·rename_i c d fd sl ho
  simp only [Bool.and_eq_true, Bool.not_eq_true', beq_iff_eq] at hf
  obtain ⟨⟨⟨⟨⟨h1, h2⟩, h3⟩, h4⟩, h5⟩, h6⟩ := hf
  have e : aK K fa = fd := by unfold aK; rw [ho]
  have eb : fd.body = .stmts (aZ K fa) := by
   unfold aZ; rw [e]
   cases hb : fd.body with
   | stmts b => rfl
   | expr _ => rw [hb] at h6; cases h6
  rw [e] at hbind hloc h
  refine codeAny_call_def (fd := fd) (body := aZ K fa) (binds := m.reverse) hroom (H.keep _ _ (B.X _ _ ho)) rfl (B.lim.keeps H.keep) ((codeRec_of B.X h1).keeps H.keep) eb hbind (fun x hx => ?_) (fun x hx => ?_) (fun h₁ hns hk₁ => ?_) h2 h3 h4
  ·simpa using List.all_eq_true.mp h5 x hx
  ·simpa using List.all_eq_true.mp hloc x (List.mem_reverse.mp hx)
  ·rw [List.reverse_reverse] at hns
   exact ad (h s.heap.objs.size _ (H.more (ae _) (dD hns fun _ _ q => q) hk₁ (Nat.le_add_right _ _))) (fun f s' q => q) fun _ _ q => q.elim
 ·cases hf
theorem x_make {fI : Addr} {rest : List Value} {kw : List (Str × Value)} {R : RP} (B : Base K h0) (H : St h0 o0 cs s) (hm : makesIn K C = true) (hi : findIn K (.ref C) "__init__" = some (some (.ref fI))) (hf : typeIn K (.ref fI) = some (.type "function"))
  (h : ∀ x dx s', St h0 o0 ((x, bg C dx) :: (dx, cAttrs []) :: cs) s' → codeAny (model prog w) (A.under (.builtin "type.__call__" ⟨.ref C :: rest, kw⟩)) (.call (.ref fI) ⟨.ref x :: rest, kw⟩) (InitBack x R) s') :
  codeAny (model prog w) A (.call (.ref C) ⟨rest, kw⟩) R s := by
 have X : K.In s.heap := B.X.keeps H.keep
 obtain ⟨hh, g, d, t, os⟩ := s
 refine make_core (makes_of X hm) (looks_findIn X hi) (fun self => bind_fn X self hf) (.inl rfl) ?_
 have H1 := H.push (k := t) (o := emptyDict) (c := cAttrs []) ⟨[], 0, rfl, .nil⟩ (ae _)
 have H2 := H1.push (k := t) (o := instObj C hh.objs.size) (c := bg C hh.objs.size) rfl (ae _)
 have e : (hh.push emptyDict).objs.size = hh.objs.size + 1 := Heap.size_push ..
 have H3 : St h0 o0 (((hh.push emptyDict).objs.size, bg C hh.objs.size) :: (hh.objs.size, cAttrs []) :: cs) ⟨(hh.push emptyDict).push (instObj C hh.objs.size), g, d, t, os⟩ := H2
 rw [e] at H3
 exact h _ _ _ H3
end
section
open PySem PySem.W PySem.Calls PyProof.Rows Builtin Builtin.ObjectAttr Builtin.Getset_descriptor
theorem nf : typeLookup (.type "list") "append" = pure (some (.builtin "list.append")) := PySem.F.slot_list_append.lookup
theorem md_get : typeLookup (.type "method_descriptor") "__get__" = pure (some (.builtin "method_descriptor.__get__")) := by rw [typeLookup_type, builtinLookup_eq_fast]; kernel_rfl
theorem md_set : typeLookup (.type "method_descriptor") "__set__" = pure none := by rw [typeLookup_type, builtinLookup_eq_fast]; kernel_rfl
theorem md_del : typeLookup (.type "method_descriptor") "__delete__" = pure none := by rw [typeLookup_type, builtinLookup_eq_fast]; kernel_rfl
theorem slot_md : Slot "method_descriptor" "__get__" "method_descriptor.__get__" :=
 .of (owner := "method_descriptor") (n := "__get__") (by rw [typeLookup_type, builtinLookup_eq_fast]; kernel_rfl) (by decide +kernel) (by decide +kernel) (by decide +kernel)
  (by first | exact .inl (by decide +kernel) | exact .inr (by decide +kernel)) (by rw [isSubtype_type]; kernel_rfl)
theorem pL : entryFor table "method_descriptor.__get__" = some Builtin.«method_descriptor.__get__» := entryFor_of_tree (by kernel_rfl)
theorem args_md (a b c : Value) : argsOk "method_descriptor.__get__" ⟨[a, b, c], []⟩ := by unfold argsOk; kernel_rfl
noncomputable abbrev d5 (id : String) (l : Addr) : Obj := { cls := .type "builtin_function_or_method", data := .fields #[.builtin id, .ref l] }
noncomputable def bQ (id : String) (l : Addr) : bM := fun o => o = d5 id l
theorem md_call {R : RP} {a : Addr} {xs : Array Value} {k : Nat} (hx : s.heap.get? a = some { cls := .type "list", dict := none, data := .seq xs k, slots := #[] })
  (h : R (.ok (.ret (.ref s.heap.objs.size))) { s with heap := s.heap.push (d5 "list.append" a) }) :
  codeAny (model prog w) A (.call (.builtin "method_descriptor.__get__") ⟨[.builtin "list.append", .ref a, .type "list"], []⟩) R s := by
 obtain ⟨hp, g, d, tk, os⟩ := s
 have hT : (⟨hp, g, d, tk, os⟩ : Shared).TypeIs (.ref a) "list" := ⟨_, hx, rfl⟩
 have f2 := PySem.F.type_list_append
 refine codeAny_call_builtin slot_md.plain pL (slot_md.check _ _ _ _ _ _ _ _ (by exact f2) (args_md _ _ _) ?_)
 unfold Builtin.«method_descriptor.__get__»
 refine aa (wpAny_of_eq (a := (.builtin "list.append", some (.ref a), some (.type "list"))) (by kernel_rfl) ?_)
 dsimp only
 rw [if_neg (by decide +kernel)]
 refine aa ?_
 refine aa (wpAny_of_eq (a := (ofString "append", .type "list")) (by kernel_rfl) ?_)
 dsimp only
 refine aa (wpAny_isInstance hT (b := true) (by rw [isSubtype_type]; kernel_rfl) ?_)
 rw [if_neg (by decide)]
 refine ab ?_
 exact aa (wpAny_newObj_type (ab h))
theorem f9 (a : Addr) (xs : Array Value) (k : Nat) (u : Tok) :
  Meets (Builtin.«object.__getattribute__» ⟨[.ref a, .str (ofString "append") u], []⟩) (fun A R s => s.heap.get? a = some { cls := .type "list", dict := none, data := .seq xs k, slots := #[] } ∧
   R (.ok (.ret (.ref s.heap.objs.size))) { s with heap := s.heap.push (d5 "list.append" a) }) :=
 Meets.of_wp fun prog w A R s hs => by
  obtain ⟨hp, g, d, tk, os⟩ := s
  obtain ⟨hx, hs⟩ := hs
  have hT : (⟨hp, g, d, tk, os⟩ : Shared).TypeIs (.ref a) "list" := ⟨_, hx, rfl⟩
  have f1 := nf
  have f2 := PySem.F.type_list_append
  have f3 := md_get
  have f4 := md_set
  have f5 := md_del
  unfold Builtin.«object.__getattribute__»
  repeat (any_goals (first | assumption | wp_step))
  refine md_call hx ?_
  exact ab ⟨_, rfl, hs⟩
theorem nh : typeLookup (.type "list") "__getattribute__" = pure (some (.builtin "list.__getattribute__")) := by rw [typeLookup_type, builtinLookup_eq_fast]; kernel_rfl
theorem ga_type : typeOf (.builtin "list.__getattribute__") = pure (.type "wrapper_descriptor") := by show builtinType _ = _; rw [builtinType_eq_fast]; kernel_rfl
section
variable {cs cs' : az} {K : Frag} {Q : VP}
theorem jH {l : Addr} {xs : List Value} {ex : Bool} (H : St h0 o0 cs s) (hl : Has cs l (ay xs)) (h : ∀ a s', St h0 o0 ((a, bQ "list.append" l) :: cs) s' → Q (.ref a) s') :
  wpAny (model prog w) A (getAttr (.ref l) (ofString "append") ex) Q E s := by
 unfold getAttr
 refine aa (wpAny_mkText ?_)
 unfold getAttrBy
 have H1 := H.toks (k := s.toks + 1) (Nat.le_succ _)
 obtain ⟨n, ho⟩ := bU H1 hl
 refine aw (aa ?_)
 refine wpAny_typeOf (aU H1 hl).typeIs ?_
 refine aa (wpAny_of_eq nh ?_)
 dsimp only
 rw [if_neg (by decide)]
 unfold getAttrByItsOwn
 refine aa (wpAny_of_eq (a := none) rfl ?_)
 refine aa (wpAny_attempt (aw ?_))
 unfold callGetattribute
 rw [if_neg (by cases ex <;> decide)]
 unfold boundAndCalled bindSpecial
 refine aa (aa (wpAny_of_eq ga_type (ab ?_)))
 show wpAny _ _ (call (.builtin "list.__getattribute__") [.ref l, .str (ofString "append") s.toks]) _ _ _
 refine call_meets F.slot_list_getattribute (aU H1 hl).typeIs am_entry_list_getattribute (F.args_list_getattribute_2 _ _) (f9 l xs.toArray n s.toks) ⟨ho, ?_⟩
 refine ab ?_
 exact h _ _ (H.push (k := s.toks + 1) rfl (Nat.le_succ _))
theorem f6 {b : Addr} {id : String} {self : Value} {vs : List Value} {B : Builtin} {S : PySem.Spec} (hb : s.heap.get? b = some { cls := .type "builtin_function_or_method", data := .fields #[.builtin id, self] })
  (hchk : ∀ (A : Around) (E : VP) (P : Unit → Shared → Prop), P () s → wpAny (model prog w) A (checkBoundCall id ⟨self :: vs, []⟩) P E s) (plain : plainId id = true) (entry : entryFor table id = some B) (g : Meets (B ⟨self :: vs, []⟩) S) (h : S A (wants Q E) s) :
  wpAny (model prog w) A (call (.ref b) vs) Q E s := by
 refine wpAny_call (codeAny_of_tree ?_)
 show wpAny _ A.in1 (callAny (.ref b) ⟨vs, []⟩) _ _ s
 simp only [callAny]
 refine aa (wpAny_load hb ?_)
 simp only [show (Value.type "builtin_function_or_method" == Value.type "method" || Value.type "builtin_function_or_method" == Value.type "builtin_function_or_method" || Value.type "builtin_function_or_method" == Value.type "method-wrapper") = true by decide, if_true]
 refine KFB.if_so (by decide) ?_
 refine aa (hchk _ _ _ ?_)
 refine aa (ab (ab ?_))
 exact ⟨plainId_quiet plain _, codeAny_builtin entry (by rw [Around.under_plainId plain _]; exact g prog w A (wants Q E) s h)⟩
theorem lH {l : Addr} {v : Value} {xs : Array Value} {n : Nat} (ho : s.heap.get? l = some { cls := .type "list", data := .seq xs n }) (P : Unit → Shared → Prop) (h : P () s) : wpAny (model prog w) A (checkBoundCall "list.append" ⟨[.ref l, v], []⟩) P E s := by
 have hT : s.TypeIs (.ref l) "list" := ⟨_, ho, rfl⟩
 unfold checkBoundCall
 rw [show builtinKind "list.append" = some .method from by decide +kernel]
 split
 ·rename_i sig hs
  dsimp only
  rw [if_neg (by decide)]
  refine aa (wpAny_isInstance hT (b := false) (by rw [isSubtype_type]; kernel_rfl) ?_)
  rw [if_neg (by decide +kernel)]
  refine aa ?_
  unfold isType
  refine aa (wpAny_loadPart ho (ab ?_))
  rw [if_neg (fun q => by cases q)]
  refine aa (wpAny_typeOf hT ?_)
  dsimp only
  have key : (Manifest.signature? "list.append").map (fun sig => Bind.checkArgs "list.append" { sig with full := s!"{Bind.lastOf "list"}.{Bind.lastOf "list.append"}" } ⟨[.ref l, v], []⟩) = some (pure ()) := by kernel_rfl
  rw [hs] at key
  exact wpAny_of_eq (Option.some.inj key) h
 ·exact ab h
theorem i2 {b l : Addr} {xs : List Value} {v : Value} (H : St h0 o0 cs s) (hb : Has cs b (bQ "list.append" l)) (hp : Put cs l (ay xs) (ay (xs ++ [v])) cs') (hsz : xs.length ≤ sizeLine) (h : ∀ s', St h0 o0 cs' s' → Q .none s') :
  wpAny (model prog w) A (call (.ref b) [v]) Q E s := by
 obtain ⟨o, ho, rfl⟩ := H.get hb
 obtain ⟨n, hl⟩ := bU H hp.has
 refine f6 ho (fun A E P q => lH hl P q) (by decide +kernel) F.entry_list_append (PySem.AutoListH.list_append_list_val_0 l xs.toArray n v (by simpa using hsz)) ⟨hl, ?_⟩
 exact h _ (H.updS (k := s.toks) hp ⟨_, Heap.get?_update_self _ hl rfl, bw (by simp)⟩ (Heap.SameBut.update ..) (ae _))
theorem pS {x : Str} {t : Tok} {v : Value} (P : Unit → Shared → Prop) (h : P () s) : wpAny (model prog w) A (checkBoundCall "str.join" ⟨[.str x t, v], []⟩) P E s := by
 have e : checkBoundCall "str.join" ⟨[.str x t, v], []⟩ = pure () := by kernel_rfl
 rw [e]; exact ab h
theorem kZ {b : Addr} {x : Str} {t : Tok} {D : Addr} {l : List (Str × Tok)} (H : St h0 o0 cs s) (hb : h0.get? b = some { cls := .type "builtin_function_or_method", data := .fields #[.builtin "str.join", .str x t] }) (hl : Has cs D (ay (strValues l))) (hok : JoinOk x (l.map (·.1)) = true)
  (h : ∀ t' s', St h0 o0 cs s' → Q (.str (Txt.join x (l.map (·.1))) t') s') : wpAny (model prog w) A (call (.ref b) [.ref D]) Q E s := by
 refine di ?_
 unfold JoinOk at hok
 rw [Bool.not_eq_true'] at hok
 exact f6 (H.keep _ _ hb) (fun A E P q => pS P q) (by decide +kernel) F.entry_str_join (meets_str_join_list x t D l hok) ⟨aU H hl, post_join l ⟨joinFit_length hok, fun t' k hk => h t' _ (H.toks hk)⟩⟩
theorem ky {b l : Addr} {id : String} (hp : Heap) (hb : hp.get? b = some (d5 id l)) : ∃ k, (k = Keeper.frame ∨ k = Keeper.machine ∨ k = Keeper.boundFrame) ∧ Looks (model prog w) hp (keeperOf (.ref b)) k :=
 ⟨.machine, .inr (.inl rfl), (Looks.ld (part := none) hb).andThen .now⟩
theorem jI {pos : Pos} {b l : Addr} {id : String} {e : Expr} {rest : List Expr} {first : List Value}
  (h : wpAny (model prog w) A (spliced (backTo pos (starEach (e :: rest) env))) (fun vs s₁ => ∃ o0 cs, St h0 o0 cs s₁ ∧ Has cs b (bQ id l) ∧ wpAny (model prog w) A (call (.ref b) (first ++ vs)) Q E s₁) E s)
  (he : starEach (e :: rest) env = (false, eval e env) :: starEach rest env := by rfl) (hplain : (backTo pos (starEach rest env)).any (·.1) = false := by rfl) :
  wpAny (model prog w) A (callWith pos (.ref b) first (backTo pos (starEach (e :: rest) env)) []) Q E s := by
 rw [he] at h ⊢
 refine callWith_of (P := fun hp => hp.get? b = some (d5 id l)) (by show ((false || (backTo pos (starEach rest env)).any (·.1)) || false) = false; rw [hplain]; rfl) (fun hp => ky hp) (evalArgs_plain (ad h (fun vs s₁ q => ?_) fun _ _ q => q))
 obtain ⟨o0, cs, H, hb, q⟩ := q
 obtain ⟨o, ho, rfl⟩ := H.get hb
 exact ⟨ho, q⟩
end
end
section
open PySem.Sem (wp)
noncomputable def lV (F : RP) (Y : Value → GenState → Shared → Prop) (e : End) (s : Shared) : Prop :=
 match e with
 | .ret r => F r s
 | .susp v g l k c p fs => (End.susp v g l k c p fs).quiet = true ∧ Y v (End.susp v g l k c p fs).genState s
noncomputable def Leg (M : Model) (A : Around) (F : RP) (Y : Value → GenState → Shared → Prop) (c : Code) (t : Sem PySem.Fin) (fs : List Frame) (s : Shared) : Prop :=
 ∀ Γ p, Γ.code = c → Γ.Woken A → ∃ e s', Runs M Γ p t fs s e s' ∧ lV F Y e s'
section
variable {M : Model} {F : RP} {Y : Value → GenState → Shared → Prop} {c : Code} {fs : List Frame}
theorem Leg.over {α : Type} {m : Sem α} {K : α → Sem PySem.Fin} {H : Value → Sem PySem.Fin} {gd : Bool → Bool} {lv : List Value → List Value}
  (h : wpAny M (A.over c fs) m (fun a s' => Leg M A F Y c (K a) fs s') NoE s) : Leg M A F Y c (m.wrap K H gd lv) fs s := by
 intro Γ p hc hΓ
 subst hc
 exact runs_wrap_of_wp K H gd lv m (h (Γ.over fs) p (hΓ.over fs)) (fun a p' s' q => q Γ p' rfl hΓ) fun _ _ _ q => q.elim
theorem Leg.bindw {α β : Type} {m : Sem α} {K : α → Sem β} {K' : β → Sem PySem.Fin} {H : Value → Sem PySem.Fin} {gd : Bool → Bool} {lv : List Value → List Value}
  (h : wpAny M (A.over c fs) m (fun a s' => Leg M A F Y c ((K a).wrap K' H gd lv) fs s') NoE s) : Leg M A F Y c ((m >>= K).wrap K' H gd lv) fs s := by
 rw [Sem.bind_eq_wrap', Sem.wrap_wrap]; exact Leg.over h
theorem Leg.bind {α : Type} {m : Sem α} {K : α → Sem PySem.Fin} (h : wpAny M (A.over c fs) m (fun a s' => Leg M A F Y c (K a) fs s') NoE s) : Leg M A F Y c (m >>= K) fs s := by
 rw [Sem.bind_eq_wrap']; exact Leg.over h
theorem Leg.point {l : List Value} {k : Unit → Sem PySem.Fin} (h : Leg M A F Y c (k ()) fs s) : Leg M A F Y c (.point l k) fs s :=
 Leg.over (m := PySem.point) (K := k) (H := .raise) (gd := id) (lv := fun _ => l) (wpAny_point h)
theorem Leg.call {c' : Code} {h g l} {k : Result → Sem PySem.Fin} (hc : ∀ p, Leg M A F Y c' (M.den c') (.ret k h g l c p [] :: fs) s) : Leg M A F Y c (.call c' h g l k) fs s := by
 intro Γ p e hΓ
 subst e
 obtain ⟨e, s', hr, he⟩ := hc p (Γ.goto c') p rfl (hΓ.goto c')
 exact ⟨e, s', runs_call_seg hr, he⟩
theorem Leg.leaf {k h g l c₁ p₁ kp} (r : Result) (hk : Leg M A F Y c₁ (k r) fs s) : Leg M A F Y c (leafOf r) (.ret k h g l c₁ p₁ kp :: fs) s := by
 intro Γ p e hΓ
 subst e
 obtain ⟨e, s', hr, he⟩ := hk (Γ.goto c₁) p₁ rfl (hΓ.goto c₁)
 exact ⟨e, s', Runs.pop r hr, he⟩
theorem Leg.again {c' : Code} (hq : c'.quiet = true) (hc : Leg M A F Y c' (M.den c') fs s) : Leg M A F Y c (.pure (.again c')) fs s := by
 intro Γ p e hΓ
 subst e
 obtain ⟨e, s', hr, he⟩ := hc (Γ.goto c') p rfl (hΓ.goto c')
 exact ⟨e, s', Runs.head (c₁ := c') (fun _ _ x => .again hq x) hr, he⟩
theorem Leg.fin (r : Result) (h : F r s) : Leg M A F Y c (leafOf r) [] s := by
 intro Γ p e _
 exact ⟨.ret r, s, Runs.leaf r, h⟩
theorem Leg.yield {v g l} {k : Resume → Sem PySem.Fin} (hfs : splitAtGen fs = none) (hg : g = false) (hfg : fs.any Frame.guarded = false)
  (h : ∀ p, Y v (.suspended k l c p fs false) s) : Leg M A F Y c (.yield v g l k) fs s := by
 intro Γ p e _
 subst e
 subst hg
 refine ⟨_, s, Runs.yield' fs hfs, ?_, ?_⟩
 ·simp [End.quiet, hfg]
 ·have := h p
  simp only [End.genState, Bool.false_or, hfg]
  exact this
noncomputable def fu (M : Model) (A : Around) (F : RP) (Y : Value → GenState → Shared → Prop) (gs : GenState) (s : Shared) : Prop :=
 match gs with
 | .fresh c => Leg M A F Y c (M.den c) [] s
 | .suspended k _ c _ fs _ => Leg M A F Y c (k (.send .none)) fs s
 | _ => False
theorem jK {g : Nat} {gs : GenState} {l : List Value} {α : Type} {k : GenResult → Sem α} {Q : α → Shared → Prop} (hg : s.gens[g]? = some gs)
  (hgo : fu M A F Y gs (s.setGen g .running))
  (hF : ∀ r s₁, F r s₁ → wpAny M A (k (End.ret r).result) Q E (s₁.setGen g .finished))
  (hY : ∀ v gs' s₁, gs'.bare = true → Y v gs' s₁ → wpAny M A (k (.yielded v)) Q E (s₁.setGen g gs')) : wpAny M A (.resume g (.send .none) l k) Q E s := by
 intro Γ p hΓ
 rw [Sem.wp_resume]
 have hB : ∀ c, (Γ.wake c p).Woken A := fun c => hΓ.wake c p
 have fin : ∀ e₁ s₁, lV F Y e₁ s₁ → wp M Γ (k e₁.result) (fun a _ s' => Q a s') (fun e _ s' => E e s') p (s₁.setGen g e₁.genState) := by
  intro e₁ s₁ he
  cases e₁ with
  | ret x => exact hF x s₁ he Γ p hΓ
  | susp v g₀ l₀ k₀ c₀ p₀ fs₀ => exact hY v _ s₁ (End.bare_of_quiet he.1) he.2 Γ p hΓ
 have hqt : ∀ e₁ s₁, lV F Y e₁ s₁ → e₁.quiet = true := by
  intro e₁ s₁ he
  cases e₁ with
  | ret x => rfl
  | susp v g₀ l₀ k₀ c₀ p₀ fs₀ => exact he.1
 cases gs with
 | fresh c =>
  obtain ⟨e₁, s₁, hr, he⟩ := hgo (Γ.wake c p) p rfl (hB c)
  exact ⟨_, _, by unfold Wakes; rw [hg]; exact ⟨e₁, s₁, hr, hqt e₁ s₁ he, rfl, rfl⟩, fin e₁ s₁ he⟩
 | suspended k₀ l₀ c₀ p₀ fs₀ cl =>
  obtain ⟨e₁, s₁, hr, he⟩ := hgo (Γ.wake c₀ p) p₀ rfl (hB c₀)
  exact ⟨_, _, by unfold Wakes; rw [hg]; exact ⟨e₁, s₁, hr, hqt e₁ s₁ he, rfl, rfl⟩, fin e₁ s₁ he⟩
 | running => exact hgo.elim
 | finished => exact hgo.elim
end
section
theorem ir {a : Addr} {g : Nat} {gs : GenState} {F : GP} {Y : Value → GenState → Shared → Prop} {Q : Option Value → Shared → Prop} (hh : A.handled = none) (hl : s.heap.NoLimit) (hroom : A.depth < recursionLimit)
  (hg : s.heap.IsGen a g) (hgs : s.gens[g]? = some gs) (hgo : fu (model prog w) A.in1 (fun r s₁ => r = .ok (.ret .none) ∧ F s₁) Y gs (s.setGen g .running))
  (hY : ∀ v gs' s₁, gs'.bare = true → Y v gs' s₁ → Q (some v) (s₁.setGen g gs'))
  (hF : ∀ s₁, F s₁ → ∀ h', (∀ b o, s₁.heap.get? b = some o → h'.get? b = some o) → Q none { s₁.setGen g .finished with heap := h' }) : wpAny (model prog w) A (pyNext (.ref a)) Q E s := by
 unfold pyNext
 refine aa (wpAny_attempt (wpAny_callSpecial?_slot (name := ofString "__next__") hg.typeIs slot_gen_next (wpAny_call_entry slot_gen_next hg.typeIs entry_gen_next ?_ (args_gen_next _))))
 show wpAny _ A.in1 (Builtin.Generator.genWake (.ref a) (.send .none)) _ _ s
 unfold Builtin.Generator.genWake
 refine aa (aw (wpAny_genNumber hg (aa (wpAny_genState hgs ?_))))
 cases gs with
 | running => exact hgo.elim
 | finished => exact hgo.elim
 | _ =>
  refine aa (wpAny_roomToWake hl hroom ?_)
  show wpAny _ A.in1 (.resume g (.send .none) [] _) _ _ s
  refine jK hgs hgo (fun x s₁ hx => ?_) fun v gs' s₁ hb hv => ?_
  ·obtain ⟨rfl, hp⟩ := hx
   show wpAny _ A.in1 (newExc (.type "StopIteration") [] >>= _) _ _ _
   refine aa ?_
   simp only [newExc, newTuple]
   refine aa (wpAny_newObj_type ?_ (by size_fits))
   refine aa (m := firstArgMember _ _) (wpAny_of_eq (a := Value.none) (by first | rfl | (simp only [firstArgMember]; rfl)) ?_)
   refine wpAny_newObj_type ?_ (by size_fits)
   simp only [raiseNew]
   refine aa (aa (wpAny_handled ?_))
   first | rw [show A.in1.handled = none from hh] | rw [hh]
   refine wpAny_throw ?_
   refine aa (wpAny_isInstance (T := "StopIteration") (b := true) ⟨_, Heap.get?_push_size _ rfl, rfl⟩ isSubtype_stop ?_)
   exact ab (hF s₁ hp _ fun b o hb => Heap.get?_push_of_some _ (Heap.get?_push_of_some _ hb))
  ·exact ab ⟨v, rfl, ab (hY v gs' s₁ hb hv)⟩
end
end
noncomputable abbrev lK (lI : Addr) : Code := .builtin "proto.yield_from" ⟨[.ref lI, .bool false, .none], []⟩
theorem kG : entryFor table "proto.yield_from" = some Builtin.«proto.yield_from» := entryFor_of_tree (by kernel_rfl)
theorem Leg.builtin {F : RP} {Y : Value → GenState → Shared → Prop} {fs : List Frame} {id : String} {args : Args} {b : Builtin} (hb : entryFor table id = some b)
  (h : Leg (model prog w) A F Y (.builtin id args) (b args) fs s) : Leg (model prog w) A F Y (.builtin id args) ((model prog w).den (.builtin id args)) fs s := by
 show Leg _ _ _ _ _ (match entryFor table id with | some b => b args | none => unsupported ((withoutEnding? id "#data").getD id)) _ _
 rw [hb]; exact h
theorem lr : typeLookup (.type "list_iterator") "close" = pure none := by rw [typeLookup_type, builtinLookup_eq_fast]; kernel_rfl
theorem nX : isSubtype (.type "StopIteration") (.type "StopIteration") = pure true := by rw [isSubtype_type]; kernel_rfl
section
theorem li_item {it l : Addr} {i : Nat} {items : Array Value} {x : Value} {Q : Option Value → Shared → Prop} (hit : s.heap.IsListIter it l i) (hl : s.heap.IsList l items) (hx : items[i]? = some x)
  (hQ : ∀ h', h'.IsListIter it l (i + 1) → Heap.SameBut it s.heap h' → Q (some x) { s with heap := h' }) : wpAny (model prog w) A (callSpecial? (.ref it) (ofString "__next__")) Q E s := by
 obtain ⟨o, ho, hc, hd⟩ := id hit
 obtain ⟨ol, hol, _, nl, hdl⟩ := hl
 refine wpAny_callSpecial?_slot (name := ofString "__next__") hit.typeIs slot_listiter_next (wpAny_call_entry slot_listiter_next hit.typeIs entry_listiter_next ?_ (args_listiter_next _))
 show wpAny _ _ (field (.ref it) 0 >>= _) _ _ s
 refine aa (wpAny_field ho hd (x := .ref l) rfl ?_)
 show wpAny _ _ (if (Value.ref l == Value.none) = true then _ else _) _ _ s
 rw [if_neg (show ¬ ((Value.ref l == Value.none) = true) from Bool.false_ne_true)]
 show wpAny _ _ (field (.ref it) 1 >>= _) _ _ s
 refine aa (wpAny_field ho hd (x := .int i 0) rfl ?_)
 show wpAny _ _ (seqItems? (.ref l) >>= _) _ _ s
 refine aa (wpAny_seqItems hol hdl ?_)
 simp only [Int.toNat_natCast, hx]
 refine aa (wpAny_setField ho hd (by simp) (ab ⟨x, rfl, hQ _ ?_ (Heap.SameBut.update ..)⟩))
 exact ⟨_, Heap.get?_update_self _ ho (Obj.isFreed_of_fields (Obj.data_mapFields hd _)), (Obj.cls_mapFields ..).trans hc, by
  rw [Obj.data_mapFields hd]; simp [rawInt]⟩
theorem li_end {it l : Addr} {i : Nat} {items : Array Value} {Q : Option Value → Shared → Prop} (hh : A.handled = none) (hit : s.heap.IsListIter it l i) (hl : s.heap.IsList l items) (hx : items[i]? = none)
  (hE : ∀ e h' oe vs, Heap.ExtBut it s.heap h' → h'.get? e = some oe → oe.cls = .type "StopIteration" → oe.data = .fields vs → vs[5]? = some .none → E (.ref e) { s with heap := h' }) : wpAny (model prog w) A (callSpecial? (.ref it) (ofString "__next__")) Q E s := by
 obtain ⟨o, ho, hc, hd⟩ := id hit
 obtain ⟨ol, hol, _, nl, hdl⟩ := hl
 refine wpAny_callSpecial?_slot (name := ofString "__next__") hit.typeIs slot_listiter_next (wpAny_call_entry slot_listiter_next hit.typeIs entry_listiter_next ?_ (args_listiter_next _))
 show wpAny _ _ (field (.ref it) 0 >>= _) _ _ s
 refine aa (wpAny_field ho hd (x := .ref l) rfl ?_)
 show wpAny _ _ (if (Value.ref l == Value.none) = true then _ else _) _ _ s
 rw [if_neg (show ¬ ((Value.ref l == Value.none) = true) from Bool.false_ne_true)]
 show wpAny _ _ (field (.ref it) 1 >>= _) _ _ s
 refine aa (wpAny_field ho hd (x := .int i 0) rfl ?_)
 show wpAny _ _ (seqItems? (.ref l) >>= _) _ _ s
 refine aa (wpAny_seqItems hol hdl ?_)
 simp only [Int.toNat_natCast, hx]
 refine aa (wpAny_rule (aa (wpAny_setField ho hd (by simp) ?_)))
 show wpAny _ _ (newExc (.type "StopIteration") [] >>= _) _ _ _
 refine aa ?_
 simp only [newExc, newTuple]
 refine aa (wpAny_newObj_type ?_ (by size_fits))
 refine aa (m := firstArgMember _ _) (wpAny_of_eq (a := Value.none) (by first | rfl | (simp only [firstArgMember]; rfl)) ?_)
 refine wpAny_newObj_type ?_ (by size_fits)
 simp only [raiseNew]
 refine aa (wpAny_handled ?_)
 rw [show A.in1.handled = none from hh]
 refine aa (ab (wpAny_throw ?_))
 exact hE _ _ _ _ (((Heap.SameBut.update ..).extBut.push _).push _) (Heap.get?_push_size _ rfl) rfl rfl (by rfl)
end
section
variable {F : RP} {Y : Value → GenState → Shared → Prop} {fs : List Frame}
theorem slept {B : Around} {it l : Addr} {k : Nat} {b : Bool} {Q : Unit → Shared → Prop} (hit : s.heap.IsListIter it l k) (h : Q () s) : wpAny (model prog w) B (Builtin.Generator.sleptOver (.ref it) b) Q E s := by
 obtain ⟨o, ho, hc, hd⟩ := hit
 unfold Builtin.Generator.sleptOver
 refine aa (wpAny_load ho ?_)
 rw [hc]
 exact ab h
theorem kn {it l : Addr} {k : Nat} {items : Array Value} {x : Value} (hfs : splitAtGen fs = none) (hfg : fs.any Frame.guarded = false) (hit : s.heap.IsListIter it l k) (hl : s.heap.IsList l items) (hx : items[k]? = some x)
  (h : ∀ h' kk p, h'.IsListIter it l (k + 1) → Heap.SameBut it s.heap h' →
   (∀ F' Y' s'' k', s''.heap.IsListIter it l k' → Leg (model prog w) A F' Y' (lK it) ((model prog w).den (lK it)) fs s'' → Leg (model prog w) A F' Y' (lK it) (kk (.send .none)) fs s'') →
   Y x (.suspended kk [] (lK it) p fs false) { s with heap := h' }) : Leg (model prog w) A F Y (lK it) ((model prog w).den (lK it)) fs s := by
 refine Leg.builtin kG ?_
 unfold Builtin.«proto.yield_from»
 dsimp only
 refine Leg.bind (ab ?_)
 refine Leg.bind (wpAny_attempt (aw ?_))
 simp only [Bool.false_eq_true, if_false]
 rw [if_pos (by rfl)]
 refine aa (wpAny_rule ?_)
 refine aa (li_item hit hl hx fun h' hit' hsb => ?_)
 refine ab ?_
 have hT : (⟨h', s.gens, s.drawn, s.toks, s.os⟩ : Shared).TypeIs (.ref it) "list_iterator" := hit'.typeIs
 refine Leg.bind (wpAny_typeOf hT ?_)
 refine Leg.bind (wpAny_of_eq lr ?_)
 refine Leg.bind (ab ?_)
 refine Leg.bind (slept hit' ?_)
 refine Leg.yield hfs rfl hfg fun p => ?_
 refine h h' _ p hit' hsb fun F' Y' s'' k' hk' hl' => ?_
 refine Leg.bind (ab ?_)
 refine Leg.bind (slept hk' ?_)
 refine Leg.bind (ab ?_)
 exact Leg.again (plainId_quiet (by decide +kernel) _) hl'
theorem lu {it l : Addr} {k : Nat} {items : Array Value} (hh : A.handled = none) (hh2 : (A.over (lK it) fs).handled = none) (hit : s.heap.IsListIter it l k) (hl : s.heap.IsList l items) (hx : items[k]? = none)
  (h : ∀ h', Heap.ExtBut it s.heap h' → Leg (model prog w) A F Y (lK it) (leafOf (.ok (.ret .none))) fs { s with heap := h' }) : Leg (model prog w) A F Y (lK it) ((model prog w).den (lK it)) fs s := by
 refine Leg.builtin kG ?_
 unfold Builtin.«proto.yield_from»
 dsimp only
 refine Leg.bind (ab ?_)
 refine Leg.bind (wpAny_attempt (aw ?_))
 simp only [Bool.false_eq_true, if_false]
 rw [if_pos (by rfl)]
 refine aa (wpAny_rule ?_)
 refine aa (li_end hh2 hit hl hx fun e h' oe vs hx2 he hc hd hv => ?_)
 have hT : (⟨h', s.gens, s.drawn, s.toks, s.os⟩ : Shared).TypeIs (.ref e) "StopIteration" := ⟨oe, he, hc⟩
 refine Leg.bind ?_
 unfold Builtin.Generator.endsTheTurnAsAValue Builtin.Generator.isStopAndMetaclass
 refine aa (aa (wpAny_typeOf hT ?_))
 refine aa (wpAny_of_eq nX ?_)
 refine aa (wpAny_of_eq (a := Value.type "type") (by rfl) ?_)
 refine ab ?_
 dsimp only
 rw [if_neg Bool.false_ne_true]
 refine ab ?_
 rw [if_pos rfl]
 refine Leg.bind (wpAny_rule ?_)
 refine Leg.bind (wpAny_field he hd hv ?_)
 exact h h' hx2
end
section
variable {F : RP} {Y : Value → GenState → Shared → Prop} {fs : List Frame} {c : Code}
theorem oP {body : List Stmt} (h : ∀ (K : Flow → Sem PySem.Fin) (H : Value → Sem PySem.Fin), K .next = leafOf (.ok (.ret .none)) → Leg (model prog w) A F Y (.func body env) ((execs body env).wrap K H id id) fs s) :
  Leg (model prog w) A F Y (.func body env) ((model prog w).den (.func body env)) fs s := by
 show Leg _ _ _ _ _ (.point [] fun _ => ((execs body env).onRaise (leaving env)) >>= _) fs s
 refine Leg.point ?_
 rw [Sem.onRaise_eq_wrap, Sem.bind_eq_wrap', Sem.wrap_wrap]
 exact h _ _ rfl
theorem ko {x : Str} {px : Pos} {it : Value} {body : List Stmt} (h : wpAny (model prog w) (A.over (.forLoop (.Name x px) it body [] env) fs) (pyNext it) (fun r s₁ => match r with
   | none => ∀ c, Leg (model prog w) A F Y c (leafOf (.ok .next)) fs s₁
   | some v => wpAny (model prog w) (A.over (.forLoop (.Name x px) it body [] env) fs) (storeName env x v) (fun _ s₂ => ∀ (K : Flow → Sem PySem.Fin) (H : Value → Sem PySem.Fin), K .next = .pure (.again (.forLoop (.Name x px) it body [] env)) →
     Leg (model prog w) A F Y (.forLoop (.Name x px) it body [] env) ((execs body env).wrap K H id id) fs s₂) NoE s₁) NoE s) :
  Leg (model prog w) A F Y (.forLoop (.Name x px) it body [] env) ((model prog w).den (.forLoop (.Name x px) it body [] env)) fs s := by
 show Leg _ _ _ _ _ ((forTurn (.Name x px) it body [] env).onRaise (fun x => do noteFrame x env; theTreesLotGoes x)) fs s
 unfold forTurn
 rw [Sem.onRaise_eq_wrap]
 refine Leg.bindw (wpAny_standAt ?_)
 refine Leg.bindw (wpAny_onRaise (ad (E := NoE) h (fun r s₁ q => ?_) fun _ _ q => q.elim))
 cases r with
 | none =>
  show Leg _ _ _ _ _ (.pure (.again (.block [] env))) fs s₁
  refine Leg.again rfl ?_
  show Leg _ _ _ _ _ ((execs [] env).onRaise (fun x => do noteFrame x env; theTreesLotGoes x) >>= fun f => pure (.done f)) fs s₁
  exact q _
 | some v =>
  refine Leg.bindw (ab ?_)
  refine Leg.bindw (wpAny_assign_Name (ad q (fun _ s₂ q => ?_) fun _ _ q => q.elim))
  rw [Sem.bind_eq_wrap', Sem.wrap_wrap]
  exact q _ _ rfl
theorem leg_for {target iter : Expr} {body : List Stmt} {pos : Pos} {K : Flow → Sem PySem.Fin} {H : Value → Sem PySem.Fin} {gd : Bool → Bool} {lv : List Value → List Value} (hgd : gd false = false)
  (h : wpAny (model prog w) (A.over c fs) (eval iter env) (fun x s₁ => wpAny (model prog w) (A.over c fs) (pyIter x) (fun it s₂ => ∀ k l p,
   (∀ F' Y' c' s', Leg (model prog w) A F' Y' c (K .next) fs s' → Leg (model prog w) A F' Y' c' (leafOf (.ok .next)) (.ret k none false l c p [] :: fs) s') →
   Leg (model prog w) A F Y (.forLoop target it body [] env) ((model prog w).den (.forLoop target it body [] env)) (.ret k none false l c p [] :: fs) s₂) NoE s₁) NoE s)
  (hs : ∀ x, foldedSetIterable iter env x = pure x) : Leg (model prog w) A F Y c ((exec (.For target iter body [] pos) env).wrap K H gd lv) fs s := by
 rw [arm_exec_For]
 refine Leg.bindw (wpAny_standAt ?_)
 refine Leg.bindw (ad h (fun x s₁ q => ?_) fun _ _ q => q.elim)
 refine Leg.bindw (wpAny_of_eq (hs x) ?_)
 refine Leg.bindw (wpAny_standAt ?_)
 refine Leg.bindw (aw (ad q (fun it s₂ q => ?_) fun _ _ q => q.elim))
 unfold runOwn
 rw [Sem.onRaise_eq_wrap, Sem.wrap_wrap]
 refine Leg.call fun p => ?_
 have e : (fun g => gd (id g)) false = false := hgd
 rw [e]
 exact q _ _ p fun F' Y' c' s' q => Leg.leaf (.ok .next) q
theorem oO {x : Str} {p5 p6 p7 p8 p9 : Pos} {K : Flow → Sem PySem.Fin} {H : Value → Sem PySem.Fin} {gd : Bool → Bool} {lv : List Value → List Value} (hgd : gd false = false) (hi : interactive env = false)
  (h : wpAny (model prog w) (A.over c fs) (isTrue (.Name x p5) env (eval (.Name x p5) env)) (fun b s₁ =>
   if b = true then wpAny (model prog w) (A.over c fs) (eval (.Name x p6) env) (fun v s₂ => s₂.TypeIs v "list" ∧ wpAny (model prog w) (A.over c fs) (pyIter v) (fun it s₃ => ∃ lI, it = .ref lI ∧ ∀ k l p,
    (∀ F' Y' c' s', Leg (model prog w) A F' Y' c (K .next) fs s' → Leg (model prog w) A F' Y' c' (leafOf (.ok (.ret .none))) (.ret k none false l c p [] :: fs) s') →
    Leg (model prog w) A F Y (lK lI) ((model prog w).den (lK lI)) (.ret k none false l c p [] :: fs) s₃) NoE s₂) NoE s₁
   else Leg (model prog w) A F Y c (K .next) fs s₁) NoE s) :
  Leg (model prog w) A F Y c ((execs [.If (.Name x p5) [.Expr (.YieldFrom (.Name x p6) p7) p8] [] p9] env).wrap K H gd lv) fs s := by
 rw [execs_cons_wrap, arm_exec_If]
 refine Leg.bindw (wpAny_standAt ?_)
 refine Leg.bindw (ad h (fun b s₁ q => ?_) fun _ _ q => q.elim)
 cases b with
 | false =>
  simp only [Bool.false_eq_true, if_false] at q ⊢
  exact q
 | true =>
  simp only [if_true] at q ⊢
  rw [execs_cons_wrap, exec_Expr env _ _ hi rfl]
  refine Leg.bindw (wpAny_standAt ?_)
  rw [arm_eval_YieldFrom, bind_assoc]
  refine Leg.bindw (ad q (fun v s₂ q => ?_) fun _ _ q => q.elim)
  rw [bind_assoc]
  refine Leg.bindw (wpAny_standAt ?_)
  unfold yieldFrom
  rw [bind_assoc]
  refine Leg.bindw (wpAny_typeOf q.1 ?_)
  rw [if_neg (by decide)]
  rw [bind_assoc]
  refine Leg.bindw (aw (ad q.2 (fun it s₃ q => ?_) fun _ _ q => q.elim))
  obtain ⟨lI, rfl, q⟩ := q
  unfold runValue
  rw [bind_assoc]
  show Leg _ _ _ _ _ (.call (lK lI) none (gd false) (lv []) _) fs s₃
  refine Leg.call fun p => ?_
  rw [hgd]
  exact q _ _ p fun F' Y' c' s' q => Leg.leaf (.ok (.ret .none)) q
end
noncomputable def eP (w : World) : Bool := w.params.followText "set-order"
noncomputable def i9 (e : Int × Value) : Str := PyProof.Rows.strOf e.2
structure SetIs (b : Bool) (w : World) (ks : List Str) (es : Array (Int × Value)) (t : SetTable) : Prop where
 el : ∀ e ∈ es.toList, ∃ x u, e = (hashStr w x, .str x u)
 perm : (es.toList.map i9).Perm ks
 nodup : ks.Nodup
 fits : t.fits es.size = true
 led : b = true → t.led = true ∨ eP w = true
 plain : b = true → es.size = 0 ∨ t.plain = false
 small : es.size < scanBound
 first : b = true → es.size ≤ 1 → t.dummies = #[] ∧ (t.mask = 7 ∨ (es.size = 1 ∧ t.mask = 15))
noncomputable def bj (b : Bool) (w : World) (ks : List Str) : bM := fun o => ∃ es ep t, o = { cls := .type "set", data := .set es ep t } ∧ SetIs b w ks es t
theorem SetIs.elems {b : Bool} {ks es t} (h : SetIs b w ks es t) : ElemsOf (PySem.strKind prog w) es.toList := by
 intro e he
 obtain ⟨x, u, rfl⟩ := h.el e he
 exact ⟨⟨x, by simp [PySem.strKind, Value.isStrOf], rfl⟩, rfl⟩
theorem SetIs.mem {b : Bool} {ks es t} (h : SetIs b w ks es t) (k : Str) : k ∈ ks ↔ ∃ e ∈ es.toList, (PySem.strKind prog w).is k e.2 = true := by
 rw [← h.perm.mem_iff, List.mem_map]
 constructor
 ·rintro ⟨e, he, rfl⟩
  obtain ⟨x, u, rfl⟩ := h.el e he
  exact ⟨_, he, by simp [PySem.strKind, Value.isStrOf, i9, PyProof.Rows.strOf]⟩
 ·rintro ⟨e, he, q⟩
  obtain ⟨x, u, rfl⟩ := h.el e he
  refine ⟨_, he, ?_⟩
  simpa [PySem.strKind, Value.isStrOf, i9, PyProof.Rows.strOf] using q
theorem SetIs.length {b : Bool} {ks es t} (h : SetIs b w ks es t) : es.size = ks.length := by
 rw [← h.perm.length_eq, ag, Array.length_toList]
section
variable {b : Bool} {cs cs' : az} {K : Frag} {Q : VP}
theorem dN {a : Addr} {ks : List Str} (H : St h0 o0 cs s) (h : Has cs a (bj b w ks)) : s.heap.SetOf (PySem.strKind prog w) a (fun k => decide (k ∈ ks)) ks.length := by
 obtain ⟨o, ho, es, ep, t, rfl, hs⟩ := H.get h
 exact ⟨_, es, ep, t, ho, ⟨rfl, rfl, rfl⟩, rfl, hs.elems, fun k => by rw [decide_eq_true_eq]; exact hs.mem k, hs.small, hs.fits, hs.length⟩
theorem cS (x : Str) (u : Tok) : (PySem.strKind prog w).is x (.str x u) = true := by simp [PySem.strKind, Value.isStrOf]
theorem kX {a : Addr} {ks : List Str} {x : Str} {u : Tok} (H : St h0 o0 cs s) (h : Has cs a (bj b w ks)) (hq : ∀ s', St h0 o0 cs s' → Q (.bool (!decide (x ∈ ks))) s') : wpAny (model prog w) A (compareOp .NotIn (.str x u) (.ref a)) Q E s :=
 wpAny_notInSet_of (cS x u) rfl (dN H h) (hq _ (H.toks (Nat.le_succ _)))
theorem SetIs.fresh (led : Bool) (hl : b = true → led = !eP w) : SetIs b w [] #[] (.fresh 0 0 led) := by
 refine ⟨by simp, by simp, List.nodup_nil, rfl, fun q => ?_, fun _ => .inl rfl, by decide, fun _ _ => ⟨rfl, .inl rfl⟩⟩
 rw [hl q]
 cases h : eP w
 ·exact .inl rfl
 ·exact .inr rfl
theorem nC (H : St h0 o0 cs s) (hq : ∀ a s', St h0 o0 ((a, bj b w []) :: cs) s' → Q (.ref a) s') : wpAny (model prog w) A (newSet (.type "set")) Q E s := by
 unfold newSet setsByText
 refine aa (aa (wpAny_askSetting (ab ?_)))
 dsimp only
 simp only [newObj]
 exact aa (wpAny_alloc (ab (hq _ _ (H.push (k := s.toks) ⟨_, _, _, rfl, SetIs.fresh _ fun _ => rfl⟩ (ae _)))))
theorem lw (t : SetTable) (es : Array (Int × Value)) (h : Int) (x : Value) : (layNew t es h x).2.1.led = t.led ∧ (t.plain = false → (layNew t es h x).2.1.plain = false) := by
 unfold layNew
 split
 ·dsimp only
  unfold SetTable.orStandIn
  split
  ·exact ⟨rfl, fun q => q⟩
  ·exact ⟨rfl, fun _ => rfl⟩
 ·exact ⟨rfl, fun _ => rfl⟩
theorem iU (j : Nat) : SetTable.below #[] j = 0 := rfl
theorem jj (t : SetTable) (es : Array (Int × Value)) (h : Int) (x : Value) (h1 : t.mask = 7) (h2 : t.dummies = #[]) (h3 : t.place = #[]) (h4 : es.size = 0) : (layNew t es h x).2.1.mask = 7 ∧ (layNew t es h x).2.1.dummies = #[] ∧ (layNew t es h x).2.1.tooFull = false := by
 obtain ⟨mask, place, dummies, finger, led, moves, plain⟩ := t
 dsimp only at h1 h2 h3
 subst h1 h2 h3
 have e : es = #[] := Array.eq_empty_of_size_eq_zero h4
 subst e
 have : (SetTable.mk 7 #[] #[] finger led moves plain).freeSlot h = some ((SetTable.mk 7 #[] #[] finger led moves plain).probeStart h |>.j, false) := by
  unfold SetTable.freeSlot SetTable.probe
  rfl
 unfold layNew
 rw [this]
 generalize (SetTable.probeStart _ h).j = j
 have hput : SetTable.put (SetTable.mk 7 #[] #[] finger led moves plain) j = (SetTable.mk 7 #[j] #[] finger led moves plain, 0) := by
  unfold SetTable.put
  have e1 : SetTable.insertAt #[] 0 j = #[j] := by simp [SetTable.insertAt]
  have e2 : SetTable.has #[] j = false := by unfold SetTable.has; rw [iU]; rfl
  dsimp only
  rw [iU, e1, e2]; rfl
 dsimp only
 rw [hput]
 dsimp only
 have e3 : (SetTable.insertAt #[] 0 (h, x) : Array (Int × Value)).size = 1 := by simp [SetTable.insertAt]
 rw [e3]
 have e4 : (SetTable.mk 7 #[j] #[] finger led moves plain).orStandIn 1 = SetTable.mk 7 #[j] #[] finger led moves plain := by
  unfold SetTable.orStandIn
  rw [if_pos (by rfl)]
 rw [e4]
 exact ⟨rfl, rfl, rfl⟩
theorem oQ {mask finger moves : Nat} {led plain : Bool} {hs : Array Int} {r} (h : SetTable.laid mask finger moves led plain hs = some r) : r.1.led = led ∧ r.1.plain = plain := by
 unfold SetTable.laid at h
 cases e : SetTable.layClean mask hs with
 | none => rw [e] at h; cases h
 | some o => rw [e] at h; cases h; exact ⟨rfl, rfl⟩
theorem je (t : SetTable) (es : Array (Int × Value)) (wanted : Nat) : (relayAll t es wanted).2.1.led = t.led ∧ (t.plain = false → (relayAll t es wanted).2.1.plain = false) := by
 unfold relayAll
 split
 ·rename_i t' order e
  have := oQ e
  dsimp only at this ⊢
  split
  ·exact ⟨this.1, fun q => this.2.trans q⟩
  ·exact ⟨rfl, fun _ => rfl⟩
 ·exact ⟨rfl, fun _ => rfl⟩
theorem SetIs.add {ks es t x u} {es' : Array (Int × Value)} {t' : SetTable} (h : SetIs b w ks es t) (hx : x ∉ ks) (hp : es'.toList.Perm (es.toList ++ [(hashStr w x, .str x u)])) (hf : t'.fits es'.size = true) (hl : t'.led = t.led) (hpl : t'.plain = false) (hz : ks.length + 1 < scanBound) (hfst : b = true → es.size = 0 → t'.mask = 7 ∧ t'.dummies = #[]) :
  SetIs b w (ks ++ [x]) es' t' := by
 have hsz : es'.size = es.size + 1 := by rw [← Array.length_toList, hp.length_eq]; simp
 refine ⟨fun e he => ?_, ?_, ?_, hf, fun q => by rw [hl]; exact h.led q, fun _ => .inr hpl, by rw [hsz, h.length]; exact hz, fun hb hle => let f := hfst hb (by lia); ⟨f.2, .inl f.1⟩⟩
 ·rcases List.mem_append.mp (hp.mem_iff.mp he) with q | q
  ·exact h.el e q
  ·rw [List.mem_singleton] at q; exact ⟨x, u, q⟩
 ·refine (hp.map i9).trans ?_
  rw [ai]
  exact h.perm.append (by simp [i9, PyProof.Rows.strOf])
 ·rw [List.nodup_append]
  exact ⟨h.nodup, by simp, fun a ha b hb q => by rw [List.mem_singleton] at hb; subst hb q; exact hx ha⟩
theorem fH {b : Bool} {s₁ : Shared} {Q' : Unit → Shared → Prop} (hq : Q' () s₁) : wpAny (model prog w) A (match b with | true => rule "set.scan.the-table-gave-way" | false => pure ()) Q' E s₁ := by
 cases b <;> first | exact ab hq | exact wpAny_rule hq
theorem fR {a : Addr} {ks : List Str} {x : Str} {u : Tok} {Q : Bool → Shared → Prop} (H : St h0 o0 cs s) (hz : ks.length + 1 < scanBound) (hp : Put cs a (bj b w ks) (bj b w (if x ∈ ks then ks else ks ++ [x])) cs')
  (hq : ∀ b s', St h0 o0 cs' s' → Q b s') : wpAny (model prog w) A (setAddHashed a (.str x u) (hashStr w x)) Q E s := by
 obtain ⟨o, ho, es, ep, t, rfl, hs⟩ := H.get hp.has
 have hb := hs.small
 have hel := hs.elems (prog := prog)
 have hkey := cS (prog := prog) (w := w) x u
 unfold setAddHashed setAddHashedIn
 refine aw (aa (wpAny_setState_of ho rfl hs.fits ?_))
 dsimp only
 rw [byScan_of rfl hb hel]
 simp only [↓reduceIte]
 unfold setAddByScan
 refine aa ?_
 refine aa (wpAny_rule ?_)
 refine aa (wpAny_setScan_of (knd := PySem.strKind prog w) (k := x) hkey ho rfl hs.fits hel ?_)
 cases hr : List.findIdx? (fun e => (PySem.strKind prog w).is x e.2) es.toList with
 | some j =>
  dsimp only
  obtain ⟨hj, hpj, _⟩ := List.findIdx?_eq_some_iff_getElem.mp hr
  have hSk : x ∈ ks := (hs.mem (prog := prog) x).mpr ⟨es.toList[j], List.getElem_mem hj, hpj⟩
  rw [if_pos hSk] at hp
  refine ab (ab (hq _ _ ?_))
  exact H.weak hp fun o q => q
 | none =>
  dsimp only
  have hSk : x ∉ ks := fun q => by
   obtain ⟨e, he, q⟩ := (hs.mem (prog := prog) x).mp q
   have := List.findIdx?_eq_none_iff.mp hr e he
   rw [q] at this; cases this
  rw [if_neg hSk] at hp
  have hperm := layNew_perm t es (hashStr w x) (.str x u)
  have hfits := layNew_fits t es (hashStr w x) (.str x u)
  have hled := lw t es (hashStr w x) (.str x u)
  show wpAny _ _ (_ >>= fun _ => _) _ _ _
  generalize hL : layNew t es (hashStr w x) (.str x u) = L at hperm hfits hled
  obtain ⟨es1, t1, wasDummy, gave⟩ := L
  dsimp only at hperm hfits hled ⊢
  rw [Array.toList_push] at hperm
  refine aa (fH ?_)
  have hfst : b = true → es.size = 0 → t1.mask = 7 ∧ t1.dummies = #[] ∧ t1.tooFull = false := fun hb hz => by
   have f := hs.first hb (by apply aD; exact aj (by assumption); decide)
   have hp0 : t.place = #[] := Array.eq_empty_of_size_eq_zero (by have := hs.fits; simp only [SetTable.fits, Bool.and_eq_true, beq_iff_eq] at this; (lia))
   have q := jj t es (hashStr w x) (.str x u) (f.2.resolve_right fun q => by have := q.1; (lia)) f.1 hp0 hz
   rw [hL] at q
   exact q
  have fin : ∀ t2 : SetTable, t2.fits es1.size = true → t2.led = t.led → t2.plain = false → (b = true → es.size = 0 → t2.mask = 7 ∧ t2.dummies = #[] ∧ t2.tooFull = false) → ∀ (g : Bool → Sem Unit), (∀ (b : Bool) (s₁ : Shared) (Q' : Unit → Shared → Prop), Q' () s₁ → wpAny (model prog w) A (g b) Q' E s₁) →
    wpAny (model prog w) A (do
     storeSet a es1 t2
     if (!wasDummy && t2.tooFull) = true then do
       g (relayAll t2 es1 (SetTable.grown es1.size)).2.2
       storeSet a (relayAll t2 es1 (SetTable.grown es1.size)).1 (relayAll t2 es1 (SetTable.grown es1.size)).2.1
       pure (some true)
      else pure (some true)) (fun r s' => r = some true ∧ St h0 o0 cs' s') E s := by
   intro t2 hf2 hl2 hp2 hfs g hg
   have hsz : es1.size = ks.length + 1 := by rw [← Array.length_toList, hperm.length_eq, ao, Array.length_toList, hs.length]; rfl
   have hz2 : es1.size ≤ sizeLine := fits_of_scanBound (by rw [hsz]; exact hz)
   have o1 := Heap.get?_update_self (Obj.putSet es1 t2) ho (by rw [putSet_of es1 t2 rfl]; rfl)
   rw [putSet_of es1 t2 rfl] at o1
   refine aa (wpAny_storeSet_of ho rfl ?_ hz2)
   split
   ·rename_i htf
    have hp' := relayAll_perm t2 es1 (SetTable.grown es1.size)
    have hf' := relayAll_fits t2 es1 (SetTable.grown es1.size)
    have hl' := je t2 es1 (SetTable.grown es1.size)
    generalize relayAll t2 es1 (SetTable.grown es1.size) = Rl at hp' hf' hl' ⊢
    obtain ⟨es2, t3, gave2⟩ := Rl
    dsimp only at hp' hf' hl' ⊢
    refine aa (hg _ _ _ ?_)
    have hsz2 : es2.size = es1.size := by rw [← Array.length_toList, hp'.length_eq, Array.length_toList]
    refine aa (wpAny_storeSet_of o1 rfl ?_ (by rw [hsz2]; exact hz2))
    have o2 := Heap.get?_update_self (Obj.putSet es2 t3) o1 (by rw [putSet_of es2 t3 rfl]; rfl)
    rw [putSet_of es2 t3 rfl] at o2
    refine ab ⟨rfl, ?_⟩
    exact H.updS (k := s.toks) hp ⟨_, o2, _, _, _, rfl, hs.add hSk (hp'.trans hperm) hf' (hl'.1.trans hl2) (hl'.2 hp2) hz (fun hb h0 => by rw [(hfs hb h0).2.2, Bool.and_false] at htf; cases htf)⟩ ((Heap.SameBut.update ..).trans (Heap.SameBut.update ..)) (ae _)
   ·refine ab ⟨rfl, ?_⟩
    exact H.updS (k := s.toks) hp ⟨_, o1, _, _, _, rfl, hs.add hSk hperm hf2 hl2 hp2 hz (fun hb h0 => ⟨(hfs hb h0).1, (hfs hb h0).2.1⟩)⟩ (Heap.SameBut.update ..) (ae _)
  split
  ·refine aa ?_
   rw [hashByValue_scannable 8 rfl]
   refine ab ?_
   simp only [plainKind, Bool.false_eq_true, if_false]
   refine ad (fin _ (SetTable.fits_plain_off hfits) hled.1 rfl hfst _ (fun b s₁ Q' hq => fH hq)) (fun r s' q => ?_) fun _ _ q => q
   obtain ⟨rfl, q⟩ := q
   exact ab (hq _ _ q)
  ·rename_i hpl
   refine aa (ab ?_)
   simp only [↓reduceIte]
   refine ad (fin _ hfits hled.1 (by simpa using hpl) hfst _ (fun b s₁ Q' hq => fH hq)) (fun r s' q => ?_) fun _ _ q => q
   obtain ⟨rfl, q⟩ := q
   exact ab (hq _ _ q)
theorem gl {a : Addr} {ks : List Str} {x : Str} {u : Tok} {Q : Bool → Shared → Prop} (H : St h0 o0 cs s) (hz : ks.length + 1 < scanBound) (hp : Put cs a (bj b w ks) (bj b w (if x ∈ ks then ks else ks ++ [x])) cs')
  (hq : ∀ b s', St h0 o0 cs' s' → Q b s') : wpAny (model prog w) A (setAdd a (.str x u)) Q E s := by
 unfold setAdd
 refine aw (aa ((PySem.strKind prog w).pyHash (cS x u) ?_))
 exact fR (H.toks (Nat.le_succ _)) hz hp hq
theorem x_addM {a : Addr} {ks : List Str} {pl : Sem Bool} {Q : Value × List Value → Shared → Prop} (H : St h0 o0 cs s) (h : Has cs a (bj b w ks)) (hq : Q (.builtin "set.add", [.ref a]) s) :
  wpAny (model prog w) A (getMethod (.ref a) (ofString "add") pl) Q E s := getMethod_set_add (dN (prog := prog) H h) hq
theorem x_add {a : Addr} {ks : List Str} {x : Str} {u : Tok} (H : St h0 o0 cs s) (hz : ks.length + 1 < scanBound) (hp : Put cs a (bj b w ks) (bj b w (if x ∈ ks then ks else ks ++ [x])) cs')
  (hq : ∀ s', St h0 o0 cs' s' → Q .none s') : wpAny (model prog w) A (call (.builtin "set.add") [.ref a, .str x u]) Q E s := by
 refine wpAny_call_entry F.slot_set_add (dN (prog := prog) H hp.has).typeIs F.entry_set_add ?_ (F.args_set_add_2 _ _)
 unfold Builtin.«set.add» Builtin.Frozenset.oneOther
 simp only [List.isEmpty_nil, bind_assoc]
 unfold Builtin.Frozenset.addrOf
 refine aa (ab ?_)
 try dsimp only
 refine aa (ab ?_)
 try dsimp only
 refine aa (gl H hz hp fun b s' H' => ?_)
 exact ab ⟨_, rfl, hq _ H'⟩
theorem x_set0 (H : St h0 o0 cs s) (hq : ∀ a s', St h0 o0 ((a, bj false w []) :: cs) s' → Q (.ref a) s') : wpAny (model prog w) A (call (.type "set") []) Q E s :=
 call_set_0 fun led => hq _ _ (H.push (k := s.toks) ⟨_, _, _, rfl, SetIs.fresh led fun q => by cases q⟩ (ae _))
noncomputable def bV (ks : List Str) : List Str → List Str
 | [] => ks
 | x :: r => bV (if x ∈ ks then ks else ks ++ [x]) r
theorem ft : ∀ (r ks : List Str), (bV ks r).length ≤ ks.length + r.length
 | [], ks => ae _
 | x :: r, ks => by
  have := ft r (if x ∈ ks then ks else ks ++ [x])
  rw [bV, List.length_cons]
  split at this
  ·rename_i q; rw [if_pos q]; (lia)
  ·rename_i q; rw [if_neg q]; simp only [ao, List.length_singleton] at this; (lia)
theorem gH : ∀ (r ks : List Str) (k : Str), k ∈ bV ks r ↔ k ∈ ks ∨ k ∈ r
 | [], ks, k => by simp [bV]
 | x :: r, ks, k => by
  rw [bV, gH r]
  split
  ·rename_i q
   rw [List.mem_cons]
   constructor
   ·rintro (h | h) <;> simp [h]
   ·rintro (h | rfl | h)
    ·exact .inl h
    ·exact .inl q
    ·exact .inr h
  ·rw [List.mem_append, List.mem_singleton, List.mem_cons, or_assoc]
theorem nZ {S : Addr} {it : Value} {f : Nat → az} {n : Nat} {V : Nat → Value → Prop} {Pre : az → Prop} {R : RP} {C : az} (W : cH prog w A.in1 h0 o0 it f n V Pre) (xs : List Str) (hx : xs.length = n) (hV : ∀ i v, V i v → ∃ x u, xs[i]? = some x ∧ v = .str x u)
  (hPre : Pre C) :
  ∀ (k i : Nat) (ks : List Str) (s : Shared), n - i = k → i ≤ n → ks.length + (n - i) + 1 < scanBound → St h0 o0 (f i ++ ((S, bj b w ks) :: C)) s → (∀ s', St h0 o0 ((S, bj b w (bV ks (xs.drop i))) :: C) s' → R (.ok (.ret .none)) s') →
   codeAny (model prog w) A (.builtin "set.update.loop" ⟨[.ref S, it], []⟩) R s := by
 have hpre : ∀ c, Pre ((S, c) :: C) := fun c => W.mono _ _ hPre fun p hp => am _ hp
 intro k
 induction k with
 | zero =>
  intro i ks s hk hi hks H hR
  have hin : i = n := lp2 hk hi
  subst hin
  refine codeAny_builtin F.entry_set_update_loop ?_
  rw [Around.under_plainId F.plain_set_update_loop _]
  show wpAny _ A.in1 (pyNext it >>= _) _ _ s
  refine aa (W.done _ s _ _ (hpre _) H fun s' H' => ?_)
  show wpAny _ A.in1 (ret Value.none) _ _ s'
  refine ab (hR s' ?_)
  rw [← hx, List.drop_length]
  exact H'
 | succ k ih =>
  intro i ks s hk hi hks H hR
  have hlt : i < n := lp3 hk
  refine codeAny_builtin F.entry_set_update_loop ?_
  rw [Around.under_plainId F.plain_set_update_loop _]
  show wpAny _ A.in1 (pyNext it >>= _) _ _ s
  refine aa (W.next i _ s _ _ hlt (hpre _) H fun v s' hv H' => ?_)
  obtain ⟨x, u, hxi, rfl⟩ := hV i v hv
  show wpAny _ A.in1 (holding [Value.str x u] (setAdd S (.str x u)) >>= _) _ _ s'
  refine aa (aw ?_)
  refine gl H' (by lia) (Put.skip .here) fun bb s2 H2 => ?_
  refine ab ⟨plainId_quiet F.plain_set_update_loop _, ih (i + 1) _ _ (lp1 hk) hlt ?_ H2 fun s3 H3 => hR s3 ?_⟩
  ·split
   ·(lia)
   ·simp only [ao, List.length_singleton]; (lia)
  ·have hi' : i < xs.length := by (lia)
   rw [List.getElem?_eq_getElem hi'] at hxi
   rw [List.drop_eq_getElem_cons hi', Option.some.inj hxi, bV]
   exact H3
theorem St.drawn (H : St h0 o0 cs s) (d : Drawn) : St h0 o0 cs { s with drawn := d } := ⟨H.keep, H.cell, H.new, H.nodup, H.gens, H.os, H.tok, H.flo, H.big, H.g3⟩
theorem nR {M : Model} {src : Source} {n : Nat} {Q : Nat → Shared → Prop} (hn : n ≠ 0) (h : ∀ i d, i < n → Q i { s with drawn := d }) : wpAny M A (choose src n) Q E s := by
 intro Γ p hΓ
 unfold choose
 rw [Sem.wp_choose]
 exact ⟨hn, h _ _ (Nat.mod_lt _ (Nat.pos_of_ne_zero hn))⟩
theorem gQ {α : Type} {l : List α} {i : Nat} (h : i < l.length) : (l[i] :: l.eraseIdx i).Perm l := by
 rw [List.eraseIdx_eq_take_drop_succ]
 conv => rhs; rw [← List.take_append_drop i l, List.drop_eq_getElem_cons h]
 exact List.perm_middle.symm
theorem fT {M : Model} {α : Type} : ∀ (n : Nat) (xs : List α) (s : Shared) (Q : List α → Shared → Prop), xs.length = n → (∀ ys d, ys.Perm xs → Q ys { s with drawn := d }) → wpAny M A (drawOrder n xs) Q E s
 | 0, xs, s, Q, hx, h => by
  have : xs = [] := List.length_eq_zero_iff.mp hx
  subst this
  exact ab (h [] s.drawn (.refl _))
 | n + 1, [], s, Q, hx, h => by cases hx
 | n + 1, x :: r, s, Q, hx, h => by
  show wpAny M A (choose .order (x :: r).length >>= _) Q E s
  refine aa (nR (by simp) fun i d hi => ?_)
  rw [List.getElem?_eq_getElem hi]
  dsimp only
  refine aa (fT n _ _ _ (by rw [List.length_eraseIdx_of_lt hi]; simp only [List.length_cons] at hx ⊢; (lia)) fun ys d' hp => ab ?_)
  exact h _ d' ((hp.cons _).trans (gQ hi))
theorem iE {α : Type} (next : Nat → Nat) : ∀ (fuel k : Nat) (left : List α) (out : Array α), left.length = fuel → (pickOrder.go next fuel k left out).toList.Perm (out.toList ++ left)
 | 0, k, left, out, h => by
  have : left = [] := List.length_eq_zero_iff.mp h
  subst this
  rw [pickOrder.go, List.append_nil]
 | fuel + 1, k, left, out, h => by
  have hi : next k % left.length < left.length := Nat.mod_lt _ (by lia)
  rw [pickOrder.go, List.getElem?_eq_getElem hi]
  dsimp only
  refine (iE next fuel (k + 1) _ _ (by rw [List.length_eraseIdx_of_lt hi]; (lia))).trans ?_
  rw [Array.toList_push, an]
  exact List.Perm.append_left _ (gQ hi)
theorem co {α : Type} (next : Nat → Nat) (xs : Array α) : (pickOrder next xs).toList.Perm xs.toList := by
 unfold pickOrder
 have := iE next xs.size 0 xs.toList #[] (by simp)
 simpa using this
noncomputable def gW (es : Array (Int × Value)) (ep : Nat) (t : SetTable) : bM := fun o => o = { cls := .type "set", data := .set es ep t }
noncomputable def cE (first : Value) (i : Nat) (a : Addr) (n ep : Nat) : bM := fun o => o.cls = .type "set_iterator" ∧ o.data = .fields #[first, .int i 0, .ref a, .int n 0, .int ep 0]
theorem slot_si_next : Slot "set_iterator" "__next__" "set_iterator.__next__" :=
 .of (owner := "set_iterator") (n := "__next__") (by rw [typeLookup_type, builtinLookup_eq_fast]; kernel_rfl) (by decide +kernel) (by decide +kernel) (by decide +kernel)
  (by first | exact .inl (by decide +kernel) | exact .inr (by decide +kernel)) (by rw [isSubtype_type]; kernel_rfl)
theorem ik : entryFor table "set_iterator.__next__" = some Builtin.«set_iterator.__next__» := entryFor_of_tree (by kernel_rfl)
theorem jx (a : Value) : argsOk "set_iterator.__next__" ⟨[a], []⟩ := by unfold argsOk; kernel_rfl
theorem eT : Slot "set_iterator" "__iter__" "set_iterator.__iter__" :=
 .of (owner := "set_iterator") (n := "__iter__") (by rw [typeLookup_type, builtinLookup_eq_fast]; kernel_rfl) (by decide +kernel) (by decide +kernel) (by decide +kernel)
  (by first | exact .inl (by decide +kernel) | exact .inr (by decide +kernel)) (by rw [isSubtype_type]; kernel_rfl)
theorem gR : entryFor table "set.__iter__" = some Builtin.«frozenset.__iter__» :=
 entryFor_alias (id' := "frozenset.__iter__") (by kernel_rfl) rfl (by decide +kernel) (by kernel_rfl)
theorem ma {I : Addr} {first : Value} {i n ep : Nat} {a : Addr} (H : St h0 o0 cs s) (hI : Has cs I (cE first i a n ep)) : ∃ o, s.heap.get? I = some o ∧ o.data = .fields #[first, .int i 0, .ref a, .int n 0, .int ep 0] ∧ s.TypeIs (.ref I) "set_iterator" := by
 obtain ⟨o, ho, hc, hd⟩ := H.get hI
 exact ⟨o, ho, hd, o, ho, hc⟩
theorem bl {a : Addr} {es : Array (Int × Value)} {ep : Nat} {t : SetTable} {Q : (Array (Int × Value) × Nat × SetTable) → Shared → Prop} (H : St h0 o0 cs s) (ha : Has cs a (gW es ep t)) (hf : t.fits es.size = true) (h : Q (es, ep, t) s) :
  wpAny (model prog w) A (setState a) Q E s := by
 obtain ⟨o, ho, rfl⟩ := H.get ha
 exact wpAny_setState_of ho rfl hf h
theorem St.dropBut {I : Addr} {c : bM} {C : az} {h' : Heap} {k : Nat} (H : St h0 o0 ((I, c) :: C) s) (hk : ∀ b o, b ≠ I → s.heap.get? b = some o → h'.get? b = some o) (hk' : s.toks ≤ k) : St h0 o0 C { s with heap := h', toks := k } := by
 have hn := H.new (I, c) (by simp)
 have hd := H.nodup
 simp only [ap, List.nodup_cons] at hd
 refine ⟨fun b o e => hk b o (fun q => ?_) (H.keep b o e), fun p hp => ?_, fun p hp => H.new p (by simp [hp]), hd.2, H.gens, H.os, (by have := H.tok; show k ≠ 0; (lia)), Nat.le_trans H.flo hk', fun p hp => H.big p (by simp [hp]), H.g3⟩
 ·subst q; simp only at hn; rw [hn] at e; cases e
 ·obtain ⟨o, ho, hc⟩ := H.cell p (by simp [hp])
  exact ⟨o, hk _ _ (fun q => hd.1 (q ▸ aq hp)) ho, hc⟩
theorem gv {I : Addr} {c : bM} {C : az} {h' : Heap} {Q : Option Value → Shared → Prop} (hh : A.handled = none) (H : St h0 o0 ((I, c) :: C) s) (hs : Heap.SameBut I s.heap h') (h : ∀ s', St h0 o0 C s' → Q none s') :
  wpAny (model prog w) A.in1 (newExc (.type "StopIteration") [] >>= fun x => raiseNew x) (fun (fin : PySem.Fin) s' => False)
   (fun e s' => wpAny (model prog w) A (do if ← isInstance e (.type "StopIteration") then pure none else throw e) Q E s') { s with heap := h' } := by
 refine aa ?_
 simp only [newExc, newTuple]
 refine aa (wpAny_newObj_type ?_ (by size_fits))
 refine aa (m := firstArgMember _ _) (wpAny_of_eq (a := Value.none) (by first | rfl | (simp only [firstArgMember]; rfl)) ?_)
 refine wpAny_newObj_type ?_ (by size_fits)
 simp only [raiseNew]
 refine aa (wpAny_handled ?_)
 rw [show A.in1.handled = none from hh]
 refine aa (ab (wpAny_throw ?_))
 refine aa (wpAny_isInstance (T := "StopIteration") (b := true) ⟨_, Heap.get?_push_size _ rfl, rfl⟩ isSubtype_stop ?_)
 refine ab (h _ ?_)
 exact H.dropBut (fun b o hb e => Heap.get?_push_of_some _ (Heap.get?_push_of_some _ ((hs.2 b hb).trans e))) (ae _)
theorem d7 {I a : Addr} {first : Value} {i n ep : Nat} {es : Array (Int × Value)} {t : SetTable} {Q : Option Value → Shared → Prop} (H : St h0 o0 cs s) (hI : Has cs I (cE first i a n ep)) (ha : Has cs a (gW es ep t)) (hf : t.fits es.size = true) (hn : es.size = n)
  (h : wpAny (model prog w) A.in1 (if let .int slot _ := first then do
    match ← setNext a slot.toNat i ep with
    | some (x, next) =>
     setField (.ref I) 0 (rawInt next)
     setField (.ref I) 1 (rawInt (((i : Nat) : Int) + 1))
     ret x
    | none => do
     setField (.ref I) 2 .none
     raiseNew (← newExc (.type "StopIteration") [])
   else do
    let some places ← seqItems? first | unsupported "internal:set_iterator"
    match places[i]? with
    | some (.int place _) =>
     let x ← setNextDrawn a place.toNat ep
     setField (.ref I) 1 (rawInt (((i : Nat) : Int) + 1))
     ret x
    | some _ => unsupported "internal:set_iterator"
    | none => do
     setField (.ref I) 0 (rawInt 0)
     setField (.ref I) 2 .none
     raiseNew (← newExc (.type "StopIteration") []))
   (fun fin s' => ∃ v, fin = .done (.ret v) ∧ Q (some v) s') (fun e s' => wpAny (model prog w) A (do if ← isInstance e (.type "StopIteration") then pure none else throw e) Q E s') s) :
  wpAny (model prog w) A (pyNext (.ref I)) Q E s := by
 obtain ⟨o, ho, hd, hT⟩ := ma H hI
 unfold pyNext
 refine aa (wpAny_attempt (wpAny_callSpecial?_slot (name := ofString "__next__") hT slot_si_next
  (wpAny_call_entry slot_si_next hT ik ?_ (jx _))))
 unfold Builtin.«set_iterator.__next__»
 refine aa (ab ?_)
 refine aa (wpAny_fieldsOf ho hd ?_)
 show wpAny _ _ (setEntries a >>= _) _ _ _
 unfold setEntries
 refine aa (aa (bl H ha hf (ab ?_)))
 rw [if_neg (by rw [hn]; simp)]
 simp only [Int.toNat_natCast]
 refine ad h (fun fin s' q => ?_) fun _ _ q => q
 obtain ⟨v, rfl, q⟩ := q
 exact ⟨v, rfl, ab q⟩
theorem il : entryFor table "set_iterator.__iter__" = some Builtin.«dict_keyiterator.__iter__» :=
 entryFor_alias (id' := "dict_keyiterator.__iter__") (by kernel_rfl) rfl (by decide +kernel) (by kernel_rfl)
theorem jy (a : Value) : argsOk "set_iterator.__iter__" ⟨[a], []⟩ := by unfold argsOk; kernel_rfl
theorem jb {I a : Addr} {first : Value} {i n ep : Nat} (H : St h0 o0 cs s) (hI : Has cs I (cE first i a n ep)) (h : Q (.ref I) s) : wpAny (model prog w) A (pyIter (.ref I)) Q E s := by
 obtain ⟨o, ho, hd, hT⟩ := ma H hI
 refine wpAny_pyIter_slot hT eT (wpAny_call_entry eT hT il ?_ (jy _))
 show wpAny _ _ (ret (.ref I)) _ _ s
 exact ab ⟨_, rfl, "set_iterator", _, hT, slot_si_next.lookup, h⟩
theorem lf {I a : Addr} {first : Value} {target : Expr} {i n ep : Nat} {v : Value} {Q : Unit → Shared → Prop} (H : St h0 o0 cs s) (hI : Has cs I (cE first i a n ep)) (h : Q () s) : wpAny (model prog w) A (letOwnedTupleGo target (.ref I) v) Q E s := by
 obtain ⟨o, ho, hc, hd⟩ := H.get hI
 unfold letOwnedTupleGo
 split
 all_goals first
  | exact ab h
  | (cases v with
   | ref a =>
    refine aa (wpAny_load ho ?_)
    rw [hc, hd]
    show wpAny _ _ (if (["enumerate", "zip", "dict_itemiterator", "dict_reverseitemiterator", "odict_iterator", "itertools.zip_longest", "itertools.pairwise"].contains "set_iterator" && _) = true then _ else _) _ _ _
    rw [show (["enumerate", "zip", "dict_itemiterator", "dict_reverseitemiterator", "odict_iterator", "itertools.zip_longest", "itertools.pairwise"].contains "set_iterator") = false from by decide, Bool.false_and]
    exact ab h
   | _ => exact ab h)
theorem gw {I a : Addr} {first first' : Value} {i i' n ep k : Nat} {v : Value} {Q : Unit → Shared → Prop} (H : St h0 o0 cs s) (hp : Put cs I (cE first i a n ep) (cE first' i' a n ep) cs')
  (e : (#[first, .int i 0, .ref a, .int n 0, .int ep 0] : Array Value).setIfInBounds k v = #[first', .int i' 0, .ref a, .int n 0, .int ep 0]) (hk : k < 5) (h : ∀ s', St h0 o0 cs' s' → Q () s') : wpAny (model prog w) A (setField (.ref I) k v) Q E s := by
 obtain ⟨o, ho, hc, hd⟩ := H.get hp.has
 refine wpAny_setField ho hd (by simpa using hk) (h _ (H.updS (k := s.toks) hp ⟨_, Heap.get?_update_self _ ho (Obj.isFreed_of_fields (Obj.data_mapFields hd _)), (Obj.cls_mapFields ..).trans hc, ?_⟩ (Heap.SameBut.update ..) (ae _)))
 rw [Obj.data_mapFields hd, e]
theorem k9 {I tup a : Addr} {es : Array (Int × Value)} {ep : Nat} {t : SetTable} {places : List Nat} (hh : A.handled = none) (hf : t.fits es.size = true) (hp : ∀ p ∈ places, p < es.size) (hl : places.length = es.size) :
  cH prog w A h0 o0 (.ref I) (fun i => [(I, cE (.ref tup) i a es.size ep), (tup, a8 (places.map fun (p : Nat) => rawInt p))]) es.size (fun i v => ∃ p x, places[i]? = some p ∧ es[p]? = some (x, v)) (fun C => Has C a (gW es ep t)) where
 next := fun i C s Q E hi ha H hQ => by
  refine d7 H .here (.there (.there ha)) hf rfl ?_
  obtain ⟨o, ho, n, rfl⟩ := H.get (a := tup) (.there .here)
  have hip : i < places.length := by (lia)
  have hpi := hp _ (List.getElem_mem hip)
  dsimp only
  refine aa (wpAny_seqItems ho rfl ?_)
  dsimp only
  have e1 : (places.map fun (p : Nat) => rawInt p).toArray[i]? = some (.int (places[i] : Nat) 0) := by simp [hip, rawInt]
  rw [e1]
  dsimp only
  unfold setNextDrawn
  refine aa (aa (bl H (.there (.there ha)) hf ?_))
  dsimp only
  rw [if_neg (by simp)]
  rw [Int.toNat_natCast, Array.getElem?_eq_getElem hpi]
  dsimp only
  refine ab ?_
  refine aa (gw (first' := .ref tup) (i' := i + 1) H .here (by simp [rawInt]) (by decide) fun s' H' => ?_)
  refine ab ⟨_, rfl, hQ _ _ ⟨places[i], es[places[i]].1, by simp [hip], by simp [hpi]⟩ H'⟩
 done := fun C s Q E ha H hQ => by
  refine d7 H .here (.there (.there ha)) hf rfl ?_
  obtain ⟨o, ho, n, rfl⟩ := H.get (a := tup) (.there .here)
  dsimp only
  refine aa (wpAny_seqItems ho rfl ?_)
  dsimp only
  have e1 : (places.map fun (p : Nat) => rawInt p).toArray[es.size]? = none := by simp [hl]
  rw [e1]
  dsimp only
  obtain ⟨oI, hoI, hc, hd⟩ := H.get (a := I) .here
  refine aa (wpAny_setField hoI hd (by simp) ?_)
  refine aa (wpAny_setField (Heap.get?_update_self _ hoI (Obj.isFreed_of_fields (Obj.data_mapFields hd _))) (Obj.data_mapFields hd _) (by simp) ?_)
  exact ad (gv (s := s) hh H ((Heap.SameBut.update s.heap I _).trans (Heap.SameBut.update _ I _)) fun s' H' => hQ s' H'.tail) (fun _ _ q => q.elim) fun _ _ q => q
 self := fun i C s Q E H h => jb H .here h
 mono := fun C C' h hs => Has.of_mem (hs _ h.mem)
 own := fun target i C v s Q E hv H h => lf H .here (h _ H)
theorem cL {Q : Bool → Shared → Prop} (h : Q (eP w) s) : wpAny (model prog w) A setsByText Q E s := by
 unfold setsByText
 exact aa (wpAny_askSetting (ab h))
theorem k8 {I a : Addr} {es : Array (Int × Value)} {ep : Nat} {t : SetTable} (hb : eP w = true) (hh : A.handled = none) (hf : t.fits es.size = true) :
  cH prog w A h0 o0 (.ref I) (fun i => [(I, cE (rawInt 0) i a es.size ep)]) es.size (fun i v => ∃ x, (pickOrder (w.params.setOrder a ep) es)[i]? = some (x, v)) (fun C => Has C a (gW es ep t)) where
 next := fun i C s Q E hi ha H hQ => by
  refine d7 H .here (.there ha) hf rfl ?_
  have hsz : (pickOrder (w.params.setOrder a ep) es).size = es.size := by
   have := (co (w.params.setOrder a ep) es).length_eq
   simpa using this
  show wpAny _ _ (setNext a (Int.toNat 0) i ep >>= _) _ _ _
  unfold setNext setWalk
  refine aa (aa (bl H (.there ha) hf ?_))
  dsimp only
  refine aa (cL ?_)
  rw [if_pos hb, if_neg (by simp)]
  refine aa (aa (bl H (.there ha) hf ?_))
  dsimp only
  refine aa (cL ?_)
  rw [if_pos hb]
  refine aa (wpAny_askSetting (ab ?_))
  dsimp only
  have hi' : i < (pickOrder (w.params.setOrder a ep) es).size := by (lia)
  have e1 : (pickOrder ((model prog w).w.params.setOrder a ep) es)[i]? = some (pickOrder (w.params.setOrder a ep) es)[i] := Array.getElem?_eq_getElem hi'
  rw [e1]
  refine ab ?_
  show wpAny _ _ (setField (.ref I) 0 (rawInt ((Int.toNat 0 : Nat) : Int)) >>= _) _ _ _
  refine aa (gw (first' := rawInt 0) (i' := i) H .here (by simp [rawInt]) (by decide) fun s' H' => ?_)
  refine aa (gw (first' := rawInt 0) (i' := i + 1) H' .here (by simp [rawInt]) (by decide) fun s' H' => ?_)
  refine ab ⟨_, rfl, hQ _ _ ⟨(pickOrder (w.params.setOrder a ep) es)[i].1, by simp [hi']⟩ H'⟩
 done := fun C s Q E ha H hQ => by
  refine d7 H .here (.there ha) hf rfl ?_
  have hsz : (pickOrder (w.params.setOrder a ep) es).size = es.size := by
   have := (co (w.params.setOrder a ep) es).length_eq
   simpa using this
  show wpAny _ _ (setNext a (Int.toNat 0) es.size ep >>= _) _ _ _
  unfold setNext setWalk
  refine aa (aa (bl H (.there ha) hf ?_))
  dsimp only
  refine aa (cL ?_)
  rw [if_pos hb, if_neg (by simp)]
  refine aa (aa (bl H (.there ha) hf ?_))
  dsimp only
  refine aa (cL ?_)
  rw [if_pos hb]
  refine aa (wpAny_askSetting (ab ?_))
  dsimp only
  have e1 : (pickOrder ((model prog w).w.params.setOrder a ep) es)[es.size]? = none := Array.getElem?_eq_none (aj hsz)
  rw [e1]
  refine ab ?_
  dsimp only [Option.map]
  obtain ⟨oI, hoI, hc, hd⟩ := H.get (a := I) .here
  refine aa (wpAny_setField hoI hd (by simp) ?_)
  exact ad (gv (s := s) hh H (Heap.SameBut.update s.heap I _) fun s' H' => hQ s' H') (fun _ _ q => q.elim) fun _ _ q => q
 self := fun i C s Q E H h => jb H .here h
 mono := fun C C' h hs => Has.of_mem (hs _ h.mem)
 own := fun target i C v s Q E hv H h => lf H .here (h _ H)
theorem iT (j k : Nat) : SetTable.below #[j] k = if j < k then 1 else 0 := by
 unfold SetTable.below
 show SetTable.below.go #[j] k 1 0 1 = _
 unfold SetTable.below.go
 rw [if_pos (by decide)]
 show (if #[j].getD 0 k < k then SetTable.below.go #[j] k 0 1 1 else SetTable.below.go #[j] k 0 0 0) = _
 show (if j < k then SetTable.below.go #[j] k 0 1 1 else SetTable.below.go #[j] k 0 0 0) = _
 split <;> rfl
theorem lb {I a : Addr} {e : Int × Value} {ep j : Nat} {t : SetTable} (hb : eP w = false) (hh : A.handled = none) (hf : t.fits 1 = true) (hl : t.led = true) (hj : t.place = #[j]) :
  cH prog w A h0 o0 (.ref I) (fun i => [(I, cE (rawInt (if i = 0 then 0 else (j + 1 : Nat))) i a 1 ep)]) 1 (fun i v => v = e.2) (fun C => Has C a (gW #[e] ep t)) where
 next := fun i C s Q E hi ha H hQ => by
  have hi0 : i = 0 := by (lia)
  subst hi0
  refine d7 H .here (.there ha) hf rfl ?_
  show wpAny _ _ (setNext a (Int.toNat 0) 0 ep >>= _) _ _ _
  unfold setNext
  refine aa (aa (bl H (.there ha) hf ?_))
  dsimp only
  refine aa (cL ?_)
  rw [if_neg (by rw [hb]; decide)]
  refine KFB.if_not (by show (!t.plain && decide ((#[e] : Array (Int × Value)).size > 1)) = false; simp) ?_
  refine aa (wpAny_of_eq (a := ()) (by show (if (!t.led && !(#[e] : Array (Int × Value)).isEmpty) = true then _ else _) = _; rw [hl]; rfl) ?_)
  rw [hj, show SetTable.below #[j] (Int.toNat 0) = 0 from by rw [iT, if_neg (by simp)]]
  refine ab ?_
  show wpAny _ _ (setField (.ref I) 0 (rawInt ((j + 1 : Nat) : Int)) >>= _) _ _ _
  refine aa (gw (first' := rawInt ((j + 1 : Nat) : Int)) (i' := 0) H .here (by simp [rawInt]) (by decide) fun s' H' => ?_)
  refine aa (gw (first' := rawInt ((j + 1 : Nat) : Int)) (i' := 1) H' .here (by simp [rawInt]) (by decide) fun s' H' => ?_)
  exact ab ⟨_, rfl, hQ _ _ rfl H'⟩
 done := fun C s Q E ha H hQ => by
  refine d7 H .here (.there ha) hf rfl ?_
  show wpAny _ _ (setNext a (Int.toNat ((j + 1 : Nat) : Int)) 1 ep >>= _) _ _ _
  unfold setNext
  refine aa (aa (bl H (.there ha) hf ?_))
  dsimp only
  refine aa (cL ?_)
  rw [if_neg (by rw [hb]; decide)]
  refine KFB.if_not (by show (!t.plain && decide ((#[e] : Array (Int × Value)).size > 1)) = false; simp) ?_
  refine aa (wpAny_of_eq (a := ()) (by show (if (!t.led && !(#[e] : Array (Int × Value)).isEmpty) = true then _ else _) = _; rw [hl]; rfl) ?_)
  rw [hj, show SetTable.below #[j] (Int.toNat ((j + 1 : Nat) : Int)) = 1 from by rw [iT, if_pos (by rw [Int.toNat_natCast]; (lia))]]
  refine ab ?_
  obtain ⟨oI, hoI, hc, hd⟩ := H.get (a := I) .here
  show wpAny _ _ (setField (.ref I) 2 .none >>= _) _ _ _
  refine aa (wpAny_setField hoI hd (by simp) ?_)
  exact ad (gv (s := s) hh H (Heap.SameBut.update s.heap I _) fun s' H' => hQ s' H') (fun _ _ q => q.elim) fun _ _ q => q
 self := fun i C s Q E H h => jb H .here h
 mono := fun C C' h hs => Has.of_mem (hs _ h.mem)
 own := fun target i C v s Q E hv H h => lf H .here (h _ H)
theorem Has.put {cs : az} {a : Addr} {c : bM} (h : Has cs a c) (c' : bM) : ∃ cs', Put cs a c c' cs' ∧ Put cs' a c' c cs := by
 induction h with
 | here => exact ⟨_, .here, .here⟩
 | there _ ih =>
  obtain ⟨cs', h1, h2⟩ := ih
  exact ⟨_, .there h1, .there h2⟩
theorem Put.has' {cs a c c' cs'} (h : Put cs a c c' cs') : Has cs' a c' := by
 induction h with
 | here => exact .here
 | there _ ih => exact .there ih
noncomputable def qe (prog : Program) (w : World) (h0 : Heap) (o0 : Shared) (cs : az) (r : Addr) (Res : List Value → Prop) : Prop :=
 ∀ (A : Around) (pre : az) (s : Shared) (Q : VP) (E : VP), A.handled = none → St h0 o0 (pre ++ cs) s →
  (∀ I f n V Pre cs1 s', (∀ A2 : Around, A2.handled = none → cH prog w A2 h0 o0 (.ref I) f n V Pre) → Pre cs1 → (∀ pre s, St h0 o0 (pre ++ cs1) s → St h0 o0 (pre ++ cs) s) → n ≤ 4096 → St h0 o0 (f 0 ++ (pre ++ cs1)) s' →
   (∀ vs : List Value, vs.length = n → (∀ (j : Nat) v, vs[j]? = some v → V j v) → Res vs) → Q (.ref I) s') → wpAny (model prog w) A (pyIter (.ref r)) Q E s
theorem dM {es ord : List (Int × Value)} {ks : List Str} (el : ∀ e ∈ es, ∃ x u, e = (hashStr w x, .str x u)) (hp : (es.map i9).Perm ks) (ho : ord.Perm es) (vs : List Value) (hl : vs.length = ord.length) (hv : ∀ (j : Nat) v, vs[j]? = some v → ∃ x, ord[j]? = some (x, v)) :
  ∃ xs : List (Str × Tok), vs = xs.map (fun p => .str p.1 p.2) ∧ (xs.map (·.1)).Perm ks := by
 have hvs : vs = ord.map (·.2) := by
  apply List.ext_getElem?
  intro j
  by_cases hj : j < vs.length
  ·obtain ⟨x, hx⟩ := hv j vs[j] (List.getElem?_eq_getElem hj)
   rw [List.getElem?_eq_getElem hj, List.getElem?_map, hx]; rfl
  ·rw [List.getElem?_eq_none (by lia), List.getElem?_eq_none (by rw [ag]; (lia))]
 have key : ∀ l : List (Int × Value), (∀ e ∈ l, ∃ x u, e = (hashStr w x, Value.str x u)) → ∃ xs : List (Str × Tok), l.map (·.2) = xs.map (fun p => .str p.1 p.2) ∧ xs.map (·.1) = l.map i9 := by
  intro l
  induction l with
  | nil => intro _; exact ⟨[], rfl, rfl⟩
  | cons e r ih =>
   intro h
   obtain ⟨xs, h1, h2⟩ := ih fun e he => h e (am _ he)
   obtain ⟨x, u, rfl⟩ := h e au
   exact ⟨(x, u) :: xs, by simp [h1], by simp [h2, i9, PyProof.Rows.strOf]⟩
 obtain ⟨xs, h1, h2⟩ := key ord fun e he => el e (ho.mem_iff.mp he)
 refine ⟨xs, by rw [hvs, h1], ?_⟩
 rw [h2]
 exact (ho.map i9).trans hp
theorem pq {a : Addr} {ks : List Str} (ha : Has cs a (bj true w ks)) (hk : ks ≠ []) : qe prog w h0 o0 cs a (fun vs => ∃ xs : List (Str × Tok), vs = xs.map (fun p => .str p.1 p.2) ∧ (xs.map (·.1)).Perm ks) := by
 intro A pre s Q E hh H hQ
 obtain ⟨o, ho, es, ep, t, rfl, hs⟩ := H.get (a := a) (Has.skip ha)
 obtain ⟨cs1, p1, p2⟩ := ha.put (gW es ep t)
 have H1 : St h0 o0 (pre ++ cs1) s := H.upd (h' := s.heap) (k := s.toks) (Put.skip p1) ⟨_, ho, rfl⟩ (fun _ _ _ e => e) (ae _)
 have back : ∀ pre s, St h0 o0 (pre ++ cs1) s → St h0 o0 (pre ++ cs) s := fun pre s q => q.weak (Put.skip p2) fun o e => ⟨es, ep, t, e, hs⟩
 have hT := (dN (prog := prog) H (Has.skip ha)).typeIs
 have ha1 : Has (pre ++ cs1) a (gW es ep t) := Has.skip p1.has'
 have hz : es.size ≤ 4096 := by have := hs.small; unfold scanBound at this; (lia)
 refine wpAny_pyIter_slot hT F.slot_set_iter (wpAny_call_entry F.slot_set_iter hT gR ?_ (F.args_set_iter_1 _))
 unfold Builtin.«frozenset.__iter__»
 show wpAny _ _ (Builtin.Frozenset.sizeOf a >>= _) _ _ _
 unfold Builtin.Frozenset.sizeOf setEntries
 refine aa (aa (aa (bl H1 ha1 hs.fits (ab (ab ?_)))))
 unfold setDrawn
 refine aa (aa (bl H1 ha1 hs.fits ?_))
 dsimp only
 refine aa (cL (ab ?_))
 cases hb : eP w with
 | true =>
  refine KFB.if_not (by simp) ?_
  refine aa (ab ?_)
  unfold setEpoch
  refine aa (aa (bl H1 ha1 hs.fits (ab ?_)))
  have H2 := H1.push (k := s.toks) (o := { cls := .type "set_iterator", data := .fields #[rawInt 0, rawInt 0, .ref a, rawInt es.size, rawInt ep] }) (c := cE (rawInt 0) 0 a es.size ep) ⟨rfl, rfl⟩ (ae _)
  refine aa (wpAny_newObj_type (ab ⟨_, rfl, "set_iterator", _, ⟨_, Heap.get?_push_size _ rfl, rfl⟩, slot_si_next.lookup, ?_⟩))
  refine hQ _ _ _ _ _ cs1 _ (fun A2 h2 => k8 (t := t) hb h2 hs.fits) p1.has' back hz H2 fun vs hl hv => ?_
  refine dM hs.el hs.perm (co (w.params.setOrder a ep) es) vs (by rw [hl, (co _ es).length_eq]; simp) fun j v e => ?_
  obtain ⟨x, hx⟩ := hv j v e
  exact ⟨x, by rw [Array.getElem?_toList]; exact hx⟩
 | false =>
  by_cases h1 : es.size > 1
  ·refine KFB.if_so (by
    show (!false && (!t.plain && decide (es.size > 1))) = true
    rcases hs.plain rfl with q | q
    ·(lia)
    ·simp [q, h1]) ?_
   refine aa (fT es.size (List.range es.size) _ _ (by simp) fun places d hp => ?_)
   have H1' := H1.drawn d
   refine aa (wpAny_newTuple ?_ (by show (List.map _ places).length ≤ _; rw [ag, hp.length_eq, List.length_range]; exact fits_of_scanBound hs.small))
   have H3 := H1'.push (k := s.toks) (o := { cls := .type "tuple", data := .seq (places.map fun (p : Nat) => rawInt p).toArray }) (c := a8 (places.map fun (p : Nat) => rawInt p)) ⟨0, rfl⟩ (ae _)
   unfold setEpoch
   refine aa (aa (bl H3 (.there ha1) hs.fits (ab ?_)))
   have H4 := H3.push (k := s.toks) (o := { cls := .type "set_iterator", data := .fields #[.ref s.heap.objs.size, rawInt 0, .ref a, rawInt es.size, rawInt ep] }) (c := cE (.ref s.heap.objs.size) 0 a es.size ep) ⟨rfl, rfl⟩ (ae _)
   refine aa (wpAny_newObj_type (ab ⟨_, rfl, "set_iterator", _, ⟨_, Heap.get?_push_size _ rfl, rfl⟩, slot_si_next.lookup, ?_⟩))
   have hpl : ∀ p ∈ places, p < es.size := fun p hp' => by have := hp.mem_iff.mp hp'; simpa using this
   refine hQ _ _ _ _ _ cs1 _ (fun A2 h2 => k9 (t := t) (tup := s.heap.objs.size) (places := places) h2 hs.fits hpl (by rw [hp.length_eq]; simp)) p1.has' back hz H4 fun vs hl hv => ?_
   have ho : (places.filterMap fun p => es.toList[p]?).Perm es.toList := by
    refine (hp.filterMap _).trans ?_
    have := filterMap_getElem?_range es
    simp only [← Array.getElem?_toList] at this
    rw [this]
   have hmap : ∀ l : List Nat, (∀ p ∈ l, p < es.size) → ∀ (j p : Nat), l[j]? = some p → (l.filterMap fun p => es.toList[p]?)[j]? = es.toList[p]? := by
    intro l
    induction l with
    | nil => intro _ j p e; simp at e
    | cons q r ih =>
     intro hq j p e
     have hq0 : q < es.toList.length := by simpa using hq q au
     rw [List.filterMap_cons, List.getElem?_eq_getElem hq0]
     cases j with
     | zero => simp only [List.getElem?_cons_zero, Option.some.injEq] at e ⊢; subst e; rw [List.getElem?_eq_getElem hq0]
     | succ j => simp only [List.getElem?_cons_succ] at e ⊢; exact ih (fun p hp => hq p (am _ hp)) j p e
   refine dM hs.el hs.perm ho vs (by rw [hl, ho.length_eq]; simp) fun j v e => ?_
   obtain ⟨p, x, hp1, hp2⟩ := hv j v e
   exact ⟨x, by rw [hmap places hpl j p hp1, Array.getElem?_toList]; exact hp2⟩
  ·have hn1 : es.size = 1 := by
    have := hs.length
    have : ks.length ≠ 0 := fun q => hk (List.length_eq_zero_iff.mp q)
    (lia)
   obtain ⟨e, rfl⟩ := Array.size_eq_one_iff.mp hn1
   obtain ⟨j, hj⟩ := Array.size_eq_one_iff.mp (show t.place.size = 1 from by
    have := hs.fits
    simp only [SetTable.fits, Bool.and_eq_true, beq_iff_eq] at this
    simpa using this.1)
   have hled : t.led = true := (hs.led rfl).resolve_right (by rw [hb]; decide)
   refine KFB.if_not (by show (!false && (!t.plain && decide ((#[e] : Array (Int × Value)).size > 1))) = false; simp) ?_
   refine aa (ab ?_)
   unfold setEpoch
   refine aa (aa (bl H1 ha1 hs.fits (ab ?_)))
   have H2 := H1.push (k := s.toks) (o := { cls := .type "set_iterator", data := .fields #[rawInt 0, rawInt 0, .ref a, rawInt 1, rawInt ep] }) (c := cE (rawInt 0) 0 a 1 ep) ⟨rfl, rfl⟩ (ae _)
   refine aa (wpAny_newObj_type (ab ⟨_, rfl, "set_iterator", _, ⟨_, Heap.get?_push_size _ rfl, rfl⟩, slot_si_next.lookup, ?_⟩))
   refine hQ _ _ _ _ _ cs1 _ (fun A2 h2 => lb (t := t) (e := e) (j := j) hb h2 hs.fits hled hj) p1.has' back hz H2 fun vs hl hv => ?_
   refine dM hs.el hs.perm (.refl _) vs (by rw [hl]; rfl) fun k v ev => ?_
   have hk0 : k = 0 := by have := (List.getElem?_eq_some_iff.mp ev).1; (lia)
   subst hk0
   exact ⟨e.1, by rw [hv 0 v ev]; rfl⟩
theorem kF {S : Addr} {it res : Value} {f : Nat → az} {n : Nat} {V : Nat → Value → Prop} {Pre : az → Prop} {R : RP} {C : az} (W : cH prog w A.in1 h0 o0 it f n V Pre) (hPre : Pre C) (hz : n ≤ sizeLine) :
  ∀ (k i : Nat) (acc : List Value) (s : Shared), n - i = k → i ≤ n → acc.length = i → (∀ (j : Nat) v, acc[j]? = some v → V j v) → St h0 o0 (f i ++ ((S, ay acc) :: C)) s →
   (∀ vs s', vs.length = n → (∀ (j : Nat) v, vs[j]? = some v → V j v) → St h0 o0 ((S, ay vs) :: C) s' → R (.ok (.ret res)) s') →
   codeAny (model prog w) A (.builtin "list.extend.loop" ⟨[.ref S, it, res], []⟩) R s := by
 have hpre : ∀ c, Pre ((S, c) :: C) := fun c => W.mono _ _ hPre fun p hp => am _ hp
 intro k
 induction k with
 | zero =>
  intro i acc s hk hi hl hv H hR
  have hin : i = n := lp2 hk hi
  subst hin
  refine codeAny_builtin PySem.F.entry_extend_loop ?_
  rw [Around.under_plainId PySem.F.plain_extend_loop _]
  show wpAny _ A.in1 (pyNext it >>= _) _ _ s
  refine aa (W.done _ s _ _ (hpre _) H fun s' H' => ?_)
  show wpAny _ A.in1 (ret res) _ _ s'
  exact ab (hR acc s' hl hv H')
 | succ k ih =>
  intro i acc s hk hi hl hv H hR
  have hlt : i < n := lp3 hk
  refine codeAny_builtin PySem.F.entry_extend_loop ?_
  rw [Around.under_plainId PySem.F.plain_extend_loop _]
  show wpAny _ A.in1 (pyNext it >>= _) _ _ s
  refine aa (W.next i _ s _ _ hlt (hpre _) H fun v s' hvi H' => ?_)
  have hp : Put (f (i + 1) ++ ((S, ay acc) :: C)) S (ay acc) (ay (acc ++ [v])) (f (i + 1) ++ ((S, ay (acc ++ [v])) :: C)) := Put.skip .here
  obtain ⟨n1, ho⟩ := bU H' hp.has
  show wpAny _ A.in1 (Builtin.List.listUpdate (.ref S) (·.push v) >>= _) _ _ s'
  refine aa (listUpdate_at ho rfl ?_ (by rw [List.size_toArray]; (lia)) (by rw [Array.size_push, List.size_toArray]; (lia)))
  have H2 := H'.updS (k := s'.toks) (h' := s'.heap.update S (Obj.mapSeq (·.push v))) hp ⟨_, Heap.get?_update_self _ ho rfl, bw (f := (·.push v)) (List.push_toArray _ _)⟩ (Heap.SameBut.update ..) (ae _)
  refine ab ⟨plainId_quiet PySem.F.plain_extend_loop _, ih (i + 1) (acc ++ [v]) _ (lp1 hk) hlt (by simp [hl]) (fun j u e => ?_) H2 hR⟩
  by_cases hj : j < acc.length
  ·rw [List.getElem?_append_left hj] at e; exact hv j u e
  ·have hj2 : j = acc.length := by
    have := (List.getElem?_eq_some_iff.mp e).1
    simp only [ao, List.length_singleton] at this
    exact lp5 hj this
   subst hj2
   rw [List.getElem?_append_right (ae _), Nat.sub_self] at e
   simp only [List.getElem?_cons_zero, Option.some.injEq] at e
   subst e
   rw [hl]; exact hvi
theorem mQ {r : Addr} {T : String} {Res : List Value → Prop} {c : bM} {R : List Value → Shared → Prop} (H : St h0 o0 cs s) (hh : A.handled = none) (hr : Has cs r c) (hT : ∀ pre s, St h0 o0 (pre ++ cs) s → s.TypeIs (.ref r) T) (n1 : (Value.type T == Value.type "list") = false) (n2 : (Value.type T == Value.type "tuple") = false)
  (hint : ∀ (A : Around) (E : VP) (s : Shared) (Q : Bool → Shared → Prop), s.TypeIs (.ref r) T → Q false s → wpAny (model prog w) A (Builtin.List.listLengthHint (.ref r)) Q E s)
  (iter : qe prog w h0 o0 cs r Res) (h : ∀ vs s', Res vs → vs.length ≤ 4096 → St h0 o0 cs s' → R vs s') : wpAny (model prog w) A (collect (.ref r)) R E s := by
 unfold collect
 refine aa (wpAny_runValue (codeAny_builtin entry_proto_collect' ?_))
 rw [Around.under_plainId PySem.F.plain_proto_collect _]
 show wpAny _ A.in1 (newList [] >>= fun l => again (.builtin "list.__iadd__" ⟨[l, .ref r], []⟩)) _ _ s
 refine aa (cK H (Nat.zero_le _) fun S s1 H1 _ => ?_)
 refine ab ⟨plainId_quiet PySem.F.plain_list_iadd _, codeAny_builtin entry_list_iadd' ?_⟩
 rw [Around.under_plainId PySem.F.plain_list_iadd _]
 show wpAny _ A.in1 (Builtin.List.listExtendWith (.ref S) (.ref r) (.ref S)) _ _ _
 have hSr : S ≠ r := H1.ne .here hr
 have main : wpAny (model prog w) A.in1 (Builtin.List.listExtendWith (.ref S) (.ref r) (.ref S))
   (fun fin s' => match fin with
    | .done f => ∃ vs, (.ok f : Result) = .ok (.ret (.ref S)) ∧ Res vs ∧ vs.length ≤ 4096 ∧ St h0 o0 ((S, ay vs) :: cs) s'
    | .again c' => c'.quiet = true ∧ codeAny (model prog w) A c' (fun (q : Result) (s' : Shared) => ∃ vs, q = .ok (.ret (.ref S)) ∧ Res vs ∧ vs.length ≤ 4096 ∧ St h0 o0 ((S, ay vs) :: cs) s') s') (fun e s' => False) s1 := by
  unfold Builtin.List.listExtendWith
  have hT1 := hT [(S, ay [])] s1 H1
  refine aa (wpAny_typeOf hT1 ?_)
  have h1 : Builtin.List.listSameRef (.ref S) (.ref r) = false := by simp [Builtin.List.listSameRef, hSr]
  simp only [h1, n1, n2, Bool.or_false, Bool.false_eq_true, if_false]
  refine aa (iter A.in1 [(S, ay [])] s1 _ _ hh H1 fun I f n V Pre cs1 s2 W hPre back hn H2 hres => ?_)
  have H2b : St h0 o0 ((f 0 ++ [(S, ay [])]) ++ cs1) s2 := by rw [an]; exact H2
  have hT2 := hT _ s2 (back _ _ H2b)
  have hz : n ≤ sizeLine := by rw [af]; (apply aD; with_reducible assumption; decide)
  have key : ∀ s3, St h0 o0 (f 0 ++ ((S, ay []) :: cs1)) s3 → codeAny (model prog w) A (.builtin "list.extend.loop" ⟨[.ref S, .ref I, .ref S], []⟩) (fun (q : Result) (s' : Shared) => ∃ vs, q = .ok (.ret (.ref S)) ∧ Res vs ∧ vs.length ≤ 4096 ∧ St h0 o0 ((S, ay vs) :: cs) s') s3 := by
   intro s3 H3
   refine kF (W A.in1 hh) hPre hz n 0 [] s3 rfl (Nat.zero_le _) rfl (by simp) H3 fun vs s' hl hv H' => ⟨vs, rfl, hres vs hl hv, by (lia), back [(S, ay vs)] s' H'⟩
  refine aa (aw (hint _ _ _ _ hT2 ?_))
  have hp : ∀ c c', Put (f 0 ++ ((S, c) :: cs1)) S c c' (f 0 ++ ((S, c') :: cs1)) := fun c c' => Put.skip .here
  refine wpAny_ite_split (fun _ => ?_) (fun _ => ab ⟨plainId_quiet PySem.F.plain_extend_loop _, key _ H2⟩)
  refine aa (wpAny_rule ?_)
  refine aa ?_
  show wpAny _ _ (updateSeq S (·.push .none) >>= fun _ => updateSeq S (·.pop)) _ _ _
  obtain ⟨n2, ho⟩ := bU H2 (hp _ (ay [])).has
  refine aa (wpAny_updateSeq ho rfl ?_)
  have hS₂ := Heap.get?_update_self (Obj.mapSeq (·.push Value.none)) ho rfl
  have H3 := H2.updS (k := s2.toks) (hp _ (ay [Value.none])) ⟨_, hS₂, bw rfl⟩ (Heap.SameBut.update ..) (ae _)
  obtain ⟨n3, ho3⟩ := bU H3 (hp _ (ay [])).has
  refine wpAny_updateSeq (hz := by seq_fits) ho3 rfl ?_
  have hS₃ := Heap.get?_update_self (Obj.mapSeq (·.pop)) ho3 rfl
  have H4 := H3.updS (k := s2.toks) (hp _ (ay [])) ⟨_, hS₃, bw rfl⟩ (Heap.SameBut.update ..) (ae _)
  exact ab ⟨plainId_quiet PySem.F.plain_extend_loop _, key _ H4⟩
 have fin : ∀ (q : Result) (s' : Shared), (∃ vs, q = .ok (.ret (.ref S)) ∧ Res vs ∧ vs.length ≤ 4096 ∧ St h0 o0 ((S, ay vs) :: cs) s') → ∃ vs, q = .ok (.ret (.ref S)) ∧ ∃ n, s'.heap.get? S = some { cls := .type "list", data := .seq vs.toArray n } ∧ R vs s' := by
  rintro q s' ⟨vs, rfl, hr, hl, H'⟩
  obtain ⟨n3, ho⟩ := bU H' .here
  exact ⟨vs, rfl, n3, ho, h vs s' hr hl H'.tail⟩
 refine ad main (fun fin' s' x => ?_) fun e s' x => x.elim
 cases fin' with
 | done f =>
  obtain ⟨vs, e, n3, ho, hR⟩ := fin _ _ x
  cases e
  show wpAny _ A (load S >>= _) _ _ _
  refine aa (wpAny_load ho ?_)
  refine ab ?_
  show R vs.toArray.toList s'
  rw [List.toList_toArray]
  exact hR
 | again c' =>
  refine ⟨x.1, codeAny_mono x.2 fun q s'' y => ?_⟩
  obtain ⟨vs, rfl, n3, ho, hR⟩ := fin _ _ y
  show wpAny _ A (load S >>= _) _ _ _
  refine aa (wpAny_load ho ?_)
  refine ab ?_
  show R vs.toArray.toList s''
  rw [List.toList_toArray]
  exact hR
theorem pA {r : Addr} {Q : Bool → Shared → Prop} (hT : s.TypeIs (.ref r) "set") (h : Q false s) : wpAny (model prog w) A (Builtin.List.listLengthHint (.ref r)) Q E s := by
 unfold Builtin.List.listLengthHint
 refine aa (wpAny_specialOf hT PySem.F.slot_set_len.lookup ?_)
 generalize hid : ("set.__len__" : String) = id0
 wp_delta
 rw [show splitId id0 = some ("set", "__len__") from by subst hid; decide +kernel]
 subst hid
 refine aa (wpAny_isInstance (T := "set") (b := true) hT (by rw [isSubtype_type]; kernel_rfl) ?_)
 refine wpAny_ite_split (fun hab => absurd hab (by decide)) (fun _ => ?_)
 refine wpAny_ite_split (fun _ => ?_) (fun hab => absurd (by decide +kernel) hab)
 refine aa (wpAny_typeOf hT ?_)
 exact ab h
theorem i1 {a : Addr} {ks : List Str} {R : List Value → Shared → Prop} (H : St h0 o0 cs s) (hh : A.handled = none) (ha : Has cs a (bj true w ks)) (hk : ks ≠ [])
  (h : ∀ (xs : List (Str × Tok)) s', (xs.map (·.1)).Perm ks → St h0 o0 cs s' → R (xs.map fun p => .str p.1 p.2) s') : wpAny (model prog w) A (collect (.ref a)) R E s := by
 refine mQ (T := "set") H hh ha (fun pre s H => (dN (prog := prog) H (Has.skip ha)).typeIs) (by decide) (by decide) (fun A E s Q hT q => pA hT q) (pq ha hk) fun vs s' q _ H' => ?_
 obtain ⟨xs, rfl, hp⟩ := q
 exact h xs s' hp H'
noncomputable def lO (prog : Program) (w : World) (kvs : List (Str × Value)) (ep : Nat) : bM := fun o => ∃ es, o.ExactDict ∧ o.data = .dict es ep ∧ PySem.KeysOf (PySem.strKind prog w) es ∧ Pairs (PySem.strKind prog w) es.toList kvs ∧ (kvs.map (·.1)).Nodup
noncomputable def pU (d : Addr) (i n ep : Nat) : bM := fun o => o.cls = .type "dict_keyiterator" ∧ o.data = .fields #[.ref d, .int i 0, .int n 0, .int ep 0]
theorem fM {d : Addr} {kvs : List (Str × Value)} {ep : Nat} (H : St h0 o0 cs s) (h : Has cs d (lO prog w kvs ep)) : s.heap.DictAt (PySem.strKind prog w) d kvs ep := by
 obtain ⟨o, ho, es, h1, h2, h3, h4, h5⟩ := H.get h
 exact ⟨o, es, ho, h1, h2, h3, h4, h5⟩
theorem lc {I d : Addr} {kvs : List (Str × Value)} {ep : Nat} (hh : A.handled = none) :
  cH prog w A h0 o0 (.ref I) (fun i => [(I, pU d i kvs.length ep)]) kvs.length (fun i v => ∃ k x u, kvs[i]? = some (k, x) ∧ v = .str k u) (fun C => Has C d (lO prog w kvs ep)) where
 next := fun i C s Q E hi hd H hQ => by
  obtain ⟨o, ho, hc, hdt⟩ := H.get (a := I) .here
  obtain ⟨⟨k, x⟩, hx⟩ : ∃ p, kvs[i]? = some p := ⟨kvs[i], by simp [hi]⟩
  refine wpAny_pyNext_dict_item ⟨o, ho, hc, hdt⟩ (fM H (.there hd)) hx fun key h' hkey hit' hs' => ?_
  obtain ⟨u, rfl⟩ := Value.isStrOf_shape hkey
  obtain ⟨o', ho', hc', hd'⟩ := hit'
  exact hQ _ _ ⟨k, x, u, hx, rfl⟩ (H.updS (k := s.toks) .here ⟨o', ho', hc', hd'⟩ hs' (ae _))
 done := fun C s Q E hd H hQ => by
  obtain ⟨o, ho, hc, hdt⟩ := H.get (a := I) .here
  exact wpAny_pyNext_dict_end hh ⟨o, ho, hc, hdt⟩ (fM H (.there hd)) (by simp) fun h' he' => hQ _ (H.dropBut (fun b o hb e => he' b o hb e) (ae _))
 self := fun i C s Q E H h => by
  obtain ⟨o, ho, hc, hdt⟩ := H.get (a := I) .here
  exact wpAny_pyIter_keyiter ⟨o, ho, hc, hdt⟩ h
 mono := fun C C' h hs => Has.of_mem (hs _ h.mem)
 own := fun target i C v s Q E hv H h => by
  obtain ⟨k, x, u, _, rfl⟩ := hv
  exact iI (fun a q => by cases q) (h _ H)
theorem eZ {d : Addr} {c : bM} (H : St h0 o0 cs s) (h : Has cs d c) : (d == sysModules) = false := by
 have := H.big _ h.mem
 simp only [beq_eq_false_iff_ne, ne_eq]
 intro e
 have e2 : d = 1 := e
 subst e2
 exact absurd (show (3 : Nat) < 1 from this) (by decide)
theorem i7 : isSubtype (.type "dict") (.type "set") = pure false := by rw [isSubtype_type]; kernel_rfl
theorem hM : isSubtype (.type "dict") (.type "frozenset") = pure false := by rw [isSubtype_type]; kernel_rfl
theorem lB {n : Nat} {P : Nat → Shared → Prop} {f : Nat → PUnit → Sem (ForInStep PUnit)} {Q : PUnit → Shared → Prop} (step : ∀ i s, i < n → P i s → wpAny (model prog w) A (f i ⟨⟩) (fun r s' => r = .yield ⟨⟩ ∧ P (i + 1) s') E s) (fin : ∀ s, P n s → Q ⟨⟩ s) (h : P 0 s) :
  wpAny (model prog w) A (forIn [0:n] PUnit.unit f) Q E s := by
 rw [Std.Legacy.Range.forIn_eq_forIn_range']
 have : ∀ (k i : Nat) (s : Shared), i + k = n → P i s → wpAny (model prog w) A (forIn (List.range' i k 1) PUnit.unit f) Q E s := by
  intro k
  induction k with
  | zero =>
   intro i s hi hP
   rw [List.range'_zero, List.forIn_nil]
   have : i = n := by (lia)
   subst this
   exact ab (fin _ hP)
  | succ k ih =>
   intro i s hi hP
   rw [List.range'_succ, List.forIn_cons]
   refine aa (ad (step i s (by lia) hP) (fun r s' q => ?_) fun _ _ q => q)
   obtain ⟨rfl, q⟩ := q
   exact ih (i + 1) s' (by lia) q
 simpa [Std.Legacy.Range.size] using this n 0 s (by lia) h
theorem iV : ∀ (xs ks : List Str) (x : Str), bV ks (xs ++ [x]) = if x ∈ bV ks xs then bV ks xs else bV ks xs ++ [x]
 | [], ks, x => rfl
 | y :: r, ks, x => by rw [List.cons_append, bV, bV]; exact iV r _ x
noncomputable def cEq (o : Obj) : bM := fun o' => o' = o
theorem mZ {es : List DictEntry} {kvs : List (Str × Value)} (h : Pairs (PySem.strKind prog w) es kvs) : ∀ {i : Nat} {e : DictEntry}, es[i]? = some e → ∃ k u v, kvs[i]? = some (k, v) ∧ e.key = .str k u := by
 induction h with
 | nil => intro i e he; simp at he
 | @cons e0 kv es kvs h1 h2 _ ih =>
  intro i e he
  cases i with
  | zero =>
   simp only [List.getElem?_cons_zero, Option.some.injEq] at he
   subst he
   obtain ⟨u, hu⟩ := Value.isStrOf_shape h1
   exact ⟨kv.1, u, kv.2, rfl, hu⟩
  | succ j => simpa using ih (by simpa using he)
theorem relay1 (t : SetTable) (h : Int) {wanted : Nat} (hw : SetTable.sizeAbove wanted = 16) :
  ∃ j, t.relaid #[h] wanted = some ({ mask := 15, place := #[j], dummies := #[], finger := t.finger, led := t.led, moves := t.movedTo 15, plain := t.plain }, #[0]) := by
 have hi : SetTable.bits h % 16 < 16 := Nat.mod_lt _ (by decide)
 have e1 : ∀ i : _root_.Fin 16, (List.range (SetTable.runEnd 15 i.val + 1 - i.val)).find? (fun k => ((Array.replicate 16 none : Array (Option Nat)).getD (i.val + k) (some 0)).isNone) = some 0 := by decide +kernel
 have e2 : ∀ i : _root_.Fin 16, (List.range 16).filterMap (fun j => ((((Array.replicate 16 none).setIfInBounds i.val (some 0) : Array (Option Nat)).getD j none).map (j, ·))) = [(i.val, 0)] := by decide +kernel
 have q1 := e1 ⟨_, hi⟩
 have q2 := e2 ⟨_, hi⟩
 refine ⟨SetTable.bits h % 16, ?_⟩
 unfold SetTable.relaid
 rw [hw]
 have q3 : SetTable.layClean.free 15 (Array.replicate 16 none) (SetTable.turns 15) (SetTable.bits h % 16) (SetTable.bits h) = some (SetTable.bits h % 16) := by
  show (match (List.range (SetTable.runEnd 15 (SetTable.bits h % 16) + 1 - SetTable.bits h % 16)).find? (fun k => ((Array.replicate 16 none : Array (Option Nat)).getD (SetTable.bits h % 16 + k) (some 0)).isNone) with
   | some k => some (SetTable.bits h % 16 + k)
   | none => _) = _
  rw [q1]; rfl
 have q4 : SetTable.layClean 15 #[h] = some ((Array.replicate 16 none).setIfInBounds (SetTable.bits h % 16) (some 0)) := by
  show Option.map (·.1) (Option.bind (SetTable.layClean.free 15 (Array.replicate 16 none) (SetTable.turns 15) (SetTable.bits h % 16) (SetTable.bits h)) fun j => some ((Array.replicate 16 none : Array (Option Nat)).setIfInBounds j (some 0), 0 + 1)) = _
  rw [q3]; rfl
 show (Option.bind (SetTable.layClean 15 #[h]) _) = _
 rw [q4]
 show some (_, _) = _
 rw [q2]
 rfl
theorem sizeAb : ∀ n, n < 7 → 4 ≤ n → SetTable.sizeAbove ((1 + n) * 2) = 16 := by decide +kernel
theorem x_room {a : Addr} {k : Str} {n : Nat} {Q : Unit → Shared → Prop} (H : St h0 o0 ((a, bj true w [k]) :: cs) s) (hn : n ≤ 6) (h : ∀ s', St h0 o0 ((a, bj true w [k]) :: cs) s' → Q () s') : wpAny (model prog w) A (setRoomFor a n) Q E s := by
 unfold setRoomFor
 obtain ⟨oa, hoa, esa, epa, ta, rfl, hs⟩ := H.get (a := a) .here
 have hs1 : esa.size = 1 := by rw [hs.length]; rfl
 refine aa (wpAny_setState_of hoa rfl hs.fits ?_)
 have hp1 : ta.place.size = 1 := by have := hs.fits; simp only [SetTable.fits, Bool.and_eq_true, beq_iff_eq] at this; (lia)
 have f := hs.first rfl (by apply aD; exact aj (by assumption); decide)
 dsimp only
 by_cases hm : (ta.fill + n) * 5 ≥ ta.mask * 3
 ·have hr : ta.roomFor n = some ((ta.place.size + n) * 2) := by unfold SetTable.roomFor; rw [if_pos hm]
  have hn4 : 4 ≤ n := by
   unfold SetTable.fill at hm
   rw [f.1, hp1] at hm
   rcases f.2 with q | ⟨_, q⟩ <;> rw [q] at hm <;> simp at hm <;> (lia)
  rw [hr, hp1]
  dsimp only
  unfold setRelay
  refine aa (wpAny_setState_of hoa rfl hs.fits ?_)
  dsimp only
  have hw : SetTable.sizeAbove ((1 + n) * 2) = 16 := sizeAb n (by lia) hn4
  rw [hw, if_neg (by rw [af]; (lia))]
  obtain ⟨e, he⟩ := Array.size_eq_one_iff.mp hs1
  subst he
  obtain ⟨j, hj⟩ := relay1 ta e.1 hw
  rw [show (Array.map (fun x : Int × Value => x.1) #[e]) = #[e.1] from by simp, hj]
  refine aa (ab ?_)
  show wpAny _ _ (storeSet a #[e] _) _ _ _
  have o1 := Heap.get?_update_self (Obj.putSet #[e] { mask := 15, place := #[j], dummies := #[], finger := ta.finger, led := ta.led, moves := ta.movedTo 15, plain := ta.plain }) hoa (by rw [putSet_of _ _ rfl]; rfl)
  rw [putSet_of _ _ rfl] at o1
  refine wpAny_storeSet_of hoa rfl (h _ (H.upd (k := s.toks) .here ⟨_, o1, _, _, _, rfl, ?_⟩ (fun b o hb q => (Heap.SameBut.update ..).extBut b o hb q) (ae _))) (by simp [af])
  exact ⟨hs.el, hs.perm, hs.nodup, rfl, hs.led, fun _ => .inr ((hs.plain rfl).resolve_left (by simp)), by simp [scanBound], fun _ _ => ⟨rfl, .inr ⟨rfl, rfl⟩⟩⟩
 ·have hr : ta.roomFor n = none := by unfold SetTable.roomFor; rw [if_neg hm]
  rw [hr]
  exact ab (h _ H)
theorem x_star {a d : Addr} {k : Str} {kvs : List (Str × Value)} {Q : Unit → Shared → Prop} (H : St h0 o0 ((a, bj true w [k]) :: cs) s) (hh : A.handled = none) (hd : Has cs d (aM prog w kvs)) (hz : kvs.length ≤ 6)
  (h : ∀ s', St h0 o0 ((a, bj true w (bV [k] (kvs.map (·.1)))) :: cs) s' → Q () s') : wpAny (model prog w) A (setDisplayStar a (.ref d)) Q E s := by
 have hT := (cr (prog := prog) (w := w) H (.there hd)).typeIs
 unfold setDisplayStar
 refine aa (wpAny_isInstance hT i7 ?_)
 rw [if_neg (by decide)]
 refine aa (wpAny_isInstance hT hM ?_)
 refine aa (wpAny_askSetting ?_)
 obtain ⟨o, ho, es, ep, h1, h2, h3, h4, h5⟩ := H.get (a := d) (.there hd)
 cases hb : (model prog w).w.params.followText "set-display-star-reads-storage" with
 | true =>
  simp only [if_true]
  obtain ⟨cs1, p1, p2⟩ := hd.put (lO prog w kvs ep)
  have H1 : St h0 o0 ((a, bj true w [k]) :: cs1) s := H.upd (h' := s.heap) (k := s.toks) (.there p1) ⟨_, ho, es, h1, h2, h3, h4, h5⟩ (fun _ _ _ e => e) (ae _)
  have back : ∀ c s, St h0 o0 ((a, c) :: cs1) s → St h0 o0 ((a, c) :: cs) s := fun c s q => q.weak (.there p2) fun o ⟨es, a1, a2, a3, a4, a5⟩ => ⟨es, ep, a1, a2, a3, a4, a5⟩
  refine aa (wpAny_pyIter_dict (eZ H (.there hd)) (fM H1 (.there p1.has')) ?_)
  have H2 := H1.push (k := s.toks) (o := { cls := .type "dict_keyiterator", data := .fields #[.ref d, .int 0 0, .int kvs.length 0, .int ep 0] }) (c := pU d 0 kvs.length ep) ⟨rfl, rfl⟩ (ae _)
  refine aa (wpAny_runValue ?_)
  have H3 := H2
  refine nZ (lc (d := d) (kvs := kvs) (ep := ep) hh) (kvs.map (·.1)) (by simp) (fun i v hv => ?_) p1.has' _ 0 [k] _ rfl (Nat.zero_le _) ?_ H3 fun s' H' => ?_
  ·obtain ⟨k', x, u, hk, rfl⟩ := hv
   exact ⟨k', u, by rw [List.getElem?_map, hk]; rfl, rfl⟩
  ·unfold scanBound; simp only [List.length_singleton]; (lia)
  ·exact ab (h _ (back _ _ H'))
 | false =>
  simp only [Bool.false_eq_true, if_false]
  refine aa (wpAny_typeOf hT ?_)
  rw [if_pos (by decide)]
  refine aa (wpAny_rule ?_)
  rw [if_neg (by rw [eZ H (.there hd)]; decide)]
  obtain ⟨cs1, p1, p2⟩ := hd.put (cEq o)
  have H1 : St h0 o0 ((a, bj true w [k]) :: cs1) s := H.upd (h' := s.heap) (k := s.toks) (.there p1) ⟨_, ho, rfl⟩ (fun _ _ _ e => e) (ae _)
  have back : ∀ c s, St h0 o0 ((a, c) :: cs1) s → St h0 o0 ((a, c) :: cs) s := fun c s q => q.weak (.there p2) fun o' e => by rw [show o' = o from e]; exact ⟨es, ep, h1, h2, h3, h4, h5⟩
  have at_ : ∀ c s, St h0 o0 ((a, c) :: cs1) s → s.heap.get? d = some o := fun c s q => by
   obtain ⟨o', ho', e⟩ := q.get (.there p1.has')
   rw [ho', show o' = o from e]
  refine aa (wpAny_dictEpoch ho h2 ?_)
  refine aa (wpAny_dictEntries ho h2 ?_)
  have hsz : es.size = kvs.length := by rw [← h4.length]; simp
  refine aa (x_room H1 (by lia) fun s1 H1 => ?_)
  refine aa ?_
  refine lB (P := fun i s => St h0 o0 ((a, bj true w (bV [k] ((kvs.map (·.1)).take i))) :: cs1) s) (fun i s' hi H' => ?_) (fun s' H' => ?_) H1
  ·refine aa (wpAny_dictEntries (at_ _ _ H') h2 ?_)
   rw [Array.getElem?_eq_getElem hi]
   obtain ⟨k', u, v, hk, hkey⟩ := mZ h4 (i := i) (e := es[i]) (by simp [hi])
   obtain ⟨k2, hk2, hash⟩ := h3 es[i] (Array.getElem_mem hi)
   have ek : k2 = k' := by
    rw [hkey] at hk2
    exact (PySem.strKind prog w).inj _ _ _ hk2 (cS (prog := prog) (w := w) k' u)
   subst ek
   dsimp only
   rw [hkey, hash]
   refine aa (aw (aa ?_))
   have hi2 : i < (kvs.map (·.1)).length := by rw [ag]; (lia)
   have ei : (kvs.map (·.1))[i] = k2 := by
    have : (kvs.map (·.1))[i]? = some k2 := by rw [List.getElem?_map, hk]; rfl
    rw [List.getElem?_eq_getElem hi2] at this
    exact Option.some.inj this
   refine fR H' ?_ .here fun bb s2 H2 => ?_
   ·have := ft ((kvs.map (·.1)).take i) [k]
    rw [List.length_take, ag, List.length_singleton] at this
    unfold scanBound
    (lia)
   ·refine ab ?_
    refine aa (wpAny_dictEpoch (at_ _ _ H2) h2 ?_)
    rw [if_neg (by simp)]
    refine ab ⟨rfl, ?_⟩
    rw [List.take_succ_eq_append_getElem hi2, ei, iV]
    exact H2
  ·refine ab (h s' (back _ _ ?_))
   rw [List.take_of_length_le (by rw [ag]; (lia))] at H'
   exact H'
theorem mL {e1 e2 : Expr} {k : Nat} {p2 pos : Pos} (X : K.In s.heap) (hc : kdsCode K env.code = true) (hk : (k > 0) = False) (H : St h0 o0 cs s) (hh : A.handled = none) (he : starEach [e1, .Starred e2 p2] env = [(false, eval e1 env), (true, eval e2 env)])
  (h : ∀ a s1, St h0 o0 ((a, bj true w []) :: cs) s1 → wpAny (model prog w) A (eval e1 env) (fun v1 s2 => ∃ x u, v1 = .str x u ∧ St h0 o0 ((a, bj true w []) :: cs) s2 ∧ ∀ s3, St h0 o0 ((a, bj true w [x]) :: cs) s3 →
   wpAny (model prog w) A (eval e2 env) (fun v2 s4 => ∃ d kvs, v2 = .ref d ∧ St h0 o0 ((a, bj true w [x]) :: cs) s4 ∧ Has cs d (aM prog w kvs) ∧ kvs.length ≤ 6 ∧ ∀ s5, St h0 o0 ((a, bj true w (bV [x] (kvs.map (·.1)))) :: cs) s5 → Q (.ref a) s5) E s3) E s1) :
  wpAny (model prog w) A (eval (.Set [e1, .Starred e2 p2] k pos) env) Q E s := by
 rw [arm_eval_Set]
 refine aa (wpAny_standAt ?_)
 refine aa (kds_main X hc fun b => ?_)
 rw [he]
 have hr : displayRoad k [e1, .Starred e2 p2] = .oneByOne := by
  unfold displayRoad
  rw [if_neg (by rw [hk]; exact id)]
  exact if_pos (show [e1, Expr.Starred e2 p2].length ≤ 2 from ae 2)
 rw [hr]
 unfold setDisplay
 rw [if_neg (by decide)]
 refine aa (nC (b := true) H fun a s1 H1 => ?_)
 dsimp only
 refine aa (aw ?_)
 show wpAny _ _ (evalAll [do let v ← eval e1 env; standAt pos; pure v] >>= _) _ _ _
 refine aa (wpAny_evalAll_cons ?_)
 refine aa (ad (h a s1 H1) (fun v1 s2 q => ?_) fun _ _ q => q)
 obtain ⟨x, u, rfl, H2, q⟩ := q
 refine aa (wpAny_standAt (ab ?_))
 refine wpAny_evalAll_nil ?_
 refine aa (aw ?_)
 rw [List.forIn_cons]
 refine aa (aa (aa (gl H2 (by unfold scanBound; decide) .here fun bb s3 H3 => ab ?_)))
 rw [if_neg (by simp)] at H3
 dsimp only
 rw [List.forIn_nil]
 refine ab ?_
 rw [if_neg (by decide)]
 refine ab ?_
 show wpAny _ _ (forIn [(true, do let v ← eval e2 env; standAt pos; pure v)] PUnit.unit _ >>= _) _ _ _
 rw [List.forIn_cons]
 refine aa (aa (aa ?_))
 refine aa (ad (q s3 H3) (fun v2 s4 q => ?_) fun _ _ q => q)
 obtain ⟨d, kvs, rfl, H4, hd, hz, q⟩ := q
 refine aa (wpAny_standAt (ab ?_))
 refine KFB.if_so rfl ?_
 refine aa (aw ?_)
 refine x_star H4 hh hd hz fun s5 H5 => ?_
 refine ab ?_
 dsimp only
 rw [List.forIn_nil]
 refine ab (ab (ab (q _ H5)))
end
noncomputable def js (l : List (Nat × Nat)) (a b : Nat) : List (Nat × Nat) :=
 l ++ ((a :: (l.filter fun q => q.2 == a).map (·.1)).flatMap fun x => (b :: (l.filter fun q => q.1 == b).map (·.2)).map fun y => (x, y))
noncomputable def sndT (l : List (Nat × Nat)) (p : List Nat) : Bool := match p with
 | a :: b :: r => l.contains (a, b) && sndT l (b :: r)
 | _ => true
noncomputable def fN (n : Nat) : KasT (Array Nat) → List (Nat × Nat) → Bool
 | .ret p, l => p.toList.isPerm (List.range n) && sndT l p.toList
 | .ask i j k, l => decide (i < n) && decide (j < n) && i != j && (if l.contains (i, j) then fN n (k true) l else if l.contains (j, i) then fN n (k false) l
  else fN n (k true) (js l i j) && fN n (k false) (js l j i))
theorem chk_to4 {n : Nat} (h2 : 2 ≤ n) (h4 : n ≤ 5) : fN n (kas_sort n) [] = true := by
 have key : ∀ n, n < 6 → 2 ≤ n → fN n (kas_sort n) [] = true := by decide +kernel
 exact key n (Nat.lt_succ_of_le h4) h2
theorem lt2 {α : Type} : ∀ {l : List α}, l.length < 2 → l = [] ∨ ∃ v, l = [v]
 | [], _ => .inl rfl
 | [v], _ => .inr ⟨v, rfl⟩
structure Ord (n : Nat) (c : Nat → Nat → Bool) : Prop where
 tot : ∀ i j, i < n → j < n → i ≠ j → c i j = !c j i
 tr : ∀ i j k, i < n → j < n → k < n → c i j = true → c j k = true → c i k = true
noncomputable def nw (c : Nat → Nat → Bool) : List Nat → Prop
 | a :: b :: r => c a b = true ∧ nw c (b :: r)
 | _ => True
theorem adj2 {c : Nat → Nat → Bool} : ∀ {n : Nat}, n < 2 → nw c (List.range n)
 | 0, _ => trivial
 | 1, _ => trivial
theorem pY {c : Nat → Nat → Bool} {l : List (Nat × Nat)} (hp : ∀ q ∈ l, c q.1 q.2 = true) : ∀ p : List Nat, sndT l p = true → nw c p
 | [], _ => trivial
 | [_], _ => trivial
 | a :: b :: r, h => by
  rw [sndT, Bool.and_eq_true] at h
  exact ⟨hp _ (List.contains_iff_mem.mp h.1), pY hp (b :: r) h.2⟩
noncomputable def InT (n : Nat) (c : Nat → Nat → Bool) (l : List (Nat × Nat)) : Prop := ∀ q ∈ l, q.1 < n ∧ q.2 < n ∧ c q.1 q.2 = true
theorem InT.close {n : Nat} {c : Nat → Nat → Bool} {l : List (Nat × Nat)} (O : Ord n c) (h : InT n c l) {a b : Nat} (ha : a < n) (hb : b < n) (hab : c a b = true) : InT n c (js l a b) := by
 intro q hq
 unfold js at hq
 rcases List.mem_append.mp hq with hq | hq
 ·exact h q hq
 ·obtain ⟨x, hx, hq⟩ := List.mem_flatMap.mp hq
  obtain ⟨y, hy, rfl⟩ := List.mem_map.mp hq
  have hx' : x < n ∧ c x b = true := by
   rcases List.mem_cons.mp hx with rfl | hx
   ·exact ⟨ha, hab⟩
   ·obtain ⟨q, hq2, rfl⟩ := List.mem_map.mp hx
    rw [List.mem_filter, beq_iff_eq] at hq2
    have g := h q hq2.1
    rw [hq2.2] at g
    exact ⟨g.1, O.tr _ _ _ g.1 g.2.1 hb g.2.2 hab⟩
  rcases List.mem_cons.mp hy with rfl | hy
  ·exact ⟨hx'.1, hb, hx'.2⟩
  ·obtain ⟨q, hq2, rfl⟩ := List.mem_map.mp hy
   rw [List.mem_filter, beq_iff_eq] at hq2
   have g := h q hq2.1
   rw [hq2.2] at g
   exact ⟨hx'.1, g.2.1, O.tr _ _ _ hx'.1 g.1 g.2.1 hx'.2 g.2.2⟩
section
variable {b : Bool} {cs cs' : az} {K : Frag} {Q : VP}
theorem dm {n : Nat} {c : Nat → Nat → Bool} {κ : SortKind} {ks : List Value} {G : Array Nat → Shared → Prop} (O : Ord n c)
  (hask : ∀ i j C s, i < n → j < n → i ≠ j → St h0 o0 cs s → (∀ s', St h0 o0 cs s' → C (c i j) s') → kas_ask prog w A κ ks i j C s) :
  ∀ (t : KasT (Array Nat)) (l : List (Nat × Nat)) (s : Shared), fN n t l = true → InT n c l → St h0 o0 cs s →
   (∀ p s', p.toList.Perm (List.range n) → nw c p.toList → St h0 o0 cs s' → G p s') → t.kasWp (kas_ask prog w A κ ks) G s
 | .ret p, l, s, h, hp, H, hG => by
  rw [fN, Bool.and_eq_true] at h
  exact hG p s (List.isPerm_iff.mp h.1) (pY (fun q hq => (hp q hq).2.2) _ h.2) H
 | .ask i j k, l, s, h, hp, H, hG => by
  rw [fN] at h
  simp only [Bool.and_eq_true, decide_eq_true_eq, bne_iff_ne] at h
  obtain ⟨⟨⟨hi, hj⟩, hij⟩, hr⟩ := h
  refine hask i j _ s hi hj hij H fun s' H' => ?_
  split at hr
  ·rename_i q
   have := (hp _ (List.contains_iff_mem.mp q)).2.2
   rw [this]
   exact dm O hask (k true) _ s' hr hp H' hG
  ·split at hr
   ·rename_i q
    have := (hp _ (List.contains_iff_mem.mp q)).2.2
    rw [O.tot i j hi hj hij, this]
    exact dm O hask (k false) _ s' hr hp H' hG
   ·rw [Bool.and_eq_true] at hr
    cases hc : c i j with
    | true => exact dm O hask (k true) _ s' hr.1 (hp.close O hi hj hc) H' hG
    | false =>
     have hc' : c j i = true := by rw [O.tot j i hj hi (Ne.symm hij), hc]; rfl
     exact dm O hask (k false) _ s' hr.2 (hp.close O hj hi hc') H' hG
noncomputable def lM (xs : List Value) (e : Nat) : bM := fun o => o = { cls := .type "list", data := .seq xs.toArray e }
theorem kh {a : Addr} {xs : List Value} {e : Nat} (H : St h0 o0 cs s) (h : Has cs a (lM xs e)) : s.heap.get? a = some { cls := .type "list", data := .seq xs.toArray e } := by
 obtain ⟨o, ho, rfl⟩ := H.get h
 exact ho
theorem Put.memO {cs cs1 : az} {a : Addr} {c c' : bM} (hp : Put cs a c c' cs1) : ∀ p ∈ cs, p.1 ≠ a → p ∈ cs1 := by
 induction hp with
 | here =>
  intro p hm hne
  rcases List.mem_cons.mp hm with rfl | hm
  ·exact absurd rfl hne
  ·exact am _ hm
 | there _ ih =>
  intro p hm hne
  rcases List.mem_cons.mp hm with rfl | hm
  ·exact au
  ·exact am _ (ih p hm hne)
theorem Put.trans {cs cs1 : az} {a : Addr} {c c' : bM} (h1 : Put cs a c c' cs1) : ∀ {cs2 : az} {c'' : bM}, (cs.map Prod.fst).Nodup → Put cs1 a c' c'' cs2 → Put cs a c c'' cs2 := by
 induction h1 with
 | here =>
  intro cs2 c'' nd h2
  cases h2 with
  | here => exact .here
  | there h2 =>
   rw [ap, List.nodup_cons] at nd
   exact absurd (aq (f := Prod.fst) h2.has.mem) nd.1
 | there h1 ih =>
  intro cs2 c'' nd h2
  rw [ap, List.nodup_cons] at nd
  cases h2 with
  | here => exact absurd (aq (f := Prod.fst) h1.has.mem) nd.1
  | there h2 => exact .there (ih nd.2 h2)
theorem jE {a : Addr} {vs : List Value} {c : Nat → Nat → Bool} {κ : SortKind} {P : PySem.Fin → Shared → Prop} (O : Ord vs.length c) (ha : Has cs a (ay vs)) (H : St h0 o0 cs s) (h4 : vs.length ≤ 1 ∨ fN vs.length (kas_sort vs.length) [] = true) (h64 : vs.length < 64)
  (hkind : ∀ cs1 s' (Q : SortKind → Shared → Prop), 2 ≤ vs.length → (∀ p ∈ cs, p.1 ≠ a → p ∈ cs1) → St h0 o0 cs1 s' → Q κ s' → wpAny (model prog w) A (keyKind' vs.toArray) Q (fun _ _ => False) s')
  (hask : ∀ cs1 i j C s, i < vs.length → j < vs.length → i ≠ j → (∀ p ∈ cs, p.1 ≠ a → p ∈ cs1) → St h0 o0 cs1 s → (∀ s', St h0 o0 cs1 s' → C (c i j) s') → kas_ask prog w A κ vs i j C s)
  (h : ∀ p cs2 s', p.Perm (List.range vs.length) → nw c p → Put cs a (ay vs) (ay (p.map fun i => vs.getD i Value.none)) cs2 → St h0 o0 cs2 s' → P (.done (.ret .none)) s') :
  wpAny (model prog w) A (Builtin.«list.sort» ⟨[.ref a], []⟩) P E s := by
 obtain ⟨n, ho⟩ := bU H ha
 have nd := H.nodup
 rw [list_sort_plain]
 refine aa (listItems_at ho rfl ?_)
 refine aa (listUpdate_at ho rfl ?_ (by rw [List.size_toArray, af]; (lia)) (Nat.zero_le _))
 obtain ⟨e1, ho1⟩ : ∃ e1, (s.heap.update a (Obj.mapSeq fun _ => (#[] : Array Value))).get? a = some (seqObj "list" #[] e1) := ⟨_, get?_update_seq ho fun _ => #[]⟩
 obtain ⟨cs1, q1, q2⟩ := ha.put (lM [] e1)
 have H1 : St h0 o0 cs1 { s with heap := s.heap.update a (Obj.mapSeq fun _ => (#[] : Array Value)) } := H.updS (k := s.toks) q1 ⟨_, ho1, rfl⟩ (Heap.SameBut.update ..) (ae _)
 refine aa (seqEpoch_at ho1 rfl ?_)
 refine aa (eH H1 (by rw [List.toList_toArray, af]; (lia)) fun ht s2 H2 _ => ?_)
 refine aa (cK H2 (Nat.zero_le _) fun ks s3 H3 _ => ?_)
 refine aw ?_
 dsimp only
 have H3' : St h0 o0 cs1 s3 := H3.tail.tail
 have mem1 : ∀ p ∈ cs, p.1 ≠ a → p ∈ cs1 := by
  intro p hpm hne
  exact q1.memO p hpm hne
 have tail : ∀ (p : List Nat) (s' : Shared), p.Perm (List.range vs.length) → nw c p → St h0 o0 cs1 s' → ∀ st : SortSt, (arrOf st).map (·.2) = List.toArray (p.map fun i => vs.getD i Value.none) → failedOf st = none →
   wpAny (model prog w) A (do
    let sorted := (arrOf st).map (·.2)
    let touched := (← seqEpoch a) != e1
    Builtin.List.listUpdate (.ref a) fun _ => sorted
    if let some e := failedOf st then rule "list.sort.comparison-raised"; throw e
    if touched then rule "list.sort.modified"; raiseError "ValueError" "list modified during sort"
    ret .none) P E s' := by
  intro p s' hpm hadj H' st har hf
  have hoE := kh H' q1.has'
  have hlen : (p.map fun i => vs.getD i Value.none).length = vs.length := by rw [ag, hpm.length_eq, List.length_range]
  dsimp only
  rw [har]
  refine aa (seqEpoch_at hoE rfl ?_)
  refine aa (listUpdate_at hoE rfl ?_ (Nat.zero_le _) (by rw [List.size_toArray, hlen, af]; (lia)))
  rw [hf]
  simp only [bne_self_eq_false, Bool.false_eq_true, if_false]
  obtain ⟨cs2, r1, r2⟩ := q1.has'.put (ay (p.map fun i => vs.getD i Value.none))
  have hput : Put cs a (ay vs) (ay (p.map fun i => vs.getD i Value.none)) cs2 := by
   exact q1.trans nd r1
  refine ab (h p cs2 _ hpm hadj hput (H'.updS (k := s'.toks) r1 ⟨_, Heap.get?_update_self _ hoE rfl, bw (f := fun _ => List.toArray (p.map fun i => vs.getD i Value.none)) rfl⟩ (Heap.SameBut.update ..) (ae _)))
 by_cases hlt : vs.length < 2
 ·have h2 : vs.toArray.size < 2 := by rw [List.size_toArray]; exact hlt
  rw [if_pos h2, if_pos h2]
  refine aa (ab ?_)
  rw [StateT.run_pure]
  refine aa (ab ?_)
  refine tail (List.range vs.length) s3 (.refl _) ?_ H3' (SortSt.mk' general' (vs.toArray.zip vs.toArray) #[] 7 none) ?_ rfl
  ·exact adj2 hlt
  ·show (vs.toArray.zip vs.toArray).map (·.2) = _
   rcases lt2 hlt with rfl | ⟨v, rfl⟩ <;> simp
 ·have h2 : ¬ vs.toArray.size < 2 := by rw [List.size_toArray]; exact hlt
  rw [if_neg h2, if_neg h2]
  refine aa (ad (hkind cs1 s3 (fun κ' s' => κ' = κ ∧ St h0 o0 cs1 s') (by lia) mem1 H3' ⟨rfl, H3'⟩) (fun κ' s4 q => ?_) fun _ _ q => q.elim)
  obtain ⟨rfl, H4⟩ := q
  refine aa (ad (kat_run (Q := fun st' s' => ∃ p : Array Nat, arrOf st' = p.map (kas_item (vs.toArray.zip vs.toArray)) ∧ failedOf st' = none ∧ p.toList.Perm (List.range vs.length) ∧ nw c p.toList ∧ St h0 o0 cs1 s')
   (G := fun p s' => p.toList.Perm (List.range vs.length) ∧ nw c p.toList ∧ St h0 o0 cs1 s') rfl (by lia) h64 (fun p' st' s' a1 a2 a3 a4 => ⟨p', a2, a3, a4.1, a4.2.1, a4.2.2⟩)
   (dm O (fun i j C s hi hj hij HH q => hask cs1 i j C s hi hj hij mem1 HH q) (kas_sort vs.length) [] s4 (h4.resolve_left (by lia)) (by intro q hq; cases hq) H4 fun p s' a1 a2 a3 => ⟨a1, a2, a3⟩)) ?_ fun _ _ e => e)
  rintro ⟨⟨⟩, st'⟩ s' ⟨p, har, hf, hpm, hadj, H5⟩
  exact tail p.toList s' hpm hadj H5 st' (kat_snds rfl har) hf
end
noncomputable def dW : List Str → List Str → Bool
 | [], [] => false
 | [], _ :: _ => true
 | _ :: _, [] => false
 | x :: xs, y :: ys => if x = y then dW xs ys else decide (x.cps.toList < y.cps.toList)
noncomputable def dI (xs : List Str) : bM := fun o => ∃ l : List (Str × Tok), l.map (·.1) = xs ∧ ay (l.map fun p => .str p.1 p.2) o
noncomputable abbrev tv (xs : List (Str × Tok)) : List Value := xs.map fun p => .str p.1 p.2
set_option maxHeartbeats 1000000 in
theorem lt_loop (l b : Addr) (xs ys : List (Str × Tok)) (n n2 : Nat) (k : Nat) :
  ∀ i : Nat, xs.length - i = k → i ≤ xs.length → Meets (Builtin.«list.__eq__.loop» ⟨[.ref l, .ref b, rawInt i, rawInt 0], []⟩)
   (fun A R s => s.heap.get? l = some { cls := .type "list", dict := none, data := .seq (tv xs).toArray n, slots := #[] } ∧ s.heap.get? b = some { cls := .type "list", dict := none, data := .seq (tv ys).toArray n2, slots := #[] } ∧
    R (.ok (.ret (.bool (dW ((xs.drop i).map (·.1)) ((ys.drop i).map (·.1)))))) s) := by
 induction k with
 | zero =>
  intro i hk hle prog w A R s h
  obtain ⟨hp, g, d, tk, os⟩ := s; obtain ⟨hl, hb, h⟩ := h
  wp_walk using wpAny_loadPart' hl, wpAny_loadPart' hb
  have hi1 : (tv xs).toArray[((i : Nat) : Int).toNat]? = none := by simp; exact Nat.le_of_sub_eq_zero hk
  rw [hi1]
  wp_walk using wpAny_loadPart' hl, wpAny_loadPart' hb
  show R (.ok (.ret (.bool (decide ((tv xs).toArray.size < (tv ys).toArray.size))))) _
  rw [List.drop_eq_nil_of_le (Nat.le_of_sub_eq_zero hk), List.map_nil] at h
  by_cases hy : i < ys.length
  ·rw [decide_eq_true (by simp; exact Nat.lt_of_le_of_lt (Nat.le_of_sub_eq_zero hk) hy)]
   rw [List.drop_eq_getElem_cons hy, ap, dW] at h
   exact h
  ·rw [decide_eq_false (by simp; exact Nat.le_trans (Nat.le_of_not_lt hy) hle)]
   rw [List.drop_eq_nil_of_le (Nat.le_of_not_lt hy), List.map_nil, dW] at h
   exact h
 | succ k ih =>
  intro i hk hle prog w A R s h
  obtain ⟨hp, g, d, tk, os⟩ := s; obtain ⟨hl, hb, h⟩ := h
  wp_walk using wpAny_loadPart' hl, wpAny_loadPart' hb
  have hlt : i < xs.length := lp3 hk
  have hi1 : (tv xs).toArray[((i : Nat) : Int).toNat]? = some (.str xs[i].1 xs[i].2) := by simp [hlt]
  by_cases hlt2 : i < ys.length
  ·have hi2 : (tv ys).toArray[((i : Nat) : Int).toNat]? = some (.str ys[i].1 ys[i].2) := by simp [hlt2]
   have hc : ((i : Int) + 1) = ((i + 1 : Nat) : Int) := by push_cast; rfl
   rw [hi1, hi2]
   rw [List.drop_eq_getElem_cons hlt, List.drop_eq_getElem_cons hlt2, ap, ap, dW] at h
   refine aa (wpAny_eqBool_str ?_)
   by_cases e : xs[i].1 = ys[i].1
   ·rw [if_pos e] at h
    rw [decide_eq_true e]
    wp_walk
    rw [hc]
    exact ⟨plainId_quiet PySem.MeetsSeq3.plain_eq_loop _, codeAny_builtin PySem.MeetsSeq3.entry_eq_loop (by
     rw [Around.under_plainId PySem.MeetsSeq3.plain_eq_loop _]
     exact ih (i + 1) (lp1 hk) hlt prog w A R _ ⟨hl, hb, h⟩)⟩
   ·rw [if_neg e] at h
    rw [decide_eq_false e]
    wp_walk using wpAny_loadPart' hl, wpAny_loadPart' hb
    rw [hi1, hi2]
    refine aa ?_
    exact P.lt_str (ab h)
  ·have hi2 : (tv ys).toArray[((i : Nat) : Int).toNat]? = none := by simp; exact Nat.le_of_not_lt hlt2
   rw [hi1, hi2]
   have e0 : ys.drop i = [] := List.drop_eq_nil_of_le (Nat.le_of_not_lt hlt2)
   rw [List.drop_eq_getElem_cons hlt, e0, ap, List.map_nil, dW] at h
   wp_walk using wpAny_loadPart' hl, wpAny_loadPart' hb
   show R (.ok (.ret (.bool (decide ((tv xs).toArray.size < (tv ys).toArray.size))))) _
   rw [decide_eq_false (by simp; exact Nat.le_trans (Nat.le_of_not_lt hlt2) (Nat.le_of_lt hlt))]
   exact h
theorem hO : Slot "list" "__lt__" "list.__lt__" := F.slot_list_lt
section
variable {b : Bool} {cs cs' : az} {K : Frag} {Q : VP}
theorem ie (l b : Addr) (xs ys : List (Str × Tok)) (n n2 : Nat) :
  Meets (Builtin.«list.__lt__» ⟨[.ref l, .ref b], []⟩)
   (fun A R s => s.heap.get? l = some { cls := .type "list", dict := none, data := .seq (tv xs).toArray n, slots := #[] } ∧ s.heap.get? b = some { cls := .type "list", dict := none, data := .seq (tv ys).toArray n2, slots := #[] } ∧
    R (.ok (.ret (.bool (dW (xs.map (·.1)) (ys.map (·.1)))))) s) := by
 intro prog w A R s h
 obtain ⟨hp, g, d, tk, os⟩ := s; obtain ⟨hl, hb, h⟩ := h
 have f3 := AutoSeq1.sub_list_list
 wp_walk using wpAny_loadPart' hl, wpAny_loadPart' hb
 exact ⟨plainId_quiet PySem.MeetsSeq3.plain_eq_loop _, codeAny_builtin PySem.MeetsSeq3.entry_eq_loop (by
  rw [Around.under_plainId PySem.MeetsSeq3.plain_eq_loop _]
  exact lt_loop l b xs ys n n2 _ 0 rfl (Nat.zero_le _) prog w A R _ ⟨hl, hb, h⟩)⟩
theorem i4 {a : Addr} {xs : List Str} (H : St h0 o0 cs s) (h : Has cs a (dI xs)) : ∃ (l : List (Str × Tok)) (n : Nat), l.map (·.1) = xs ∧ s.heap.get? a = some { cls := .type "list", data := .seq (tv l).toArray n } := by
 obtain ⟨o, ho, l, e, n, rfl⟩ := H.get h
 exact ⟨l, n, e, ho⟩
theorem nE {x y : Addr} {xs ys : List Str} {Q : Bool → Shared → Prop} (H : St h0 o0 cs s) (hu : A.units < cLine) (hx : Has cs x (dI xs)) (hy : Has cs y (dI ys)) (h : Q (dW xs ys) s) :
  wpAny (model prog w) A (keyLt' oneType' (.ref x) (.ref y)) Q E s := by
 obtain ⟨l, n, rfl, ho⟩ := i4 H hx
 obtain ⟨l2, n2, rfl, ho2⟩ := i4 H hy
 have hT : s.TypeIs (.ref x) "list" := ⟨_, ho, rfl⟩
 rw [keyLt'_oneType, oneLt'_eq]
 simp only [if_true]
 refine aa (wpAny_cRoomFor hu ?_)
 refine aa (wpAny_callSpecialIfBound?_slot hT hO (call_meets F.slot_list_lt hT F.entry_list_lt (F.args_list_lt_2 _ _) (ie x y l l2 n n2) ⟨ho, ho2, ?_⟩))
 exact wpAny_truthy_bool h
theorem mJ {a q : Addr} {vs : List Value} {kl : Nat → List Str} {P : PySem.Fin → Shared → Prop} (O : Ord vs.length (fun i j => dW (kl i) (kl j))) (hu : A.units < cLine) (ha : Has cs a (ay vs)) (H : St h0 o0 cs s) (h4 : vs.length ≤ 1 ∨ fN vs.length (kas_sort vs.length) [] = true) (h64 : vs.length < 64)
  (hkey : ∀ cs1 i v s (Q : VP), vs[i]? = some v → (∀ p ∈ cs, p.1 ≠ a → p ∈ cs1) → St h0 o0 cs1 s → (∀ k s', St h0 o0 ((k, dI (kl i)) :: cs1) s' → Q (.ref k) s') → wpAny (model prog w) A (call (.ref q) [v]) Q (fun _ _ => False) s)
  (h : ∀ p cs2 s', p.Perm (List.range vs.length) → nw (fun i j => dW (kl i) (kl j)) p → Put cs a (ay vs) (ay (p.map fun i => vs.getD i Value.none)) cs2 → St h0 o0 cs2 s' → P (.done (.ret .none)) s') :
  wpAny (model prog w) A (Builtin.«list.sort» ⟨[.ref a], [(ofString "key", .ref q)]⟩) P E s := by
 obtain ⟨n, ho⟩ := bU H ha
 have nd := H.nodup
 rw [ksk_t1]
 unfold ksk_tree
 refine aa (listItems_at ho rfl ?_)
 refine aa (listUpdate_at ho rfl ?_ (by rw [List.size_toArray, af]; (lia)) (Nat.zero_le _))
 obtain ⟨e1, ho1⟩ : ∃ e1, (s.heap.update a (Obj.mapSeq fun _ => (#[] : Array Value))).get? a = some (seqObj "list" #[] e1) := ⟨_, get?_update_seq ho fun _ => #[]⟩
 obtain ⟨cs1, q1, q2⟩ := ha.put (lM [] e1)
 have H1 : St h0 o0 cs1 { s with heap := s.heap.update a (Obj.mapSeq fun _ => (#[] : Array Value)) } := H.updS (k := s.toks) q1 ⟨_, ho1, rfl⟩ (Heap.SameBut.update ..) (ae _)
 refine aa (seqEpoch_at ho1 rfl ?_)
 refine aa (eH H1 (by rw [List.toList_toArray, af]; (lia)) fun ht s2 H2 _ => ?_)
 refine aa (cK H2.tail (Nat.zero_le _) fun kS s3 H3 _ => ?_)
 refine aw ?_
 unfold ksk_rest
 refine aa (wpAny_rule ?_)
 have mem1 : ∀ p ∈ cs, p.1 ≠ a → p ∈ cs1 := q1.memO
 rw [List.forIn_toArray]
 have loop : ∀ (r : List Value) (i : Nat) (ks : List Addr) (C : az) (s : Shared) (Q : PUnit → Shared → Prop) (body : Value → PUnit → Sem (ForInStep PUnit)),
   (∀ x (s : Shared) (Q : ForInStep PUnit → Shared → Prop), wpAny (model prog w) A (call (.ref q) [x]) (fun k s' => ∃ (C : az) (ks : List Addr), St h0 o0 ((kS, ay (ks.map Value.ref)) :: (C ++ cs1)) s' ∧ ks.length < 64 ∧ ∀ s'', St h0 o0 ((kS, ay (ks.map Value.ref ++ [k])) :: (C ++ cs1)) s'' → Q (.yield ⟨⟩) s'') (fun _ _ => False) s → wpAny (model prog w) A (body x ⟨⟩) Q E s) →
   r = vs.drop i → i + r.length = vs.length → ks.length = i → (∀ (j : Nat) k, ks[j]? = some k → Has C k (dI (kl j))) → St h0 o0 ((kS, ay (ks.map Value.ref)) :: (C ++ cs1)) s →
   (∀ (ks : List Addr) (C : az) s', ks.length = vs.length → (∀ (j : Nat) k, ks[j]? = some k → Has C k (dI (kl j))) → St h0 o0 ((kS, ay (ks.map Value.ref)) :: (C ++ cs1)) s' → Q ⟨⟩ s') →
   wpAny (model prog w) A (forIn r PUnit.unit body) Q E s := by
  intro r
  induction r with
  | nil =>
   intro i ks C s Q body hb hr hl hk hks HH hQ
   rw [List.forIn_nil]
   exact ab (hQ ks C s (by simpa [hk] using hl) hks HH)
  | cons v r ih =>
   intro i ks C s Q body hb hr hl hk hks HH hQ
   rw [List.length_cons] at hl
   rw [List.forIn_cons]
   have hi : i < vs.length := by (lia)
   rw [List.drop_eq_getElem_cons hi] at hr
   have hv : vs[i]? = some v := by rw [List.getElem?_eq_getElem hi, (List.cons.inj hr).1]
   refine aa (hb v s _ ?_)
   refine hkey _ i v s _ hv (fun p hp hne => am _ (List.mem_append_right _ (mem1 p hp hne))) HH fun k s' H' => ?_
   refine ⟨(k, dI (kl i)) :: C, ks, H'.perm (List.Perm.swap _ _ _), by (lia), fun s'' H'' => ?_⟩
   refine ih (i + 1) (ks ++ [k]) ((k, dI (kl i)) :: C) s'' Q body hb (List.cons.inj hr).2 (by lia) (by simp [hk]) (fun j k' e => ?_) (by simpa using H'') hQ
   by_cases hj : j < ks.length
   ·rw [List.getElem?_append_left hj] at e; exact .there (hks j k' e)
   ·have hj2 : j = ks.length := by
     have := (List.getElem?_eq_some_iff.mp e).1
     simp only [ao, List.length_singleton] at this
     (lia)
    subst hj2
    rw [List.getElem?_append_right (ae _), Nat.sub_self] at e
    simp only [List.getElem?_cons_zero, Option.some.injEq] at e
    subst e
    rw [hk]; exact .here
 refine aa (loop vs 0 [] [] s3 _ _ (fun x s' Q' hx => ?_) rfl (by simp) rfl (by simp) H3 fun ks C s4 hkl hks H4 => ?_)
 ·refine aa (wpAny_attempt (ad hx (fun k s'' q => ?_) fun _ _ q => q.elim))
  obtain ⟨C, ks, HH, hz, q⟩ := q
  dsimp only
  obtain ⟨n5, ho5⟩ := bU HH .here
  refine aa (listUpdate_at ho5 rfl ?_ (by rw [List.size_toArray, ag, af]; (lia)) (by rw [Array.size_push, List.size_toArray, ag, af]; (lia)))
  refine ab (q _ ?_)
  exact HH.updS (k := s''.toks) (h' := s''.heap.update kS (Obj.mapSeq (·.push k))) .here ⟨_, Heap.get?_update_self _ ho5 rfl, bw (f := (·.push k)) (List.push_toArray _ _)⟩ (Heap.SameBut.update ..) (ae _)
 obtain ⟨n5, ho5⟩ := bU H4 .here
 refine aa (listItems_at ho5 rfl ?_)
 unfold ksk_end
 dsimp only
 have tail : ∀ (p : List Nat) (s' : Shared), p.Perm (List.range vs.length) → nw (fun i j => dW (kl i) (kl j)) p → St h0 o0 ((kS, ay (ks.map Value.ref)) :: (C ++ cs1)) s' → ∀ st : SortSt, (arrOf st).map (·.2) = List.toArray (p.map fun i => vs.getD i Value.none) → failedOf st = none →
   wpAny (model prog w) A (ksk_tail a false e1 (.ref kS) st) P E s' := by
  intro p s' hpm hadj H' st har hf
  have hlen : (p.map fun i => vs.getD i Value.none).length = vs.length := by rw [ag, hpm.length_eq, List.length_range]
  obtain ⟨n6, ho6⟩ := bU H' .here
  unfold ksk_tail
  dsimp only
  rw [har]
  refine aa (listUpdate_at ho6 rfl ?_ (by rw [List.size_toArray, ag, af]; (lia)) (Nat.zero_le _))
  have H5 : St h0 o0 (C ++ cs1) { s' with heap := s'.heap.update kS (Obj.mapSeq fun _ => (#[] : Array Value)) } := H'.dropBut (fun b o hb e => ((Heap.SameBut.update s'.heap kS _).2 b hb).trans e) (ae _)
  refine aa (wpAny_letGo ?_)
  have H6 : St h0 o0 cs1 { s' with heap := s'.heap.update kS (Obj.mapSeq fun _ => (#[] : Array Value)) } := H5.sub (List.sublist_append_right _ _)
  have hoE := kh H6 q1.has'
  refine aa (seqEpoch_at hoE rfl ?_)
  simp only [Bool.false_eq_true, if_false]
  refine aa (listUpdate_at hoE rfl ?_ (Nat.zero_le _) (by rw [List.size_toArray, hlen, af]; (lia)))
  rw [hf]
  simp only [bne_self_eq_false, Bool.false_eq_true, if_false]
  obtain ⟨cs2, r1, r2⟩ := q1.has'.put (ay (p.map fun i => vs.getD i Value.none))
  refine ab (h p cs2 _ hpm hadj (q1.trans nd r1) (H6.updS (k := s'.toks) r1 ⟨_, Heap.get?_update_self _ hoE rfl, bw (f := fun _ => List.toArray (p.map fun i => vs.getD i Value.none)) rfl⟩ (Heap.SameBut.update ..) (ae _)))
 simp only [Bool.false_eq_true, if_false]
 by_cases hlt : vs.length < 2
 ·have h2 : vs.toArray.size < 2 := by rw [List.size_toArray]; exact hlt
  rw [if_pos h2, if_pos h2]
  refine aa (ab ?_)
  rw [StateT.run_pure]
  refine aa (ab ?_)
  refine tail (List.range vs.length) s4 (.refl _) ?_ H4 _ ?_ rfl
  ·exact adj2 hlt
  ·show ((ks.map Value.ref).toArray.zip vs.toArray).map (·.2) = _
   have hkl2 : ks.length < 2 := hkl ▸ hlt
   rcases lt2 hlt with rfl | ⟨v, rfl⟩
   ·rcases lt2 hkl2 with rfl | ⟨k, rfl⟩
    ·simp
    ·cases hkl
   ·rcases lt2 hkl2 with rfl | ⟨k, rfl⟩
    ·cases hkl
    ·simp
 ·have h2 : ¬ vs.toArray.size < 2 := by rw [List.size_toArray]; exact hlt
  rw [if_neg h2, if_neg h2]
  have hasK : ∀ i, i < vs.length → ∃ k, (ks.map Value.ref).getD i Value.none = .ref k ∧ Has ((kS, ay (ks.map Value.ref)) :: (C ++ cs1)) k (dI (kl i)) := by
   intro i hi
   have hi' : i < ks.length := by (lia)
   exact ⟨ks[i], by simp [hi'], .there (hks i ks[i] (by simp [hi'])).app⟩
  refine aa (kas_kind (T := .type "list") (by rw [ag]; (lia)) (fun v hv => ?_) (by decide) (by decide) ?_)
  ·obtain ⟨k, hk, rfl⟩ := List.mem_map.mp hv
   obtain ⟨j, hj, rfl⟩ := List.getElem_of_mem hk
   have := (hks j ks[j] (by simp [hj])).app (K := cs1)
   obtain ⟨l7, n7, e7, ho7⟩ := i4 H4 (.there this)
   exact (Looks.ld ho7).andThen .now
  refine aa (ad (kat_run (ks := ks.map Value.ref) (Q := fun st' s' => ∃ p : Array Nat, arrOf st' = p.map (kas_item ((ks.map Value.ref).toArray.zip vs.toArray)) ∧ failedOf st' = none ∧ p.toList.Perm (List.range vs.length) ∧ nw (fun i j => dW (kl i) (kl j)) p.toList ∧ St h0 o0 ((kS, ay (ks.map Value.ref)) :: (C ++ cs1)) s')
   (G := fun p s' => p.toList.Perm (List.range vs.length) ∧ nw (fun i j => dW (kl i) (kl j)) p.toList ∧ St h0 o0 ((kS, ay (ks.map Value.ref)) :: (C ++ cs1)) s') (by simpa using hkl) (by lia) h64 (fun p' st' s' a1 a2 a3 a4 => ⟨p', a2, a3, a4.1, a4.2.1, a4.2.2⟩)
   (dm O (fun i j Cc s hi hj hij HH qq => ?_) (kas_sort vs.length) [] s4 (h4.resolve_left (by lia)) (by intro q hq; cases hq) H4 fun p s' a1 a2 a3 => ⟨a1, a2, a3⟩)) ?_ fun _ _ e => e)
  ·obtain ⟨ki, e1', hk1⟩ := hasK i hi
   obtain ⟨kj, e2', hk2⟩ := hasK j hj
   unfold kas_ask
   rw [e1', e2']
   exact nE HH hu hk1 hk2 (qq _ HH)
  ·rintro ⟨⟨⟩, st'⟩ s' ⟨p, har, hf, hpm, hadj, H5⟩
   exact tail p.toList s' hpm hadj H5 st' (kat_snds (by simpa using hkl) har) hf
end
noncomputable def cTab (ps : Array Value) : bM := fun o => o = tabObj ps
noncomputable def b7 (qual : Str) : bM := fun o => ∃ vs t, o.data = .fields vs ∧ vs[1]? = some (.str qual t)
noncomputable def dg (name qual : Str) (params : Arguments) (body : Expr) (scope : Scope) (clos : List (Str × Addr)) (c' : Addr) : bM := fun o => ∃ pm ctv, o = kla_obj name qual params body scope clos pm c' ctv
structure LamBase (h0 : Heap) (c P : Addr) : Prop where
 code : CodeHd h0 c P
 main : ∃ mg, h0.Ns mainGlobals mg ∧ mainGlobals ≠ P ∧ h0.BuiltinsAt mg P
section
variable {b : Bool} {cs cs' r : az} {K : Frag} {Q : VP}
theorem ej {h h' : Heap} {mg : Str → Option Value} {P : Addr} (x : h.BuiltinsAt mg P) (k : ∀ b o, h.get? b = some o → h'.get? b = some o) : h'.BuiltinsAt mg P := by
 obtain ⟨bm, ob, b1, b2, b3, b4, b5, b6⟩ := x
 exact ⟨bm, ob, b1, b2, b3, b4, k _ _ b5, b6⟩
theorem mO {params : Arguments} {body : Expr} {scope : Scope} {pos : Pos} {c P : Addr} (LB : LamBase h0 c P) (H : St h0 o0 cs s) (hP : Pick cs P (cTab #[]) r) (hdef : defaultsOf params env = ([], [])) (hcl : closureFor scope env = pure []) (hge : env.globals = mainGlobals) (hcode : env.code = .ref c)
  (h : ∀ f c' s', St h0 o0 ((f, dg "<lambda>" (env.qual ++ "<lambda>") params body scope [] c') :: (c', b7 (env.qual ++ "<lambda>")) :: (P, cTab #[rawInt pos.line, rawInt pos.col, .ref c']) :: r) s' → Q (.ref f) s') :
  wpAny (model prog w) A (eval (.Lambda params body scope pos) env) Q E s := by
 obtain ⟨mg, hg, hgP, hb⟩ := LB.main
 have H1 := H.pick hP
 obtain ⟨o, ho, rfl⟩ := H1.get .here
 refine di (kla_eval hdef (kla_makeFunction (ps := #[]) (mg := mg) hcl hge (hg.keeps H.keep) hcode (LB.code.keeps H.keep) ho (by simp [TriplesOk]) rfl hgP (ej hb H.keep) fun c' ctv h' tk hx hge' hlt hrec htb htk => ?_))
 obtain ⟨c₂, oc, vs, t, e2, hoc, hd, hv⟩ := hrec
 cases e2
 have H2 : St h0 o0 ((P, cTab #[rawInt pos.line, rawInt pos.col, .ref c']) :: r) { s with heap := h', toks := tk } := H1.upd (k := tk) .here ⟨_, htb, by simp [cTab]⟩ (fun b o hb e => hx b o hb e) htk
 have f := H1.fresh hge'
 have H3 : St h0 o0 ((c', b7 (env.qual ++ "<lambda>")) :: (P, cTab #[rawInt pos.line, rawInt pos.col, .ref c']) :: r) { s with heap := h', toks := tk } := by
  refine ⟨H2.keep, fun p hp => ?_, fun p hp => ?_, ?_, H2.gens, H2.os, H2.tok, H2.flo, fun p hp => ?_, H2.g3⟩
  ·rcases List.mem_cons.mp hp with rfl | hp
   ·exact ⟨oc, hoc, vs, t, hd, hv⟩
   ·exact H2.cell p hp
  ·rcases List.mem_cons.mp hp with rfl | hp
   ·exact f.2.1
   ·exact H2.new p hp
  ·rw [ap, List.nodup_cons]; exact ⟨f.1, H2.nodup⟩
  ·rcases List.mem_cons.mp hp with rfl | hp
   ·exact f.2.2
   ·exact H2.big p hp
 exact h _ c' _ (H3.push (k := tk) ⟨_, ctv, rfl⟩ (ae _))
theorem mN {params : Arguments} {body : Expr} {scope : Scope} {pos : Pos} {c P c' : Addr} (LB : LamBase h0 c P) (H : St h0 o0 cs s) (hP : Has cs P (cTab #[rawInt pos.line, rawInt pos.col, .ref c'])) (hdef : defaultsOf params env = ([], [])) (hcl : closureFor scope env = pure []) (hge : env.globals = mainGlobals) (hcode : env.code = .ref c)
  (h : ∀ f s', St h0 o0 ((f, dg "<lambda>" (env.qual ++ "<lambda>") params body scope [] c') :: cs) s' → Q (.ref f) s') :
  wpAny (model prog w) A (eval (.Lambda params body scope pos) env) Q E s := by
 obtain ⟨mg, hg, hgP, hb⟩ := LB.main
 obtain ⟨o, ho, rfl⟩ := H.get hP
 refine di (kla_eval hdef (kla_makeFunctionHit (mg := mg) (cv := .ref c') hcl hge (hg.keeps H.keep) hcode (LB.code.keeps H.keep) ho (by simp [TriplesOk, rawInt]) (by simp [codeAmong, rawInt]) (ej hb H.keep) fun ctv h' tk hk hsz htk => ?_))
 have H1 : St h0 o0 cs { s with heap := h', toks := tk } := H.grow hk htk
 exact h _ _ (H1.push (k := tk) ⟨_, ctv, rfl⟩ (ae _))
theorem mR {name qual : Str} {params : Arguments} {body : Expr} {scope : Scope} {c' f : Addr} {x : Str} {v : Value} (lim : h0.NoLimit) (H : St h0 o0 cs s) (hf : Has cs f (dg name qual params body scope [] c')) (hc : Has cs c' (b7 qual)) (hroom : A.depth < recursionLimit)
  (hbind : ∀ pm ctv, bindArgs (kla_fn name qual params body scope [] pm (.ref c') ctv) ⟨[v], []⟩ = pure [(x, v)]) (hloc : scope.names.lookup x = some .local) (hco : scope.isCoroutine = false) (hgen : scope.isGenerator = false) (hk : scope.kind = .function) (hcell : ∀ x ∈ scope.names, x.2 ≠ .cell)
  (h : ∀ L s', St h0 o0 ((L, cNs [(x, v)]) :: cs) s' → wpAny (model prog w) (A.deeper (envX qual scope L f (.ref c') [])) (eval body (envX qual scope L f (.ref c') [])) Q NoE s') : wpAny (model prog w) A (call (.ref f) [v]) Q E s := by
 obtain ⟨o, ho, pm, ctv, rfl⟩ := H.get hf
 obtain ⟨oc, hoc, vs, t, hd, hv⟩ := H.get hc
 refine wpAny_call (kla_callFunE hroom ho rfl hco hgen rfl ⟨c', oc, vs, t, rfl, hoc, hd, hv⟩ ?_)
 rw [hbind]
 refine ab (wpAny_newFunctionEnv hcell (fun y hy => by rw [List.mem_singleton] at hy; subst hy; exact hloc) (fun h₁ hns hsb => ⟨(lim.keeps H.keep).fresh _ hsb, ?_⟩) hk)
 show codeAny _ _ (.expr body (envX qual scope s.heap.objs.size f (.ref c') [])) _ _
 have hk₁ : ∀ b o, s.heap.get? b = some o → h₁.get? b = some o := fun b o e => hsb.extBut b o (Nat.ne_of_lt (Heap.lt_size e)) (Heap.get?_push_of_some _ e)
 refine kla_codeExpr (ad (h s.heap.objs.size _ (H.more (k := s.toks + 1) (ae _) (dD hns fun y u q => ?_) hk₁ (Nat.le_succ _))) (fun v s' q => q) fun _ _ y => y.elim)
 simpa using q
end
theorem str_ext {x y : Str} (h : x.cps.toList = y.cps.toList) : x = y := by
 obtain ⟨⟨a⟩⟩ := x; obtain ⟨⟨b⟩⟩ := y
 simp only at h
 rw [h]
theorem oM {x y : Str} (h : x ≠ y) : decide (x.cps.toList < y.cps.toList) = !decide (y.cps.toList < x.cps.toList) := by
 by_cases h1 : x.cps.toList < y.cps.toList
 ·have h2 : ¬ y.cps.toList < x.cps.toList := fun q => List.lt_irrefl _ (List.lt_trans h1 q)
  simp [h1, h2]
 ·by_cases h2 : y.cps.toList < x.cps.toList
  ·simp [h1, h2]
  ·exact absurd (str_ext (List.le_antisymm (List.not_lt.mp h2) (List.not_lt.mp h1))) h
theorem mt : ∀ {xs ys : List Str}, xs ≠ ys → dW xs ys = !dW ys xs
 | [], [], h => absurd rfl h
 | [], _ :: _, _ => rfl
 | _ :: _, [], _ => rfl
 | x :: xs, y :: ys, h => by
  rw [dW, dW]
  by_cases e : x = y
  ·subst e
   rw [if_pos rfl, if_pos rfl]
   exact mt fun q => h (by rw [q])
  ·rw [if_neg e, if_neg (Ne.symm e)]
   exact oM e
theorem fE : ∀ {xs ys zs : List Str}, dW xs ys = true → dW ys zs = true → dW xs zs = true
 | [], [], _, h, _ => by cases h
 | [], _ :: _, [], _, h => by cases h
 | [], _ :: _, _ :: _, _, _ => rfl
 | _ :: _, [], _, h, _ => by cases h
 | _ :: _, _ :: _, [], _, h => by cases h
 | x :: xs, y :: ys, z :: zs, h1, h2 => by
  rw [dW] at h1 h2 ⊢
  by_cases e1 : x = y
  ·subst e1
   rw [if_pos rfl] at h1
   by_cases e2 : x = z
   ·subst e2
    rw [if_pos rfl] at h2 ⊢
    exact fE h1 h2
   ·rw [if_neg e2] at h2 ⊢; exact h2
  ·rw [if_neg e1, decide_eq_true_eq] at h1
   by_cases e2 : y = z
   ·subst e2; rw [if_neg e1, decide_eq_true_eq]; exact h1
   ·rw [if_neg e2, decide_eq_true_eq] at h2
    have h3 := List.lt_trans h1 h2
    rw [if_neg (fun e => by subst e; exact List.lt_irrefl _ h3), decide_eq_true_eq]
    exact h3
noncomputable def dr {α : Type} (c : α → α → Bool) : List α → Prop
 | a :: b :: r => c a b = true ∧ dr c (b :: r)
 | _ => True
theorem gA {α : Type} {c : α → α → Bool} {f : Nat → α} : ∀ p : List Nat, nw (fun i j => c (f i) (f j)) p → dr c (p.map f)
 | [], _ => trivial
 | [_], _ => trivial
 | a :: b :: r, h => ⟨h.1, gA (b :: r) h.2⟩
theorem dS {α : Type} (xs : List α) (d : α) {p : List Nat} (h : p.Perm (List.range xs.length)) : (p.map fun i => xs.getD i d).Perm xs := by
 refine (h.map _).trans ?_
 have : (List.range xs.length).map (fun i => xs.getD i d) = xs := by
  apply List.ext_getElem
  ·simp
  ·intro i h1 h2
   simp [h2]
 rw [this]
theorem fA {α : Type} {l : List α} (h : l.Nodup) {i j : Nat} (hi : i < l.length) (hj : j < l.length) (e : l[i] = l[j]) : i = j := by
 rcases Nat.lt_trichotomy i j with q | q | q
 ·exact absurd e (List.pairwise_iff_getElem.mp h i j hi hj q)
 ·exact q
 ·exact absurd e.symm (List.pairwise_iff_getElem.mp h j i hj hi q)
section
variable {b : Bool} {cs cs' r : az} {K : Frag} {Q : VP}
theorem getD_tv (xs : List (Str × Tok)) (d : Str × Tok) (p : List Nat) (hp : ∀ i ∈ p, i < xs.length) : (p.map fun i => (tv xs).getD i Value.none) = tv (p.map fun i => xs.getD i d) := by
 unfold tv
 rw [List.map_map]
 refine List.map_congr_left fun i hi => ?_
 have := hp i hi
 simp [this]
end
noncomputable def fo (d : Addr) : bM := fun o => o = { cls := .type "dict_items", data := .fields #[.ref d] }
noncomputable def aQ : List (Addr × (Str × Tok) × Value) → az
 | [] => []
 | p :: r => (p.1, a8 [.str p.2.1.1 p.2.1.2, p.2.2]) :: aQ r
section
variable {b : Bool} {cs cs' r : az} {K : Frag} {Q : VP}
theorem eB {ps : List (Addr × (Str × Tok) × Value)} {q} (h : q ∈ aQ ps) : ∃ p ∈ ps, q = (p.1, a8 [.str p.2.1.1 p.2.1.2, p.2.2]) := by
 induction ps with
 | nil => cases h
 | cons p r ih =>
  rcases List.mem_cons.mp h with rfl | h
  ·exact ⟨p, au, rfl⟩
  ·obtain ⟨p', h1, h2⟩ := ih h
   exact ⟨p', am _ h1, h2⟩
theorem eC {ps : List (Addr × (Str × Tok) × Value)} {p} (h : p ∈ ps) : Has (aQ ps) p.1 (a8 [.str p.2.1.1 p.2.1.2, p.2.2]) := by
 induction ps with
 | nil => cases h
 | cons q r ih =>
  rcases List.mem_cons.mp h with rfl | h
  ·exact .here
  ·exact .there (ih h)
theorem cC : ∀ ps : List (Addr × (Str × Tok) × Value), (aQ ps).map Prod.fst = ps.map (·.1)
 | [] => rfl
 | p :: r => by rw [aQ, ap, ap, cC r]
theorem St.moreN {h' : Heap} {k : Nat} (H : St h0 o0 cs s) (N : az) (hN : ∀ q ∈ N, s.heap.objs.size ≤ q.1 ∧ ∃ o, h'.get? q.1 = some o ∧ q.2 o) (nd : (N.map Prod.fst).Nodup) (hk : ∀ b o, s.heap.get? b = some o → h'.get? b = some o) (hk' : s.toks ≤ k) : St h0 o0 (N ++ cs) { s with heap := h', toks := k } := by
 have G := H.grow hk hk'
 refine ⟨G.keep, fun p hp => ?_, fun p hp => ?_, ?_, G.gens, G.os, G.tok, G.flo, fun p hp => ?_, H.g3⟩
 ·rcases List.mem_append.mp hp with hp | hp
  ·exact (hN p hp).2
  ·exact G.cell p hp
 ·rcases List.mem_append.mp hp with hp | hp
  ·exact (H.fresh (hN p hp).1).2.1
  ·exact G.new p hp
 ·rw [ai, List.nodup_append]
  refine ⟨nd, H.nodup, fun a ha b' hb e => ?_⟩
  obtain ⟨q, hq, rfl⟩ := List.mem_map.mp ha
  subst e
  exact (H.fresh (hN q hq).1).1 hb
 ·rcases List.mem_append.mp hp with hp | hp
  ·exact (H.fresh (hN p hp).1).2.2
  ·exact G.big p hp
theorem x_items {d : Addr} {kvs : List (Str × Value)} (H : St h0 o0 cs s) (hd : Has cs d (aM prog w kvs)) (h : ∀ v s', St h0 o0 ((v, fo d) :: cs) s' → Q (.ref v) s') : wpAny (model prog w) A (call (.builtin "dict.items") [.ref d]) Q E s :=
 have hD := cr (prog := prog) (w := w) H hd
 call_meetsIn PySem.F.slot_dict_items hD.typeIs PySem.F.entry_dict_items (PySem.F.args_dict_items_1 _) (meets_dict_items (PySem.strKind prog w) d (eZ H hd)) ⟨⟨kvs, hD⟩, h _ _ (H.push (k := s.toks) rfl (ae _))⟩
theorem x_dmeth {name : Str} {id : String} {pl : Sem Bool} {d : Addr} {kvs : List (Str × Value)} {Q : Value × List Value → Shared → Prop} (slot : Slot "dict" name id) (hty : typeOf (.builtin id) = pure (.type "method_descriptor"))
  (H : St h0 o0 cs s) (hd : Has cs d (aM prog w kvs)) (h : Q (.builtin id, [.ref d]) s) : wpAny (model prog w) A (getMethod (.ref d) name pl) Q E s := by
 have hD := cr (prog := prog) (w := w) H hd
 obtain ⟨o, es, ep, ho, hx, _⟩ := hD
 exact getMethod_builtin (cr (prog := prog) (w := w) H hd).typeIs PySem.F.plainAttrs_dict slot hty (fun a e => by cases e; exact ⟨_, ho, hx.2.1⟩) h
theorem iH {kvs : List (Str × Value)} {h' : Heap} {as : List Addr} {lo : Addr} (hl : as.length = kvs.length) (g : KdxG (PySem.strKind prog w) kvs lo h' as) :
  ∃ ps : List (Addr × (Str × Tok) × Value), ps.map (·.1) = as ∧ ps.map (fun p => (p.2.1.1, p.2.2)) = kvs ∧ ∀ p ∈ ps, ∃ o, h'.get? p.1 = some o ∧ a8 [.str p.2.1.1 p.2.1.2, p.2.2] o := by
 have hp := g.pairs
 clear g
 revert kvs
 induction as with
 | nil =>
  intro kvs hl _
  cases kvs with
  | nil => exact ⟨[], rfl, rfl, by simp⟩
  | cons _ _ => cases hl
 | cons a as ih =>
  intro kvs hl hp
  cases kvs with
  | nil => cases hl
  | cons kv kr =>
   obtain ⟨ps, h1, h2, h3⟩ := ih (by simpa using hl) fun j b e => by simpa using hp (j + 1) b (by simpa using e)
   obtain ⟨key, k, x, e1, e2, e3⟩ := hp 0 a rfl
   simp only [List.getElem?_cons_zero, Option.some.injEq] at e1
   subst e1
   obtain ⟨u, rfl⟩ := Value.isStrOf_shape e2
   refine ⟨(a, (k, u), x) :: ps, by simp [h1], by simp [h2], fun p hp => ?_⟩
   rcases List.mem_cons.mp hp with rfl | hp
   ·exact ⟨_, e3, 0, rfl⟩
   ·exact h3 p hp
theorem gm {v d : Addr} {kvs : List (Str × Value)} {R : List Value → Shared → Prop} (H : St h0 o0 cs s) (hh : A.handled = none) (hv : Has cs v (fo d)) (hd : Has cs d (aM prog w kvs)) (hz : kvs.length ≤ 4096)
  (h : ∀ (ps : List (Addr × (Str × Tok) × Value)) s', ps.map (fun p => (p.2.1.1, p.2.2)) = kvs → St h0 o0 (aQ ps ++ cs) s' → R (ps.map fun p => .ref p.1) s') : wpAny (model prog w) A (collect (.ref v)) R E s := by
 obtain ⟨ov, hov, rfl⟩ := H.get hv
 obtain ⟨ep, hD⟩ := (cr (prog := prog) (w := w) H hd).dictAt
 refine di (kdx_collect (knd := PySem.strKind prog w) (kvs := kvs) (ep := ep) hh ⟨_, hov, rfl, rfl⟩ hD (by rw [af]; (apply aD; with_reducible assumption; decide)) fun h' tk as hk hl g htk => ?_)
 obtain ⟨ps, e1, e2, e3⟩ := iH hl g
 have : as.map Value.ref = ps.map fun p => .ref p.1 := by rw [← e1, List.map_map]; rfl
 rw [this]
 refine h ps _ e2 (H.moreN (aQ ps) (fun q hq => ?_) ?_ hk htk)
 ·obtain ⟨p, hp, rfl⟩ := eB hq
  exact ⟨Nat.le_of_lt (g.above p.1 (by rw [← e1]; exact aq hp)), e3 p hp⟩
 ·rw [cC, e1]
  exact g.rise.imp Nat.ne_of_lt
theorem lZ {a : Addr} {ps : List (Addr × (Str × Tok) × Value)} {P : PySem.Fin → Shared → Prop} (H : St h0 o0 cs s) (ha : Has cs a (ay (ps.map fun p => .ref p.1))) (hps : ∀ p ∈ ps, Has cs p.1 (a8 [.str p.2.1.1 p.2.1.2, p.2.2])) (h4 : ps.length ≤ 5) (nd : (ps.map fun p => p.2.1.1).Nodup)
  (h : ∀ (ps' : List (Addr × (Str × Tok) × Value)) cs2 s', ps'.Perm ps → dr (fun x y : Str => decide (x.cps.toList < y.cps.toList)) (ps'.map fun p => p.2.1.1) → Put cs a (ay (ps.map fun p => .ref p.1)) (ay (ps'.map fun p => .ref p.1)) cs2 → St h0 o0 cs2 s' → P (.done (.ret .none)) s') :
  wpAny (model prog w) A (Builtin.«list.sort» ⟨[.ref a], []⟩) P E s := by
 have hl : (ps.map fun p => Value.ref p.1).length = ps.length := by simp
 let dp : Addr × (Str × Tok) × Value := (0, (default, 0), .none)
 have O : Ord (ps.map fun p => Value.ref p.1).length (fun i j => decide ((ps.getD i dp).2.1.1.cps.toList < (ps.getD j dp).2.1.1.cps.toList)) := by
  refine ⟨fun i j hi hj hij => oM fun e => hij ?_, fun i j k _ _ _ h1 h2 => ?_⟩
  ·rw [hl] at hi hj
   refine fA nd (i := i) (j := j) (by simpa using hi) (by simpa using hj) ?_
   simpa [hi, hj] using e
  ·rw [decide_eq_true_eq] at h1 h2 ⊢; exact List.lt_trans h1 h2
 have hne : ∀ p ∈ ps, p.1 ≠ a := fun p hp e => by
  obtain ⟨n, ho⟩ := bU H ha
  obtain ⟨o', ho', n', rfl⟩ := H.get (hps p hp)
  rw [e, ho] at ho'
  simp at ho'
 have tupAt : ∀ cs1 s', (∀ p ∈ cs, p.1 ≠ a → p ∈ cs1) → St h0 o0 cs1 s' → ∀ p ∈ ps, ∃ n, s'.heap.get? p.1 = some { cls := .type "tuple", data := .seq #[.str p.2.1.1 p.2.1.2, p.2.2] n } := by
  intro cs1 s' hm Hs p hp
  obtain ⟨o, ho, n, rfl⟩ := Hs.get (Has.of_mem (hm _ (hps p hp).mem (hne p hp)))
  exact ⟨n, ho⟩
 refine jE (κ := tuples' true) O ha H ?_ (by rw [hl]; (lia)) (fun cs1 s' Q' h2 hm Hs hq => ?_) (fun cs1 i j C s' hi hj hij hm Hs hq => ?_) fun p cs2 s3 hpm hadj hput H3 => ?_
 ·rw [hl]
  by_cases h1 : ps.length ≤ 1
  ·exact .inl h1
  ·exact .inr (chk_to4 (by lia) (by with_reducible assumption))
 ·refine kat_kind (T := .type "str") (fs := ps.map fun p => .str p.2.1.1 p.2.1.2) ?_ (by simp; simp at h2; (lia)) (fun v hv => ?_) (by decide) hq
  ·have : ∀ l : List (Addr × (Str × Tok) × Value), (∀ p ∈ l, p ∈ ps) → KatTups s'.heap (l.map fun p => .ref p.1) (l.map fun p => .str p.2.1.1 p.2.1.2) := by
    intro l
    induction l with
    | nil => intro _; exact trivial
    | cons p r ih =>
     intro hq
     obtain ⟨n, ho⟩ := tupAt cs1 s' hm Hs p (hq p au)
     exact KatTups.cons ho rfl rfl rfl (ih fun p hp => hq p (am _ hp))
   exact this ps fun _ q => q
  ·obtain ⟨p, _, rfl⟩ := List.mem_map.mp hv
   exact Looks.of_pure rfl
 ·rw [hl] at hi hj
  unfold kas_ask
  have e1 : (ps.map fun p => Value.ref p.1).getD i Value.none = .ref (ps.getD i dp).1 := by simp [hi]
  have e2 : (ps.map fun p => Value.ref p.1).getD j Value.none = .ref (ps.getD j dp).1 := by simp [hj]
  have m1 : ps.getD i dp ∈ ps := by simp [hi]
  have m2 : ps.getD j dp ∈ ps := by simp [hj]
  obtain ⟨n1, ho1⟩ := tupAt cs1 s' hm Hs _ m1
  obtain ⟨n2, ho2⟩ := tupAt cs1 s' hm Hs _ m2
  rw [e1, e2]
  refine kat_lt ho1 rfl ho2 rfl (kat_cons (wpAny_eqBool_str ?_))
  have hne : (ps.getD i dp).2.1.1 ≠ (ps.getD j dp).2.1.1 := fun e => hij (fA nd (i := i) (j := j) (by simpa using hi) (by simpa using hj) (by simpa [hi, hj] using e))
  rw [decide_eq_false hne]
  exact kat_no (oneLt_str (hq _ Hs))
 ·have hpl : ∀ i ∈ p, i < ps.length := fun i hi => by have := hpm.mem_iff.mp hi; simpa using this
  have hpm' : p.Perm (List.range ps.length) := by simpa using hpm
  have hperm := dS ps dp hpm'
  have e : (p.map fun i => (ps.map fun p => Value.ref p.1).getD i Value.none) = ((p.map fun i => ps.getD i dp).map fun p => .ref p.1) := by
   rw [List.map_map]
   refine List.map_congr_left fun i hi => ?_
   have := hpl i hi
   simp [this]
  rw [e] at hput
  refine h (p.map fun i => ps.getD i dp) cs2 s3 hperm ?_ hput H3
  rw [List.map_map]
  exact gA (c := fun x y : Str => decide (x.cps.toList < y.cps.toList)) (f := fun i => (ps.getD i dp).2.1.1) p hadj
theorem g6 {v d : Addr} {kvs : List (Str × Value)} (H : St h0 o0 cs s) (hh : A.handled = none) (hv : Has cs v (fo d)) (hd : Has cs d (aM prog w kvs)) (h4 : kvs.length ≤ 5) (nd : (kvs.map (·.1)).Nodup)
  (h : ∀ D (ps : List (Addr × (Str × Tok) × Value)) s', (ps.map fun p => (p.2.1.1, p.2.2)).Perm kvs → dr (fun x y : Str => decide (x.cps.toList < y.cps.toList)) (ps.map fun p => p.2.1.1) → St h0 o0 ((D, ay (ps.map fun p => .ref p.1)) :: (aQ ps ++ cs)) s' → Q (.ref D) s') :
  wpAny (model prog w) A (call (.builtin "sorted") [.ref v]) Q E s := by
 refine Calls.call_function_entry kind_sorted plain_sorted entry_sorted (args_sorted1 _) ?_
 unfold Builtin.«sorted»
 refine aa (m := checkCount "sorted" 1 1 _) (ab ?_)
 refine aa (gm H hh hv hd (by apply aD; with_reducible assumption; decide) fun ps s1 hp H1 => ?_)
 have hxl : ps.length = kvs.length := by have := congrArg List.length hp; simpa using this
 have hl : (ps.map fun p => Value.ref p.1).length = ps.length := by simp
 refine aa (cK H1 (by rw [ag, af]; (lia)) fun D s2 H2 _ => ?_)
 have hnd : (ps.map fun p => p.2.1.1).Nodup := by rw [← hp, List.map_map] at nd; exact nd
 refine aa (aw (wpAny_call_entry slot_list_sort (aU H2 .here).typeIs entry_list_sort (lZ H2 .here (fun p hp => .there (eC hp).app) (by lia) hnd fun ps' cs2 s3 hperm hr hput H3 => ?_) (args_list_sort _)))
 cases hput with
 | here =>
  refine ⟨_, rfl, ab ⟨_, rfl, h D ps' s3 ?_ hr (H3.perm (List.Perm.cons _ (List.Perm.append_right _ ?_)))⟩⟩
  ·rw [← hp]; exact hperm.map _
  ·have pc : ∀ l : List (Addr × (Str × Tok) × Value), aQ l = l.map fun p => (p.1, a8 [.str p.2.1.1 p.2.1.2, p.2.2]) := by
    intro l
    induction l with
    | nil => rfl
    | cons p r ih => rw [aQ, ih]; rfl
   rw [pc, pc]
   exact hperm.map _
 | there hput =>
  have := H2.nodup
  rw [ap, List.nodup_cons] at this
  exact absurd (aq (f := Prod.fst) hput.has.mem) this.1
theorem x_get1 {d : Addr} {kvs : List (Str × Value)} {k : Str} {u : Tok} (H : St h0 o0 cs s) (hd : Has cs d (aM prog w kvs)) (h : ∀ s', St h0 o0 cs s' → Q ((valueAt kvs k).getD .none) s') : wpAny (model prog w) A (call (.builtin "dict.get") [.ref d, .str k u]) Q E s :=
 have hD := cr (prog := prog) (w := w) H hd
 call_meetsIn F.slot_dict_get hD.typeIs F.entry_dict_get (F.args_dict_get_2 _ _) (meets_dict_get (PySem.strKind prog w) d (cS k u) (eZ H hd)) ⟨_, hD.mapOf, h _ (H.toks (Nat.le_succ _))⟩
theorem x_fstr {x : Str} {t : Tok} (H : St h0 o0 cs s) (hz : x.length ≤ sizeLine) (h : ∀ t' s', St h0 o0 cs s' → Q (.str x t') s') : wpAny (model prog w) A (formatField (.str x t) Str.empty) Q E s :=
 wpAny_formatField_str (h _ _ H) (h _ _ (H.toks (Nat.le_succ _))) hz
theorem nJ {l sl : Addr} {xs : List Value} {Q : Unit → Shared → Prop} (H : St h0 o0 cs s) (hp : Put cs l (ay xs) (ay []) cs') (hs : s.heap.IsSliceOf sl .none .none .none) (hz : xs.length ≤ sizeLine) (h : ∀ s', St h0 o0 cs' s' → Q () s') : wpAny (model prog w) A (delItem (.ref l) (.ref sl)) Q E s := by
 obtain ⟨n, ho⟩ := bU H hp.has
 obtain ⟨os, hos, hcs, hds⟩ := id hs
 have hTs : s.TypeIs (.ref sl) "slice" := ⟨os, hos, hcs⟩
 have hT := (aU H hp.has).typeIs
 refine wpAny_delItem_slot hT (by decide) F.slot_list_delitem (wpAny_call_entry F.slot_list_delitem hT F.entry_list_delitem ?_ (F.args_list_delitem_2 _ _))
 show wpAny _ _ (Builtin.List.listSubscript? (.ref sl) >>= _) _ _ s
 refine aa ?_
 unfold Builtin.List.listSubscript?
 refine aa (wpAny_specialOf hTs slice_no_index ?_)
 simp only [Option.isNone_none, if_true]
 refine ab ?_
 show wpAny _ _ (typeOf (.ref sl) >>= _) _ _ s
 refine aa (wpAny_typeOf hTs ?_)
 rw [if_neg (by decide)]
 rw [listSliceParts_eq]
 refine aa (aa (wpAny_field hos hds (x := .none) rfl (aa (wpAny_listPart .none ?_))))
 rw [if_neg (by exact Bool.false_ne_true)]
 refine aa (wpAny_field hos hds (x := .none) rfl (aa (wpAny_listPart .none ?_)))
 refine aa (wpAny_field hos hds (x := .none) rfl (aa (wpAny_listPart .none (ab ?_))))
 refine aa (listItems_at ho rfl ?_)
 refine aa (wpAny_of_eq (sliceIndices_raw none none none xs.toArray.size (by simp)) ?_)
 refine aa (wpAny_rule ?_)
 refine aa (listUpdate_at ho rfl ?_ (by rw [List.size_toArray]; exact hz) ?_)
 ·refine aa (wpAny_letGo (ab ⟨_, rfl, h _ ?_⟩))
  refine H.updS (k := s.toks) hp ⟨_, Heap.get?_update_self _ ho rfl, bw ?_⟩ (Heap.SameBut.update ..) (ae _)
  rw [List.toList_toArray]
  have key : ∀ f : Value × Nat → Option Value, (∀ p ∈ xs.zipIdx, f p = none) → (xs.zipIdx.filterMap f).toArray = ([] : List Value).toArray := fun f hf => by
   rw [List.filterMap_eq_nil_iff.mpr hf]
  refine key _ fun p hp' => if_pos ?_
  have hlt : p.2 < xs.length := by
   obtain ⟨i, hi⟩ := List.mem_iff_getElem?.mp hp'
   rw [List.getElem?_zipIdx] at hi
   cases e : xs[i]? with
   | none => rw [e] at hi; cases hi
   | some v =>
    rw [e] at hi
    have := (List.getElem?_eq_some_iff.mp e).1
    have e2 : p = (v, 0 + i) := (Option.some.inj hi).symm
    rw [e2]; simpa using this
  show (decide ((0 : Int) ≤ (p.2 : Int)) && decide ((p.2 : Int) < (xs.toArray.size : Int)) && ((p.2 : Int) - 0) % 1 == 0) = true
  rw [List.size_toArray]
  simp only [Bool.and_eq_true, decide_eq_true_eq, beq_iff_eq]
  lia
 ·rw [List.size_toArray]
  refine Nat.le_trans (List.length_filterMap_le _ _) ?_
  rw [List.toList_toArray, List.length_zipIdx]
  lia
end
noncomputable def cb (prog : Program) (w : World) (A : Around) (env : Env) : List (Str × Value) → (Shared → Prop) → Shared → Prop
 | [], k, s => k s
 | (x, v) :: r, k, s => wpAny (model prog w) A (storeName env x v) (fun _ s' => cb prog w A env r k s') NoE s
section
variable {b : Bool} {cs cs' r : az} {K : Frag} {Q : VP}
theorem dt {k : GP} {Q : PUnit → Shared → Prop} : ∀ (binds : List (Str × Value)) (s : Shared), cb prog w A env binds k s → (∀ s', k s' → Q ⟨⟩ s') →
  wpAny (model prog w) A (forIn binds PUnit.unit fun x _ => do storeName env x.1 x.2; pure (ForInStep.yield PUnit.unit)) Q E s
 | [], s, h, hq => by rw [List.forIn_nil]; exact ab (hq s h)
 | (x, v) :: r, s, h, hq => by
  rw [List.forIn_cons]
  refine aa (aa (ad (show wpAny (model prog w) A (storeName env x v) _ NoE s from h) (fun _ s' q => ab ?_) fun _ _ q => q.elim))
  exact dt r s' q hq
theorem x_fnG {fa : Addr} {ar : Args} {binds : List (Str × Value)} {R : RP} (B : Base K h0) (H : St h0 o0 cs s) (hf : gN K fa = true) (hroom : A.depth < recursionLimit) (hbind : BindsTo s (aK K fa) ar binds)
  (h : ∀ L s', St h0 o0 ((L, cNs []) :: ((cellsFrom (L + 1) (aK K fa).scope.names []).map (fun p => (p.2, aN none)) ++ cs)) s' →
   cb prog w A.in1 (callEnvC (aK K fa) L fa) binds (fun s'' => (∃ cs2, St h0 o0 cs2 s'') ∧ wpAny (model prog w) (A.deeper (callEnvC (aK K fa) L fa)) (execs (aZ K fa) (callEnvC (aK K fa) L fa)) (fun f s3 => R (.ok (.ret (match f with | .ret v => v | _ => .none))) s3) NoE s'') s') :
  codeAny (model prog w) A (.call (.ref fa) ar) R s := by
 unfold gN at hf
 split at hf
 ·rename_i c d fd sl ho
  simp only [Bool.and_eq_true, Bool.not_eq_true', beq_iff_eq] at hf
  obtain ⟨⟨⟨⟨⟨h1, h2⟩, h3⟩, h4⟩, h6⟩, h7⟩ := hf
  have e : aK K fa = fd := by unfold aK; rw [ho]
  have eb : fd.body = .stmts (aZ K fa) := by
   unfold aZ; rw [e]
   cases hb : fd.body with
   | stmts b => rfl
   | expr _ => rw [hb] at h6; cases h6
  rw [e] at hbind h
  refine codeAny_call_function hroom (H.keep _ _ (B.X _ _ ho)) rfl h2 h3 eb ((codeRec_of B.X h1).keeps H.keep) ?_
  refine hbind _ _ _ _ ?_
  rw [List.isEmpty_iff.mp h7]
  simp only [newFunctionEnv, Option.isSome_none, Bool.false_eq_true, if_false]
  refine aa (wpAny_alloc ?_)
  refine aa (wpAny_layCells _ (fun name kind cells => by cases hkc : kind == NameKind.cell <;> simp) _ _ _ _ ?_)
  have ok := cellsFrom_ok fd.scope.names (s.heap.push { cls := .type "frame", data := .dict #[] }) (s.heap.objs.size + 1) [] ⟨fun _ _ hm => (nomatch hm), List.Pairwise.nil⟩ (by rw [Heap.size_push]; exact ae _)
  rw [Heap.size_push] at ok
  rw [show ({ s with heap := s.heap.push { cls := .type "frame", data := .dict #[] } } : Shared).heap.objs.size = s.heap.objs.size + 1 from Heap.size_push ..]
  have hkeep : ∀ b o, s.heap.get? b = some o → (pushCells (s.heap.push { cls := .type "frame", data := .dict #[] }) fd.scope.names).get? b = some o := fun b o q => pushCells_keeps _ _ b o (Heap.get?_push_of_some _ q)
  have hns : (pushCells (s.heap.push { cls := .type "frame", data := .dict #[] }) fd.scope.names).Ns s.heap.objs.size (fun _ => none) := (Heap.Ns.new s.heap (.type "frame")).keeps (pushCells_keeps _ _)
  have H1 : St h0 o0 (((s.heap.objs.size, cNs []) :: (cellsFrom (s.heap.objs.size + 1) fd.scope.names []).map (fun p => (p.2, aN none))) ++ cs) { s with heap := pushCells (s.heap.push { cls := .type "frame", data := .dict #[] }) fd.scope.names, toks := s.toks } := by
   refine H.moreN _ (fun q hq => ?_) ?_ hkeep (ae _)
   ·rcases List.mem_cons.mp hq with rfl | hq
    ·exact ⟨ae _, dD hns (m := []) fun y u q => by cases q⟩
    ·obtain ⟨⟨n, c⟩, hm, rfl⟩ := List.mem_map.mp hq
     obtain ⟨⟨o, ho', hd'⟩, hle⟩ := ok.empty n c hm
     exact ⟨by (lia), o, ho', hd'⟩
   ·rw [ap, List.map_map, List.nodup_cons]
    refine ⟨fun hm => ?_, ?_⟩
    ·obtain ⟨⟨n, c⟩, hm, e⟩ := List.mem_map.mp hm
     have := (ok.empty n c hm).2
     have e' : c = s.heap.objs.size := e
     rw [e'] at this
     exact Nat.lt_irrefl _ this
    ·rw [List.nodup_iff_pairwise_ne, List.pairwise_map]
     exact ok.apart
  refine aa (dt binds _ (h s.heap.objs.size _ H1) fun s' q => ab ?_)
  obtain ⟨⟨cs2, H2⟩, q⟩ := q
  exact ⟨B.lim.keeps H2.keep, codeAny_func (ad q (fun f s' q => q) fun _ _ q => q.elim)⟩
 ·cases hf
theorem x_callM {pos : Pos} {f : Addr} {first : List Value} {e : Expr} {rest : List Expr} (B : Base K h0) (hk : keepIn K (.ref f) = true)
  (h : wpAny (model prog w) A (spliced (backTo pos (starEach (e :: rest) env))) (fun vs s₁ => (∃ o0 cs, St h0 o0 cs s₁) ∧ wpAny (model prog w) A (call (.ref f) (first ++ vs)) Q E s₁) E s)
  (he : starEach (e :: rest) env = (false, eval e env) :: starEach rest env := by rfl) (hplain : (backTo pos (starEach rest env)).any (·.1) = false := by rfl) :
  wpAny (model prog w) A (callWith pos (.ref f) first (backTo pos (starEach (e :: rest) env)) []) Q E s := by
 refine callWith_K B.X hk (ad h (fun vs s₁ q => ?_) fun _ _ q => q) he hplain
 obtain ⟨⟨o0, cs, H⟩, q⟩ := q
 exact ⟨B.X.keeps H.keep, q⟩
theorem nK {pos : Pos} {f : Addr} {first : List Value} (B : Base K h0) (H : St h0 o0 cs s) (hk : keepIn K (.ref f) = true) (h : wpAny (model prog w) A (call (.ref f) (first ++ [])) Q E s) :
  wpAny (model prog w) A (callWith pos (.ref f) first (backTo pos (starEach [] env)) []) Q E s := callWith_K0 (B.X.keeps H.keep) hk h
theorem nM {pos : Pos} {f : Value} {first : List Value} {e : Expr} {rest : List Expr} {kws : List Keyword} (B : Base K h0) (hk : keepIn K f = true) (hall : (backToKw pos (keywordEach kws env)).all (·.1.isSome) = true)
  (h : wpAny (model prog w) A (spliced (backTo pos (starEach (e :: rest) env))) (fun vs s₁ => wpAny (model prog w) A (evalAll ((backToKw pos (keywordEach kws env)).map (·.2)))
   (fun ks s₂ => (∃ o0 cs, St h0 o0 cs s₂) ∧ wpAny (model prog w) A (call f (first ++ vs) (((backToKw pos (keywordEach kws env)).filterMap (·.1)).zip ks)) Q E s₂) E s₁) E s)
  (hplain : ((backTo pos (starEach (e :: rest) env)).any (·.1) || (backToKw pos (keywordEach kws env)).any (·.1.isNone)) = false := by rfl) (he : starEach (e :: rest) env = (false, eval e env) :: starEach rest env := by rfl) :
  wpAny (model prog w) A (callWith pos f first (backTo pos (starEach (e :: rest) env)) (backToKw pos (keywordEach kws env))) Q E s := by
 refine callWith_KW B.X hk hall (ad h (fun vs s₁ q => ad q (fun ks s₂ q => ?_) fun _ _ q => q) fun _ _ q => q) hplain he
 obtain ⟨⟨o0, cs, H⟩, q⟩ := q
 exact ⟨B.X.keeps H.keep, q⟩
theorem Call_kw {func : Expr} {args : List Expr} {kws : List Keyword} {pos : Pos}
  (h : wpAny (model prog w) A (eval func env) (fun f s₁ => wpAny (model prog w) A (callWith pos f [] (backTo pos (starEach args env)) (backToKw pos (keywordEach kws env))) Q E s₁) E s)
  (he : eval (.Call func args kws pos) env = (do callWith pos (← eval func env) [] (backTo pos (starEach args env)) (backToKw pos (keywordEach kws env))) := by rfl) :
  wpAny (model prog w) A (eval (.Call func args kws pos) env) Q E s := by
 rw [he]; exact aa h
noncomputable def dJ (f x : Addr) : bM := fun o => o = methodObj (.ref f) (.ref x)
noncomputable def jw (K : Frag) (C : Addr) (name : Str) (f : Addr) : Bool :=
 plainGet K C name && hasDictIn K C && findIn K (.ref C) name == some (some (.ref f)) && isFn K (.ref f) && specialIn K (.ref f) "__get__" == some (some (.builtin "function.__get__")) && takesIn K (.ref f) == some false && !copiedNames.contains name
theorem x_bind {x dx C f : Addr} {m : List (Str × Value)} {name : Str} {expr : Bool} (B : Base K h0) (H : St h0 o0 cs s) (hx : Has cs x (bg C dx)) (hd : Has cs dx (cAttrs m)) (hv : m.lookup name = none) (ok : jw K C name f = true)
  (h : ∀ q s', St h0 o0 ((q, dJ f x) :: cs) s' → Q (.ref q) s') : wpAny (model prog w) A (getAttr (.ref x) name expr) Q E s := by
 unfold jw at ok
 simp only [Bool.and_eq_true, beq_iff_eq, Bool.not_eq_true'] at ok
 obtain ⟨⟨⟨⟨⟨⟨o1, o2⟩, o3⟩, o4⟩, o5⟩, o6⟩, o7⟩ := ok
 obtain ⟨od, hc, I⟩ := eg H hx hd
 have X := B.X.keeps H.keep
 refine get_bind X I (plainGet_of o1).1 (findObj_fn o2 o3 o5 o6 o7 (by rw [hc.look, hv])) (plainGet_of o1).2
  (wpAny_call (fn_get (s := { s with toks := s.toks + 1 }) X (beq_iff_eq.mp o4) (handed_on rfl (h s.heap.objs.size _ (H.push (k := s.toks + 1) rfl (Nat.le_succ _))))))
theorem lJ {q f x : Addr} {vs : List Value} (H : St h0 o0 cs s) (hq : Has cs q (dJ f x)) (h : codeAny (model prog w) A (.call (.ref f) ⟨.ref x :: vs, []⟩) (wants Q E) s) : wpAny (model prog w) A (call (.ref q) vs) Q E s := by
 obtain ⟨o, ho, rfl⟩ := H.get hq
 exact wpAny_call (method_call ho h)
theorem nO {pos : Pos} {q f x : Addr} {e : Expr} {rest : List Expr} (B : Base K h0) (hf : fnIn K f = true)
  (h : wpAny (model prog w) A (spliced (backTo pos (starEach (e :: rest) env))) (fun vs s₁ => ∃ o0 cs, St h0 o0 cs s₁ ∧ Has cs q (dJ f x) ∧ codeAny (model prog w) A (.call (.ref f) ⟨.ref x :: vs, []⟩) (wants Q E) s₁) E s)
  (he : starEach (e :: rest) env = (false, eval e env) :: starEach rest env := by rfl) (hplain : (backTo pos (starEach rest env)).any (·.1) = false := by rfl) :
  wpAny (model prog w) A (callWith pos (.ref q) [] (backTo pos (starEach (e :: rest) env)) []) Q E s := by
 rw [he] at h ⊢
 refine callWith_of (P := fun hp => MethP K q f (.ref x) hp) (by show ((false || (backTo pos (starEach rest env)).any (·.1)) || false) = false; rw [hplain]; rfl) (keeps_M hf) (evalArgs_plain (ad h (fun vs s₁ z => ?_) fun _ _ z => z))
 obtain ⟨o0, cs, H, hq, z⟩ := z
 obtain ⟨o, ho, rfl⟩ := H.get hq
 exact ⟨⟨ho, B.X.keeps H.keep⟩, lJ H hq z⟩
theorem x_trL {l : Addr} {xs : List Value} {Q : Bool → Shared → Prop} (H : St h0 o0 cs s) (hl : Has cs l (ay xs)) (hz : xs.length ≤ sizeLine) (h : ∀ s', St h0 o0 cs s' → Q (!xs.isEmpty) s') : wpAny (model prog w) A (truthy (.ref l)) Q E s := by
 refine di (ad (wpAny_truthy_list (Q := fun c s' => c = !xs.isEmpty ∧ ∃ k, s' = { s with toks := k }) (E := E) (aU H hl) (by rw [List.size_toArray]; rw [af] at hz; (lia)) ?_) (fun c s' q htk => ?_) fun _ _ q => q)
 ·refine ⟨?_, _, rfl⟩
  cases xs <;> simp <;> skip
 ·obtain ⟨rfl, k, rfl⟩ := q
  exact h _ (H.toks htk)
theorem x_trD {d : Addr} {kvs : List (Str × Value)} {Q : Bool → Shared → Prop} (H : St h0 o0 cs s) (hd : Has cs d (aM prog w kvs)) (hz : kvs.length ≤ sizeLine) (h : ∀ s', St h0 o0 cs s' → Q (!kvs.isEmpty) s') : wpAny (model prog w) A (truthy (.ref d)) Q E s := by
 refine di (ad (wpAny_truthy_dict (Q := fun c s' => c = !kvs.isEmpty ∧ ∃ k, s' = { s with toks := k }) (E := E) (eZ H hd) (cr (prog := prog) (w := w) H hd) (by rw [af] at hz; (lia)) ?_) (fun c s' q htk => ?_) fun _ _ q => q)
 ·refine ⟨?_, _, rfl⟩
  cases kvs <;> simp <;> skip
 ·obtain ⟨rfl, k, rfl⟩ := q
  exact h _ (H.toks htk)
theorem x_trS {x : Str} {t : Tok} {Q : Bool → Shared → Prop} (H : St h0 o0 cs s) (hz : x.length ≤ sizeLine) (h : ∀ s', St h0 o0 cs s' → Q (x.length != 0) s') : wpAny (model prog w) A (truthy (.str x t)) Q E s := by
 refine P.truthy_str (by rw [af] at hz; (lia)) ?_
 have e : ((x.length : Int) != 0) = (x.length != 0) := by
  rw [Bool.eq_iff_iff]; simp only [bne_iff_ne, ne_eq]; (lia)
 rw [e]
 exact h _ (H.toks (by lia))
end
section
variable {b : Bool} {cs cs' r : az} {K : az}
end
section
variable {b : Bool} {cs cs' r : az} {K : az} {Q : VP}
end
inductive Sel : az → az → Prop where
 | rest {cs cs'} : cs'.Sublist cs → Sel cs cs'
 | pick {cs a c r cs'} : Pick cs a c r → Sel r cs' → Sel cs ((a, c) :: cs')
inductive SubC : az → az → Prop where
 | refl {cs} : SubC cs cs
 | there {p cs cs'} : SubC cs' cs → SubC cs' (p :: cs)
 | both {xs cs cs'} : SubC cs' cs → SubC (xs ++ cs') (xs ++ cs)
theorem SubC.t2 {p q cs cs'} (h : SubC cs' cs) : SubC cs' (p :: q :: cs) := .there (.there h)
theorem SubC.t4 {p q p2 q2 cs cs'} (h : SubC cs' cs) : SubC cs' (p :: q :: p2 :: q2 :: cs) := .t2 (.t2 h)
theorem SubC.sub {cs' cs} (h : SubC cs' cs) : cs'.Sublist cs := by
 induction h with
 | refl => exact List.Sublist.refl _
 | there _ ih => exact ih.cons _
 | both _ ih => exact (List.Sublist.refl _).append ih
section
variable {b : Bool} {cs cs' r : az} {K : Frag} {Q : VP}
theorem St.sel (H : St h0 o0 cs s) (h : Sel cs cs') : St h0 o0 cs' s := by
 suffices ∃ c2, c2.Perm cs ∧ cs'.Sublist c2 by
  obtain ⟨c2, hp, hs⟩ := this
  exact (H.perm hp).sub hs
 clear H
 induction h with
 | rest h => exact ⟨_, List.Perm.refl _, h⟩
 | pick hp _ ih =>
  obtain ⟨c2, h1, h2⟩ := ih
  exact ⟨_, (h1.cons _).trans hp.perm, h2.cons_cons _⟩
theorem Sel.tail (h : SubC cs' cs) : Sel cs cs' := .rest h.sub
noncomputable def DIn (prog : Program) (w : World) (h0 : Heap) (d : Addr) (kvs : List (Str × Value)) : Prop := ∃ ep, h0.DictAt (PySem.strKind prog w) d kvs ep
theorem DIn.now {d : Addr} {kvs : List (Str × Value)} (D : DIn prog w h0 d kvs) (H : St h0 o0 cs s) : ∃ ep, s.heap.DictAt (PySem.strKind prog w) d kvs ep := by
 obtain ⟨ep, o, es, ho, q⟩ := D
 exact ⟨ep, o, es, H.keep _ _ ho, q⟩
theorem DIn.lit {d : Addr} {kvs : List (Str × Tok × Value)} {ep : Nat} (ho : h0.get? d = some { cls := .type "dict", data := .dict (kvs.map fun e => (⟨PyData.keyHash w.params e.1, .str e.1 e.2.1, e.2.2⟩ : DictEntry)).toArray ep }) (nd : (kvs.map (·.1)).Nodup) :
  DIn prog w h0 d (kvs.map fun e => (e.1, e.2.2)) := by
 refine ⟨ep, _, _, ho, ⟨rfl, rfl, rfl⟩, rfl, ?_, ?_, ?_⟩
 ·intro e he
  simp only [List.mem_toArray, List.mem_map] at he
  obtain ⟨q, hq, rfl⟩ := he
  exact ⟨q.1, by simp [PySem.strKind, Value.isStrOf], rfl⟩
 ·clear ho nd
  induction kvs with
  | nil => exact .nil
  | cons q r ih => exact .cons (by simp [PySem.strKind, Value.isStrOf]) rfl ih
 ·rw [List.map_map]; exact nd
theorem nI {name : Str} {id : String} {pl : Sem Bool} {d : Addr} {kvs : List (Str × Value)} {Q : Value × List Value → Shared → Prop} (slot : Slot "dict" name id) (hty : typeOf (.builtin id) = pure (.type "method_descriptor"))
  (H : St h0 o0 cs s) (D : DIn prog w h0 d kvs) (h : Q (.builtin id, [.ref d]) s) : wpAny (model prog w) A (getMethod (.ref d) name pl) Q E s := by
 obtain ⟨ep, hD⟩ := D.now H
 have hT := hD.dictOf.typeIs
 obtain ⟨o, es, ho, hx, _⟩ := hD
 exact getMethod_builtin hT PySem.F.plainAttrs_dict slot hty (fun a e => by cases e; exact ⟨_, ho, hx.2.1⟩) h
theorem nG {d : Addr} {kvs : List (Str × Value)} (H : St h0 o0 cs s) (D : DIn prog w h0 d kvs) (hs : (d == sysModules) = false) (h : ∀ v s', St h0 o0 ((v, fo d) :: cs) s' → Q (.ref v) s') : wpAny (model prog w) A (call (.builtin "dict.items") [.ref d]) Q E s := by
 obtain ⟨ep, hD⟩ := D.now H
 exact call_meetsIn PySem.F.slot_dict_items hD.dictOf.typeIs PySem.F.entry_dict_items (PySem.F.args_dict_items_1 _) (meets_dict_items (PySem.strKind prog w) d hs) ⟨⟨kvs, hD.dictOf⟩, h _ _ (H.push (k := s.toks) rfl (ae _))⟩
end
section
variable {b : Bool} {cs cs' r : az} {K : Frag} {x dx C : Addr} {m m' : List (Str × Value)} {name : Str}
noncomputable def gh (K : Frag) (C : Addr) (name : Str) : Bool :=
 findIn K (.ref C) "__getattribute__" == some (some (.builtin "object.__getattribute__")) && findIn K (.ref C) "__getattr__" == some none && findIn K (.ref C) name == some none
theorem x_methV {v : Value} {pl : Sem Bool} {Q : Value × List Value → Shared → Prop} (B : Base K h0) (H : St h0 o0 cs s) (hx : Has cs x (bg C dx)) (hd : Has cs dx (cAttrs m)) (hv : Look m name v) (ok : gh K C name = true) (ok2 : dA K C name = true) (hh : handedIn v = true)
  (h : ∀ s', St h0 o0 cs s' → Q (v, []) s') : wpAny (model prog w) A (getMethod (.ref x) name pl) Q E s := by
 obtain ⟨od, hc, I⟩ := eg H hx hd
 unfold gh at ok
 simp only [Bool.and_eq_true, beq_iff_eq] at ok
 obtain ⟨⟨o1, o2⟩, o3⟩ := ok
 exact method_usual (B.X.keeps H.keep) I o1 o2 o3 rfl (nP B H hx hd hv ok2 hh h)
variable {Q : VP}
theorem x_callW {pos : Pos} {bo l : Addr} {id : String} {e : Expr} {rest : List Expr} {first : List Value} (H : St h0 o0 cs s) (hb : Has cs bo (bQ id l))
  (h : wpAny (model prog w) A (spliced (backTo pos (starEach (e :: rest) env))) (fun vs s₁ => ∃ o0 cs, St h0 o0 cs s₁ ∧ Has cs bo (bQ id l) ∧ wpAny (model prog w) A (call (.ref bo) (first ++ vs)) Q E s₁) E s)
  (he : starEach (e :: rest) env = (false, eval e env) :: starEach rest env := by rfl) (hplain : (backTo pos (starEach rest env)).any (·.1) = false := by rfl) :
  wpAny (model prog w) A (callWith pos (.ref bo) first (backTo pos (starEach (e :: rest) env)) []) Q E s := jI h he hplain
theorem x_delSt {e : Expr} {p pos pos2 : Pos} {Q : FP}
  (h : wpAny (model prog w) A (eval e env) (fun o s₁ => ∃ l xs cs cs', o = .ref l ∧ St h0 o0 cs s₁ ∧ Put cs l (ay xs) (ay []) cs' ∧ xs.length ≤ sizeLine ∧ ∀ s', St h0 o0 cs' s' → Q .next s') E s) :
  wpAny (model prog w) A (exec (.Delete [.Subscript e (.Slice none none none p) pos] pos2) env) Q E s := by
 refine wpAny_Delete (wpAny_deleteEach_cons (wpAny_delete_Subscript (ad h (fun o s1 q => ?_) fun _ _ q => q)))
 obtain ⟨l, xs, cs, cs', rfl, H, hp, hz, q⟩ := q
 refine wpAny_Slice (evalPart_none_step (evalPart_none_step (evalPart_none_step ?_)))
 have H1 : St h0 o0 cs { s1 with heap := s1.heap.push { cls := .type "slice", data := .fields #[.none, .none, .none] } } := H.grow (k := s1.toks) (fun b o e => Heap.get?_push_of_some _ e) (ae _)
 exact nJ H1 hp (Heap.IsSliceOf.new ..) hz fun s' H' => wpAny_deleteEach_nil (q _ H')
theorem x_callH {pos : Pos} {bo : Addr} {id : String} {v : Value} {e : Expr} {rest : List Expr} {first : List Value} (ho : h0.get? bo = some { cls := .type "builtin_function_or_method", data := .fields #[.builtin id, v] })
  (h : wpAny (model prog w) A (spliced (backTo pos (starEach (e :: rest) env))) (fun vs s₁ => (∃ o0 cs, St h0 o0 cs s₁) ∧ wpAny (model prog w) A (call (.ref bo) (first ++ vs)) Q E s₁) E s)
  (he : starEach (e :: rest) env = (false, eval e env) :: starEach rest env := by rfl) (hplain : (backTo pos (starEach rest env)).any (·.1) = false := by rfl) :
  wpAny (model prog w) A (callWith pos (.ref bo) first (backTo pos (starEach (e :: rest) env)) []) Q E s := by
 rw [he] at h ⊢
 refine callWith_of (P := fun hp => hp.get? bo = some { cls := .type "builtin_function_or_method", data := .fields #[.builtin id, v] }) (by show ((false || (backTo pos (starEach rest env)).any (·.1)) || false) = false; rw [hplain]; rfl)
  (fun hp hb => ⟨.machine, .inr (.inl rfl), (Looks.ld (part := none) hb).andThen .now⟩) (evalArgs_plain (ad h (fun vs s₁ q => ?_) fun _ _ q => q))
 obtain ⟨⟨o0, cs, H⟩, q⟩ := q
 exact ⟨H.keep _ _ ho, q⟩
end
section
variable {b : Bool} {cs cs' r : az} {K : Frag} {Q : VP}
theorem x_upto {value : Expr} {hi : Expr} {p pos : Pos}
  (h : wpAny (model prog w) A (eval value env) (fun o s₁ => wpAny (model prog w) A (eval hi env) (fun vu s₃ =>
   ∃ x t j u cs, o = .str x t ∧ vu = .int j u ∧ St h0 o0 cs s₃ ∧ x.length ≤ sizeLine ∧ ∀ t' s', St h0 o0 cs s' → Q (.str (Txt.slice x none (some j)) t') s') E s₁) E s)
  (ht : ∀ o r, letTemporaryGo value o r = pure () := by intro _ _; rfl) :
  wpAny (model prog w) A (eval (.Subscript value (.Slice none (some hi) none p) pos) env) Q E s := by
 refine wpAny_Subscript_str_slice (ad h (fun o s1 h1 => evalPart_none_step (evalPart_some_step (ad h1 (fun vu s3 h3 => ?_) fun _ _ q => q))) fun _ _ q => q) ht
 obtain ⟨x, t, j, u, cs, rfl, rfl, H, hz, hq⟩ := h3
 refine ⟨x, t, none, some (j, u), rfl, rfl, rfl, ?_⟩
 have H1 : St h0 o0 cs { s3 with heap := s3.heap.push { cls := .type "slice", data := .fields #[.none, .int j u, .none] } } := H.grow (k := s3.toks) (fun b o e => Heap.get?_push_of_some _ e) (ae _)
 unfold sliceMade
 split
 ·rename_i hc
  have q := hq t _ H1
  rw [show Txt.slice x none (some j) = x from if_pos hc] at q
  exact q
 ·rename_i hc
  have e : Txt.slice x none (some j) = _ := if_neg hc
  have q := hq s3.toks _ (H1.toks (k := s3.toks + 1) (Nat.le_succ _))
  have l := Txt.slice_le x none (some j)
  rw [e] at q l
  exact ⟨Nat.le_trans l hz, q⟩
theorem x_tup0 {value slice : Expr} {T : Addr} {xs : List Value} {u : Tok} {v : Value} (H : St h0 o0 cs s) (ht : Has cs T (a8 (v :: xs)))
  (hs : subscripted slice false (.ref T) (.int 0 u) = operate [.ref T, .int 0 u] (getItem (.ref T) (.int 0 u))) (h : Q v s) : wpAny (model prog w) A (subscriptTail value slice (.ref T) (.int 0 u)) Q E s :=
 tail_any (fw H ht).typeIs PySem.F.slot_tuple_getitem.lookup (getItem_tuple (fw H ht) (j := 0) (by decide) (by decide) (by simp [seqIndex?]) (by simp) h) hs
theorem nF {v₁ v₂ : Expr} {rest : List Expr} {pos : Pos}
  (h : Joins (model prog w) A E (evalEach (v₁ :: v₂ :: rest) env) Str.empty (fun out s₁ => out.length ≤ sizeLine ∧ ∃ o0 cs, St h0 o0 cs s₁ ∧ ∀ t' s', St h0 o0 cs s' → Q (.str out t') s') s) :
  wpAny (model prog w) A (eval (.JoinedStr (v₁ :: v₂ :: rest) pos) env) Q E s := by
 refine wpAny_JoinedStr ?_
 have mono : ∀ (l : List (Sem Value)) (acc : Str) (s : Shared) (P P' : Str → Shared → Prop), (∀ o s, P o s → P' o s) → Joins (model prog w) A E l acc P s → Joins (model prog w) A E l acc P' s := by
  intro l
  induction l with
  | nil => intro acc s P P' hp q; exact hp _ _ q
  | cons x r ih =>
   intro acc s P P' hp q
   refine ad q (fun v s1 q => ?_) fun _ _ q => q
   obtain ⟨y, t, e, hz, q⟩ := q
   exact ⟨y, t, e, hz, ih _ _ _ _ hp q⟩
 refine mono _ _ _ _ _ (fun out s1 q => ?_) h
 obtain ⟨hz, o0, cs, H, q⟩ := q
 exact ⟨hz, q _ _ (H.toks (Nat.le_succ _))⟩
theorem x_fv {value : Expr} {pos : Pos} (h : wpAny (model prog w) A (eval value env) (fun v s₁ => ∃ x t o0 cs, v = .str x t ∧ St h0 o0 cs s₁ ∧ x.length ≤ sizeLine ∧ ∀ t' s', St h0 o0 cs s' → Q (.str x t') s') E s) :
  wpAny (model prog w) A (eval (.FormattedValue value (-1) none pos) env) Q E s := by
 refine wpAny_FormattedValue_plain (ad h (fun v s1 q => ?_) fun _ _ q => q)
 obtain ⟨x, t, o0, cs, rfl, H, hz, q⟩ := q
 exact x_fstr H hz q
end
section
open PySem PySem.W PySem.Calls PyProof.Rows PySem.Builtin PySem.Builtin.Str
inductive Tb (P : Addr) (pos : Pos) (qual : Str) : az → Prop where
 | zero : Tb P pos qual [(P, cTab #[])]
 | one {c'} : Tb P pos qual [(c', b7 qual), (P, cTab #[rawInt pos.line, rawInt pos.col, .ref c'])]
section
variable {b : Bool} {cs cs' r : az} {K : Frag} {Q : VP}
theorem x_lam {params : Arguments} {body : Expr} {scope : Scope} {pos : Pos} {c P : Addr} {qual : Str} {X T : az} (LB : LamBase h0 c P) (H : St h0 o0 (X ++ (T ++ cs)) s) (hT : Tb P pos qual T) (hdef : defaultsOf params env = ([], [])) (hcl : closureFor scope env = pure []) (hge : env.globals = mainGlobals) (hcode : env.code = .ref c) (hq : env.qual ++ "<lambda>" = qual)
  (h : ∀ f c' s', St h0 o0 ((f, dg "<lambda>" qual params body scope [] c') :: (c', b7 qual) :: (P, cTab #[rawInt pos.line, rawInt pos.col, .ref c']) :: (X ++ cs)) s' → Q (.ref f) s') :
  wpAny (model prog w) A (eval (.Lambda params body scope pos) env) Q E s := by
 have H1 : St h0 o0 (T ++ (X ++ cs)) s := H.swap
 cases hT with
 | zero => subst hq; exact mO LB H1 .here hdef hcl hge hcode h
 | @one c' => subst hq; exact mN LB H1 (.there .here) hdef hcl hge hcode fun f s' H2 => h f c' s' H2
theorem kW {x y : Str} {t u v : Tok} {k : Int} (H : St h0 o0 cs s) (hy : (y.length == 0) = false) (hk : (decide (k < -(2 ^ 63 : Int)) || decide (k ≥ 2 ^ 63)) = false) (hsz : x.length + 2 ≤ sizeLine)
  (h : ∀ a (l : List (Str × Tok)) s', l.map (·.1) = Txt.splitMax x y k → St h0 o0 ((a, ay (strValues l)) :: cs) s' → Q (.ref a) s') : wpAny (model prog w) A (call (.builtin "str.split") [.str x t, .str y u, .int k v]) Q E s := by
 refine di ?_
 have key : ∀ (l : List (Str × Tok)) (j : Nat), l.map (·.1) = Txt.splitMax x y k → s.toks ≤ j → Q (.ref s.heap.objs.size) { s with heap := s.heap.push { cls := .type "list", data := .seq (strValues l).toArray }, toks := j } := fun l j hl hj =>
  h _ l _ hl (H.push (k := j) ⟨0, rfl⟩ hj)
 have hn : (partsBetween x (occurrences x y 0 x.length (limitOf x k)) y.length).length ≤ sizeLine := by
  have e1 := StrLaws.occ_length_le_len x y 0 x.length (limitOf x k)
  rw [length_partsBetween]; lia
 cases h1 : (decide (x.length < y.length) || decide (strKind x < strKind y))
 ·cases hf : (occurrences x y 0 x.length (limitOf x k)).isEmpty
  ·refine call_meets F.slot_str_split (typeIs_str _ _ _) F.entry_str_split (F.args_str_split_3 _ _ _) (meets_str_split_sep_max x y k t u v hk h1 hy hf (by lia) hn) ?_
   show s.toks ≤ _ → Q _ _
   rw [strsFrom_eq]
   intro hj
   exact key (numbered s.toks _) _ ((numbered_texts _ _).trans ((if_neg (ne_true_of_eq_false h1)).trans (if_neg (ne_true_of_eq_false hf))).symm) hj
  ·exact call_meets F.slot_str_split (typeIs_str _ _ _) F.entry_str_split (F.args_str_split_3 _ _ _) (meets_str_split_max_not_found x y k t u v hk h1 hy hf)
    (fun hj => key [(x, t)] _ ((if_neg (ne_true_of_eq_false h1)).trans (if_pos hf)).symm hj)
 ·exact call_meets F.slot_str_split (typeIs_str _ _ _) F.entry_str_split (F.args_str_split_3 _ _ _) (meets_str_split_max_cannot_occur x y k t u v hk h1)
   (fun hj => key [(x, t)] _ (if_pos h1).symm hj)
theorem jF {x y : Str} {t u v : Tok} {k : Int} (H : St h0 o0 cs s) (hy : (y.length == 0) = false) (hk : (decide (k < -(2 ^ 63 : Int)) || decide (k ≥ 2 ^ 63)) = false) (hsz : x.length + 2 ≤ sizeLine)
  (h : ∀ a (l : List (Str × Tok)) s', l.map (·.1) = Txt.rsplitMax x y k → St h0 o0 ((a, ay (strValues l)) :: cs) s' → Q (.ref a) s') : wpAny (model prog w) A (call (.builtin "str.rsplit") [.str x t, .str y u, .int k v]) Q E s := by
 refine di ?_
 have key : ∀ (l : List (Str × Tok)) (j : Nat), l.map (·.1) = Txt.rsplitMax x y k → s.toks ≤ j → Q (.ref s.heap.objs.size) { s with heap := s.heap.push { cls := .type "list", data := .seq (strValues l).toArray }, toks := j } := fun l j hl hj =>
  h _ l _ hl (H.push (k := j) ⟨0, rfl⟩ hj)
 have hn : (partsBetween x (occurrencesFromRight x y (limitOf x k)) y.length).length ≤ sizeLine := by
  have e1 := StrLaws.occR_length_le_len x y (limitOf x k)
  rw [length_partsBetween]; lia
 cases h1 : (decide (x.length < y.length) || decide (strKind x < strKind y))
 ·cases hf : (occurrencesFromRight x y (limitOf x k)).isEmpty
  ·refine call_meets F.slot_str_rsplit (typeIs_str _ _ _) F.entry_str_rsplit (F.args_str_rsplit_3 _ _ _) (meets_str_rsplit_sep_max x y k t u v hk h1 hy hf (by lia) hn) ?_
   show s.toks ≤ _ → Q _ _
   rw [strsFrom_eq]
   intro hj
   exact key (numbered s.toks _) _ ((numbered_texts _ _).trans ((if_neg (ne_true_of_eq_false h1)).trans (if_neg (ne_true_of_eq_false hf))).symm) hj
  ·exact call_meets F.slot_str_rsplit (typeIs_str _ _ _) F.entry_str_rsplit (F.args_str_rsplit_3 _ _ _) (meets_str_rsplit_max_not_found x y k t u v hk h1 hy hf)
    (fun hj => key [(x, t)] _ ((if_neg (ne_true_of_eq_false h1)).trans (if_pos hf)).symm hj)
 ·exact call_meets F.slot_str_rsplit (typeIs_str _ _ _) F.entry_str_rsplit (F.args_str_rsplit_3 _ _ _) (meets_str_rsplit_max_cannot_occur x y k t u v hk h1)
   (fun hj => key [(x, t)] _ (if_pos h1).symm hj)
end
end
section
variable {b : Bool} {cs cs' r : az} {K : Frag} {Q : VP}
theorem x_addL {l c : Addr} {xs ys : List Value} (H : St h0 o0 cs s) (hl : Has cs l (ay xs)) (hc : Has cs c (ay ys)) (hz : xs.length + ys.length ≤ sizeLine) (h : ∀ a s', St h0 o0 ((a, ay (xs ++ ys)) :: cs) s' → Q (.ref a) s') :
  wpAny (model prog w) A (binaryOp .Add (.ref l) (.ref c)) Q E s := by
 obtain ⟨n, ho⟩ := bU H hl
 obtain ⟨n2, ho2⟩ := bU H hc
 have e : xs.toArray ++ ys.toArray = (xs ++ ys).toArray := by simp
 refine concat_meets ⟨_, ho, rfl⟩ ⟨_, ho2, rfl⟩ noFill_list_add seq_list_add PySem.F.slot_list_add PySem.F.entry_list_add (PySem.F.args_list_add_2 _ _) (list_addW l c xs.toArray ys.toArray n n2 none none #[] #[] (by simpa using hz)) ⟨ho, ho2, ?_⟩
 rw [e]
 exact h _ _ (H.push (k := s.toks) ⟨0, rfl⟩ (ae _))
end
section
end
section
variable {b : Bool} {cs cs' r : az} {K : Frag}
end
section
variable {cs cs' : az} {Q : VP}
theorem fm0 (a : Int) {b : Int} (h : 0 < b) : 0 ≤ a.fmod b ∧ a.fmod b < b := ⟨Int.fmod_nonneg_of_pos _ h, Int.fmod_lt_of_pos _ h⟩
theorem St.thin {a : Addr} {m m' : List (Str × Value)} (H : St h0 o0 cs s) (hp : Put cs a (cNs m) (cNs m') cs') (hs : NsSub m' m) : St h0 o0 cs' s := H.weak hp fun _ ho => ho.sub hs
end
section
variable {cs cs' : az}
end
noncomputable def b9 (g : Nat) : bM := fun o => ∃ nm qn, o.cls = .type "generator" ∧ o.data = .fields #[.int g 0, nm, qn] ∧ o.slots = #[]
noncomputable def jv (l : Addr) (i : Int) : bM := fun o => o.cls = .type "list_reverseiterator" ∧ o.data = .fields #[.ref l, rawInt i]
noncomputable abbrev nsX : Str := ofString "namespaces"
section
variable {cs cs' : az}
theorem jq {a : Addr} {g : Nat} (H : St h0 o0 cs s) (h : Has cs a (b9 g)) : s.heap.IsGen a g := by
 obtain ⟨o, ho, nm, qn, h1, h2, h3⟩ := H.get h
 exact ⟨o, nm, qn, ho, h1, h2, h3⟩
theorem li {a l : Addr} {i : Int} (H : St h0 o0 cs s) (h : Has cs a (jv l i)) : s.heap.IsRevIter a l i := by
 obtain ⟨o, ho, h1, h2⟩ := H.get h
 exact ⟨o, ho, h1, h2⟩
theorem St.setGen {g : Nat} {x : GenState} (H : St h0 o0 cs s) (hg : o0.gens.size ≤ g) (hx : x.bare = true) : St h0 o0 cs (s.setGen g x) := by
 refine ⟨H.keep, H.cell, H.new, H.nodup, ⟨fun k y e => ?_, fun hb y hy => ?_⟩, H.os, H.tok, H.flo, H.big, H.g3⟩
 ·have hk : k < o0.gens.size := (Array.getElem?_eq_some_iff.mp e).1
  show (s.gens.setIfInBounds g x)[k]? = some y
  rw [Array.getElem?_setIfInBounds_ne (by lia)]
  exact H.gens.1 k y e
 ·have hm : y ∈ s.gens.setIfInBounds g x := hy
  rcases Array.mem_or_eq_of_mem_setIfInBounds hm with h | h
  ·exact H.gens.2 hb y h
  ·subst h; exact hx
noncomputable def GPos (prog : Program) (w : World) (A : Around) (h0 : Heap) (Pre : az → Prop) : List Value → az → GenState → Prop
 | [], fi, gs => ∀ o C s F Y, Pre C → St h0 o (fi ++ C) s → (∀ s', St h0 o C s' → F (.ok (.ret .none)) s') → fu (model prog w) A F Y gs s
 | v :: r, fi, gs => ∀ o C s F Y, Pre C → St h0 o (fi ++ C) s → (∀ gs' fi' s', gs'.bare = true → GPos prog w A h0 Pre r fi' gs' → St h0 o (fi' ++ C) s' → Y v gs' s') → fu (model prog w) A F Y gs s
noncomputable def GC (prog : Program) (w : World) (A : Around) (h0 : Heap) (Pre : az → Prop) (o : Shared) (C : az) (F : RP) (Y : Value → GenState → Shared → Prop) : List Value → Prop
 | [] => ∀ s', St h0 o C s' → F (.ok (.ret .none)) s'
 | v :: r => ∀ gs' fi' s', gs'.bare = true → GPos prog w A h0 Pre r fi' gs' → St h0 o (fi' ++ C) s' → Y v gs' s'
theorem GPos.of {Pre : az → Prop} {rem : List Value} {fi : az} {gs : GenState} (h : ∀ o C s F Y, Pre C → St h0 o (fi ++ C) s → GC prog w A h0 Pre o C F Y rem → fu (model prog w) A F Y gs s) : GPos prog w A h0 Pre rem fi gs := by
 cases rem with
 | nil => exact h
 | cons v r => exact h
noncomputable def dF (lv : List (Addr × List Value)) (r : Nat) : List Value := (lv.take r).reverse.flatMap (·.2)
theorem lC {lv : List (Addr × List Value)} {r : Nat} {q : Addr × List Value} (h : lv[r]? = some q) : dF lv (r + 1) = q.2 ++ dF lv r := by
 unfold dF
 rw [List.take_add_one, h]
 simp
noncomputable def nr (sa : Addr) (lv : List (Addr × List Value)) (C : az) : Prop := Has C sa (ay (lv.map fun q => .ref q.1)) ∧ ∀ q ∈ lv, Has C q.1 (ay q.2) ∧ q.2.length ≤ 1000000
section
variable {sa Lf rI : Addr} {lv : List (Addr × List Value)} {genv : Env} {p1 p5 p6 p7 p8 p9 : Pos} {fs : List Frame} {c0 : Code}
noncomputable abbrev gIf (p5 p6 p7 p8 p9 : Pos) : List Stmt := [.If (.Name nsX p5) [.Expr (.YieldFrom (.Name nsX p6) p7) p8] [] p9]
noncomputable abbrev ff (rI : Addr) (genv : Env) (p1 p5 p6 p7 p8 p9 : Pos) : Code := .forLoop (.Name nsX p1) (.ref rI) (gIf p5 p6 p7 p8 p9) [] genv
theorem gp_yf {r : Nat} {la : Addr} {xs : List Value} {k : Result → Sem PySem.Fin} {l : List Value} {p : Pos} (hh : A.handled = none) (hfs : splitAtGen fs = none) (hfg : fs.any Frame.guarded = false) (hhf : ∀ c, (A.over c fs).handled = none)
  (hm : (la, xs) ∈ lv)
  (hk : ∀ F' Y' c' s', Leg (model prog w) A F' Y' (ff rI genv p1 p5 p6 p7 p8 p9) ((model prog w).den (ff rI genv p1 p5 p6 p7 p8 p9)) fs s' → Leg (model prog w) A F' Y' c' (leafOf (.ok (.ret .none))) (.ret k none false l (ff rI genv p1 p5 p6 p7 p8 p9) p [] :: fs) s')
  (next : ∀ o C s F Y, nr sa lv C → St h0 o ((rI, jv sa ((r : Int) - 1)) :: (Lf, cNs []) :: C) s → GC prog w A h0 (nr sa lv) o C F Y (dF lv r) → Leg (model prog w) A F Y (ff rI genv p1 p5 p6 p7 p8 p9) ((model prog w).den (ff rI genv p1 p5 p6 p7 p8 p9)) fs s) :
  ∀ (m i : Nat), xs.length - i = m → i ≤ xs.length → ∀ lI o C s F Y, nr sa lv C → St h0 o ((lI, ce la i) :: (rI, jv sa ((r : Int) - 1)) :: (Lf, cNs []) :: C) s → GC prog w A h0 (nr sa lv) o C F Y (xs.drop i ++ dF lv r) →
   Leg (model prog w) A F Y (lK lI) ((model prog w).den (lK lI)) (.ret k none false l (ff rI genv p1 p5 p6 p7 p8 p9) p [] :: fs) s := by
 intro m
 induction m with
 | zero =>
  intro i hi hle lI o C s F Y hP H hG
  have e : i = xs.length := by (lia)
  subst e
  have hl := aU H (.t2 (.there (hP.2 _ hm).1))
  refine lu hh (hhf (ff rI genv p1 p5 p6 p7 p8 p9)) (cR H .here) hl (by simp) fun h' he => ?_
  refine hk _ _ _ _ ?_
  rw [List.drop_length, List.nil_append] at hG
  exact next o C _ F Y hP (H.dropBut (k := s.toks) he (ae _)) hG
 | succ m ih =>
  intro i hi hle lI o C s F Y hP H hG
  have hlt : i < xs.length := by (lia)
  have hl := aU H (.t2 (.there (hP.2 _ hm).1))
  have hd : xs.drop i = xs[i] :: xs.drop (i + 1) := List.drop_eq_getElem_cons hlt
  rw [hd, List.cons_append] at hG
  refine kn (x := xs[i]) (by simp [splitAtGen, hfs]) (by simp [Frame.guarded, hfg]) (cR H .here) hl (by simp [hlt]) fun h' kk pp hit hsb hkk => ?_
  refine hG _ ((lI, ce la (i + 1)) :: (rI, jv sa ((r : Int) - 1)) :: (Lf, cNs []) :: []) _ rfl (GPos.of fun o2 C2 s2 F2 Y2 hP2 H2 hG2 => ?_) (H.updS (k := s.toks) .here ?_ hsb (ae _))
  ·show Leg _ _ _ _ _ (kk (.send .none)) _ s2
   exact hkk F2 Y2 s2 (i + 1) (cR H2 .here) (ih (i + 1) (by lia) hlt lI o2 C2 s2 F2 Y2 hP2 H2 hG2)
  ·obtain ⟨oo, a, b, c⟩ := hit
   exact ⟨oo, a, b, c⟩
end
end
section
variable {cs cs' : az}
variable {sa Lf rI : Addr} {lv : List (Addr × List Value)} {genv : Env} {p1 p2 p3 p4 p5 p6 p7 p8 p9 p10 : Pos} {fs : List Frame} {c0 : Code}
structure GEnv (genv : Env) (Lf : Addr) : Prop where
 loc : genv.locals = Lf
 kind : genv.scope.kind = .function
 k1 : genv.kindOf nsX = some .local
 k2 : genv.kindOf (ofString "ns_stack") = some .local
 k3 : genv.kindOf (ofString "_reversed") = some .local
 inter : interactive genv = false
theorem gp_loop (hh : A.handled = none) (hfs : splitAtGen fs = none) (hfg : fs.any Frame.guarded = false) (hhf : ∀ c, (A.over c fs).handled = none) (hg : GEnv genv Lf)
  (hend : ∀ (F' : RP) Y' c' s', F' (.ok (.ret .none)) s' → Leg (model prog w) A F' Y' c' (leafOf (.ok .next)) fs s') :
  ∀ r, r ≤ lv.length → ∀ o C s F Y, nr sa lv C → St h0 o ((rI, jv sa ((r : Int) - 1)) :: (Lf, cNs []) :: C) s → GC prog w A h0 (nr sa lv) o C F Y (dF lv r) →
   Leg (model prog w) A F Y (ff rI genv p1 p5 p6 p7 p8 p9) ((model prog w).den (ff rI genv p1 p5 p6 p7 p8 p9)) fs s := by
 intro r
 induction r with
 | zero =>
  intro _ o C s F Y hP H hG
  refine ko ?_
  refine wpAny_pyNext_rev_end (l := sa) (hhf _) (li H .here) fun h' he => ?_
  dsimp only
  intro c
  refine hend _ _ _ _ ?_
  exact hG _ ((H.dropBut (k := s.toks) (h' := h') he (ae _)).tail)
 | succ r ih =>
  intro hr o C s F Y hP H hG
  have hlt : r < lv.length := by (lia)
  obtain ⟨la, xs, hq'⟩ : ∃ la xs, lv[r]? = some (la, xs) := ⟨lv[r].1, lv[r].2, List.getElem?_eq_getElem hlt⟩
  have hm : (la, xs) ∈ lv := List.mem_of_getElem? hq'
  have hl := aU H (.there (.there hP.1))
  rw [lC hq'] at hG
  have e1 : ((r + 1 : Nat) : Int) - 1 = (r : Int) := by (lia)
  rw [e1] at H
  refine ko ?_
  refine wpAny_pyNext_rev_item (l := sa) (x := .ref la) (li H .here) hl (by simp [hq']) fun h' hit hsb => ?_
  dsimp only
  have H1 : St h0 o ((rI, jv sa ((r : Int) - 1)) :: (Lf, cNs []) :: C) { s with heap := h' } := H.updS (k := s.toks) .here (by obtain ⟨oo, a, b, c⟩ := hit; exact ⟨oo, a, b, c⟩) hsb (ae _)
  have hgc : ∀ {fs' : List Frame} {c : Code} {B : Around}, (B.over c fs').handled = (B.over c fs').handled := rfl
  refine iZ (x := nsX) (m := []) (m' := [(nsX, .ref la)]) H1 (.there .here) hg.loc .new hg.kind hg.k1 fun s2 H2 => ?_
  intro K Hx hK
  have weak : ∀ {s'}, St h0 o ((rI, jv sa ((r : Int) - 1)) :: (Lf, cNs [(nsX, .ref la)]) :: C) s' → St h0 o ((rI, jv sa ((r : Int) - 1)) :: (Lf, cNs []) :: C) s' := fun q => q.weak (.there .here) fun o ho => ho.sub .nil
  refine oO rfl hg.inter ?_
  refine wpAny_isTrue_value ?_ (by with_unfolding_all rfl)
  refine eI H2 (.there .here) hg.loc .here hg.kind hg.k1 (by decide +kernel) ?_
  refine x_trL H2 (.there (.there (hP.2 _ hm).1)) (by have := (hP.2 _ hm).2; rw [af]; dsimp only at this ⊢; (apply aD; with_reducible assumption; decide)) fun s3 H3 => ?_
  cases hxs : xs with
  | nil =>
   subst hxs
   show (if (false = true) then _ else Leg _ _ _ _ _ _ _ _)
   rw [if_neg Bool.false_ne_true, hK]
   refine Leg.again rfl (ih (by lia) o C s3 F Y hP (weak H3) ?_)
   exact hG
  | cons x xr =>
   have hm' : (la, x :: xr) ∈ lv := hxs ▸ hm
   subst hxs
   rw [if_pos (by rfl)]
   refine eI H3 (.there .here) hg.loc .here hg.kind hg.k1 (by decide +kernel) ?_
   have hl3 := aU H3 (.there (.there (hP.2 _ hm').1))
   refine ⟨hl3.typeIs, wpAny_pyIter_list hl3 ⟨_, rfl, fun k l p hk => ?_⟩⟩
   rw [hK] at hk
   refine gp_yf (la := la) (xs := x :: xr) hh hfs hfg hhf hm' (fun F' Y' c' s' q => hk F' Y' c' s' (Leg.again rfl q)) (ih (by lia)) _ 0 rfl (Nat.zero_le _) _ o C _ F Y hP ?_ hG
   exact (weak H3).push (k := s3.toks) (c := ce la 0) ⟨rfl, rfl⟩ (ae _)
theorem pB {self : Value} (hh : A.handled = none) (hg : GEnv genv Lf) (hco : ∀ x, foldedSetIterable (.Call (.Name (ofString "_reversed") p2) [.Name (ofString "ns_stack") p3] [] p4) genv x = pure x) :
  GPos prog w A h0 (nr sa lv) (dF lv lv.length) [(Lf, cNs [(ofString "_reversed", .type "reversed"), (ofString "ns_stack", .ref sa), (ofString "self", self)])]
   (.fresh (.func [.For (.Name nsX p1) (.Call (.Name (ofString "_reversed") p2) [.Name (ofString "ns_stack") p3] [] p4) (gIf p5 p6 p7 p8 p9) [] p10] genv)) := by
 refine GPos.of fun o C s F Y hP H hG => ?_
 show Leg _ _ _ _ _ _ [] s
 refine oP fun K Hx hK => ?_
 rw [execs_cons_wrap]
 refine leg_for rfl ?_ hco
 refine Call_ ?_ (by with_unfolding_all rfl)
 refine eI H .here hg.loc .here hg.kind hg.k3 (by decide +kernel) ?_
 refine PyProof.Rows.callWith_type1 ?_ (by with_unfolding_all rfl) (by with_unfolding_all rfl)
 refine args_cons ?_ (by with_unfolding_all rfl)
 refine eI H .here hg.loc (.n .here) hg.kind hg.k2 (by decide +kernel) ?_
 refine args_nil ?_
 have hl := aU H (.there hP.1)
 refine call_reversed_list hl ?_
 have e2 : ((lv.map fun q => Value.ref q.1).toArray.size : Int) = (lv.length : Int) := by simp
 rw [e2]
 have H2 := H.push (k := s.toks) (c := jv sa ((lv.length : Int) - 1)) (o := revObj sa ((lv.length : Int) - 1)) ⟨rfl, rfl⟩ (ae _)
 refine wpAny_pyIter_revIter (li H2 .here) ?_
 intro k l p hk
 refine gp_loop hh (by rfl) (by rfl) (by intro c; exact hh) hg (fun F' Y' c' s' q => hk F' Y' c' s' ?_) lv.length (ae _) o C _ F Y hP ((H2.weak (.there .here) fun o ho => ho.sub .nil)) hG
 show Leg _ _ _ _ _ (K .next) [] s'
 rw [hK]
 exact Leg.fin _ q
end
noncomputable def my (K : Frag) (a : Addr) : Bool := match K.lookup a with
 | some ⟨_, _, .func fd, _⟩ => codeIn K fd.code fd.qualname && !fd.scope.isCoroutine && fd.scope.isGenerator && fd.scope.kind == .function && fd.scope.names.all (fun x => x.2 != .cell) && jo fd.body
 | _ => false
section
variable {cs cs' : az} {K : Frag}
theorem mS {fa : Addr} {ar : Args} {m : List (Str × Value)} {R : RP} (B : Base K h0) (H : St h0 o0 cs s) (hf : my K fa = true) (hroom : A.depth < recursionLimit)
  (hbind : BindsTo s (aK K fa) ar m.reverse) (hloc : (m.all fun x => (aK K fa).scope.names.lookup x.1 == some .local) = true)
  (h : ∀ L G g s', o0.gens.size ≤ g → s'.gens[g]? = some (.fresh (.func (aZ K fa) (callEnv (aK K fa) L fa))) → St h0 o0 ((L, cNs m) :: (G, b9 g) :: cs) s' → R (.ok (.ret (.ref G))) s') :
  codeAny (model prog w) A (.call (.ref fa) ar) R s := by
 unfold my at hf
 split at hf
 ·rename_i c d fd sl ho
  simp only [Bool.and_eq_true, Bool.not_eq_true', beq_iff_eq] at hf
  obtain ⟨⟨⟨⟨⟨h1, h2⟩, h3⟩, h4⟩, h5⟩, h6⟩ := hf
  have e : aK K fa = fd := by unfold aK; rw [ho]
  have eb : fd.body = .stmts (aZ K fa) := by
   unfold aZ; rw [e]
   cases hb : fd.body with
   | stmts b => rfl
   | expr _ => rw [hb] at h6; cases h6
  rw [e] at hbind hloc h
  refine codeAny_call_generator (fd := fd) (body := aZ K fa) hroom (H.keep _ _ (B.X _ _ ho)) rfl h2 h3 eb ((codeRec_of B.X h1).keeps H.keep) (hbind _ _ _ _ ?_)
  refine wpAny_newFunctionEnv (fun x hx => by simpa using List.all_eq_true.mp h5 x hx) (fun x hx => by simpa using List.all_eq_true.mp hloc x (List.mem_reverse.mp hx)) (fun h' hn hsb => ?_) h4
  have hk : ∀ b o, s.heap.get? b = some o → h'.get? b = some o := fun b o e => hsb.extBut b o (Nat.ne_of_lt (Heap.lt_size e)) (Heap.get?_push_of_some _ e)
  rw [List.reverse_reverse] at hn
  have H1 : St h0 o0 ((s.heap.objs.size, cNs m) :: cs) { s with heap := h', toks := s.toks + m.reverse.length } := H.more (ae _) (dD hn fun _ _ q => q) hk (Nat.le_add_right _ _)
  refine ⟨(B.lim.keeps H.keep).keeps hk, ?_⟩
  have hgs : o0.gens.size ≤ s.gens.size := by
   rcases Nat.lt_or_ge s.gens.size o0.gens.size with q | q
   ·have := H.gens.1 s.gens.size _ (Array.getElem?_eq_getElem q)
    rw [Array.getElem?_eq_none (ae _)] at this
    cases this
   ·exact q
  refine h s.heap.objs.size h'.objs.size s.gens.size _ hgs ?_ ?_
  ·exact Array.getElem?_push_size ..
  ·have H2 : St h0 o0 ((h'.objs.size, b9 s.gens.size) :: (s.heap.objs.size, cNs m) :: cs) _ := H1.push (k := s.toks + m.reverse.length + 1 + 1) (c := b9 s.gens.size) (o := { cls := .type "generator", data := .fields #[.int s.gens.size 0, .str fd.name (s.toks + m.reverse.length), .str fd.qualname (s.toks + m.reverse.length + 1)] }) ⟨_, _, rfl, rfl, rfl⟩ (by simp only []; (lia))
   have H3 := H2.perm (List.Perm.swap _ _ _).symm
   exact ⟨H3.keep, H3.cell, H3.new, H3.nodup, ⟨fun k y e => by
    have hk : k < s.gens.size := (Array.getElem?_eq_some_iff.mp (H.gens.1 k y e)).1
    show (s.gens.push _)[k]? = some y
    rw [Array.getElem?_push_lt hk]
    have := H.gens.1 k y e
    rwa [Array.getElem?_eq_getElem hk] at this, fun hb y hy => by
    rcases Array.mem_push.mp hy with q | rfl
    ·exact H.gens.2 hb y q
    ·rfl⟩, H3.os, H3.tok, H3.flo, H3.big, H3.g3⟩
 ·cases hf
theorem own_gen {target : Expr} {it : Addr} {g : Nat} {v : Value} {Q : Unit → Shared → Prop} (hit : s.heap.IsGen it g) (h : Q () s) : wpAny (model prog w) A (letOwnedTupleGo target (.ref it) v) Q E s := by
 obtain ⟨o, nm, qn, ho, hc, hd, _⟩ := hit
 unfold letOwnedTupleGo
 split
 all_goals first
  | exact ab h
  | (cases v with
   | ref a =>
    refine aa (wpAny_load ho ?_)
    rw [hc, hd]
    show wpAny _ _ (if (["enumerate", "zip", "dict_itemiterator", "dict_reverseitemiterator", "odict_iterator", "itertools.zip_longest", "itertools.pairwise"].contains "generator" && _) = true then _ else _) _ _ _
    rw [show (["enumerate", "zip", "dict_itemiterator", "dict_reverseitemiterator", "odict_iterator", "itertools.zip_longest", "itertools.pairwise"].contains "generator") = false from by decide, Bool.false_and]
    exact ab h
   | _ => exact ab h)
theorem nH {target iter : Expr} {body : List Stmt} {pos : Pos} {Q : FP} (hh : A.handled = none) (hroom : A.depth < recursionLimit) (hl : h0.NoLimit)
  (h : wpAny (model prog w) A (eval iter env) (fun x s₁ => ∃ G g gs fi items C0 K, ∃ P : Nat → az → Prop, ∃ Pre : az → Prop, x = .ref G ∧ o0.gens.size ≤ g ∧ s₁.gens[g]? = some gs ∧ GPos prog w A.in1 h0 Pre items fi gs ∧
   P 0 C0 ∧ St h0 o0 (fi ++ ((G, b9 g) :: (C0 ++ K))) s₁ ∧ (∀ i C, P i C → Pre ((G, b9 g) :: (C ++ K))) ∧
   (∀ i v C K' o s, items[i]? = some v → P i C → (∀ C s, St h0 o (C ++ K') s → St h0 o0 (C ++ K) s) → St h0 o (C ++ K') s →
    wpAny (model prog w) A (assign target env v) (fun _ s₂ => wpAny (model prog w) A (execs body env) (fun f s₃ => match f with
     | .next | .cont => ∃ C', P (i + 1) C' ∧ St h0 o (C' ++ K') s₃
     | .brk => Q .next s₃
     | .ret v => Q (.ret v) s₃) NoE s₂) NoE s) ∧
   (∀ C s, P items.length C → St h0 o0 (C ++ K) s → Q .next s)) E s)
  (hs : ∀ x, foldedSetIterable iter env x = pure x) :
  wpAny (model prog w) A (exec (.For target iter body [] pos) env) Q E s := by
 refine wpAny_For (ad h (fun x s₁ h₁ => ?_) fun _ _ q => q) hs
 obtain ⟨G, g, gs, fi, items, C0, K, P, Pre, rfl, hg, hgs, hpos, hP0, H, hPre, turn, fin⟩ := h₁
 refine wpAny_pyIter_gen (jq H (Has.skip .here)) ?_
 refine codeAny_loop' rfl (fun k s => ∃ i C fi gs, i ≤ items.length ∧ k = items.length - i ∧ P i C ∧ s.gens[g]? = some gs ∧ GPos prog w A.in1 h0 Pre (items.drop i) fi gs ∧ St h0 o0 (fi ++ ((G, b9 g) :: (C ++ K))) s) (fun k s hI => ?_) items.length ⟨0, C0, fi, gs, Nat.zero_le _, rfl, hP0, hgs, hpos, H⟩
 clear hpos hgs H
 obtain ⟨i, C, fi, gs, hi, rfl, hP, hgs, hpos, H⟩ := hI
 show wpAny _ _ ((forTurn target (.ref G) body [] env).onRaise (fun x => do noteFrame x env; theTreesLotGoes x)) _ _ s
 refine wpAny_noted ?_
 simp only [forTurn]
 refine ad (E := NoE) ?_ (fun _ _ q => q) (fun _ _ q => q.elim)
 refine aa (wpAny_standAt (aa (wpAny_onRaise (ad (E := NoE) ?_ (fun _ _ q => q) (fun _ _ q => q.elim)))))
 have Hr := H.setGen (x := .running) hg rfl
 have hpre := hPre i C hP
 rcases Nat.lt_or_ge i items.length with hlt | hge
 ·rw [List.drop_eq_getElem_cons hlt] at hpos
  refine ir (F := fun _ => False) (Y := fun v gs' s' => v = items[i] ∧ gs'.bare = true ∧ ∃ fi', GPos prog w A.in1 h0 Pre (items.drop (i + 1)) fi' gs' ∧ St h0 o0 (fi' ++ ((G, b9 g) :: (C ++ K))) s' ∧ g < s'.gens.size) hh (hl.keeps H.keep) hroom (jq H (Has.skip .here)) hgs ?_ ?_ (fun _ q => q.elim)
  ·have hgsz : g < s.gens.size := (Array.getElem?_eq_some_iff.mp hgs).1
   -- the running mark is kept as part of the base
   have Hb : St h0 (s.setGen g .running) (fi ++ ((G, b9 g) :: (C ++ K))) (s.setGen g .running) := Hr.rebase
   refine hpos (s.setGen g .running) _ _ _ _ hpre Hb fun gs' fi' s' hb hp' H' => ⟨rfl, hb, fi', hp', Hr.back H', ?_⟩
   have := H'.gens.1 g _ (setGen_self hgs)
   exact (Array.getElem?_eq_some_iff.mp this).1
  ·rintro v gs' s1 hb ⟨rfl, _, fi', hp', H', hsz⟩
   have H1 := H'.setGen (x := gs') hg hb
   have hg1 : (s1.setGen g gs').gens[g]? = some gs' := by
    show (s1.gens.setIfInBounds g gs')[g]? = _
    rw [Array.getElem?_setIfInBounds_self_of_lt hsz]
   generalize s1.setGen g gs' = s2 at H1 hg1
   refine aa (own_gen (jq H1 (Has.skip .here)) ?_)
   have K1 : St h0 s2 (C ++ (fi' ++ ((G, b9 g) :: K))) s2 := (H1.perm (by
    have e1 : (fi' ++ ((G, b9 g) :: (C ++ K))).Perm (fi' ++ (C ++ ((G, b9 g) :: K))) := List.Perm.append_left _ List.perm_middle.symm
    have e2 : (fi' ++ (C ++ ((G, b9 g) :: K))).Perm (C ++ (fi' ++ ((G, b9 g) :: K))) := by
     rw [← an, ← an]; exact List.Perm.append_right _ List.perm_append_comm
    exact (e1.trans e2).symm)).rebase
   refine aa (ad (turn i _ C (fi' ++ ((G, b9 g) :: K)) s2 s2 (by simp [hlt]) hP (fun C s q => ?_) K1) (fun _ s3 q3 => ?_) fun _ _ q => q)
   ·refine (H1.back q).sub ?_
    exact List.Sublist.append (List.Sublist.refl _) ((ak _ _).trans (List.sublist_append_right _ _))
   refine aa (ad q3 (fun fl s4 q4 => ?_) fun _ _ q => q)
   have go : (∃ C', P (i + 1) C' ∧ St h0 s2 (C' ++ (fi' ++ ((G, b9 g) :: K))) s4) → ∃ i C fi gs, i ≤ items.length ∧ items.length - (i) = items.length - i ∧ i = i ∧ P i C ∧ s4.gens[g]? = some gs ∧ GPos prog w A.in1 h0 Pre (items.drop i) fi gs ∧ St h0 o0 (fi ++ ((G, b9 g) :: (C ++ K))) s4 := by
    rintro ⟨C', hP', H'⟩
    refine ⟨i + 1, C', fi', gs', hlt, rfl, rfl, hP', H'.gens.1 g _ hg1, hp', (H1.back H').perm ?_⟩
    have e1 : (fi' ++ ((G, b9 g) :: (C' ++ K))).Perm (fi' ++ (C' ++ ((G, b9 g) :: K))) := List.Perm.append_left _ List.perm_middle.symm
    have e2 : (fi' ++ (C' ++ ((G, b9 g) :: K))).Perm (C' ++ (fi' ++ ((G, b9 g) :: K))) := by
     rw [← an, ← an]; exact List.Perm.append_right _ List.perm_append_comm
    exact e1.trans e2
   cases fl with
   | next =>
    obtain ⟨C', hP', H''⟩ := q4
    have e1 : (fi' ++ ((G, b9 g) :: (C' ++ K))).Perm (fi' ++ (C' ++ ((G, b9 g) :: K))) := List.Perm.append_left _ List.perm_middle.symm
    have e2 : (fi' ++ (C' ++ ((G, b9 g) :: K))).Perm (C' ++ (fi' ++ ((G, b9 g) :: K))) := by
     rw [← an, ← an]; exact List.Perm.append_right _ List.perm_append_comm
    exact ab (.inl ⟨rfl, items.length - (i + 1), by (lia), i + 1, C', fi', gs', hlt, rfl, hP', H''.gens.1 g _ hg1, hp', (H1.back H'').perm (e1.trans e2)⟩)
   | cont =>
    obtain ⟨C', hP', H''⟩ := q4
    have e1 : (fi' ++ ((G, b9 g) :: (C' ++ K))).Perm (fi' ++ (C' ++ ((G, b9 g) :: K))) := List.Perm.append_left _ List.perm_middle.symm
    have e2 : (fi' ++ (C' ++ ((G, b9 g) :: K))).Perm (C' ++ (fi' ++ ((G, b9 g) :: K))) := by
     rw [← an, ← an]; exact List.Perm.append_right _ List.perm_append_comm
    exact ab (.inl ⟨rfl, items.length - (i + 1), by (lia), i + 1, C', fi', gs', hlt, rfl, hP', H''.gens.1 g _ hg1, hp', (H1.back H'').perm (e1.trans e2)⟩)
   | brk => exact ab q4
   | ret v => exact ab q4
 ·have e : i = items.length := by (lia)
  subst e
  rw [List.drop_length] at hpos
  refine ir (F := fun s' => St h0 o0 ((G, b9 g) :: (C ++ K)) s') (Y := fun _ _ _ => False) hh (hl.keeps H.keep) hroom (jq H (Has.skip .here)) hgs ?_ (fun _ _ _ _ q => q.elim) ?_
  ·refine hpos (s.setGen g .running) _ _ _ _ hpre Hr.rebase fun s' H' => ⟨rfl, Hr.back H'⟩
  ·intro s1 H1 h' hk'
   refine ab (.inr ⟨rfl, codeAny_block (wpAny_execs_nil (fin C _ hP ?_))⟩)
   exact ((H1.setGen (x := .finished) hg rfl).grow (h' := h') (k := s1.toks) hk' (ae _)).tail
end
noncomputable def Go (h0 : Heap) (o0 : Shared) (cs : az) (P : GP) : Prop := ∀ s, St h0 o0 cs s → P s
noncomputable def KS (M : Model) (A : Around) (E : VP) (env : Env) (rest : List Stmt) (Q : FP) : Flow → Shared → Prop
 | .next => wpAny M A (execs rest env) Q E
 | f => Q f
noncomputable def eR (b : Bool) (P1 P2 : GP) : Shared → Prop := fun s => if b = true then P1 s else P2 s
section
variable {M : Model} {cs cs' : az} {K : Frag} {P P1 P2 : GP}
theorem Go.mono {P' : GP} (h : Go h0 o0 cs P) (hp : ∀ s, P s → P' s) : Go h0 o0 cs P' := fun s H => hp s (h s H)
theorem Go.perm (hp : cs.Perm cs') (h : Go h0 o0 cs' P) : Go h0 o0 cs P := fun s H => h s (H.perm hp.symm)
theorem Go.sel (hs : Sel cs cs') (h : Go h0 o0 cs' P) : Go h0 o0 cs P := fun s H => h s (H.sel hs)
theorem Go.sl (hs : Sel cs cs') (h : Go h0 o0 cs' P := by assumption) : Go h0 o0 cs P := fun s H => h s (H.sel hs)
theorem Go.weak {a : Addr} {c c' : bM} (hp : Put cs a c c' cs') (hc : ∀ o, c o → c' o) (h : Go h0 o0 cs' P) : Go h0 o0 cs P := fun s H => h s (H.weak hp hc)
theorem Go.thin {a : Addr} {m m' : List (Str × Value)} (hp : Put cs a (cNs m) (cNs m') cs') (hs : NsSub m' m) (h : Go h0 o0 cs' P) : Go h0 o0 cs P := fun s H => h s (H.thin hp hs)
theorem fF (h : Go h0 o0 cs P1) : Go h0 o0 cs (eR true P1 P2) := fun s H => by rw [eR, if_pos rfl]; exact h s H
theorem dh (h : Go h0 o0 cs P2) : Go h0 o0 cs (eR false P1 P2) := fun s H => by rw [eR, if_neg (by decide)]; exact h s H
theorem cA {b : Bool} (h1 : b = true → Go h0 o0 cs P1) (h2 : b = false → Go h0 o0 cs P2) : Go h0 o0 cs (eR b P1 P2) := by
 cases b with
 | true => exact fF (h1 rfl)
 | false => exact dh (h2 rfl)
noncomputable def JP {α : Type} (h0 : Heap) (o0 : Shared) (J : α → az → Prop) (v : α) : Shared → Prop := fun s => ∃ cs, J v cs ∧ St h0 o0 cs s
theorem jp {α : Type} {J : α → az → Prop} {v : α} (h : J v cs) : Go h0 o0 cs (JP h0 o0 J v) := fun s H => ⟨cs, h, H⟩
theorem bH {α : Type} {m : Sem α} {Q : α → Shared → Prop} (J : α → az → Prop) (h1 : Go h0 o0 cs (wpAny M A m (JP h0 o0 J) NoE)) (h2 : ∀ v cs', J v cs' → Go h0 o0 cs' (Q v)) : Go h0 o0 cs (wpAny M A m Q E) :=
 fun s H => ad (h1 s H) (fun v s' ⟨cs', hj, H'⟩ => h2 v cs' hj s' H') fun _ _ q => q.elim
theorem aL {Q : FP} (h : Go h0 o0 cs (Q .next)) : Go h0 o0 cs (wpAny M A (execs [] env) Q E) := fun s H => wpAny_execs_nil (h s H)
theorem aJ {rest : List Stmt} {Q : FP} (h : Go h0 o0 cs (wpAny M A (execs rest env) Q E)) : Go h0 o0 cs (KS M A E env rest Q .next) := h
theorem bT {rest : List Stmt} {Q : FP} {v : Value} (h : Go h0 o0 cs (Q (.ret v))) : Go h0 o0 cs (KS M A E env rest Q (.ret v)) := h
theorem aE {st : Stmt} {rest : List Stmt} {Q : FP} (h : Go h0 o0 cs (wpAny M A (exec st env) (KS M A E env rest Q) E)) : Go h0 o0 cs (wpAny M A (execs (st :: rest) env) Q E) :=
 fun s H => wpAny_execs_cons (ad (h s H) (fun f s' q => by cases f <;> exact q) fun _ _ q => q)
theorem bK {x : Str} {pos' pos : Pos} {value : Expr} {Q : FP} (h : Go h0 o0 cs (wpAny M A (eval value env) (fun v => wpAny M A (storeName env x v) (fun _ => Q .next) E) E))
  (hs : swapsWith value (some (.Name x pos')) pos.line env = pure false := by with_unfolding_all rfl) : Go h0 o0 cs (wpAny M A (exec (.Assign [.Name x pos'] value pos) env) Q E) := fun s H => wpAny_Assign_Name (h s H) hs
theorem cn {o value : Expr} {attr : Str} {pos' pos : Pos} {Q : FP} (h : Go h0 o0 cs (wpAny M A (eval value env) (fun v => wpAny M A (eval o env) (fun ov => wpAny M A (setAttr ov attr v) (fun _ => Q .next) E) E) E))
  (hs : swapsWith value (some (.Attribute o attr pos')) pos.line env = pure false := by with_unfolding_all rfl) : Go h0 o0 cs (wpAny M A (exec (.Assign [.Attribute o attr pos'] value pos) env) Q E) := fun s H => plainObj_wpAny_Assign_Attribute (h s H) hs
theorem jX {elts : List Expr} {k : Nat} {tpos pos : Pos} {value : Expr} {Q : FP} (h : Go h0 o0 cs (wpAny M A (eval value env) (fun v => wpAny M A (assign (.Tuple elts k tpos) env v) (fun _ => Q .next) E) E))
   (hs : swapsWithSole [.Tuple elts k tpos] value pos.line env = pure false := by with_unfolding_all rfl) (hs2 : swappedStores [.Tuple elts k tpos] value env = pure none := by with_unfolding_all rfl) : Go h0 o0 cs (wpAny M A (exec (.Assign [.Tuple elts k tpos] value pos) env) Q E) := fun s H => Assign_Tuple (h s H) hs hs2
theorem bt {test : Expr} {body orelse : List Stmt} {pos : Pos} {Q : FP} (h : Go h0 o0 cs (wpAny M A (isTrue test env (eval test env)) (fun b => eR b (wpAny M A (execs body env) Q E) (wpAny M A (execs orelse env) Q E)) E)) :
  Go h0 o0 cs (wpAny M A (exec (.If test body orelse pos) env) Q E) := fun s H => wpAny_If (h s H)
theorem dC {e : Expr} {pos : Pos} {Q : FP} (h : Go h0 o0 cs (wpAny M A (eval e env) (fun v => Q (.ret v)) E)) : Go h0 o0 cs (wpAny M A (exec (.Return (some e) pos) env) Q E) := fun s H => wpAny_Return_some (h s H)
theorem n9 {pos : Pos} {Q : FP} (h : Go h0 o0 cs (Q (.ret .none))) : Go h0 o0 cs (wpAny M A (exec (.Return none pos) env) Q E) := fun s H => wpAny_Return_none (h s H)
theorem bf {e : Expr} {pos : Pos} {Q : FP} (h : Go h0 o0 cs (wpAny (model prog w) A (eval e env) (fun _ => Q .next) E)) (hi : interactive env = false := by with_unfolding_all rfl) (hs : swapsWith e none pos.line env = pure false := by with_unfolding_all rfl) :
  Go h0 o0 cs (wpAny (model prog w) A (exec (.Expr e pos) env) Q E) := fun s H => wpAny_Expr_any (h s H) hi hs
theorem s_aug {o value : Expr} {attr : Str} {tpos pos : Pos} {op : Operator} {Q : FP}
  (h : Go h0 o0 cs (wpAny M A (eval o env) (fun ov => wpAny M A (getAttr ov attr true) (fun old => wpAny M A (eval value env) (fun v => wpAny M A (inplaceOp op old v) (fun new => wpAny M A (setAttr ov attr new) (fun _ => Q .next) E) E) E) E) E)) :
  Go h0 o0 cs (wpAny M A (exec (.AugAssign (.Attribute o attr tpos) op value pos) env) Q E) := fun s H => wpAny_AugAssign_AttributeAny (h s H)
theorem bc {l r : Expr} {op : CmpOp} {pos : Pos} {whole : Sem Value} {Q : Bool → Shared → Prop} (h : Go h0 o0 cs (wpAny M A (eval l env) (fun a => wpAny M A (eval r env) (fun b => wpAny M A (compareOp op a b) (fun c => wpAny M A (truthy c) Q E) E) E) E))
  (hm : behindInMarks op r = false := by with_unfolding_all rfl) : Go h0 o0 cs (wpAny M A (isTrue (.Compare l [op] [r] pos) env whole) Q E) := fun s H => wpAny_isTrue_Compare1 (h s H) hm
theorem ix {x : Expr} {pos : Pos} {whole : Sem Value} {Q : Bool → Shared → Prop} (h : Go h0 o0 cs (wpAny M A (isTrue x env (eval x env)) (fun b => Q (!b)) E)) : Go h0 o0 cs (wpAny M A (isTrue (.UnaryOp .Not x pos) env whole) Q E) := fun s H => wpAny_isTrue_Not (h s H)
theorem bZ {op : BoolOp} {values : List Expr} {pos : Pos} {whole : Sem Value} {Q : Bool → Shared → Prop} (h : Go h0 o0 cs (wpAny M A (allTrue op values env) Q E)) : Go h0 o0 cs (wpAny M A (isTrue (.BoolOp op values pos) env whole) Q E) := fun s H => wpAny_isTrue_BoolOp (h s H)
theorem bB {x : Expr} {rest : List Expr} {Q : Bool → Shared → Prop} (h : Go h0 o0 cs (wpAny M A (isTrue x env (eval x env)) (fun b => eR b (wpAny M A (allTrue .And rest env) Q E) (Q false)) E)) : Go h0 o0 cs (wpAny M A (allTrue .And (x :: rest) env) Q E) := fun s H => wpAny_allTrue_And_cons (h s H)
theorem gr {x : Expr} {rest : List Expr} {Q : Bool → Shared → Prop} (h : Go h0 o0 cs (wpAny M A (isTrue x env (eval x env)) (fun b => eR b (Q true) (wpAny M A (allTrue .Or rest env) Q E)) E)) : Go h0 o0 cs (wpAny M A (allTrue .Or (x :: rest) env) Q E) := fun s H => wpAny_allTrue_Or_cons (h s H)
theorem cM {Q : Bool → Shared → Prop} (h : Go h0 o0 cs (Q true)) : Go h0 o0 cs (wpAny M A (allTrue .And [] env) Q E) := fun s H => wpAny_allTrue_And_nil (h s H)
theorem jQ {Q : Bool → Shared → Prop} (h : Go h0 o0 cs (Q false)) : Go h0 o0 cs (wpAny M A (allTrue .Or [] env) Q E) := fun s H => wpAny_allTrue_Or_nil (h s H)
theorem bh {e : Expr} {whole : Sem Value} {Q : Bool → Shared → Prop} (h : Go h0 o0 cs (wpAny M A whole (fun v => wpAny M A (truthy v) Q E) E)) (he : isTrue e env whole = (do let v ← whole; standAt e.pos; holding [v] (truthy v)) := by with_unfolding_all rfl) :
  Go h0 o0 cs (wpAny M A (isTrue e env whole) Q E) := fun s H => wpAny_isTrue_value (h s H) he
theorem aP {b : Bool} {Q : Bool → Shared → Prop} (h : Go h0 o0 cs (Q b)) : Go h0 o0 cs (wpAny M A (truthy (.bool b)) Q E) := fun s H => wpAny_truthy_bool (h s H)
theorem gu {Q : Bool → Shared → Prop} (h : Go h0 o0 cs (Q false)) : Go h0 o0 cs (wpAny M A (truthy .none) Q E) := fun s H => truthy_none (h s H)
theorem iy {i : Int} {t : Tok} {Q : Bool → Shared → Prop} (h : Go h0 o0 cs (Q (i != 0))) : Go h0 o0 cs (wpAny (model prog w) A (truthy (.int i t)) Q E) := fun s H => PySem.P.truthy_int (h s H)
theorem gq {x : Str} {t : Tok} {Q : Bool → Shared → Prop} (hz : x.length ≤ sizeLine) (h : Go h0 o0 cs (Q (x.length != 0))) : Go h0 o0 cs (wpAny (model prog w) A (truthy (.str x t)) Q E) := fun s H => x_trS H hz h
theorem fV {l : Addr} {xs : List Value} {Q : Bool → Shared → Prop} (hl : Has cs l (ay xs)) (hz : xs.length ≤ sizeLine) (h : Go h0 o0 cs (Q (!xs.isEmpty))) : Go h0 o0 cs (wpAny (model prog w) A (truthy (.ref l)) Q E) := fun s H => x_trL H hl hz h
theorem t_dic {d : Addr} {kvs : List (Str × Value)} {Q : Bool → Shared → Prop} (hd : Has cs d (aM prog w kvs)) (hz : kvs.length ≤ sizeLine) (h : Go h0 o0 cs (Q (!kvs.isEmpty))) : Go h0 o0 cs (wpAny (model prog w) A (truthy (.ref d)) Q E) := fun s H => x_trD H hd hz h
end
section
variable {M : Model} {cs cs' : az} {K : Frag} {P P1 P2 : GP} {Q : VP}
theorem aG {x : Str} {pos : Pos} {L : Addr} {m : List (Str × Value)} {v : Value} (hp : Has cs L (cNs m)) (hv : Look m x v)
  (h : Go h0 o0 cs (Q v)) (hL : env.locals = L := by kernel_rfl!) (hk : env.scope.kind = .function := by kernel_rfl!) (hl : env.kindOf x = some .local := by kernel_rfl!) (hd : (x == ("__debug__" : Str)) = false := by decide +kernel) : Go h0 o0 cs (wpAny M A (eval (.Name x pos) env) Q E) := fun s H => eI H hp hL hv hk hl hd (h s H)
theorem bF {x : Str} {pos : Pos} {c : Addr} {v : Value} (hp : Has cs c (aN (some v)))
  (h : Go h0 o0 cs (Q v)) (hk : env.scope.kind = .function := by kernel_rfl!) (hl : env.kindOf x = some .cell := by kernel_rfl!) (hc : env.cells.lookup x = some c := by kernel_rfl!) (hd : (x == ("__debug__" : Str)) = false := by decide +kernel) : Go h0 o0 cs (wpAny (model prog w) A (eval (.Name x pos) env) Q E) := fun s H => x_cell H hp hk hl hc hd (h s H)
theorem gT {x : Str} {pos : Pos} {c : Addr} {v : Value} (hp : Has cs c (aN (some v))) (hk : env.scope.kind = .function) (hl : env.kindOf x = some .free) (hc : env.cells.lookup x = some c)
  (h : Go h0 o0 cs (Q v)) (hd : (x == ("__debug__" : Str)) = false := by decide +kernel) (hcd : (x == ("__classdict__" : Str)) = false := by decide +kernel) : Go h0 o0 cs (wpAny (model prog w) A (eval (.Name x pos) env) Q E) := fun s H => x_free H hp hk hl hc hd hcd (h s H)
theorem ch {x : Str} {pos : Pos} {v : Value}
  (h : Go h0 o0 cs (Q v)) (hg : bA h0 x v := by assumption) (hk : env.scope.kind = .function := by kernel_rfl!) (hl : env.kindOf x = some .globalImplicit := by kernel_rfl!) (he : env.globals = mainGlobals := by kernel_rfl!) (hd : (x == ("__debug__" : Str)) = false := by decide +kernel) : Go h0 o0 cs (wpAny M A (eval (.Name x pos) env) Q E) := fun s H => x_glob H hg hk hl he hd (h s H)
theorem bG {x : Str} {pos : Pos} {v : Value}
  (h : Go h0 o0 cs (Q v)) (hg : bD h0 x v := by assumption) (hk : env.scope.kind = .function := by kernel_rfl!) (hl : env.kindOf x = some .globalImplicit := by kernel_rfl!) (he : env.globals = mainGlobals := by kernel_rfl!) (hb : env.builtins = builtinsNs := by kernel_rfl!) (hd : (x == ("__debug__" : Str)) = false := by decide +kernel) : Go h0 o0 cs (wpAny M A (eval (.Name x pos) env) Q E) := fun s H => x_blt H hg hk hl he hb hd (h s H)
theorem aI {x : Str} {k : Nat} {pos : Pos} (h : ∀ t, t ≠ 0 → Go h0 o0 cs (Q (.str x t))) : Go h0 o0 cs (wpAny M A (eval (.Constant (.str x) k pos) env) Q E) := fun s H => lY H fun s' H' e => h _ H.tok s' H'
theorem aO {i : Int} {k : Nat} {pos : Pos} (h : ∀ t, Go h0 o0 cs (Q (.int i t))) : Go h0 o0 cs (wpAny M A (eval (.Constant (.int i) k pos) env) Q E) := fun s H => x_int H fun t s' H' e => h t s' H'
theorem cG {k : Nat} {pos : Pos} (h : Go h0 o0 cs (Q .none)) : Go h0 o0 cs (wpAny M A (eval (.Constant .none k pos) env) Q E) := fun s H => wpAny_Constant_none (h s H)
theorem kH {b : Bool} {k : Nat} {pos : Pos} (h : Go h0 o0 cs (Q (.bool b))) : Go h0 o0 cs (wpAny M A (eval (.Constant (.bool b) k pos) env) Q E) := fun s H => wpAny_Constant_bool (h s H)
theorem aR {x : Str} {L : Addr} {m m' : List (Str × Value)} {v : Value} {Q : Unit → Shared → Prop} (hp : Put cs L (cNs m) (cNs m') cs') (hs : SetN m x v m')
  (h : Go h0 o0 cs' (Q ())) (hL : env.locals = L := by kernel_rfl!) (hk : env.scope.kind = .function := by kernel_rfl!) (hl : env.kindOf x = some .local := by kernel_rfl!) : Go h0 o0 cs (wpAny M A (storeName env x v) Q E) := fun s H => iZ H hp hL hs hk hl h
theorem fj {x : Str} {c : Addr} {v : Value} {u : Option Value} {Q : Unit → Shared → Prop} (hp : Put cs c (aN u) (aN (some v)) cs')
  (h : Go h0 o0 cs' (Q ())) (hk : env.scope.kind = .function := by kernel_rfl!) (hl : env.kindOf x = some .cell := by kernel_rfl!) (hc : env.cells.lookup x = some c := by kernel_rfl!) : Go h0 o0 cs (wpAny (model prog w) A (storeName env x v) Q E) := fun s H => nA H hp hk hl hc h
theorem aA {e : Expr} {rest : List Expr} {pos : Pos} {Q : List Value → Shared → Prop} (h : Go h0 o0 cs (wpAny M A (eval e env) (fun v => wpAny M A (spliced (backTo pos (starEach rest env))) (fun vs => Q (v :: vs)) E) E))
  (he : starEach (e :: rest) env = (false, eval e env) :: starEach rest env := by with_unfolding_all rfl) : Go h0 o0 cs (wpAny M A (spliced (backTo pos (starEach (e :: rest) env))) Q E) := fun s H => args_cons (h s H) he
theorem aH {pos : Pos} {Q : List Value → Shared → Prop} (h : Go h0 o0 cs (Q [])) : Go h0 o0 cs (wpAny M A (spliced (backTo pos (starEach [] env))) Q E) := fun s H => args_nil (h s H)
theorem bq {elts : List Expr} {pos : Pos} (h : Go h0 o0 cs (wpAny M A (spliced (backTo pos (starEach elts env))) (fun vs => wpAny M A (newList vs) Q E) E)) : Go h0 o0 cs (wpAny M A (eval (.List elts pos) env) Q E) := fun s H => List_ (h s H)
theorem da {elts : List Expr} {k : Nat} {pos : Pos} (h : Go h0 o0 cs (wpAny M A (spliced (backTo pos (starEach elts env))) (fun vs => wpAny M A (newTuple vs) Q E) E)) : Go h0 o0 cs (wpAny M A (eval (.Tuple elts k pos) env) Q E) := fun s H => Tuple_ (h s H)
theorem bn {vs : List Value} (h : ∀ a, Go h0 o0 ((a, ay vs) :: cs) (Q (.ref a))) (hz : vs.length ≤ sizeLine := by exact Nat.le_of_ble_eq_true (by kernel_rfl!)) : Go h0 o0 cs (wpAny (model prog w) A (newList vs) Q E) := fun s H => cK H hz fun a s' H' _ => h a s' H'
theorem cY {vs : List Value} (h : ∀ a, Go h0 o0 ((a, a8 vs) :: cs) (Q (.ref a))) (hz : vs.length ≤ sizeLine := by exact Nat.le_of_ble_eq_true (by kernel_rfl!)) : Go h0 o0 cs (wpAny (model prog w) A (newTuple vs) Q E) := fun s H => eH H hz fun a s' H' _ => h a s' H'
theorem jr {pos : Pos} (h : ∀ d, Go h0 o0 ((d, aM prog w []) :: cs) (Q (.ref d))) : Go h0 o0 cs (wpAny (model prog w) A (eval (.Dict [] [] pos) env) Q E) := fun s H => x_dict0 H fun d s' H' => h d s' H'
theorem aY {l r : Expr} {op : Operator} {pos : Pos} (h : Go h0 o0 cs (wpAny M A (eval l env) (fun a => wpAny M A (eval r env) (fun b => wpAny M A (binaryOp op a b) Q E) E) E)) : Go h0 o0 cs (wpAny M A (eval (.BinOp l op r pos) env) Q E) := fun s H => wpAny_BinOp (h s H)
theorem gU {l r : Expr} {op : CmpOp} {pos : Pos} (h : Go h0 o0 cs (wpAny M A (eval l env) (fun a => wpAny M A (eval r env) (fun b => wpAny M A (compareOp op a b) Q E) E) E)) (hm : behindInMarks op r = false := by with_unfolding_all rfl) :
  Go h0 o0 cs (wpAny M A (eval (.Compare l [op] [r] pos) env) Q E) := fun s H => wpAny_Compare1 (h s H) hm
theorem d4 {op : UnaryOp} {x : Expr} {pos : Pos} (h : Go h0 o0 cs (wpAny M A (eval x env) (fun v => wpAny M A (unaryOp op v) Q E) E)) : Go h0 o0 cs (wpAny M A (eval (.UnaryOp op x pos) env) Q E) := fun s H => UnaryOp_ (h s H)
theorem eF {test body orelse : Expr} {pos : Pos} (h : Go h0 o0 cs (wpAny M A (isTrue test env (eval test env)) (fun b => eR b (wpAny M A (eval body env) Q E) (wpAny M A (eval orelse env) Q E)) E)) :
  Go h0 o0 cs (wpAny M A (eval (.IfExp test body orelse pos) env) Q E) := fun s H => wpAny_IfExp (h s H)
theorem bE {value slice : Expr} {pos : Pos} (h : Go h0 o0 cs (wpAny M A (eval value env) (fun o => wpAny M A (eval slice env) (fun i => wpAny M A (subscriptTail value slice o i) Q E) E) E)) :
  Go h0 o0 cs (wpAny M A (eval (.Subscript value slice pos) env) Q E) := fun s H => Subscript_ (h s H)
theorem fX {v : Value} (h : Go h0 o0 cs (Q (.bool (!(v == .none))))) : Go h0 o0 cs (wpAny M A (compareOp .IsNot v .none) Q E) := fun s H => PySem.isNot_none (h s H)
theorem o_is {v : Value} (h : Go h0 o0 cs (Q (.bool (v == .none)))) : Go h0 o0 cs (wpAny M A (compareOp .Is v .none) Q E) := fun s H => PySem.is_none (h s H)
theorem gE {x y : Str} {t u : Tok} (h : Go h0 o0 cs (Q (.bool (x == y)))) : Go h0 o0 cs (wpAny (model prog w) A (compareOp .Eq (.str x t) (.str y u)) Q E) := fun s H => x_eqstr (h s H)
theorem cP {x y : Int} {t u : Tok} (h : Go h0 o0 cs (Q (.bool (x == y)))) : Go h0 o0 cs (wpAny (model prog w) A (compareOp .Eq (.int x t) (.int y u)) Q E) := fun s H => PyProof.Rows.eq_int (h s H)
theorem bu {x y : Str} {t u : Tok} (hz : x.length + y.length ≤ sizeLine) (h : ∀ t', Go h0 o0 cs (Q (.str (x ++ y) t'))) : Go h0 o0 cs (wpAny (model prog w) A (binaryOp .Add (.str x t) (.str y u)) Q E) := fun s H => x_adds H hz fun t' s' H' => h t' s' H'
theorem oE {a b : Int} {t u : Tok} (h : ∀ t', Go h0 o0 cs (Q (.int (a + b) t'))) : Go h0 o0 cs (wpAny (model prog w) A (binaryOp .Add (.int a t) (.int b u)) Q E) := fun s H => x_addi H fun t' s' H' => h t' s' H'
theorem dT {a : Int} {t : Tok} (h : ∀ t', Go h0 o0 cs (Q (.int (-a) t'))) : Go h0 o0 cs (wpAny (model prog w) A (unaryOp .USub (.int a t)) Q E) := fun s H => x_neg H fun t' s' H' => h t' s' H'
theorem dH {x attr : Str} {xp pos : Pos} (h : Go h0 o0 cs (wpAny M A (eval (.Name x xp) env) (fun o => wpAny M A (getAttr o attr true) Q E) E))
  (he : eval (.Attribute (.Name x xp) attr pos) env = (do
   let o ← eval (.Name x xp) env
   standAt pos.atName
   let r ← holding [o] (getAttr o attr true)
   letTemporaryGo (.Name x xp) o r
   pure r) := by with_unfolding_all rfl) : Go h0 o0 cs (wpAny M A (eval (.Attribute (.Name x xp) attr pos) env) Q E) := fun s H => Attribute_Name_ (h s H) he
end
noncomputable def JK (M : Model) (A : Around) (E : VP) (parts : List (Sem Value)) (acc : Str) (Q : Str → Shared → Prop) : Value → Shared → Prop := fun v s => ∃ y t, v = .str y t ∧ (acc ++ y).length ≤ sizeLine ∧ Joins M A E parts (acc ++ y) Q s
noncomputable def JE (h0 : Heap) (Q : VP) : Str → Shared → Prop := fun out s₁ => out.length ≤ sizeLine ∧ ∃ o0 cs, St h0 o0 cs s₁ ∧ ∀ t' s', St h0 o0 cs s' → Q (.str out t') s'
noncomputable def FK (h0 : Heap) (Q : VP) : Value → Shared → Prop := fun v s₁ => ∃ x t o0 cs, v = .str x t ∧ St h0 o0 cs s₁ ∧ x.length ≤ sizeLine ∧ ∀ t' s', St h0 o0 cs s' → Q (.str x t') s'
noncomputable def RK (R : RP) : Flow → Shared → Prop
 | .ret v => R (.ok (.ret v))
 | _ => R (.ok (.ret .none))
noncomputable def CK (h0 : Heap) (P : GP) : Shared → Prop := fun s => (∃ o0 cs, St h0 o0 cs s) ∧ P s
noncomputable def CW (h0 : Heap) (bo l : Addr) (id : String) (P : GP) : Shared → Prop := fun s => ∃ o0 cs, St h0 o0 cs s ∧ Has cs bo (bQ id l) ∧ P s
section
variable {M : Model} {cs cs' : az} {K : Frag} {P P1 P2 : GP} {Q : VP}
theorem eE {v₁ v₂ : Expr} {rest : List Expr} {pos : Pos} (h : Go h0 o0 cs (Joins (model prog w) A E (evalEach (v₁ :: v₂ :: rest) env) Str.empty (JE h0 Q))) : Go h0 o0 cs (wpAny (model prog w) A (eval (.JoinedStr (v₁ :: v₂ :: rest) pos) env) Q E) := fun s H => nF (h0 := h0) (h s H)
theorem a0 {e : Expr} {rest : List Expr} {acc : Str} {Q : Str → Shared → Prop} (h : Go h0 o0 cs (wpAny M A (eval e env) (JK M A E (evalEach rest env) acc Q) E)) : Go h0 o0 cs (Joins M A E (evalEach (e :: rest) env) acc Q) := h
theorem gK {acc : Str} {Q : Str → Shared → Prop} (h : Go h0 o0 cs (Q acc)) : Go h0 o0 cs (Joins M A E (evalEach [] env) acc Q) := h
theorem br {parts : List (Sem Value)} {acc y : Str} {t : Tok} {Q : Str → Shared → Prop} (hz : (acc ++ y).length ≤ sizeLine) (h : Go h0 o0 cs (Joins M A E parts (acc ++ y) Q)) : Go h0 o0 cs (JK M A E parts acc Q (.str y t)) := fun s H => ⟨y, t, rfl, hz, h s H⟩
theorem gL {out : Str} (hz : out.length ≤ sizeLine) (h : ∀ t, Go h0 o0 cs (Q (.str out t))) : Go h0 o0 cs (JE h0 Q out) := fun s H => ⟨hz, o0, cs, H, fun t s' H' => h t s' H'⟩
theorem eO {value : Expr} {pos : Pos} (h : Go h0 o0 cs (wpAny (model prog w) A (eval value env) (FK h0 Q) E)) : Go h0 o0 cs (wpAny (model prog w) A (eval (.FormattedValue value (-1) none pos) env) Q E) := fun s H => x_fv (h0 := h0) (h s H)
theorem dG {x : Str} {t : Tok} (hz : x.length ≤ sizeLine) (h : ∀ t, Go h0 o0 cs (Q (.str x t))) : Go h0 o0 cs (FK h0 Q (.str x t)) := fun s H => ⟨x, t, o0, cs, rfl, H, hz, fun t s' H' => h t s' H'⟩
theorem ck (h : Go h0 o0 cs P) : Go h0 o0 cs (CK h0 P) := fun s H => ⟨⟨o0, cs, H⟩, h s H⟩
theorem cw {bo l : Addr} {id : String} (hb : Has cs bo (bQ id l)) (h : Go h0 o0 cs P) : Go h0 o0 cs (CW h0 bo l id P) := fun s H => ⟨o0, cs, H, hb, h s H⟩
theorem bi {o : Expr} {name : Str} {apos pos : Pos} {args : List Expr} {pl : Sem Bool} (h : Go h0 o0 cs (wpAny M A (eval o env) (fun ov => wpAny M A (getMethod ov name pl) (fun fx => wpAny M A (callWith pos fx.1 fx.2 (backTo pos (starEach args env)) []) Q E) E) E))
  (he : eval (.Call (.Attribute o name apos) args [] pos) env = (do
   let ov ← eval o env
   standAt apos.atName
   let (f, first) ← holding [ov] (getMethod ov name pl)
   callWith pos f first (backTo pos (starEach args env)) []) := by with_unfolding_all rfl) : Go h0 o0 cs (wpAny M A (eval (.Call (.Attribute o name apos) args [] pos) env) Q E) := fun s H => MethodCall_ (h s H) he
theorem aW {func : Expr} {args : List Expr} {pos : Pos} (h : Go h0 o0 cs (wpAny M A (eval func env) (fun f => wpAny M A (callWith pos f [] (backTo pos (starEach args env)) []) Q E) E))
  (he : eval (.Call func args [] pos) env = (do callWith pos (← eval func env) [] (backTo pos (starEach args env)) (backToKw pos (keywordEach [] env))) := by with_unfolding_all rfl) : Go h0 o0 cs (wpAny M A (eval (.Call func args [] pos) env) Q E) := fun s H => Call_ (h s H) he
theorem cT {pos : Pos} {id : String} {a : Value} {e : Expr} {rest : List Expr} (h : Go h0 o0 cs (wpAny M A (spliced (backTo pos (starEach (e :: rest) env))) (fun vs => wpAny M A (call (.builtin id) (a :: vs)) Q E) E))
   (he : starEach (e :: rest) env = (false, eval e env) :: starEach rest env := by with_unfolding_all rfl) (hp : (backTo pos (starEach rest env)).any (·.1) = false := by with_unfolding_all rfl) : Go h0 o0 cs (wpAny M A (callWith pos (.builtin id) [a] (backTo pos (starEach (e :: rest) env)) []) Q E) :=
 fun s H => callWith_method1 (h s H) he hp
theorem fn {pos : Pos} {id : String} {a : Value} (h : Go h0 o0 cs (wpAny M A (call (.builtin id) [a]) Q E)) : Go h0 o0 cs (wpAny M A (callWith pos (.builtin id) [a] (backTo pos (starEach [] env)) []) Q E) := fun s H => callWith_method0 (h s H)
theorem gV {pos : Pos} {id : String} {e : Expr} {rest : List Expr} (h : Go h0 o0 cs (wpAny M A (spliced (backTo pos (starEach (e :: rest) env))) (fun vs => wpAny M A (call (.builtin id) vs) Q E) E))
   (he : starEach (e :: rest) env = (false, eval e env) :: starEach rest env := by with_unfolding_all rfl) (hp : (backTo pos (starEach rest env)).any (·.1) = false := by with_unfolding_all rfl) : Go h0 o0 cs (wpAny M A (callWith pos (.builtin id) [] (backTo pos (starEach (e :: rest) env)) []) Q E) :=
 fun s H => callWith_method1 (first := []) (h s H) he hp
theorem ju {pos : Pos} {T : String} {e : Expr} {rest : List Expr} (h : Go h0 o0 cs (wpAny M A (spliced (backTo pos (starEach (e :: rest) env))) (fun vs => wpAny M A (call (.type T) vs) Q E) E))
   (he : starEach (e :: rest) env = (false, eval e env) :: starEach rest env := by with_unfolding_all rfl) (hp : (backTo pos (starEach rest env)).any (·.1) = false := by with_unfolding_all rfl) : Go h0 o0 cs (wpAny M A (callWith pos (.type T) [] (backTo pos (starEach (e :: rest) env)) []) Q E) :=
 fun s H => PyProof.Rows.callWith_type1 (h s H) he hp
theorem c_ty0 {pos : Pos} {T : String} (h : Go h0 o0 cs (wpAny M A (call (.type T) []) Q E)) : Go h0 o0 cs (wpAny M A (callWith pos (.type T) [] (backTo pos (starEach [] env)) []) Q E) := fun s H => callWith_type0 (h s H)
theorem dK {fa : Addr} {e : Expr} {rest : List Expr} {pos : Pos} (h : Go h0 o0 cs (wpAny (model prog w) A (spliced (backTo pos (starEach (e :: rest) env))) (fun vs => CK h0 (wpAny (model prog w) A (call (.ref fa) vs) Q E)) E))
  (B : Base K h0 := by assumption) (hf : pw K fa = true := by kernel_rfl!) (he : starEach (e :: rest) env = (false, eval e env) :: starEach rest env := by with_unfolding_all rfl) : Go h0 o0 cs (wpAny (model prog w) A (callWith pos (.ref fa) [] (backTo pos (starEach (e :: rest) env)) []) Q E) := fun s H => x_callF B hf (h s H) he
theorem fO {pos : Pos} {f : Addr} {a : Value} {e : Expr} {rest : List Expr} (h : Go h0 o0 cs (wpAny (model prog w) A (spliced (backTo pos (starEach (e :: rest) env))) (fun vs => CK h0 (wpAny (model prog w) A (call (.ref f) (a :: vs)) Q E)) E))
   (B : Base K h0 := by assumption) (hk : keepIn K (.ref f) = true := by exact kp_ok (by decide +kernel)) (he : starEach (e :: rest) env = (false, eval e env) :: starEach rest env := by with_unfolding_all rfl) (hp : (backTo pos (starEach rest env)).any (·.1) = false := by with_unfolding_all rfl) : Go h0 o0 cs (wpAny (model prog w) A (callWith pos (.ref f) [a] (backTo pos (starEach (e :: rest) env)) []) Q E) := fun s H => x_callM (first := [a]) B hk (h s H) he hp
theorem kL {pos : Pos} {f : Addr} {a : Value} (h : Go h0 o0 cs (wpAny (model prog w) A (call (.ref f) [a]) Q E)) (B : Base K h0 := by assumption) (hk : keepIn K (.ref f) = true := by exact kp_ok (by decide +kernel)) : Go h0 o0 cs (wpAny (model prog w) A (callWith pos (.ref f) [a] (backTo pos (starEach [] env)) []) Q E) := fun s H => nK (first := [a]) B H hk (h s H)
theorem im {pos : Pos} {bo l : Addr} {id : String} {e : Expr} {rest : List Expr} (hb : Has cs bo (bQ id l)) (h : Go h0 o0 cs (wpAny (model prog w) A (spliced (backTo pos (starEach (e :: rest) env))) (fun vs => CW h0 bo l id (wpAny (model prog w) A (call (.ref bo) vs) Q E)) E))
   (he : starEach (e :: rest) env = (false, eval e env) :: starEach rest env := by with_unfolding_all rfl) (hp : (backTo pos (starEach rest env)).any (·.1) = false := by with_unfolding_all rfl) : Go h0 o0 cs (wpAny (model prog w) A (callWith pos (.ref bo) [] (backTo pos (starEach (e :: rest) env)) []) Q E) := fun s H => x_callW (first := []) H hb (h s H) he hp
theorem k_app {b l : Addr} {xs : List Value} {v : Value} (hb : Has cs b (bQ "list.append" l)) (hp : Put cs l (ay xs) (ay (xs ++ [v])) cs') (hz : xs.length ≤ sizeLine) (h : Go h0 o0 cs' (Q .none)) : Go h0 o0 cs (wpAny (model prog w) A (call (.ref b) [v]) Q E) := fun s H => i2 H hb hp hz h
theorem jm {l : Addr} {xs : List Value} {v : Value} (hp : Put cs l (ay xs) (ay (xs ++ [v])) cs') (hz : xs.length ≤ sizeLine) (h : Go h0 o0 cs' (Q .none)) : Go h0 o0 cs (wpAny (model prog w) A (call (.builtin "list.append") [.ref l, v]) Q E) := fun s H => gn H hp hz h
theorem du {l : Addr} {xs ys : List Value} {v : Value} (hp : Put cs l (ay xs) (ay ys) cs') (e : xs ++ [v] = ys) (hz : xs.length ≤ sizeLine) (h : Go h0 o0 cs' (Q .none)) : Go h0 o0 cs (wpAny (model prog w) A (call (.builtin "list.append") [.ref l, v]) Q E) := fun s H => gn H (e ▸ hp) hz h
variable {x dx C : Addr} {m m' : List (Str × Value)} {name : Str}
theorem mx {v : Value} {expr : Bool} (B : Base K h0) (hx : Has cs x (bg C dx)) (hd : Has cs dx (cAttrs m)) (hv : Look m name v) (ok : dA K C name = true) (hh : handedIn v = true) (h : Go h0 o0 cs (Q v)) : Go h0 o0 cs (wpAny (model prog w) A (getAttr (.ref x) name expr) Q E) :=
 fun s H => nP B H hx hd hv ok hh h
theorem cf {v : Value} {Q : Unit → Shared → Prop} (hx : Has cs x (bg C dx)) (hp : Put cs dx (cAttrs m) (cAttrs m') cs') (hs : SetN m name v m') (h : Go h0 o0 cs' (Q ())) (B : Base K h0 := by assumption) (hz : m.length ≤ 900 := by exact Nat.le_of_ble_eq_true (by kernel_rfl!)) (ok : jV K C name = true := by exact st_ok (by decide +kernel)) : Go h0 o0 cs (wpAny (model prog w) A (setAttr (.ref x) name v) Q E) :=
 fun s H => mK B H hx hp hs hz ok h
theorem g_met {f : Addr} {pl : Sem Bool} {Q : Value × List Value → Shared → Prop} (B : Base K h0) (hx : Has cs x (bg C dx)) (hd : Has cs dx (cAttrs m)) (hv : m.lookup name = none) (ok : gG K C name f = true) (h : Go h0 o0 cs (Q (.ref f, [.ref x]))) : Go h0 o0 cs (wpAny (model prog w) A (getMethod (.ref x) name pl) Q E) :=
 fun s H => x_meth B H hx hd hv ok (h s H)
theorem g_val {v : Value} {pl : Sem Bool} {Q : Value × List Value → Shared → Prop} (B : Base K h0) (hx : Has cs x (bg C dx)) (hd : Has cs dx (cAttrs m)) (hv : Look m name v) (ok : gh K C name = true) (ok2 : dA K C name = true) (hh : handedIn v = true) (h : Go h0 o0 cs (Q (v, []))) :
  Go h0 o0 cs (wpAny (model prog w) A (getMethod (.ref x) name pl) Q E) := fun s H => x_methV B H hx hd hv ok ok2 hh h
theorem dE {id : String} {pl : Sem Bool} {l : Addr} {xs : List Value} {Q : Value × List Value → Shared → Prop} (hl : Has cs l (ay xs)) (h : Go h0 o0 cs (Q (.builtin id, [.ref l]))) (slot : Slot "list" name id := by exact PySem.F.slot_list_append) (hty : typeOf (.builtin id) = pure (.type "method_descriptor") := by exact PySem.F.type_list_append) :
  Go h0 o0 cs (wpAny (model prog w) A (getMethod (.ref l) name pl) Q E) := fun s H => x_lmeth slot hty H hl (h s H)
theorem g_dic {id : String} {pl : Sem Bool} {d : Addr} {kvs : List (Str × Value)} {Q : Value × List Value → Shared → Prop} (slot : Slot "dict" name id) (hty : typeOf (.builtin id) = pure (.type "method_descriptor")) (hd : Has cs d (aM prog w kvs)) (h : Go h0 o0 cs (Q (.builtin id, [.ref d]))) :
  Go h0 o0 cs (wpAny (model prog w) A (getMethod (.ref d) name pl) Q E) := fun s H => x_dmeth slot hty H hd (h s H)
theorem db {fa : Addr} {ar : Args} {m : List (Str × Value)} {R : RP} (B : Base K h0) (hroom : A.depth < recursionLimit)
  (hbind : ∀ s, K.In s.heap → BindsTo s (aK K fa) ar m.reverse)
  (h : ∀ L, Go h0 o0 ((L, cNs m) :: cs) (wpAny (model prog w) (A.deeper (callEnv (aK K fa) L fa)) (execs (aZ K fa) (callEnv (aK K fa) L fa)) (RK R) NoE)) (hf : pI K fa = true := by kernel_rfl!) (hloc : (m.all fun x => (aK K fa).scope.names.lookup x.1 == some .local) = true := by kernel_rfl!) :
  Go h0 o0 cs (codeAny (model prog w) A (.call (.ref fa) ar) R) := fun s H => x_fnB B H hf hroom (hbind s (B.X.keeps H.keep)) hloc fun L s' H' => ad (h L s' H') (fun f s'' q => by cases f <;> exact q) fun _ _ q => q
theorem gz {R : RP} {v : Value} (h : Go h0 o0 cs (R (.ok (.ret v)))) : Go h0 o0 cs (RK R (.ret v)) := h
theorem ia {R : RP} (h : Go h0 o0 cs (R (.ok (.ret .none)))) : Go h0 o0 cs (RK R .next) := h
end
noncomputable def tbV : Option Addr → Value
 | none => .none
 | some T => .ref T
noncomputable def gX (cls : String) (t : Value) (x : Option Addr) (c : Value) : bM := fun o => o.cls = .type cls ∧ ∃ vs : Array Value, o.data = .fields vs ∧ vs.size = 6 ∧ vs[0]? = some t ∧ vs[1]? = some (tbV x) ∧ vs[2]? = some c
noncomputable def cTb : bM := fun o => ∃ ts : Array Value, o.data = .fields ts ∧ 3 < ts.size
noncomputable def cV (e : Addr) (cls : String) (t : Value) (c : Value) : Option Addr → az
 | none => [(e, gX cls t none c)]
 | some T => [(e, gX cls t (some T) c), (T, cTb)]
noncomputable def FrOk (cs : az) (l : List Env) : Prop := ∀ env ∈ l, env.scope.kind ≠ .module ∧ ∃ L m, env.frame = some L ∧ (L, cNs m) ∈ cs
theorem FrOk.nil {cs : az} : FrOk cs [] := fun _ h => nomatch h
theorem FrOk.cons {cs : az} {l : List Env} {L : Addr} {m : List (Str × Value)} (hk : env.scope.kind = .function) (hf : env.frame = some L) (h : Has cs L (cNs m)) (hl : FrOk cs l) : FrOk cs (env :: l) := by
 intro x hx
 rcases List.mem_cons.mp hx with rfl | hx
 ·exact ⟨by rw [hk]; decide, L, m, hf, h.mem⟩
 ·exact hl x hx
theorem FrOk.sub {cs cs' : az} {l : List Env} (h : FrOk cs l) (hs : ∀ p ∈ cs, p ∈ cs') : FrOk cs' l := fun x hx => let ⟨a, L, m, b, c⟩ := h x hx; ⟨a, L, m, b, hs _ c⟩
theorem FrOk.skip {cs X : az} {l : List Env} (h : FrOk cs l) : FrOk (X ++ cs) l := h.sub fun p hp => List.mem_append_right _ hp
theorem FrOk.there {cs : az} {p} {l : List Env} (h : FrOk cs l) : FrOk (p :: cs) l := h.sub fun q hq => am _ hq
theorem oJ {cs : az} (nd : (cs.map Prod.fst).Nodup) : ∀ p ∈ cs, ∀ q ∈ cs, p.1 = q.1 → p = q := by
 induction cs with
 | nil => intro p hp; cases hp
 | cons a r ih =>
  rw [ap, List.nodup_cons] at nd
  intro p hp q hq e
  rcases List.mem_cons.mp hp with hp1 | hp1
  ·rcases List.mem_cons.mp hq with hq1 | hq1
   ·rw [hp1, hq1]
   ·exact absurd (show a.1 ∈ r.map Prod.fst from hp1 ▸ e ▸ aq hq1) nd.1
  ·rcases List.mem_cons.mp hq with hq1 | hq1
   ·exact absurd (show a.1 ∈ r.map Prod.fst from hq1 ▸ e ▸ aq hp1) nd.1
   ·exact ih nd.2 p hp1 q hq1 e
section
variable {cs cs' : az}
theorem St.slots {l : List Env} {h' : Heap} (H : St h0 o0 cs s) (hl : FrOk cs l) (hs : Heap.SlotsOnly (l.filterMap (·.frame)) s.heap h') : St h0 o0 cs { s with heap := h' } := by
 have mem : ∀ b, b ∈ l.filterMap (·.frame) → ∃ m, (b, cNs m) ∈ cs := fun b hb => by
  obtain ⟨env, he, hf⟩ := List.mem_filterMap.mp hb
  obtain ⟨_, L, m, e, c⟩ := hl env he
  rw [e] at hf; cases hf
  exact ⟨m, c⟩
 refine ⟨fun b o e => ?_, fun p hp => ?_, H.new, H.nodup, H.gens, H.os, H.tok, H.flo, H.big, H.g3⟩
 ·rw [← H.keep b o e]
  refine hs.2.1 b fun hb => ?_
  obtain ⟨m, hm⟩ := mem b hb
  have := H.new _ hm
  rw [e] at this; cases this
 ·obtain ⟨o, ho, hc⟩ := H.cell p hp
  by_cases hb : p.1 ∈ l.filterMap (·.frame)
  ·obtain ⟨m, hm⟩ := mem _ hb
   obtain ⟨sl, h2⟩ := hs.2.2 _ o ho
   have e := oJ H.nodup p hp _ hm rfl
   rw [e] at hc ⊢
   exact ⟨_, h2, hc⟩
  ·exact ⟨o, (hs.2.1 _ hb).trans ho, hc⟩
theorem FrOk.frames {l : List Env} (H : St h0 o0 cs s) (hl : FrOk cs l) : s.heap.FunFrames { objs := #[] } l := by
 induction l with
 | nil => trivial
 | cons env r ih =>
  obtain ⟨hk, L, m, hf, hm⟩ := hl env (au)
  obtain ⟨o, ho, es, ep, hd, _⟩ := H.cell _ hm
  exact ⟨hk, ⟨L, o, hf, rfl, ho, fun vs q => by rw [hd] at q; cases q⟩, ih fun x hx => hl x (am _ hx)⟩
end
section
variable {M : Model} {cs cs' : az} {K : Frag} {P : GP} {outer : List Env} {e L : Addr} {cls : String} {t c : Value}
theorem gi {o : Obj} {vs : Array Value} {i : Nat} {v : Value} (hd : o.data = .fields vs) : (Obj.mapFields (·.setIfInBounds i v) o).data = .fields (vs.setIfInBounds i v) := Obj.data_mapFields hd _
theorem jk {X : Option Addr} {Q : Unit → Shared → Prop} (hA : A.frames = some (env :: outer)) (hf : env.frame = some L) (hfr : FrOk cs (env :: outer))
  (h : ∀ T, Go h0 o0 (cV e cls t c (some T) ++ cs) (Q ())) : Go h0 o0 (cV e cls t c X ++ cs) (wpAny M A (noteFrame (.ref e) env) Q E) := by
 have mk : ∀ (head : Value) (hadNext : Bool) (C : az) (y : Option Addr), (∀ p ∈ cs, p ∈ C) → ((head == .none) = true → True) → (∀ s, St h0 o0 ((e, gX cls t y c) :: C) s → wpAny M A (do setField (.ref e) 1 (← EntryCells.newEntry head (← frameOf env) .none (rawInt L) .none (← entryPlaceOf L hadNext))) (fun u s' => ∃ T, St h0 o0 ((T, cTb) :: (e, gX cls t (some T) c) :: C) s') NoE s) := by
  intro head hadNext C y hC _ s H
  have hfr' : FrOk ((e, gX cls t y c) :: C) (env :: outer) := hfr.sub fun p hp => am _ (hC p hp)
  refine aa (wpAny_frameOf_fun hA (hfr'.frames H) hf fun h₁ hs₁ => ?_)
  have H₁ := H.slots hfr' hs₁
  refine aa (wpAny_entryPlaceOf fun pl hpl => ?_)
  unfold EntryCells.newEntry newFields
  refine aa (wpAny_newObj_type ?_ (hpl.sizeOk5 _ _ _ _ _))
  have H₂ := H₁.push (c := cTb) (k := s.toks) (o := { cls := .type "traceback", dict := none, data := .fields ([head, .ref L, .none, rawInt L, .none] ++ (if pl.isEmpty then List.replicate 6 Value.none else pl)).toArray }) ⟨_, rfl, by simp⟩ (ae _)
  obtain ⟨oe, he, hcls, vs, hd, hsz, v0, v1, v2⟩ := H₂.get (.there .here)
  refine wpAny_setField he hd (by rw [hsz]; decide) ?_
  have hd3 := gi (i := 1) (v := .ref h₁.objs.size) hd
  refine ⟨h₁.objs.size, H₂.updS (k := s.toks) (.there .here) ⟨_, Heap.get?_update_self _ he (Obj.isFreed_of_fields hd3), (Obj.cls_mapFields _ _).trans hcls, _, hd3, ?_, ?_, ?_, ?_⟩ (Heap.SameBut.update ..) (ae _)⟩
  ·simp [hsz]
  ·rw [Array.getElem?_setIfInBounds_ne (by decide)]; exact v0
  ·rw [Array.getElem?_setIfInBounds_self_of_lt (by rw [hsz]; decide)]; rfl
  ·rw [Array.getElem?_setIfInBounds_ne (by decide)]; exact v2
 intro s H
 unfold noteFrame
 simp only [hf]
 cases X with
 | none =>
  obtain ⟨oe, he, hcls, vs, hd, hsz, v0, v1, v2⟩ := H.get .here
  refine aa (wpAny_field he hd v1 ?_)
  rw [if_neg (by decide)]
  refine ad (mk .none (Value.none != .none) cs none (fun p hp => hp) (fun _ => trivial) s H) (fun _ s' ⟨T, H'⟩ => h T s' (H'.perm (List.Perm.swap _ _ _))) fun _ _ q => q.elim
 | some T0 =>
  obtain ⟨oe, he, hcls, vs, hd, hsz, v0, v1, v2⟩ := H.get .here
  obtain ⟨oT, hT, ts, hdT, hsT⟩ := H.get (.there .here)
  refine aa (wpAny_field he hd v1 ?_)
  rw [if_pos (show (tbV (some T0) != Value.none) = true from by simp [tbV])]
  obtain ⟨x3, h3⟩ : ∃ x, ts[3]? = some x := ⟨_, Array.getElem?_eq_getElem hsT⟩
  refine aa (wpAny_field hT hdT h3 ?_)
  by_cases hq : (x3 == rawInt L) = true
  ·rw [if_pos hq]; exact ab (h T0 s H)
  ·rw [if_neg hq]
   refine aa (wpAny_setField hT hdT hsT ?_)
   have hd3 := gi (i := 3) (v := .none) hdT
   have H₂ := H.updS (k := s.toks) (c' := cTb) (.there .here) ⟨_, Heap.get?_update_self (Obj.mapFields (·.setIfInBounds 3 Value.none)) hT (Obj.isFreed_of_fields hd3), _, hd3, by simp [hsT]⟩ (Heap.SameBut.update ..) (ae _)
   exact ad (mk (.ref T0) (Value.ref T0 != .none) ((T0, cTb) :: cs) (some T0) (fun p hp => am _ hp) (fun _ => trivial) _ H₂) (fun _ s' ⟨T, H'⟩ => h T s' ((H'.perm (List.Perm.swap _ _ _)).sub (by show List.Sublist ((e, _) :: (T, _) :: cs) ((e, _) :: (T, _) :: (T0, _) :: cs); exact ((ak _ _).cons_cons _).cons_cons _))) fun _ _ q => q.elim
theorem iL {X : Option Addr} {f : Option Addr} {Q : Unit → Shared → Prop} (h : Go h0 o0 (cV e cls t c X ++ cs) (Q ())) : Go h0 o0 (cV e cls t c X ++ cs) (wpAny M A (setFlight (.ref e) f) Q E) := by
 intro s H
 unfold setFlight
 cases X with
 | none =>
  obtain ⟨oe, he, hcls, vs, hd, hsz, v0, v1, v2⟩ := H.get .here
  refine aa (wpAny_field he hd v1 ?_)
  rw [if_neg (by decide)]
  exact ab (h s H)
 | some T0 =>
  obtain ⟨oe, he, hcls, vs, hd, hsz, v0, v1, v2⟩ := H.get .here
  obtain ⟨oT, hT, ts, hdT, hsT⟩ := H.get (.there .here)
  refine aa (wpAny_field he hd v1 ?_)
  rw [if_pos (show (tbV (some T0) != Value.none) = true from by simp [tbV])]
  refine wpAny_setField hT hdT hsT ?_
  have hd3 := gi (i := 3) (v := f.elim .none fun f => rawInt f) hdT
  exact h _ (H.updS (k := s.toks) (c' := cTb) (.there .here) ⟨_, Heap.get?_update_self (Obj.mapFields (·.setIfInBounds 3 (f.elim .none fun f => rawInt f))) hT (Obj.isFreed_of_fields hd3), _, hd3, by simp [hsT]⟩ (Heap.SameBut.update ..) (ae _))
noncomputable def jA (M : Model) (A : Around) (env : Env) (R : RP) : Value → Shared → Prop := fun x => wpAny M A (leaving env x) (fun _ => R (.error x)) (fun y => R (.error y))
theorem cc {X : Option Addr} {R : RP} (hA : A.frames = some (env :: outer)) (hf : env.frame = some L) (hfr : FrOk cs (env :: outer))
  (h : ∀ T, Go h0 o0 (cV e cls t c (some T) ++ cs) (R (.error (.ref e)))) : Go h0 o0 (cV e cls t c X ++ cs) (jA M A env R (.ref e)) :=
 fun s H => aa (jk hA hf hfr (fun T => iL (h T)) s H)
theorem cB {fa : Addr} {ar : Args} {m : List (Str × Value)} {R : RP} (B : Base K h0) (hroom : A.depth < recursionLimit)
  (hbind : ∀ s, K.In s.heap → BindsTo s (aK K fa) ar m.reverse)
  (h : ∀ L, Go h0 o0 ((L, cNs m) :: cs) (wpAny (model prog w) (A.deeper (callEnv (aK K fa) L fa)) (execs (aZ K fa) (callEnv (aK K fa) L fa)) (RK R) (jA (model prog w) (A.deeper (callEnv (aK K fa) L fa)) (callEnv (aK K fa) L fa) R))) (hf : pI K fa = true := by kernel_rfl!) (hloc : (m.all fun x => (aK K fa).scope.names.lookup x.1 == some .local) = true := by kernel_rfl!) :
  Go h0 o0 cs (codeAny (model prog w) A (.call (.ref fa) ar) R) := by
 intro s H
 unfold pI at hf
 split at hf
 ·rename_i c d fd sl ho
  simp only [Bool.and_eq_true, Bool.not_eq_true', beq_iff_eq] at hf
  obtain ⟨⟨⟨⟨⟨h1, h2⟩, h3⟩, h4⟩, h5⟩, h6⟩ := hf
  have e : aK K fa = fd := by unfold aK; rw [ho]
  have eb : fd.body = .stmts (aZ K fa) := by
   unfold aZ; rw [e]
   cases hb : fd.body with
   | stmts b => rfl
   | expr _ => rw [hb] at h6; cases h6
  have hbind := hbind s (B.X.keeps H.keep)
  rw [e] at hbind hloc h
  refine codeAny_call_def (fd := fd) (body := aZ K fa) (binds := m.reverse) hroom (H.keep _ _ (B.X _ _ ho)) rfl (B.lim.keeps H.keep) ((codeRec_of B.X h1).keeps H.keep) eb hbind (fun x hx => ?_) (fun x hx => ?_) (fun h₁ hns hk₁ => ?_) h2 h3 h4
  ·simpa using List.all_eq_true.mp h5 x hx
  ·simpa using List.all_eq_true.mp hloc x (List.mem_reverse.mp hx)
  ·rw [List.reverse_reverse] at hns
   exact ad (h s.heap.objs.size _ (H.more (ae _) (dD hns fun _ _ q => q) hk₁ (Nat.le_add_right _ _))) (fun f s' q => by cases f <;> exact q) fun _ _ q => q
 ·cases hf
theorem jl {α : Type} {msg : String} {Q : α → Shared → Prop} (hp : PlainExc cls) (hh : A.handled = none) (hm : (msg : Str).length ≤ sizeLine) (h : ∀ e t, Go h0 o0 (cV e cls t .none none ++ cs) (E (.ref e))) : Go h0 o0 cs (wpAny M A (raiseErrorMade cls msg : Sem α) Q E) := by
 intro s H
 unfold raiseErrorMade
 refine aa (wpAny_mkStr (aa ?_) hm)
 unfold newExc newTuple
 refine aa (wpAny_newObj_type ?_)
 refine aa (m := firstArgMember _ _) (wpAny_of_eq (a := Value.none) (by simp only [firstArgMember, hp.first]; rfl) ?_)
 rw [hp.own]
 refine wpAny_newObj_type ?_
 refine wpAny_raiseNew_none hh ?_
 exact h _ _ _ (((H.toks (k := s.toks + 1) (by lia)).grow (k := s.toks + 1) (fun b o q => Heap.get?_push_of_some _ q) (ae _)).push (k := s.toks + 1) ⟨rfl, _, rfl, rfl, rfl, rfl, rfl⟩ (ae _))
structure lT (T : String) : Prop where
 c : typeLookup (.type T) "__contains__" = pure none
 i : typeLookup (.type T) "__iter__" = pure none
 g : typeLookup (.type T) "__getitem__" = pure none
 n : (Value.type T == Value.type "builtin_function_or_method") = false
 m1 : ((toString "'" ++ toString (shownName T) ++ toString "' object is not iterable" : String) : Str).length ≤ sizeLine
 m2 : ((toString "argument of type '" ++ toString (shownName T) ++ toString "' is not iterable" : String) : Str).length ≤ sizeLine
theorem ln : lT "int" := ⟨by rw [typeLookup_type, builtinLookup_eq_fast]; kernel_rfl, by rw [typeLookup_type, builtinLookup_eq_fast]; kernel_rfl, by rw [typeLookup_type, builtinLookup_eq_fast]; kernel_rfl, by decide, Nat.le_of_ble_eq_true (by kernel_rfl!), Nat.le_of_ble_eq_true (by kernel_rfl!)⟩
theorem j9 : lT "NoneType" := ⟨by rw [typeLookup_type, builtinLookup_eq_fast]; kernel_rfl, by rw [typeLookup_type, builtinLookup_eq_fast]; kernel_rfl, by rw [typeLookup_type, builtinLookup_eq_fast]; kernel_rfl, by decide, Nat.le_of_ble_eq_true (by kernel_rfl!), Nat.le_of_ble_eq_true (by kernel_rfl!)⟩
theorem ph {v : Value} {x : Str} {u : Tok} {T : String} {Q : VP} (F : lT T) (hT : ∀ s : Shared, s.TypeIs v T) (hv : stdlibNamesSay? v (.str x u) = none) (hh : A.handled = none) (h : ∀ e t, Go h0 o0 (cV e "TypeError" t .none none ++ cs) (E (.ref e))) :
  Go h0 o0 cs (wpAny M A (compareOp .In (.str x u) v) Q E) := by
 intro s H
 have sp : ∀ (n : Str) (r : Option Value) (Q : Option Value → Shared → Prop) (E : VP) (s : Shared), typeLookup (.type T) n = pure r → Q r s → wpAny M A (specialOf v n) Q E s := fun n r Q E s e q => by
  unfold specialOf
  exact aa (wpAny_typeOf (hT s) (wpAny_of_eq e q))
 show wpAny M A (do return .bool (← contains v (.str x u))) Q E s
 unfold contains
 refine aa (aw ?_)
 rw [hv]
 refine aa (sp _ _ _ _ _ F.c ?_)
 rw [if_neg (by decide)]
 refine aa ?_
 unfold callSpecialUnlessNone?
 refine aa (sp _ _ _ _ _ F.c (ab ?_))
 refine aa (wpAny_rule ?_)
 refine aa (wpAny_tryCatch ?_)
 unfold pyIter
 refine aa (sp _ _ _ _ _ F.i ?_)
 refine aa (sp _ _ _ _ _ F.g ?_)
 refine aa (wpAny_rule ?_)
 refine aa (wpAny_typeNameOf' (hT _) F.n ?_)
 refine jl plainExc_TypeError hh ?_ (fun e0 t0 => ?_) s H
 ·exact F.m1
 intro s H
 obtain ⟨oe, he, hcls, _⟩ := H.get .here
 refine aa (?_)
 unfold isInstance
 refine aa (wpAny_typeOf (T := "TypeError") ⟨oe, he, hcls⟩ ?_)
 refine wpAny_of_eq (a := true) (by rw [isSubtype_type]; kernel_rfl) ?_
 rw [if_pos rfl]
 refine aa (wpAny_typeNameOf' (hT _) F.n ?_)
 refine jl plainExc_TypeError hh ?_ (fun e1 t1 => ?_) s H
 ·exact F.m2
 exact fun s H => h e1 t1 s (H.sub (List.Sublist.cons_cons _ (ak _ _)))
theorem slot_bytes_contains : Slot "bytes" "__contains__" "bytes.__contains__" :=
 .of (owner := "bytes") (n := "__contains__") (by rw [typeLookup_type, builtinLookup_eq_fast]; kernel_rfl) (by decide +kernel) (by decide +kernel) (by decide +kernel)
  (by first | exact .inl (by decide +kernel) | exact .inr (by decide +kernel)) (by rw [isSubtype_type]; kernel_rfl)
theorem ez (a b : Value) : argsOk "bytes.__contains__" ⟨[a, b], []⟩ := by
 unfold argsOk; rw [signature?_of (id := "bytes.__contains__") (n := ['_', '_', 's', 'n', 'i', 'a', 't', 'n', 'o', 'c', '_', '_']) (o := ['s', 'e', 't', 'y', 'b']) (by kernel_rfl) FB.owner_bytes]; kernel_rfl
theorem d1 : entryFor table "bytes.__contains__" = some Builtin.«bytes.__contains__» := entryFor_of_tree (by kernel_rfl)
theorem fp (b : Array UInt8) (t u : Tok) (x : Str) : Builtin.«bytes.__contains__» ⟨[.bytes b t, .str x u], []⟩ = (do PySem.ret (.bool (← Builtin.Bytes.containsIn "bytes.__contains__" (.bytes b t) (.str x u)))) := by kernel_rfl
theorem i8 : typeLookup (.type "str") "__buffer__" = pure none := by rw [typeLookup_type, builtinLookup_eq_fast]; kernel_rfl
theorem jS : typeLookup (.type "str") "__index__" = pure none := by rw [typeLookup_type, builtinLookup_eq_fast]; kernel_rfl
theorem k_inBy {b : Array UInt8} {x : Str} {u t0 : Tok} {Q : VP} (hh : A.handled = none) (h : ∀ e t, Go h0 o0 (cV e "TypeError" t .none none ++ cs) (E (.ref e))) :
  Go h0 o0 cs (wpAny (model prog w) A (compareOp .In (.str x u) (.bytes b t0)) Q E) := by
 intro s H
 show wpAny _ A (do return .bool (← contains (.bytes b t0) (.str x u))) Q E s
 unfold contains
 refine aa (aw ?_)
 rw [show stdlibNamesSay? (.bytes b t0) (.str x u) = none from by kernel_rfl]
 refine aa (wpAny_specialOf (typeIs_bytes s b t0) slot_bytes_contains.lookup ?_)
 rw [if_neg (by decide)]
 refine aa ?_
 unfold callSpecialUnlessNone?
 with_reducible refine aa (wpAny_specialOf (typeIs_bytes s b t0) slot_bytes_contains.lookup ?_)
 simp only [slot_bytes_contains.bind]
 refine aw (aa (ab ?_))
 rw [if_neg (by simp [builtin_beq_none])]
 refine aa ?_
 refine wpAny_call_entry slot_bytes_contains (typeIs_bytes s b t0) d1 ?_ (ez _ _)
 rw [show (Value.bytes b t0 :: [].append [Value.str x u]) = [.bytes b t0, .str x u] from rfl, fp]
 with_reducible refine aa ?_
 unfold Builtin.Bytes.containsIn
 with_reducible refine aa (wpAny_attempt ?_)
 unfold asIndex
 rw [show asInt? (.str x u) = pure none from rfl, pure_bind]
 unfold callSpecial?
 with_reducible refine aa (aa (wpAny_specialOf (typeIs_str s x u) jS (ab ?_)))
 rw [show typeNameOfCut 200 (.str x u) = pure "str" from by kernel_rfl, pure_bind]
 have hh1 : A.in1.handled = none := hh
 show wpAny _ _ (raiseErrorMade "TypeError" _) _ _ _
 refine jl plainExc_TypeError hh1 ?_ (fun e0 t0 => ?_) s H
 ·exact Nat.le_of_ble_eq_true (by kernel_rfl!)
 intro s H
 rw [KBy.buffer_eq, pure_bind]
 unfold Builtin.Bytes.buffer?
 have hsp : specialOf (.str x u) "__buffer__" = pure none := by
  show typeLookup (.type "str") "__buffer__" = pure none
  exact i8
 show wpAny _ _ (do let __do_lift ← _; _) _ _ _
 rw [hsp]
 simp only [pure_bind]
 with_reducible refine aa (wpAny_rule ?_)
 rw [show PySem.typeNameOf (.str x u) = pure "str" from by kernel_rfl, pure_bind]
 refine jl plainExc_TypeError hh1 ?_ (fun e1 t1 => ?_) s H
 ·exact Nat.le_of_ble_eq_true (by kernel_rfl!)
 exact fun s H => h e1 t1 s (H.sub (List.Sublist.cons_cons _ (ak _ _)))
end
noncomputable def iY (v : Value) (r : Str) : Prop := ∀ (prog : Program) (w : World) (A : Around) (E : VP) (s : Shared) (Q : VP), Q (.str r s.toks) { s with toks := s.toks + 1 } → wpAny (model prog w) A (pyReprObj v) Q E s
theorem dR {T id : String} {B : Builtin} {v : Value} {x : Str} (hT : ∀ s : Shared, s.TypeIs v T) (slot : Slot T "__repr__" id)
  (entry : entryFor table id = some B) (args : argsOk id ⟨[v], []⟩) (g : Gives (B ⟨[v], []⟩) (.str x)) (hv : [v].any Value.onHeap = false) (hx : x.length ≤ sizeLine) : iY v x :=
 fun prog w A E s Q h => wpAny_pyReprObj_gives (hT s) slot entry args g h hv hx
theorem mX {i : Int} {t : Tok} (h : i.natAbs.log2 < 1920) : iY (.int i t) (ofString (toString i)) := dR (fun s => typeIs_int s i t) F.slot_int_repr F.entry_int_repr (F.args_int_repr_1 _) (gives_int_repr i t h) rfl (int_text_fits h)
theorem lj : iY .none (ofString "None") := dR typeIs_none F.slot_NoneType_repr F.entry_NoneType_repr (F.args_NoneType_repr_1 _) gives_none_repr rfl (by decide +kernel)
theorem f7 : Slot "bytes" "__repr__" "bytes.__repr__" :=
 .of (owner := "bytes") (n := "__repr__") (by rw [typeLookup_type, builtinLookup_eq_fast]; kernel_rfl) (by decide +kernel) (by decide +kernel) (by decide +kernel)
  (by first | exact .inl (by decide +kernel) | exact .inr (by decide +kernel)) (by rw [isSubtype_type]; kernel_rfl)
theorem fK : entryFor table "bytes.__repr__" = some Builtin.«bytes.__repr__» := entryFor_of_tree (by kernel_rfl)
theorem ge (a : Value) : argsOk "bytes.__repr__" ⟨[a], []⟩ := by
 unfold argsOk; rw [signature?_of (id := "bytes.__repr__") (n := ['_', '_', 'r', 'p', 'e', 'r', '_', '_']) (o := ['s', 'e', 't', 'y', 'b']) (by kernel_rfl) FB.owner_bytes]; kernel_rfl
theorem fG {b : Array UInt8} {t : Tok} {x : Str} (h1 : (Builtin.Bytes.tooLong (4 * b.size + 3 + 0) && Builtin.Bytes.tooLong (Builtin.Bytes.literalLength b false + 0)) = false) (h2 : Builtin.Bytes.literal b false = x) : Gives (Builtin.«bytes.__repr__» ⟨[.bytes b t], []⟩) (.str x) := by
 subst h2
 refine .of_eq ?_
 have e : Builtin.«bytes.__repr__» ⟨[.bytes b t], []⟩ = (do retStr (← Builtin.Bytes.literalAsked b)) := by kernel_rfl
 rw [e]
 unfold Builtin.Bytes.literalAsked
 rw [h1]
 rfl
theorem jZ {b : Array UInt8} {t : Tok} {x : Str} (h1 : (Builtin.Bytes.tooLong (4 * b.size + 3 + 0) && Builtin.Bytes.tooLong (Builtin.Bytes.literalLength b false + 0)) = false) (h2 : Builtin.Bytes.literal b false = x) (hx : x.length ≤ sizeLine) : iY (.bytes b t) x :=
 dR (fun s => typeIs_bytes s b t) f7 fK (ge _) (fG h1 h2) rfl hx
section
variable {M : Model} {cs cs' : az} {Q : VP}
noncomputable def FR (M : Model) (A : Around) (Q : VP) (E : VP) : Value → Shared → Prop := fun v => wpAny M A (pyReprObj v) (fun r => wpAny M A (formatField r Str.empty) Q E) E
noncomputable def FS (M : Model) (A : Around) (Q : VP) (E : VP) : Value → Shared → Prop := fun v => wpAny M A (convS v) (fun r => wpAny M A (formatField r Str.empty) Q E) E
theorem e_fvr {value : Expr} {pos : Pos} (h : Go h0 o0 cs (wpAny (model prog w) A (eval value env) (FR (model prog w) A Q E) E)) : Go h0 o0 cs (wpAny (model prog w) A (eval (.FormattedValue value 114 none pos) env) Q E) := fun s H => wpAny_FormattedValue_repr (h s H)
theorem e_fvs {value : Expr} {pos : Pos} (h : Go h0 o0 cs (wpAny (model prog w) A (eval value env) (FS (model prog w) A Q E) E)) : Go h0 o0 cs (wpAny (model prog w) A (eval (.FormattedValue value 115 none pos) env) Q E) := fun s H => wpAny_FormattedValue_s (h s H)
theorem f_rep {v : Value} {r : Str} (hv : iY v r) (hz : r.length ≤ sizeLine) (h : ∀ t, Go h0 o0 cs (Q (.str r t))) : Go h0 o0 cs (FR (model prog w) A Q E v) :=
 fun s H => hv _ _ _ _ _ _ (wpAny_formatField_str (h _ _ (H.toks (Nat.le_succ _))) (h _ _ ((H.toks (Nat.le_succ _)).toks (Nat.le_succ _))) hz)
theorem f_st {x : Str} {t : Tok} (hz : x.length ≤ sizeLine) (h : ∀ t, Go h0 o0 cs (Q (.str x t))) : Go h0 o0 cs (FS (model prog w) A Q E (.str x t)) :=
 fun s H => wpAny_habitSame_str (wpAny_formatField_str (h _ _ H) (h _ _ (H.toks (Nat.le_succ _))) hz) (wpAny_formatField_str (h _ _ (H.toks (Nat.le_succ _))) (h _ _ ((H.toks (Nat.le_succ _)).toks (Nat.le_succ _))) hz) hz
end
noncomputable def bN (r ty : Str) : Str := Str.empty ++ ofString "cannot serialize " ++ r ++ ofString " (type " ++ ty ++ ofString ")"
noncomputable def RsK (cls : String) (M : Model) (A : Around) (E : VP) (v : Value) (s : Shared) : Prop :=
 ∃ e t, v = .ref e ∧ s.heap.get? e = some { cls := .type cls, data := .fields #[.ref t, .none, .none, .none, .bool false, .none] } ∧ wpAny M A (raiseNew (.ref e) : Sem Flow) (fun _ _ => False) E s
section
variable {M : Model} {cs cs' : az} {K : Frag} {P : GP} {outer : List Env} {e L : Addr} {cls : String} {t c : Value}
theorem mc (F : ExcRaiseFacts cls) {x : Expr} {pos : Pos} {Q : FP} (h : Go h0 o0 cs (wpAny M A (eval x env) (RsK cls M A E) E)) : Go h0 o0 cs (wpAny M A (exec (.Raise (some x) none pos) env) Q E) := by
 intro s H
 have main : ∀ {y : Sem Value} {s : Shared}, wpAny M A y (RsK cls M A E) E s → wpAny M A (raiseStmt env (some y) none) Q E s := by
  intro y s h
  unfold raiseStmt
  refine aa (ad h (fun v s₁ h₁ => ?_) fun _ _ x => x)
  obtain ⟨e, t, rfl, he, hE⟩ := h₁
  obtain ⟨hp, g, d, tk, os⟩ := s₁
  have hsub := F.isExc
  have hmeta := F.plainMeta
  repeat (first | refine wpAny_loadPart he ?_ | wp_step)
  exact ad hE (fun _ _ q => q.elim) fun _ _ q => q
 rw [arm_exec_Raise]
 first
  | exact aa (wpAny_standAt (main (aa (ad (h s H) (fun v s₁ h₁ => aa (wpAny_standAt (ab h₁))) fun _ _ x => x))))
  | (simp only [evalOpt, Option.map]; exact aa (wpAny_standAt (main (aa (ad (h s H) (fun v s₁ h₁ => aa (wpAny_standAt (ab h₁))) fun _ _ x => x)))))
  | (show wpAny M A (do standAt pos; raiseStmt env (some (do let v ← eval x env; standAt pos; pure v)) none) Q E s; exact aa (wpAny_standAt (main (aa (ad (h s H) (fun v s₁ h₁ => aa (wpAny_standAt (ab h₁))) fun _ _ x => x)))))
theorem nD {newId initId : String} (F : ExcCallFacts cls newId initId) {rest : List Value} {Q : Fin → Shared → Prop} {hp : Heap} {g : Array GenState} {d : Drawn} {tk : Nat} {os : OsState}
  (h : ∀ h', (∀ b o, hp.get? b = some o → h'.get? b = some o) → h'.get? (hp.objs.size + 1) = some { cls := .type cls, data := .fields #[.ref (hp.objs.size + 2), .none, .none, .none, .bool false, .none] } →
   h'.get? (hp.objs.size + 2) = some { cls := .type "tuple", data := .seq rest.toArray } → Q (.done (.ret (.ref (hp.objs.size + 1)))) ⟨h', g, d, tk, os⟩) (hrest : rest.length ≤ sizeLine) :
  wpAny (model prog w) A (Builtin.«type.__call__» ⟨.type cls :: rest, []⟩) Q E ⟨hp, g, d, tk, os⟩ := by
 have hnt := F.notType
 have hcan := F.canMake
 have hchk := F.noVector ⟨rest, []⟩
 obtain ⟨m, hmro, hne⟩ := F.mro
 have hmade := F.madeBy
 wp_walk
 refine codeAny_call_builtin_code (Code.quiet_builtin _ F.quiet) (wpAny_of_eq (F.newOk rest) ?_)
 refine codeAny_exc_new F.toExcNewFacts ?_ hrest
 show wpAny _ _ _ _ _ _
 have hget : ((hp.push { cls := .type "tuple", data := .seq rest.toArray }).push
   { cls := .type cls, data := .fields #[.ref hp.objs.size, .none, .none, .none, .bool false, .none] }).get? (hp.objs.size + 1) = some
   { cls := .type cls, data := .fields #[.ref hp.objs.size, .none, .none, .none, .bool false, .none] } := by heap_get
 refine aa (wpAny_isInstance ⟨_, hget, rfl⟩ F.sub ?_)
 wp_step
 refine aa (aw (wpAny_callSpecial?_slot ⟨_, hget, rfl⟩ F.init (wpAny_call (codeAny_call_builtin F.init.plain F.initEntry (wpAny_check_exc_init F ⟨_, hget, rfl⟩ ?_)))))
 wp_walk
 refine h _ (fun b o hb => ?_) ?_ ?_
 ·rw [Heap.get?_update_other _ _ (Nat.ne_of_gt (Nat.lt_succ_of_lt (Heap.lt_size hb)))]
  exact Heap.get?_push_of_some _ (Heap.get?_push_of_some _ (Heap.get?_push_of_some _ hb))
 ·rw [Heap.get?_update_self _ (Heap.get?_push_of_some _ hget) rfl]
  simp only [Heap.size_push]
  rfl
 ·rw [Heap.get?_update_other _ _ (show hp.objs.size + 1 ≠ hp.objs.size + 2 by lia)]
  exact Heap.get?_push_at (by simp only [Heap.size_push]) rfl
theorem n_exc {newId initId : String} (F : ExcCallFacts cls newId initId) {args : List Value} (hz : args.length ≤ 100)
  (h : ∀ e t, Go h0 o0 (cV e cls (.ref t) .none none ++ ((t, a8 args) :: cs)) (wpAny (model prog w) A (raiseNew (.ref e) : Sem Flow) (fun _ _ => False) E)) : Go h0 o0 cs (wpAny (model prog w) A (call (.type cls) args) (RsK cls (model prog w) A E) E) := by
 intro s H
 obtain ⟨hp, g, d, tk, os⟩ := s
 refine wpAny_call (codeAny_of_tree ?_)
 show wpAny _ _ (again (.builtin "type.__call__" ⟨.type cls :: args, []⟩)) _ _ _
 refine ab ⟨Code.quiet_builtin _ (by decide +kernel), codeAny_builtin entry_typeCall (nD F (fun h' hk he ht => ?_) (by rw [af]; lia))⟩
 refine ⟨_, _, rfl, he, h (hp.objs.size + 1) (hp.objs.size + 2) _ ?_⟩
 refine H.moreN (k := tk) [(hp.objs.size + 1, gX cls (.ref (hp.objs.size + 2)) none .none), (hp.objs.size + 2, a8 args)] (fun q hq => ?_) (by simp) hk (ae _)
 rcases List.mem_cons.mp hq with rfl | hq
 ·exact ⟨Nat.le_add_right _ _, _, he, rfl, _, rfl, rfl, rfl, rfl, rfl⟩
 ·rw [List.mem_singleton.mp hq]
  exact ⟨Nat.le_add_right _ _, _, ht, 0, rfl⟩
theorem rn_none {α : Type} {Q : α → Shared → Prop} (hh : A.handled = none) (h : Go h0 o0 cs (E (.ref e))) : Go h0 o0 cs (wpAny M A (raiseNew (.ref e) : Sem α) Q E) := fun s H => wpAny_raiseNew_none hh (h s H)
theorem ij : entryFor table "proto.unchain" = some Builtin.«proto.unchain» := entryFor_of_tree (by kernel_rfl)
theorem rn_some {α : Type} {Q : α → Shared → Prop} {e1 : Addr} {cls1 : String} {t1 : Value} {x1 : Option Addr} (hh : A.handled = some (.ref e1)) (h1 : Has cs e1 (gX cls1 t1 x1 .none))
  (h : Go h0 o0 (cV e cls t (.ref e1) none ++ cs) (E (.ref e))) : Go h0 o0 (cV e cls t .none none ++ cs) (wpAny (model prog w) A (raiseNew (.ref e) : Sem α) Q E) := by
 intro s H
 have hne : e1 ≠ e := (H.ne .here h1).symm
 unfold raiseNew
 refine aa (wpAny_handled ?_)
 rw [hh]
 show wpAny _ _ (do if (Value.ref e1 != Value.ref e) = true then _ else _) _ _ s
 rw [if_pos (by simpa using hne)]
 obtain ⟨o1, ho1, hc1, vs1, hd1, hz1, v10, v11, v12⟩ := H.get (.there h1)
 refine aa (aw (wpAny_runValue (codeAny_builtin ij ?_)))
 show wpAny _ _ (do let context ← field (.ref e1) 2; _) _ _ s
 refine aa (wpAny_field ho1 hd1 v12 ?_)
 rw [if_pos (by decide)]
 refine ab ?_
 obtain ⟨oe, he, hc, vs, hd, hz, v0, v1, v2⟩ := H.get .here
 have hd3 := gi (i := 2) (v := .ref e1) hd
 refine aa (show wpAny _ _ (setField (.ref e) 2 (.ref e1)) _ _ _ from wpAny_setField he hd (by rw [hz]; decide) ?_)
 refine wpAny_throw (h _ (H.updS (k := s.toks) .here ⟨_, Heap.get?_update_self _ he (Obj.isFreed_of_fields hd3), (Obj.cls_mapFields _ _).trans hc, _, hd3, ?_, ?_, ?_, ?_⟩ (Heap.SameBut.update ..) (ae _)))
 ·simp [hz]
 ·rw [Array.getElem?_setIfInBounds_ne (by decide)]; exact v0
 ·rw [Array.getElem?_setIfInBounds_ne (by decide)]; exact v1
 ·rw [Array.getElem?_setIfInBounds_self_of_lt (by rw [hz]; decide)]
theorem k_ty {v : Value} {T : String} {Q : VP} (hT : ∀ s : Shared, s.TypeIs v T) (hn : (Value.type T == Value.type "builtin_function_or_method") = false) (h : Go h0 o0 cs (Q (.type T))) : Go h0 o0 cs (wpAny (model prog w) A (call (.type "type") [v]) Q E) :=
 fun s H => call_type_of (hT s) hn (h s H)
theorem k_tn {T q : String} {expr : Bool} {Q : VP} (B : Base K h0) (ht : kitMeta T = true) (hs : Manifest.isStub T = false)
  (e : findCls K (.type T) (.type "type") "__name__" = some (.get (.builtin "getset_descriptor.__get__") (.builtin "type.__name__") (.type T) (.type "type"))) (hq : ktynFast T = q) (hz : (ofString q).length ≤ 1000)
  (h : ∀ tk, Go h0 o0 cs (Q (.str (ofString q) tk))) : Go h0 o0 cs (wpAny (model prog w) A (getAttr (.type T) "__name__" expr) Q E) := by
 intro s H
 have X := B.X.keeps H.keep
 have hstub : opaqueClassAbove (.type T) = pure none := by unfold opaqueClassAbove; dsimp only; rw [hs]; rfl
 have L0 : Looks (model prog w) s.heap (typeOf (.type T)) (.type "type") := Looks.of_pure (kitMeta_of ht)
 have LO : Looks (model prog w) s.heap (opaqueClassAbove (.type T)) none := Looks.of_pure hstub
 have hg : findIn K (.type "type") "__getattribute__" = some (some (.builtin "type.__getattribute__")) := type_tga
 refine cls_open X LO L0 hg (looks_hook X (r := none) (by rfl)) (by show subIn K _ _ = _; rfl) e ?_
 show wpAny _ _ (do ret (← holding [Value.builtin "type.__name__"] (call (.builtin "getset_descriptor.__get__") [.builtin "type.__name__", .type T, .type "type"]))) _ _ _
 refine aa (aw (wpAny_call (ktyn_get (s := { s with toks := s.toks + 1 }) (kitMeta_of ht) hq (Nat.le_trans hz (by rw [af]; decide)) ?_)))
 exact ab (handed_on rfl (h _ _ (H.toks (by show s.toks ≤ s.toks + 1 + 1; lia))))
theorem e_atA {value : Expr} {attr : Str} {pos : Pos} {Q : VP} (h : Go h0 o0 cs (wpAny (model prog w) A (eval value env) (fun o => wpAny (model prog w) A (getAttr o attr true) Q E) E))
  (he : eval (.Attribute value attr pos) env = (do
   let o ← eval value env
   standAt pos.atName
   let r ← holding [o] (getAttr o attr true)
   letTemporaryGo value o r
   pure r)) : Go h0 o0 cs (wpAny (model prog w) A (eval (.Attribute value attr pos) env) Q E) := fun s H => Attribute_any_ (h s H) he
noncomputable def TrK (M : Model) (A : Around) (env : Env) (hs : List ExceptHandler) (Q : FP) (E : VP) : Value → Shared → Prop :=
 fun x => wpAny M A (noteFrame x env) (fun _ => wpAny M A (setFlight x none) (fun _ => wpAny M A (handleBy x env hs) Q E) E) E
theorem lg {body : List Stmt} {x : ExceptHandler} {hs : List ExceptHandler} {pos : Pos} {Q : FP} (h : Go h0 o0 cs (wpAny (model prog w) A (execs body env) Q (TrK (model prog w) A env (x :: hs) Q E))) :
  Go h0 o0 cs (wpAny (model prog w) A (exec (.Try body (x :: hs) [] [] pos) env) Q E) :=
 fun s H => wpAny_Try_except (ad (h s H) (fun f s₁ q => by cases f <;> first | exact q | exact wpAny_execs_nil q) fun _ _ q => q)
theorem nV {X : Option Addr} {hs : List ExceptHandler} {Q : FP} (hA : A.frames = some (env :: outer)) (hf : env.frame = some L) (hfr : FrOk cs (env :: outer))
  (h : ∀ T, Go h0 o0 (cV e cls t c (some T) ++ cs) (wpAny M A (handleBy (.ref e) env hs) Q E)) : Go h0 o0 (cV e cls t c X ++ cs) (TrK M A env hs Q E (.ref e)) :=
 jk hA hf hfr fun T => iL (h T)
noncomputable def OwK (M : Model) (A : Around) (env : Env) (h : Value) (E : VP) : Value → Shared → Prop := notedBy M (A.mark (some h)) env (cameBackBy M A env E)
theorem k_own {X : Option Addr} {hv : Value} (hA : A.frames = some (env :: outer)) (hf : env.frame = some L) (hfr : FrOk cs (env :: outer))
  (h : ∀ T, Go h0 o0 (cV e cls t c (some T) ++ cs) (E (.ref e))) : Go h0 o0 (cV e cls t c X ++ cs) (OwK M A env hv E (.ref e)) := by
 refine jk (A := A.mark (some hv)) (E := cameBackBy M A env E) hA hf hfr fun T => ?_
 intro s H
 obtain ⟨oe, he, hcls, vs, hd, hsz, v0, v1, v2⟩ := H.get .here
 refine aa (wpAny_field he hd v1 ?_)
 rw [if_neg (by simp [tbV])]
 exact iL (h T) s H
noncomputable def SuK (M : Model) (A : Around) (env : Env) (hv : Value) (b : List Stmt) (Q : FP) (E : VP) : Shared → Prop :=
 wpAny M (A.mark (some hv)) (setFlight hv none) (fun _ => wpAny M (A.mark (some hv)) (execs b env) Q (OwK M A env hv E)) (OwK M A env hv E)
theorem k_su {T : Option Addr} {b : List Stmt} {Q : FP} (h : Go h0 o0 (cV e cls t c T ++ cs) (wpAny M (A.mark (some (.ref e))) (execs b env) Q (OwK M A env (.ref e) E))) : Go h0 o0 (cV e cls t c T ++ cs) (SuK M A env (.ref e) b Q E) := iL h
theorem h_on {t : Expr} {b₀ : Stmt} {suite : List Stmt} {pos : Pos} {rest : List ExceptHandler} {Q : FP}
  (h : Go h0 o0 cs (wpAny (model prog w) (A.mark (some (.ref e))) (eval t env) (fun c => wpAny (model prog w) (A.mark (some (.ref e))) (excMatches (.ref e) c) (fun b => eR b (SuK (model prog w) A env (.ref e) (b₀ :: suite) Q E) (wpAny (model prog w) A (handleBy (.ref e) env rest) Q E)) (OwK (model prog w) A env (.ref e) E)) (OwK (model prog w) A env (.ref e) E))) :
  Go h0 o0 cs (wpAny (model prog w) A (handleBy (.ref e) env (.ExceptHandler (some t) none (b₀ :: suite) pos :: rest)) Q E) := by
 intro s H
 refine wpAny_handleBy_cons (codeAny_handlers_test (ad (h s H) (fun c s₁ h₁ => ad h₁ (fun b s₂ h₂ => ?_) fun _ _ x => x) fun _ _ x => x)) (by intro q; cases q)
 cases b with
 | true =>
  rw [eR, if_pos rfl] at h₂
  exact codeAny_handlers_suite h₂
 | false =>
  rw [eR, if_neg (by decide)] at h₂
  exact h₂
noncomputable def UnK (M : Model) (A : Around) (env : Env) (n : Str) (pos : Pos) (Q : FP) (E : VP) : Flow → Shared → Prop :=
 fun f => wpAny M A (do bindName env n .none; unbindBehindTheSuite env n pos) (fun _ => Q f) E
theorem k_un {n : Str} {pos : Pos} {m : List (Str × Value)} {f : Flow} {Q : FP} (hp : Put cs L (cNs m) (cNs []) cs') (hL : env.locals = L) (hl : env.kindOf n = some .local) (hpk : (env.scope.kind == .class || (env.scope.kind == .module && env.locals != env.globals)) = false)
  (h : Go h0 o0 cs' (Q f)) : Go h0 o0 cs (UnK M A env n pos Q E f) := by
 intro s H
 subst hL
 obtain ⟨g, hf, hm⟩ := eY H hp.has
 exact wpAny_nameGoes hl hf hpk fun h' m' hn hs => h _ (H.updS (k := s.toks + 1) hp (dD hn fun _ _ q => by cases q) hs (Nat.le_succ _))
noncomputable def SaK (M : Model) (A : Around) (env : Env) (hv : Value) (n : Str) (pos : Pos) (b : List Stmt) (Q : FP) (E : VP) : Shared → Prop :=
 wpAny M (A.mark (some hv)) (setFlight hv none) (fun _ => wpAny M (A.mark (some hv)) (storeName env n hv) (fun _ => wpAny M (A.mark (some hv)) (execs b env) (UnK M A env n pos Q E) NoE) NoE) NoE
theorem k_sa {T : Option Addr} {b : List Stmt} {n : Str} {pos : Pos} {Q : FP} (h : Go h0 o0 (cV e cls t c T ++ cs) (wpAny M (A.mark (some (.ref e))) (storeName env n (.ref e)) (fun _ => wpAny M (A.mark (some (.ref e))) (execs b env) (UnK M A env n pos Q E) NoE) NoE)) :
  Go h0 o0 (cV e cls t c T ++ cs) (SaK M A env (.ref e) n pos b Q E) := iL h
theorem h_as {t : Expr} {b₀ : Stmt} {suite : List Stmt} {n : Str} {pos : Pos} {rest : List ExceptHandler} {Q : FP}
  (h : Go h0 o0 cs (wpAny (model prog w) (A.mark (some (.ref e))) (eval t env) (fun c => wpAny (model prog w) (A.mark (some (.ref e))) (excMatches (.ref e) c) (fun b => eR b (SaK (model prog w) A env (.ref e) n pos (b₀ :: suite) Q E) (wpAny (model prog w) A (handleBy (.ref e) env rest) Q E)) (OwK (model prog w) A env (.ref e) E)) (OwK (model prog w) A env (.ref e) E))) :
  Go h0 o0 cs (wpAny (model prog w) A (handleBy (.ref e) env (.ExceptHandler (some t) (some n) (b₀ :: suite) pos :: rest)) Q E) := by
 intro s H
 refine wpAny_handleBy_cons (codeAny_handlers_test (ad (h s H) (fun c s₁ h₁ => ad h₁ (fun b s₂ h₂ => ?_) fun _ _ x => x) fun _ _ x => x)) (by intro q; cases q)
 cases b with
 | true =>
  rw [eR, if_pos rfl] at h₂
  exact codeAny_handlers_suite_as (ad h₂ (fun _ _ h₃ => ad h₃ (fun _ _ h₄ => ad h₄ (fun _ _ h₅ => h₅) fun _ _ q => q.elim) fun _ _ q => q.elim) fun _ _ q => q.elim)
 | false =>
  rw [eR, if_neg (by decide)] at h₂
  exact h₂
structure nu (T : String) : Prop where
 exc : isSubtype (.type T) (.type "BaseException") = pure true
 nt : isSubtype (.type ((Manifest.find? T).elim "type" fun x => x.metatype)) (.type "tuple") = pure false
theorem cq : nu "TypeError" := ⟨by rw [isSubtype_type]; kernel_rfl, by rw [isSubtype_type]; kernel_rfl⟩
theorem gb : nu "ValueError" := ⟨by rw [isSubtype_type]; kernel_rfl, by rw [isSubtype_type]; kernel_rfl⟩
theorem cF : nu "AttributeError" := ⟨by rw [isSubtype_type]; kernel_rfl, by rw [isSubtype_type]; kernel_rfl⟩
theorem k_mT {X T : String} {b : Bool} {x : Option Addr} {Q : Bool → Shared → Prop} (F : nu T) (hsub : isSubtype (.type X) (.type T) = pure b) (he : Has cs e (gX X t x c)) (h : Go h0 o0 cs (Q b)) : Go h0 o0 cs (wpAny M A (excMatches (.ref e) (.type T)) Q E) := by
 intro s H
 obtain ⟨o, ho, hc, _⟩ := H.get he
 exact wpAny_excMatches_type ⟨o, ho, hc⟩ F.exc F.nt hsub (h s H)
theorem k_m2 {T U : String} {x : Option Addr} {a : Addr} {Q : Bool → Shared → Prop} (F : nu T) (G : nu U) (ha : Has cs a (a8 [.type T, .type U])) (hsub : isSubtype (.type cls) (.type T) = pure true) (he : Has cs e (gX cls t x c)) (h : Go h0 o0 cs (Q true)) :
  Go h0 o0 cs (wpAny M A (excMatches (.ref e) (.ref a)) Q E) := by
 intro s H
 obtain ⟨o, ho, hc, _⟩ := H.get he
 obtain ⟨oa, hoa, n, rfl⟩ := H.get ha
 have h1 := F.exc
 have h2 := G.exc
 unfold excMatches
 refine aa (wpAny_isInstance (T := "tuple") ⟨_, hoa, rfl⟩ KPt.sub_tt ?_)
 rw [if_pos rfl]
 refine aa (wpAny_seqItems hoa rfl ?_)
 refine aa (ab ?_)
 show wpAny M A (do
  forIn [Value.type T, Value.type U] _ _
  _) Q E s
 have e1 : isExcClass (.type T) = pure true := by unfold isExcClass; exact h1
 have e2 : isExcClass (.type U) = pure true := by unfold isExcClass; exact h2
 simp only [List.forIn_cons, List.forIn_nil, e1, e2, pure_bind, Bool.not_true, Bool.false_eq_true, if_false]
 refine aa (wpAny_typeOf (T := cls) ⟨o, ho, hc⟩ ?_)
 show wpAny M A (do
  let __s ← forIn [Value.type T, Value.type U] _ _
  _) Q E s
 simp only [List.forIn_cons, hsub, pure_bind, if_true]
 exact ab (h s H)
theorem oW {n : String} {m : Str} {tk : Tok} {t0 : Addr} {x : Option Addr} {Q : VP} (FX : ExcStrFacts cls n) (hu : A.units + 2 < cLine) (he : Has cs e (gX cls (.ref t0) x c)) (ht : Has cs t0 (a8 [.str m tk])) (h : Go h0 o0 cs (Q (.str m tk))) :
  Go h0 o0 cs (wpAny (model prog w) A (call (.type "str") [.ref e]) Q E) := by
 intro s H
 obtain ⟨o, ho, hc, vs, hd, hz, v0, _⟩ := H.get he
 obtain ⟨ot, hto, k, rfl⟩ := H.get ht
 exact P.str_of_exc_one FX hu ⟨o, vs, ho, hc, hd, v0⟩ ⟨_, k, hto, rfl, rfl⟩ (h s H)
theorem Go.drop2 {X Y : az} {p q} (h : Go h0 o0 (X ++ q :: Y) P) : Go h0 o0 (X ++ q :: p :: Y) P := fun s H => h s (H.sub (List.Sublist.append_left ((ak _ _).cons_cons _) X))
theorem Go.dropN {X Y Z : az} {q} (h : Go h0 o0 (X ++ q :: Z) P) : Go h0 o0 (X ++ q :: (Y ++ Z)) P := fun s H => h s (H.sub (List.Sublist.append_left ((List.sublist_append_right _ _).cons_cons _) X))
theorem Go.t1 {p} (h : Go h0 o0 cs P) : Go h0 o0 (p :: cs) P := fun s H => h s H.tail
end
noncomputable abbrev KF (P : Params) : Frag := hd.heap_1 P
noncomputable abbrev bX : Addr := 143
noncomputable abbrev qc : Addr := 60
noncomputable abbrev eG : Addr := 68
noncomputable abbrev iW : Addr := 83
noncomputable abbrev mF : Addr := 90
noncomputable abbrev qb : Addr := 91
noncomputable abbrev lS : Addr := 99
noncomputable abbrev aNs : Addr := 106
noncomputable abbrev ct : Addr := 113
noncomputable abbrev aB : Addr := 119
noncomputable abbrev aEnd : Addr := 126
noncomputable abbrev ip : Addr := 133
noncomputable abbrev aPi : Addr := 140
noncomputable abbrev qd : Addr := 154
noncomputable abbrev aAt : Addr := 161
noncomputable abbrev io : Addr := 180
noncomputable abbrev gY : Addr := 168
noncomputable abbrev bW : Addr := 175
noncomputable abbrev aSer : Addr := 44
noncomputable abbrev aMap : Addr := 37
noncomputable abbrev tJoin : Tok := 430
noncomputable abbrev be : Addr := 116
noncomputable abbrev cU : Addr := 118
noncomputable def atNames : List Str := [ofString "_write", ofString "_data", ofString "_with_comments", ofString "_strip_text", ofString "_exclude_attrs", ofString "_exclude_tags", ofString "_rewrite_prefixes", ofString "_qname_aware_tags", ofString "_find_qname_aware_attrs", ofString "_declared_ns_stack", ofString "_ns_stack", ofString "_prefix_map", ofString "_preserve_space", ofString "_pending_start", ofString "_root_seen", ofString "_root_done", ofString "_ignored_depth"]
noncomputable def mtNames : List (Str × Addr) := [(ofString "_iter_namespaces", eG), (ofString "_qname", iW), (ofString "data", mF), (ofString "_flush", lS), (ofString "start_ns", aNs), (ofString "start", ct), (ofString "_start", aB), (ofString "end", aEnd), (ofString "comment", ip), (ofString "pi", aPi)]
theorem at_all (P : Params) : (atNames.all fun n => dA (KF P) bX n) = true := by kernel_rfl!
theorem st_all (P : Params) : (atNames.all fun n => jV (KF P) bX n) = true := by kernel_rfl!
theorem mt_all (P : Params) : (mtNames.all fun n => gG (KF P) bX n.1 n.2) = true := by kernel_rfl!
theorem wr_meth (P : Params) : gh (KF P) bX (ofString "_write") = true := by kernel_rfl!
theorem kN {P : Params} {n : Str} (h : atNames.contains n = true) : dA (KF P) bX n = true := List.all_eq_true.mp (at_all P) n (by simpa using h)
theorem st_ok {P : Params} {n : Str} (h : atNames.contains n = true) : jV (KF P) bX n = true := List.all_eq_true.mp (st_all P) n (by simpa using h)
theorem mt_ok {P : Params} {n : Str} {f : Addr} (h : mtNames.contains (n, f) = true) : gG (KF P) bX n f = true := List.all_eq_true.mp (mt_all P) (n, f) (by simpa using h)
theorem kp_all (P : Params) : (mtNames.all fun n => keepIn (KF P) (.ref n.2)) = true := by kernel_rfl!
theorem kp_ok {P : Params} {f : Addr} (h : (mtNames.map (·.2)).contains f = true) : keepIn (KF P) (.ref f) = true := by
 obtain ⟨q, hq, rfl⟩ := List.mem_map.mp (show f ∈ mtNames.map (·.2) by simpa using h)
 exact List.all_eq_true.mp (kp_all P) q hq
structure Pr where
 (a : Addr) (u : Str) (ut : Tok) (p : Str) (pt : Tok)
structure Lv where
 (a : Addr) (ps : List Pr)
noncomputable def Pr.v (q : Pr) : Str × Str := (q.u, q.p)
noncomputable def Lv.v (l : Lv) : List (Str × Str) := l.ps.map Pr.v
noncomputable def Pr.cell (q : Pr) : Addr × bM := (q.a, a8 [.str q.u q.ut, .str q.p q.pt])
noncomputable def Lv.refs (l : Lv) : List Value := l.ps.map fun q => .ref q.a
noncomputable def Lv.cells (l : Lv) : az := (l.a, ay l.refs) :: l.ps.map Pr.cell
noncomputable def cm (ls : List Lv) : az := ls.flatMap Lv.cells
structure fQ where
 (x dx W O D DS NS PM PS : Addr) (et ea : Value) (EC : az) (wc st rw : Bool)
structure eo where
 (out data : List (Str × Tok)) (dl nl : List Lv) (pm : List (Str × Str × Tok)) (ps : List Bool) (rs rd : Bool) (ig : Nat) (ti : Tok)
noncomputable def cj (i : fQ) (t : eo) : List (Str × Value) :=
 [(ofString "_write", .ref i.W), (ofString "_data", .ref i.D), (ofString "_with_comments", .bool i.wc), (ofString "_strip_text", .bool i.st), (ofString "_exclude_attrs", i.ea), (ofString "_exclude_tags", i.et), (ofString "_rewrite_prefixes", .bool i.rw),
 (ofString "_qname_aware_tags", .none), (ofString "_find_qname_aware_attrs", .none), (ofString "_declared_ns_stack", .ref i.DS), (ofString "_ns_stack", .ref i.NS), (ofString "_prefix_map", .ref i.PM), (ofString "_preserve_space", .ref i.PS), (ofString "_pending_start", .none),
 (ofString "_root_seen", .bool t.rs), (ofString "_root_done", .bool t.rd), (ofString "_ignored_depth", .int t.ig t.ti)]
noncomputable def dv2 (l : List (Str × Str × Tok)) : List (Str × Value) := l.map fun p => (p.1, .str p.2.1 p.2.2)
noncomputable def wr (prog : Program) (w : World) (i : fQ) (t : eo) (V : az) : az :=
 (i.x, bg bX i.dx) :: (i.dx, cAttrs (cj i t)) :: (i.W, bQ "list.append" i.O) :: (i.O, ay (tv t.out)) :: (i.D, ay (tv t.data)) :: (i.DS, ay (t.dl.map fun l => .ref l.a)) :: (i.NS, ay (t.nl.map fun l => .ref l.a)) ::
  (i.PM, aM prog w (dv2 t.pm)) :: (i.PS, ay (t.ps.map Value.bool)) :: (i.EC ++ (cm t.dl ++ (cm t.nl ++ V)))
section
variable {M : Model} {cs cs' V X Y : az} {K : Frag} {P : GP} {i : fQ} {t : eo}
theorem kQ {m : List (Str × Value)} {x : Str} {v : Value} : m.lookup x = some v → Look m x v := by
 induction m with
 | nil => intro h; cases h
 | cons p r ih =>
  intro h
  obtain ⟨y, u⟩ := p
  rw [List.lookup_cons] at h
  cases e : x == y with
  | true => rw [e] at h; cases h; rw [beq_iff_eq.mp e]; exact .here
  | false => rw [e] at h; exact .there e (ih h)
theorem jO : Look (cj i t) (ofString "_write") (.ref i.W) := kQ rfl
theorem cW : Look (cj i t) (ofString "_data") (.ref i.D) := kQ rfl
theorem tg_wc : Look (cj i t) (ofString "_with_comments") (.bool i.wc) := kQ rfl
theorem tg_st : Look (cj i t) (ofString "_strip_text") (.bool i.st) := kQ rfl
theorem tg_ea : Look (cj i t) (ofString "_exclude_attrs") i.ea := kQ rfl
theorem tg_et : Look (cj i t) (ofString "_exclude_tags") i.et := kQ rfl
theorem tg_rw : Look (cj i t) (ofString "_rewrite_prefixes") (.bool i.rw) := kQ rfl
theorem tg_qt : Look (cj i t) (ofString "_qname_aware_tags") .none := kQ rfl
theorem tg_qa : Look (cj i t) (ofString "_find_qname_aware_attrs") .none := kQ rfl
theorem l9 : Look (cj i t) (ofString "_declared_ns_stack") (.ref i.DS) := kQ rfl
theorem l8 : Look (cj i t) (ofString "_ns_stack") (.ref i.NS) := kQ rfl
theorem jP : Look (cj i t) (ofString "_preserve_space") (.ref i.PS) := kQ rfl
theorem tg_pe : Look (cj i t) (ofString "_pending_start") .none := kQ rfl
theorem nW : Look (cj i t) (ofString "_root_seen") (.bool t.rs) := kQ rfl
theorem tg_rd : Look (cj i t) (ofString "_root_done") (.bool t.rd) := kQ rfl
theorem iu : Look (cj i t) (ofString "_ignored_depth") (.int t.ig t.ti) := kQ rfl
noncomputable def repl : List (Str × Value) → Str → Value → List (Str × Value)
 | [], x, v => [(x, v)]
 | (y, u) :: r, x, v => if x == y then (x, v) :: r else (y, u) :: repl r x v
theorem sn : ∀ {m : List (Str × Value)} {x : Str} {v : Value} {m' : List (Str × Value)}, repl m x v = m' → SetN m x v m'
 | [], x, v, _, rfl => .new
 | (y, u) :: r, x, v, _, rfl => by
  unfold repl
  cases e : x == y with
  | true => rw [beq_iff_eq.mp e]; simp only [if_true]; exact .here
  | false => simp only [Bool.false_eq_true, if_false]; exact .there e (sn rfl)
theorem mU (b : Bool) : SetN (cj i t) (ofString "_root_seen") (.bool b) (cj i { t with rs := b }) := sn (by kernel_rfl!)
theorem mV (b : Bool) : SetN (cj i t) (ofString "_root_done") (.bool b) (cj i { t with rd := b }) := sn (by kernel_rfl!)
theorem mW (n : Nat) (u : Tok) : SetN (cj i t) (ofString "_ignored_depth") (.int n u) (cj i { t with ig := n, ti := u }) := sn (by kernel_rfl!)
theorem k7 : (cj i t).length ≤ 900 := by show 17 ≤ 900; lia
theorem tg_no {n : Str} (h : (mtNames.map (·.1)).contains n = true) : (cj i t).lookup n = none := by
 have : ∀ n ∈ mtNames.map (·.1), (cj i t).lookup n = none := by
  intro n hn
  simp only [mtNames, ap, List.map_nil, List.mem_cons, List.not_mem_nil, or_false] at hn
  rcases hn with rfl | rfl | rfl | rfl | rfl | rfl | rfl | rfl | rfl | rfl <;> kernel_rfl!
 exact this n (by simpa using h)
theorem a9 : Has (wr prog w i t V) i.x (bg bX i.dx) := .here
theorem aS : Has (wr prog w i t V) i.dx (cAttrs (cj i t)) := .there .here
theorem cI : Has (wr prog w i t V) i.W (bQ "list.append" i.O) := .there (.there .here)
theorem mT : Has (wr prog w i t V) i.O (ay (tv t.out)) := .t2 (.there .here)
theorem k0 : Has (wr prog w i t V) i.D (ay (tv t.data)) := .t2 (.there (.there .here))
theorem l6 : Has (wr prog w i t V) i.DS (ay (t.dl.map fun l => .ref l.a)) := .t4 (.there .here)
theorem l5 : Has (wr prog w i t V) i.NS (ay (t.nl.map fun l => .ref l.a)) := .t4 (.there (.there .here))
theorem jJ : Has (wr prog w i t V) i.PS (ay (t.ps.map Value.bool)) := .t4 (.t2 (.there (.there .here)))
theorem eS {a : Addr} {c : bM} (h : Has (i.EC ++ (cm t.dl ++ (cm t.nl ++ V))) a c) : Has (wr prog w i t V) a c := .t4 (.t4 (.there h))
theorem bR {a : Addr} {c : bM} (h : Has V a c) : Has (wr prog w i t V) a c := eS (.skip (.skip (.skip h)))
theorem lk (o : List (Str × Tok)) : Put (wr prog w i t V) i.O (ay (tv t.out)) (ay (tv o)) (wr prog w i { t with out := o } V) := .t2 (.there .here)
theorem pw_D (d : List (Str × Tok)) : Put (wr prog w i t V) i.D (ay (tv t.data)) (ay (tv d)) (wr prog w i { t with data := d } V) := .t2 (.there (.there .here))
theorem pw_PS (d : List Bool) : Put (wr prog w i t V) i.PS (ay (t.ps.map Value.bool)) (ay (d.map Value.bool)) (wr prog w i { t with ps := d } V) := .t4 (.t2 (.there (.there .here)))
theorem pw_rs (b : Bool) : Put (wr prog w i t V) i.dx (cAttrs (cj i t)) (cAttrs (cj i { t with rs := b })) (wr prog w i { t with rs := b } V) := .there .here
theorem pw_rd (b : Bool) : Put (wr prog w i t V) i.dx (cAttrs (cj i t)) (cAttrs (cj i { t with rd := b })) (wr prog w i { t with rd := b } V) := .there .here
theorem pw_ig (n : Nat) (u : Tok) : Put (wr prog w i t V) i.dx (cAttrs (cj i t)) (cAttrs (cj i { t with ig := n, ti := u })) (wr prog w i { t with ig := n, ti := u } V) := .there .here
theorem bP : wr prog w i t (X ++ V) = wr prog w i t X ++ V := by unfold wr; simp only [List.cons_append, an]
theorem ci : wr prog w i t V = wr prog w i t [] ++ V := by rw [← bP]; rfl
theorem wr_in : (X ++ wr prog w i t V).Perm (wr prog w i t (X ++ V)) := by
 rw [ci, ci (V := X ++ V), ← an, ← an]
 exact List.Perm.append_right _ List.perm_append_comm
theorem Go.wIn (X : az) (h : Go h0 o0 (wr prog w i t (X ++ V)) P) : Go h0 o0 (X ++ wr prog w i t V) P := Go.perm wr_in h
theorem Go.wOut (h : Go h0 o0 (X ++ wr prog w i t V) P) : Go h0 o0 (wr prog w i t (X ++ V)) P := Go.perm wr_in.symm h
theorem gf {l : Lv} (h : l ∈ t.dl) : Has (wr prog w i t V) l.a (ay l.refs) := by
 refine eS (.skip (Has.app (Has.of_mem ?_)))
 exact List.mem_flatMap.mpr ⟨l, h, au⟩
theorem l4 {l : Lv} (h : l ∈ t.nl) : Has (wr prog w i t V) l.a (ay l.refs) := by
 refine eS (.skip (.skip (Has.app (Has.of_mem ?_))))
 exact List.mem_flatMap.mpr ⟨l, h, au⟩
theorem nQ {l : Lv} {q : Pr} (h : l ∈ t.dl) (hq : q ∈ l.ps) : Has (wr prog w i t V) q.a (a8 [.str q.u q.ut, .str q.p q.pt]) := by
 refine eS (.skip (Has.app (Has.of_mem ?_)))
 exact List.mem_flatMap.mpr ⟨l, h, am _ (List.mem_map.mpr ⟨q, hq, rfl⟩)⟩
theorem wr_prN {l : Lv} {q : Pr} (h : l ∈ t.nl) (hq : q ∈ l.ps) : Has (wr prog w i t V) q.a (a8 [.str q.u q.ut, .str q.p q.pt]) := by
 refine eS (.skip (.skip (Has.app (Has.of_mem ?_))))
 exact List.mem_flatMap.mpr ⟨l, h, am _ (List.mem_map.mpr ⟨q, hq, rfl⟩)⟩
end
section
variable {M : Model} {cs cs' V X Y : az} {K : Frag} {P P1 P2 : GP} {i : fQ} {t : eo} {Q : VP}
theorem ifNF (h : Go h0 o0 cs P1) : Go h0 o0 cs (eR (!false) P1 P2) := fF h
theorem ifNT (h : Go h0 o0 cs P2) : Go h0 o0 cs (eR (!true) P1 P2) := dh h
theorem kB (h : Go h0 o0 cs P2) : Go h0 o0 cs (eR (!(Value.none == Value.none)) P1 P2) := dh h
theorem ifEN (h : Go h0 o0 cs P1) : Go h0 o0 cs (eR (Value.none == Value.none) P1 P2) := fF h
theorem e8 {b : Bool} (h : Go h0 o0 cs (eR b P2 P1)) : Go h0 o0 cs (eR (!b) P1 P2) := by cases b with
 | true => exact dh (fun s H => by have := h s H; rwa [eR, if_pos rfl] at this)
 | false => exact fF (fun s H => by have := h s H; rwa [eR, if_neg (by decide)] at this)
theorem bv {f : Value} {vs : List Value} (h : Go h0 o0 cs (codeAny (model prog w) A (.call f ⟨vs, []⟩) (wants Q E))) : Go h0 o0 cs (wpAny (model prog w) A (call f vs) Q E) := fun s H => wpAny_call (h s H)
theorem b8 {name : Str} {v : Value} {L : Addr} {m : List (Str × Value)} {xp pos : Pos} (hp : Has cs L (cNs m)) (hs : Look m (ofString "self") (.ref i.x))
  (hx : Has cs i.x (bg bX i.dx)) (hd : Has cs i.dx (cAttrs (cj i t))) (hv : Look (cj i t) name v)
  (h : Go h0 o0 cs (Q v)) (B : Base (KF w.params) h0 := by assumption) (hL : env.locals = L := by kernel_rfl!) (hk : env.scope.kind = .function := by kernel_rfl!) (hl : env.kindOf (ofString "self") = some .local := by kernel_rfl!) (ok : atNames.contains name = true := by decide +kernel) (hh : handedIn v = true := by kernel_rfl!) (he : eval (.Attribute (.Name (ofString "self") xp) name pos) env = (do
   let o ← eval (.Name (ofString "self") xp) env
   standAt pos.atName
   let r ← holding [o] (getAttr o name true)
   letTemporaryGo (.Name (ofString "self") xp) o r
   pure r) := by with_unfolding_all rfl) : Go h0 o0 cs (wpAny (model prog w) A (eval (.Attribute (.Name (ofString "self") xp) name pos) env) Q E) :=
 dH (aG hp (hL := hL) hs (hk := hk) (hl := hl) (mx B hx hd hv (kN ok) hh h)) (he := he)
theorem ii {name : Str} {f : Addr} {pl : Sem Bool} {Q : Value × List Value → Shared → Prop} (B : Base (KF w.params) h0) (hx : Has cs i.x (bg bX i.dx)) (hd : Has cs i.dx (cAttrs (cj i t))) (h : Go h0 o0 cs (Q (.ref f, [.ref i.x]))) (ok : mtNames.contains (name, f) = true := by decide +kernel) :
  Go h0 o0 cs (wpAny (model prog w) A (getMethod (.ref i.x) name pl) Q E) :=
 g_met B hx hd (tg_no (by
  have : (name, f) ∈ mtNames := by simpa using ok
  simpa using aq (f := Prod.fst) this)) (mt_ok ok) h
theorem fe {pl : Sem Bool} {Q : Value × List Value → Shared → Prop} (hx : Has cs i.x (bg bX i.dx)) (hd : Has cs i.dx (cAttrs (cj i t))) (h : Go h0 o0 cs (Q (.ref lS, [.ref i.x]))) (B : Base (KF w.params) h0 := by assumption) : Go h0 o0 cs (wpAny (model prog w) A (getMethod (.ref i.x) (ofString "_flush") pl) Q E) := ii B hx hd h
theorem g_qn {pl : Sem Bool} {Q : Value × List Value → Shared → Prop} (B : Base (KF w.params) h0) (hx : Has cs i.x (bg bX i.dx)) (hd : Has cs i.dx (cAttrs (cj i t))) (h : Go h0 o0 cs (Q (.ref iW, [.ref i.x]))) : Go h0 o0 cs (wpAny (model prog w) A (getMethod (.ref i.x) (ofString "_qname") pl) Q E) := ii B hx hd h
theorem pC {pl : Sem Bool} {Q : Value × List Value → Shared → Prop} (B : Base (KF w.params) h0) (hx : Has cs i.x (bg bX i.dx)) (hd : Has cs i.dx (cAttrs (cj i t))) (h : Go h0 o0 cs (Q (.ref aB, [.ref i.x]))) : Go h0 o0 cs (wpAny (model prog w) A (getMethod (.ref i.x) (ofString "_start") pl) Q E) := ii B hx hd h
theorem pF {pl : Sem Bool} {Q : Value × List Value → Shared → Prop} (B : Base (KF w.params) h0) (hx : Has cs i.x (bg bX i.dx)) (hd : Has cs i.dx (cAttrs (cj i t))) (h : Go h0 o0 cs (Q (.ref eG, [.ref i.x]))) : Go h0 o0 cs (wpAny (model prog w) A (getMethod (.ref i.x) (ofString "_iter_namespaces") pl) Q E) := ii B hx hd h
theorem gM {pl : Sem Bool} {Q : Value × List Value → Shared → Prop} (hx : Has cs i.x (bg bX i.dx)) (hd : Has cs i.dx (cAttrs (cj i t))) (h : Go h0 o0 cs (Q (.ref ct, [.ref i.x]))) (B : Base (KF w.params) h0 := by assumption) : Go h0 o0 cs (wpAny (model prog w) A (getMethod (.ref i.x) (ofString "start") pl) Q E) := ii B hx hd h
theorem pE {pl : Sem Bool} {Q : Value × List Value → Shared → Prop} (B : Base (KF w.params) h0) (hx : Has cs i.x (bg bX i.dx)) (hd : Has cs i.dx (cAttrs (cj i t))) (h : Go h0 o0 cs (Q (.ref aEnd, [.ref i.x]))) : Go h0 o0 cs (wpAny (model prog w) A (getMethod (.ref i.x) (ofString "end") pl) Q E) := ii B hx hd h
theorem g_mdata {pl : Sem Bool} {Q : Value × List Value → Shared → Prop} (B : Base (KF w.params) h0) (hx : Has cs i.x (bg bX i.dx)) (hd : Has cs i.dx (cAttrs (cj i t))) (h : Go h0 o0 cs (Q (.ref mF, [.ref i.x]))) : Go h0 o0 cs (wpAny (model prog w) A (getMethod (.ref i.x) (ofString "data") pl) Q E) := ii B hx hd h
theorem g_mcom {pl : Sem Bool} {Q : Value × List Value → Shared → Prop} (B : Base (KF w.params) h0) (hx : Has cs i.x (bg bX i.dx)) (hd : Has cs i.dx (cAttrs (cj i t))) (h : Go h0 o0 cs (Q (.ref ip, [.ref i.x]))) : Go h0 o0 cs (wpAny (model prog w) A (getMethod (.ref i.x) (ofString "comment") pl) Q E) := ii B hx hd h
theorem g_mpi {pl : Sem Bool} {Q : Value × List Value → Shared → Prop} (B : Base (KF w.params) h0) (hx : Has cs i.x (bg bX i.dx)) (hd : Has cs i.dx (cAttrs (cj i t))) (h : Go h0 o0 cs (Q (.ref aPi, [.ref i.x]))) : Go h0 o0 cs (wpAny (model prog w) A (getMethod (.ref i.x) (ofString "pi") pl) Q E) := ii B hx hd h
theorem g_mns {pl : Sem Bool} {Q : Value × List Value → Shared → Prop} (B : Base (KF w.params) h0) (hx : Has cs i.x (bg bX i.dx)) (hd : Has cs i.dx (cAttrs (cj i t))) (h : Go h0 o0 cs (Q (.ref aNs, [.ref i.x]))) : Go h0 o0 cs (wpAny (model prog w) A (getMethod (.ref i.x) (ofString "start_ns") pl) Q E) := ii B hx hd h
theorem ni {pl : Sem Bool} {Q : Value × List Value → Shared → Prop} (hx : Has cs i.x (bg bX i.dx)) (hd : Has cs i.dx (cAttrs (cj i t))) (h : Go h0 o0 cs (Q (.ref i.W, []))) (B : Base (KF w.params) h0 := by assumption) :
  Go h0 o0 cs (wpAny (model prog w) A (getMethod (.ref i.x) (ofString "_write") pl) Q E) := g_val B hx hd jO (wr_meth _) (kN (by decide +kernel)) rfl h
theorem gJ {x : Str} {u : Tok} (hz : t.out.length ≤ 1000000) (hb : Has cs i.W (bQ "list.append" i.O)) (hp : Put cs i.O (ay (tv t.out)) (ay (tv (t.out ++ [(x, u)]))) cs') (h : Go h0 o0 cs' (Q .none)) : Go h0 o0 cs (wpAny (model prog w) A (call (.ref i.W) [.str x u]) Q E) := by
 refine k_app hb (xs := tv t.out) ?_ (by rw [ag, af]; lia) h
 rw [show tv t.out ++ [Value.str x u] = tv (t.out ++ [(x, u)]) from by simp [tv]]
 exact hp
end
section
variable {cs cs' V X Y : az} {i : fQ} {t : eo} {Q : VP}
theorem c_data {x : Str} {u : Tok} {R : RP} (B : Base (KF w.params) h0) (hroom : A.depth < recursionLimit) (hz : t.data.length ≤ 1000000)
  (h : Go h0 o0 (wr prog w i (if t.ig = 0 then { t with data := t.data ++ [(x, u)] } else t) V) (R (.ok (.ret .none)))) : Go h0 o0 (wr prog w i t V) (codeAny (model prog w) A (.call (.ref mF) ⟨[.ref i.x, .str x u], []⟩) R) := by
 refine db (m := [(ofString "data", .str x u), (ofString "self", .ref i.x)]) B hroom (fun s X => by with_reducible refine kp_binds X ?_; intro S; kernel_rfl!) fun L => ?_
 refine aE ?_
 with_reducible refine bt (ix (bh (b8 .here (.n .here) (.there a9) (.there aS) iu (iy ?_))))
 refine e8 (cA (fun hb => ?_) fun hb => ?_)
 ·rw [if_neg (by simpa using hb)] at h
  with_reducible refine aL (aJ (aL (ia ?_)))
  exact Go.sl (.tail (.there .refl))
 ·rw [if_pos (by simpa using hb)] at h
  with_reducible refine aE (bf (bi (b8 .here (.n .here) (.there a9) (.there aS) cW (dE (.there k0) (cT ?_))))); refine aA (aG .here .here (aH ?_)); refine du (.there (pw_D (t.data ++ [(x, u)]))) (by simp [tv]) (by simp only [tv, ag, List.length_cons, ao, List.length_nil, List.length_replicate, af]; apply aD; with_reducible assumption; decide) ?_; refine aJ (aL (aJ (aL (ia ?_))))
  exact Go.sl (.tail (.there .refl))
end
noncomputable def DK (h0 : Heap) (o0 : Shared) (P : GP) : Value → Shared → Prop := fun o s₁ => ∃ l xs cs cs', o = .ref l ∧ St h0 o0 cs s₁ ∧ Put cs l (ay xs) (ay []) cs' ∧ xs.length ≤ sizeLine ∧ ∀ s', St h0 o0 cs' s' → P s'
section
variable {M : Model} {cs cs' V X Y : az} {K : Frag} {P P1 P2 : GP} {i : fQ} {t : eo} {Q : VP}
theorem s_del {e : Expr} {p pos pos2 : Pos} {Q : FP} (h : Go h0 o0 cs (wpAny (model prog w) A (eval e env) (DK h0 o0 (Q .next)) E)) : Go h0 o0 cs (wpAny (model prog w) A (exec (.Delete [.Subscript e (.Slice none none none p) pos] pos2) env) Q E) := fun s H => x_delSt (h0 := h0) (o0 := o0) (h s H)
theorem dk {l : Addr} {xs : List Value} (hp : Put cs l (ay xs) (ay []) cs') (hz : xs.length ≤ sizeLine) (h : Go h0 o0 cs' P) : Go h0 o0 cs (DK h0 o0 P (.ref l)) := fun s H => ⟨l, xs, cs, cs', rfl, H, hp, hz, h⟩
theorem c_hv {pos : Pos} {bo : Addr} {id : String} {v : Value} {e : Expr} {rest : List Expr} (ho : h0.get? bo = some { cls := .type "builtin_function_or_method", data := .fields #[.builtin id, v] })
  (h : Go h0 o0 cs (wpAny (model prog w) A (spliced (backTo pos (starEach (e :: rest) env))) (fun vs => CK h0 (wpAny (model prog w) A (call (.ref bo) vs) Q E)) E))
  (he : starEach (e :: rest) env = (false, eval e env) :: starEach rest env) (hplain : (backTo pos (starEach rest env)).any (·.1) = false) : Go h0 o0 cs (wpAny (model prog w) A (callWith pos (.ref bo) [] (backTo pos (starEach (e :: rest) env)) []) Q E) := fun s H => x_callH (first := []) ho (h s H) he hplain
theorem k_join {b : Addr} {x : Str} {t : Tok} {D : Addr} {l : List (Str × Tok)} (hb : h0.get? b = some { cls := .type "builtin_function_or_method", data := .fields #[.builtin "str.join", .str x t] }) (hl : Has cs D (ay (strValues l))) (hok : JoinOk x (l.map (·.1)) = true)
  (h : ∀ t', Go h0 o0 cs (Q (.str (Txt.join x (l.map (·.1))) t'))) : Go h0 o0 cs (wpAny (model prog w) A (call (.ref b) [.ref D]) Q E) := fun s H => kZ H hb hl hok fun t' s' H' => h t' s' H'
theorem g_strip {x : Str} {u : Tok} {pl : Sem Bool} {Q : Value × List Value → Shared → Prop} (h : Go h0 o0 cs (Q (.builtin "str.strip", [.str x u]))) : Go h0 o0 cs (wpAny M A (getMethod (.str x u) (ofString "strip") pl) Q E) := fun s H => GM.strip (h s H)
theorem k_strip {x : Str} {u : Tok} (hz : x.length ≤ sizeLine) (h : (Txt.strip x).length ≤ x.length → ∀ t, Go h0 o0 cs (Q (.str (Txt.strip x) t))) : Go h0 o0 cs (wpAny (model prog w) A (call (.builtin "str.strip") [.str x u]) Q E) := fun s H => di (SCL.strip (fun t' k hl hk => h hl t' _ (H.toks hk)) hz)
theorem dU {value slice : Expr} {l : Addr} {xs ys : List Value} {v : Value} {u : Tok} (hl : Has cs l (ay xs)) (e : xs = ys ++ [v]) (h : Go h0 o0 cs (Q v)) (hs : subscripted slice false (.ref l) (.int (-1) u) = operate [.ref l, .int (-1) u] (getItem (.ref l) (.int (-1) u)) := by with_unfolding_all rfl) :
  Go h0 o0 cs (wpAny (model prog w) A (subscriptTail value slice (.ref l) (.int (-1) u)) Q E) := fun s H => x_last (ys := ys) H (e ▸ hl) hs (h s H)
theorem s_try {body : List Stmt} {x : ExceptHandler} {hs : List ExceptHandler} {pos : Pos} {Q : FP} (h : Go h0 o0 cs (wpAny (model prog w) A (execs body env) Q NoE)) : Go h0 o0 cs (wpAny (model prog w) A (exec (.Try body (x :: hs) [] [] pos) env) Q E) := fun s H => x_try (h s H) fun _ => .inr trivial
theorem eA {x c r txt : Str} {t : Tok} {L : Addr} {k1 k2 k3 : Nat} {p1 p2 p3 p4 p5 p6 p7 p8 p9 p10 p11 : Pos} {Q : FP}
  (hb : txt.length + (txt.length + 1) * r.length ≤ 16777216) (hline : (p6.endLine == p9.line) = true) (h : ∀ t', Go h0 o0 ((L, cNs [(x, .str (Txt.replace txt c r) t')]) :: cs) (Q .next)) (hL : env.locals = L := by kernel_rfl!) (hk : env.scope.kind = .function := by kernel_rfl!) (hl : env.kindOf x = some .local := by kernel_rfl!) (hd : (x == ("__debug__" : Str)) = false := by decide +kernel) (hyz : (c == r) = false := by decide +kernel) :
  Go h0 o0 ((L, cNs [(x, .str txt t)]) :: cs) (wpAny (model prog w) A (exec (.If (.Compare (.Constant (.str c) k1 p1) [.In] [.Name x p2] p3)
   [.Assign [.Name x p4] (.Call (.Attribute (.Name x p5) (ofString "replace") p6) [.Constant (.str c) k2 p7, .Constant (.str r) k3 p8] [] p9) p10] [] p11) env) Q E) := fun s H => x_escIf H hL hk hl hd hb hyz hline fun t' s' H' => h t' s' H'
end
noncomputable def gy (x : Str) (a b : String) : Str := Txt.replace x (ofString a) (ofString b)
noncomputable def cdF (x : Str) : Str := gy (gy (gy (gy x "&" "&amp;") "<" "&lt;") ">" "&gt;") "\r" "&#xD;"
noncomputable def atF (x : Str) : Str := gy (gy (gy (gy (gy (gy x "&" "&amp;") "<" "&lt;") "\"" "&quot;") "\t" "&#x9;") "\n" "&#xA;") "\r" "&#xD;"
theorem cX {x : Str} {a b : String} {n k : Nat} (hx : x.length ≤ n) (ha : 1 ≤ (ofString a).length := by decide +kernel) (hb : (ofString b).length + 1 ≤ k := by decide +kernel) : (gy x a b).length ≤ n * k :=
 Nat.le_trans (jY _ _ _ ha) (Nat.mul_le_mul hx hb)
section
variable {cs cs' V X Y : az} {i : fQ} {t : eo} {Q : VP}
theorem c_cd {txt : Str} {u : Tok} (B : Base (KF w.params) h0) (hroom : A.depth < recursionLimit) (hlen : txt.length ≤ 3000) (h : ∀ t', Go h0 o0 cs (Q (.str (cdF txt) t'))) : Go h0 o0 cs (wpAny (model prog w) A (call (.ref qd) [.str txt u]) Q E) := by
 have h1 := cX (a := "&") (b := "&amp;") (k := 6) hlen
 have h2 := cX (a := "<") (b := "&lt;") (k := 5) h1
 have h3 := cX (a := ">") (b := "&gt;") (k := 5) h2
 have b1 : (ofString "&amp;").length = 5 := by decide +kernel
 have b2 : (ofString "&lt;").length = 4 := by decide +kernel
 have b3 : (ofString "&gt;").length = 4 := by decide +kernel
 have b4 : (ofString "&#xD;").length = 5 := by decide +kernel
 refine bv (db (m := [(ofString "text", .str txt u)]) B hroom (fun s X => by with_reducible refine kp_binds X ?_; intro S; kernel_rfl!) fun L => ?_)
 refine aE (s_try (aE ?_))
 refine eA (by rw [b1]; (lia)) rfl fun t1 => aJ (aE ?_)
 refine eA (by rw [b2]; unfold gy at h1; (lia)) rfl fun t2 => aJ (aE ?_)
 refine eA (by rw [b3]; unfold gy at h2; (lia)) rfl fun t3 => aJ (aE ?_)
 refine eA (by rw [b4]; unfold gy at h3; (lia)) rfl fun t4 => aJ (aE ?_)
 have h := h t4
 with_reducible refine dC (aG .here .here (bT (bT (gz ?_))))
 exact fun s H => h s H.tail
theorem c_at {txt : Str} {u : Tok} (B : Base (KF w.params) h0) (hroom : A.depth < recursionLimit) (hlen : txt.length ≤ 100) (h : ∀ t', Go h0 o0 cs (Q (.str (atF txt) t'))) : Go h0 o0 cs (wpAny (model prog w) A (call (.ref aAt) [.str txt u]) Q E) := by
 have h1 := cX (a := "&") (b := "&amp;") (k := 6) hlen
 have h2 := cX (a := "<") (b := "&lt;") (k := 5) h1
 have h3 := cX (a := "\"") (b := "&quot;") (k := 7) h2
 have h4 := cX (a := "\t") (b := "&#x9;") (k := 6) h3
 have h5 := cX (a := "\n") (b := "&#xA;") (k := 6) h4
 have b1 : (ofString "&amp;").length = 5 := by decide +kernel
 have b2 : (ofString "&lt;").length = 4 := by decide +kernel
 have b3 : (ofString "&quot;").length = 6 := by decide +kernel
 have b4 : (ofString "&#x9;").length = 5 := by decide +kernel
 have b5 : (ofString "&#xA;").length = 5 := by decide +kernel
 have b6 : (ofString "&#xD;").length = 5 := by decide +kernel
 refine bv (db (m := [(ofString "text", .str txt u)]) B hroom (fun s X => by with_reducible refine kp_binds X ?_; intro S; kernel_rfl!) fun L => ?_)
 refine aE (s_try (aE ?_))
 refine eA (by rw [b1]; (lia)) rfl fun t1 => aJ (aE ?_)
 refine eA (by rw [b2]; unfold gy at h1; (lia)) rfl fun t2 => aJ (aE ?_)
 refine eA (by rw [b3]; unfold gy at h2; (lia)) rfl fun t3 => aJ (aE ?_)
 refine eA (by rw [b4]; unfold gy at h3; (lia)) rfl fun t4 => aJ (aE ?_)
 refine eA (by rw [b5]; unfold gy at h4; (lia)) rfl fun t5 => aJ (aE ?_)
 refine eA (by rw [b6]; unfold gy at h5; (lia)) rfl fun t6 => aJ (aE ?_)
 have h := h t6
 with_reducible refine dC (aG .here .here (bT (bT (gz ?_))))
 exact fun s H => h s H.tail
noncomputable def tot (l : List (Str × Tok)) : Nat := (l.map fun p => p.1.length).sum
noncomputable def dY (l : List Str) : Str := Txt.join (ofString "") l
theorem kD (k : Nat) : ∀ (l : List Str) (a : Nat), l.foldl (fun n y => n + y.length + 0) a = a + (l.map (·.length)).sum
 | [], a => by simp
 | y :: l, a => by rw [List.foldl_cons, kD k l, ap, List.sum_cons]; (lia)
theorem cZ {l : List (Str × Tok)} (h : tot l ≤ sizeLine) : JoinOk (ofString "") (l.map (·.1)) = true := by
 have e : (ofString "").length = 0 := by decide +kernel
 unfold JoinOk Builtin.Str.tooLong
 rw [List.foldl_toArray, e, kD 0, List.map_map]
 have : (0 + (l.map (Str.length ∘ fun x => x.1)).sum) ≤ sizeLine := by rw [Nat.zero_add]; exact h
 simpa using this
theorem po : ∀ l : List (List Nat), jn [] l = l.flatten
 | [] => rfl
 | [x] => by simp [jn]
 | x :: y :: r => by
  rw [mv _ _ _ (by simp), po (y :: r)]; simp
theorem dX (l : List Str) : (dY l).cps.toList = l.flatMap fun p => p.cps.toList := by
 unfold dY Txt.join
 rw [e9, show (ofString "").cps.toList = [] from by decide +kernel, po, List.flatMap_def]
theorem ee (l : List (Str × Tok)) : (dY (l.map (·.1))).length = tot l := by
 rw [show (dY (l.map (·.1))).length = (dY (l.map (·.1))).cps.toList.length from by simp [Str.length], dX, List.length_flatMap]
 unfold tot
 rw [List.map_map]
 congr 1
noncomputable def fg (st : Bool) (data : List Str) (ps : List Bool) : Str := if (st && !(ps.getLastD false)) = true then Txt.strip (dY data) else dY data
noncomputable def flT (i : fQ) (t : eo) (k : Tok) : eo :=
 { t with data := [], out := if (fg i.st (t.data.map (·.1)) t.ps).length ≠ 0 ∧ t.rs = true then t.out ++ [(cdF (fg i.st (t.data.map (·.1)) t.ps), k)] else t.out }
theorem pJ {st : Bool} {d : List (Str × Tok)} {ps : List Bool} {n : Nat} (h : tot d ≤ n) (hs : (Txt.strip (dY (d.map (·.1)))).length ≤ (dY (d.map (·.1))).length) : (fg st (d.map (·.1)) ps).length ≤ n := by
 unfold fg
 split
 ·exact Nat.le_trans hs (by rw [ee]; exact h)
 ·rw [ee]; exact h
theorem fm {R : RP} (B : Base (KF w.params) h0) (hroom : A.depth + 1 < recursionLimit) (hz : tot t.data ≤ 3000) (hdz : t.data.length ≤ 1000) (hoz : t.out.length ≤ 1000000) (hps : t.ps ≠ []) (hpz : t.ps.length ≤ 1000)
  (h : ∀ k, Go h0 o0 (wr prog w i (flT i t k) V) (R (.ok (.ret .none)))) : Go h0 o0 (wr prog w i t V) (codeAny (model prog w) A (.call (.ref lS) ⟨[.ref i.x], []⟩) R) := by
 have gEsc : bA h0 (ofString "_escape_cdata_c14n") (.ref qd) := B.glob (by kernel_rfl!) (by kernel_rfl!)
 have bJ : h0.get? qb = some { cls := .type "builtin_function_or_method", data := .fields #[.builtin "str.join", .str (ofString "") tJoin] } := B.X _ _ (by kernel_rfl!)
 have hJ : (dY (t.data.map (·.1))).length ≤ 3000 := by rw [ee]; exact hz
 have hroom' : ∀ env, (A.deeper env).depth < recursionLimit := fun _ => hroom
 refine db (m := [(ofString "_join_text", .ref qb), (ofString "self", .ref i.x)]) B (by exact aX 1 (by with_reducible assumption)) (fun s X => by with_reducible refine kp_binds X ?_; intro S; kernel_rfl!) fun L => ?_
 refine aE ?_
 with_reducible refine bK (aW (aG .here .here ?_)); refine c_hv bJ ?_ (by with_unfolding_all rfl) (by with_unfolding_all rfl); refine aA (b8 .here (.n .here) (.there a9) (.there aS) cW (aH (ck ?_))); refine k_join (l := t.data) bJ (show Has _ _ (ay (tv t.data)) from by with_reducible exact .there k0) (cZ (by rw [af]; (apply aD; with_reducible assumption; decide))) ?_; intro tj; refine aR .here (.n (.n .new)) (aJ (aE (s_del (b8 .here (.n .here) (.there a9) (.there aS) cW ?_)))); refine dk (.there (pw_D [])) (by simp only [tv, ag, List.length_cons, ao, List.length_nil, List.length_replicate, af]; apply aD; with_reducible assumption; decide) ?_; refine aJ (aE ?_)
 obtain ⟨p0, b, hpb⟩ : ∃ p0 b, t.ps = p0 ++ [b] := ⟨t.ps.dropLast, t.ps.getLast hps, (List.dropLast_concat_getLast hps).symm⟩
 have ePs : t.ps.map Value.bool = p0.map Value.bool ++ [.bool b] := by rw [hpb, ai]; rfl
 have eL : t.ps.getLastD false = b := by rw [hpb]; simp
 refine bH (fun f C => f = .next ∧ ∃ tk, (fg i.st (t.data.map (·.1)) t.ps).length ≤ 3000 ∧ C = (L, cNs [(ofString "_join_text", .ref qb), (ofString "self", .ref i.x), (ofString "data", .str (fg i.st (t.data.map (·.1)) t.ps) tk)]) :: wr prog w i { t with data := [] } V) ?_ ?_
 ·with_reducible refine bt (bZ (bB (bh (b8 .here (.n .here) (.there a9) (.there aS) tg_st (aP ?_)))))
  refine cA (fun hst => ?_) fun hst => ?_
  ·with_reducible refine bB (ix (bh (bE (b8 .here (.n .here) (.there a9) (.there aS) jP (d4 ?_))))); refine aO fun _ => dT fun t1 => dU (.there jJ) ePs (aP ?_)
   refine e8 (cA (fun hb => ?_) fun hb => ?_)
   ·with_reducible refine dh (aL ?_)
    exact jp ⟨rfl, tj, by unfold fg; rw [eL, hb, hst]; exact hJ, by unfold fg; rw [eL, hb, hst]; rfl⟩
   ·with_reducible refine cM (fF (aE (bK (bi (aG .here (.n (.n .here)) ?_))))); refine g_strip (fn ?_); refine k_strip (by rw [af]; exact Nat.le_trans hJ (by decide)) ?_; intro hsl t2; refine aR .here (.n (.n .here)) (aJ (aL ?_))
    exact jp ⟨rfl, t2, pJ hz hsl, by unfold fg; rw [eL, hb, hst]; rfl⟩
  ·with_reducible refine dh (aL ?_)
   exact jp ⟨rfl, tj, by unfold fg; rw [hst]; exact hJ, by unfold fg; rw [hst]; rfl⟩
 rintro f C ⟨rfl, tk, hD, rfl⟩
 generalize eD : fg i.st (t.data.map (·.1)) t.ps = D at hD
 have h := fun k => h k
 unfold flT at h
 rw [eD] at h
 with_reducible refine aJ (aE (bt (bc (b8 .here (.n .here) (.there a9) (.there aS) tg_pe (cG ?_))))); refine fX (aP (kB (aL (aJ (aE ?_))))); refine bt (bZ (bB (bh (aG .here (.n (.n .here)) ?_)))); refine gq (by rw [af]; (apply aD; with_reducible assumption; decide)) ?_
 refine cA (fun hn => ?_) fun hn => ?_
 ·with_reducible refine bB (bh (b8 .here (.n .here) (.there a9) (.there aS) nW (aP ?_)))
  refine cA (fun hr => ?_) fun hr => ?_
  ·with_reducible refine cM (fF (aE (bf (bi (aG .here (.n .here) ?_))))); refine ni (.there a9) (.there aS) (im (.there cI) (aA (aW (ch ?_)))); refine dK (aA (aG .here (.n (.n .here)) (aH (ck (c_cd B (hroom' _) hD ?_))))); intro tc
   have h := h tc
   rw [if_pos ⟨by simpa using hn, hr⟩] at h
   with_reducible refine aH (cw (.there cI) (gJ hoz (.there cI) (.there (lk _)) (aJ (aL (aJ ?_))))); refine aL (ia ?_)
   exact Go.sl (.tail (.there .refl))
  ·have h := h 0
   rw [if_neg (by rw [hr]; simp)] at h
   with_reducible refine dh (aL (aJ (aL (ia ?_))))
   exact Go.sl (.tail (.there .refl))
 ·have h := h 0
  rw [if_neg (by simpa using fun q => absurd q (by simpa using hn))] at h
  with_reducible refine dh (aL (aJ (aL (ia ?_))))
  exact Go.sl (.tail (.there .refl))
end
noncomputable def bO : List Lv → Pr → List Lv
 | [], _ => []
 | [l], q => [{ l with ps := l.ps ++ [q] }]
 | l :: m :: r, q => l :: bO (m :: r) q
theorem cy : ∀ (N : List Lv) (l : Lv) (q : Pr), bO (N ++ [l]) q = N ++ [{ l with ps := l.ps ++ [q] }]
 | [], _, _ => rfl
 | [a], _, _ => rfl
 | a :: b :: N, l, q => by
  show a :: bO (b :: N ++ [l]) q = _
  rw [cy (b :: N) l q]; rfl
noncomputable def g7 (prog : Program) (w : World) (i : fQ) (t : eo) : az :=
 (i.x, bg bX i.dx) :: (i.dx, cAttrs (cj i t)) :: (i.W, bQ "list.append" i.O) :: (i.O, ay (tv t.out)) :: (i.D, ay (tv t.data)) :: (i.DS, ay (t.dl.map fun l => .ref l.a)) :: (i.NS, ay (t.nl.map fun l => .ref l.a)) ::
  (i.PM, aM prog w (dv2 t.pm)) :: (i.PS, ay (t.ps.map Value.bool)) :: i.EC
theorem i3 {i : fQ} {t : eo} {V : az} : wr prog w i t V = g7 prog w i t ++ (cm t.dl ++ (cm t.nl ++ V)) := rfl
theorem jT {N : List Lv} {l : Lv} {q : Pr} : cm (N ++ [{ l with ps := l.ps ++ [q] }]) = cm N ++ ((l.a, ay (l.refs ++ [.ref q.a])) :: (l.ps.map Pr.cell ++ [q.cell])) := by
 simp [cm, Lv.cells, Lv.refs]
theorem dj {N : List Lv} {l : Lv} : cm (N ++ [l]) = cm N ++ ((l.a, ay l.refs) :: l.ps.map Pr.cell) := by simp [cm, Lv.cells]
section
variable {M : Model} {cs cs' V X Y : az} {K : Frag} {P : GP} {i : fQ} {t : eo} {Q : VP}
theorem k_pushN {N : List Lv} {l : Lv} {q : Pr} (hn : t.nl = N ++ [l]) (hz : l.ps.length ≤ 1000000) (h : Go h0 o0 (X ++ wr prog w i { t with nl := bO t.nl q } V) (Q .none)) :
  Go h0 o0 (q.cell :: (X ++ wr prog w i t V)) (wpAny (model prog w) A (call (.builtin "list.append") [.ref l.a, .ref q.a]) Q E) := by
 have e1 : wr prog w i t V = g7 prog w i t ++ (cm t.dl ++ (cm N ++ ((l.a, ay l.refs) :: (l.ps.map Pr.cell ++ V)))) := by
  rw [i3, hn, dj]; simp only [an, List.cons_append]
 have e2 : wr prog w i { t with nl := bO t.nl q } V = g7 prog w i t ++ (cm t.dl ++ (cm N ++ ((l.a, ay (l.refs ++ [.ref q.a])) :: (l.ps.map Pr.cell ++ (q.cell :: V))))) := by
  rw [i3]
  show (g7 prog w i { t with nl := bO t.nl q }) ++ (cm t.dl ++ (cm (bO t.nl q) ++ V)) = _
  have : g7 prog w i { t with nl := bO t.nl q } = g7 prog w i t := by
   unfold g7
   show _ :: _ :: _ :: _ :: _ :: _ :: (i.NS, ay ((bO t.nl q).map fun l => .ref l.a)) :: _ = _
   rw [hn, cy]
   simp only [ai, ap, List.map_nil]
   rfl
  rw [this, hn, cy, jT]
  simp only [an, List.cons_append, List.nil_append]
 rw [e2] at h
 rw [e1]
 refine jm (xs := l.refs) (.there (.skip (.skip (.skip (.skip .here))))) (by rw [Lv.refs, ag, af]; lia) (Go.perm ?_ h)
 have p1 : X ++ (g7 prog w i t ++ (cm t.dl ++ (cm N ++ ((l.a, ay (l.refs ++ [Value.ref q.a])) :: (l.ps.map Pr.cell ++ V))))) = (X ++ (g7 prog w i t ++ (cm t.dl ++ (cm N ++ [(l.a, ay (l.refs ++ [Value.ref q.a]))] ++ l.ps.map Pr.cell)))) ++ V := by simp
 have p2 : X ++ (g7 prog w i t ++ (cm t.dl ++ (cm N ++ ((l.a, ay (l.refs ++ [Value.ref q.a])) :: (l.ps.map Pr.cell ++ (q.cell :: V)))))) = (X ++ (g7 prog w i t ++ (cm t.dl ++ (cm N ++ [(l.a, ay (l.refs ++ [Value.ref q.a]))] ++ l.ps.map Pr.cell)))) ++ (q.cell :: V) := by simp
 rw [p1, p2]
 exact List.perm_middle.symm
theorem k_pushD {N : List Lv} {l : Lv} {q : Pr} (hn : t.dl = N ++ [l]) (hz : l.ps.length ≤ 1000000) (h : Go h0 o0 (X ++ wr prog w i { t with dl := bO t.dl q } V) (Q .none)) :
  Go h0 o0 (q.cell :: (X ++ wr prog w i t V)) (wpAny (model prog w) A (call (.builtin "list.append") [.ref l.a, .ref q.a]) Q E) := by
 have e1 : wr prog w i t V = g7 prog w i t ++ (cm N ++ ((l.a, ay l.refs) :: (l.ps.map Pr.cell ++ (cm t.nl ++ V)))) := by
  rw [i3, hn, dj]; simp only [an, List.cons_append]
 have e2 : wr prog w i { t with dl := bO t.dl q } V = g7 prog w i t ++ (cm N ++ ((l.a, ay (l.refs ++ [.ref q.a])) :: (l.ps.map Pr.cell ++ (q.cell :: (cm t.nl ++ V))))) := by
  rw [i3]
  show (g7 prog w i { t with dl := bO t.dl q }) ++ (cm (bO t.dl q) ++ (cm t.nl ++ V)) = _
  have : g7 prog w i { t with dl := bO t.dl q } = g7 prog w i t := by
   unfold g7
   show _ :: _ :: _ :: _ :: _ :: (i.DS, ay ((bO t.dl q).map fun l => .ref l.a)) :: _ = _
   rw [hn, cy]
   simp only [ai, ap, List.map_nil]
   rfl
  rw [this, hn, cy, jT]
  simp only [an, List.cons_append, List.nil_append]
 rw [e2] at h
 rw [e1]
 refine jm (xs := l.refs) (.there (.skip (.skip (.skip .here)))) (by rw [Lv.refs, ag, af]; lia) (Go.perm ?_ h)
 have p1 : X ++ (g7 prog w i t ++ (cm N ++ ((l.a, ay (l.refs ++ [Value.ref q.a])) :: (l.ps.map Pr.cell ++ (cm t.nl ++ V))))) = (X ++ (g7 prog w i t ++ (cm N ++ [(l.a, ay (l.refs ++ [Value.ref q.a]))] ++ l.ps.map Pr.cell))) ++ (cm t.nl ++ V) := by simp
 have p2 : X ++ (g7 prog w i t ++ (cm N ++ ((l.a, ay (l.refs ++ [Value.ref q.a])) :: (l.ps.map Pr.cell ++ (q.cell :: (cm t.nl ++ V)))))) = (X ++ (g7 prog w i t ++ (cm N ++ [(l.a, ay (l.refs ++ [Value.ref q.a]))] ++ l.ps.map Pr.cell))) ++ (q.cell :: (cm t.nl ++ V)) := by simp
 rw [p1, p2]
 exact List.perm_middle.symm
theorem Go.wIn1 {p : Addr × bM} (h : Go h0 o0 (wr prog w i t (p :: V)) P) : Go h0 o0 (p :: wr prog w i t V) P := Go.wIn [p] h
theorem Go.wOut1 {p : Addr × bM} (h : Go h0 o0 (p :: wr prog w i t V) P) : Go h0 o0 (wr prog w i t (p :: V)) P := Go.wOut (X := [p]) h
structure WB (t : eo) : Prop where
 tot : tot t.data ≤ 3000
 dz : t.data.length ≤ 1000
 psn : t.ps ≠ []
 psz : t.ps.length ≤ 1000
 dlz : t.dl.length ≤ 1000
 nlz : t.nl.length ≤ 1000
 dll : ∀ l ∈ t.dl, l.ps.length ≤ 1000 ∧ ∀ q ∈ l.ps, q.u.length ≤ 100 ∧ q.p.length ≤ 100
 nll : ∀ l ∈ t.nl, l.ps.length ≤ 1000 ∧ ∀ q ∈ l.ps, q.u.length ≤ 100 ∧ q.p.length ≤ 100
 pmz : t.pm.length ≤ 100 ∧ ∀ q ∈ t.pm, q.1.length ≤ 100 ∧ q.2.1.length ≤ 100
 igz : t.ig ≤ 1000
noncomputable def cg (i : fQ) (t : eo) (k : Tok) : eo := if t.data = [] then t else flT i t k
theorem dw {k : Tok} : (cg i t k).nl = t.nl := by unfold cg; split <;> rfl
theorem dy {k : Tok} : (cg i t k).dl = t.dl := by unfold cg; split <;> rfl
theorem gP {k : Tok} : (cg i t k).ps = t.ps := by unfold cg; split <;> rfl
theorem lE {k : Tok} : (cg i t k).pm = t.pm := by unfold cg; split <;> rfl
theorem flD_out {k : Tok} : (cg i t k).out.length ≤ t.out.length + 1 := by
 unfold cg; split
 ·lia
 ·unfold Mine.flT; dsimp only; split
  ·rw [ao]; exact ae _
  ·lia
theorem flD_q {k : Tok} : (cg i t k).data = [] := by
 unfold cg; split
 ·assumption
 ·rfl
theorem flD_ig {k : Tok} : (cg i t k).ig = t.ig := by unfold cg; split <;> rfl
theorem WB.fl (h : WB t) (k : Tok) : WB (cg i t k) := by
 refine ⟨?_, ?_, by rw [gP]; exact h.psn, by rw [gP]; exact h.psz, by rw [dy]; exact h.dlz, by rw [dw]; exact h.nlz, by rw [dy]; exact h.dll, by rw [dw]; exact h.nll, by rw [lE]; exact h.pmz, by rw [flD_ig]; exact h.igz⟩
 ·rw [flD_q]; exact Nat.zero_le _
 ·rw [flD_q]; exact Nat.zero_le _
end
noncomputable def TK (h0 : Heap) (o : Shared) (K' : az) (P : az → Prop) (Q : FP) : Flow → Shared → Prop
 | .next => fun s => ∃ C', P C' ∧ St h0 o (C' ++ K') s
 | .cont => fun s => ∃ C', P C' ∧ St h0 o (C' ++ K') s
 | .brk => Q .next
 | .ret v => Q (.ret v)
noncomputable def GK (prog : Program) (w : World) (A : Around) (env : Env) (target : Expr) (body : List Stmt) (h0 : Heap) (o0 : Shared) (Q : FP) : Value → Shared → Prop := fun x s₁ => ∃ G g gs fi items C0 K, ∃ P : Nat → az → Prop, ∃ Pre : az → Prop, x = .ref G ∧ o0.gens.size ≤ g ∧ s₁.gens[g]? = some gs ∧ GPos prog w A.in1 h0 Pre items fi gs ∧
   P 0 C0 ∧ St h0 o0 (fi ++ ((G, b9 g) :: (C0 ++ K))) s₁ ∧ (∀ i C, P i C → Pre ((G, b9 g) :: (C ++ K))) ∧
   (∀ i v C K' o s, items[i]? = some v → P i C → (∀ C s, St h0 o (C ++ K') s → St h0 o0 (C ++ K) s) → St h0 o (C ++ K') s →
    wpAny (model prog w) A (assign target env v) (fun _ s₂ => wpAny (model prog w) A (execs body env) (fun f s₃ => match f with
     | .next | .cont => ∃ C', P (i + 1) C' ∧ St h0 o (C' ++ K') s₃
     | .brk => Q .next s₃
     | .ret v => Q (.ret v) s₃) NoE s₂) NoE s) ∧
   (∀ C s, P items.length C → St h0 o0 (C ++ K) s → Q .next s)
section
variable {M : Model} {cs cs' V X Y : az} {P1 : GP} {i : fQ} {t : eo}
theorem md {target iter : Expr} {body : List Stmt} {pos : Pos} {Q : FP} (hh : A.handled = none) (hroom : A.depth < recursionLimit) (hl : h0.NoLimit)
  (h : Go h0 o0 cs (wpAny (model prog w) A (eval iter env) (GK prog w A env target body h0 o0 Q) E)) (hs : ∀ x, foldedSetIterable iter env x = pure x) : Go h0 o0 cs (wpAny (model prog w) A (exec (.For target iter body [] pos) env) Q E) :=
 fun s H => nH hh hroom hl (h s H) hs
theorem tk_n {o : Shared} {K' C : az} {P : az → Prop} {Q : FP} (h : P C) (e : cs = C ++ K') : Go h0 o cs (TK h0 o K' P Q .next) := fun s H => ⟨C, h, e ▸ H⟩
theorem tk_r {o : Shared} {K' : az} {P : az → Prop} {Q : FP} {v : Value} (h : Go h0 o cs (Q (.ret v))) : Go h0 o cs (TK h0 o K' P Q (.ret v)) := h
theorem k_iter {sa x fa : Addr} {lv : List (Addr × List Value)} {K0 : Frag} {target : Expr} {body : List Stmt} {Q : FP} {C0 K : az} {P : Nat → az → Prop} {p1 p2 p3 p4 p5 p6 p7 p8 p9 p10 : Pos} (B : Base K0 h0) (hh : A.handled = none) (hroom : A.depth < recursionLimit) (hf : my K0 fa = true)
  (hbody : aZ K0 fa = [.For (.Name nsX p1) (.Call (.Name (ofString "_reversed") p2) [.Name (ofString "ns_stack") p3] [] p4) (gIf p5 p6 p7 p8 p9) [] p10])
  (hbind : ∀ s, K0.In s.heap → BindsTo s (aK K0 fa) ⟨[.ref x, .ref sa], []⟩ [(ofString "self", .ref x), (ofString "ns_stack", .ref sa), (ofString "_reversed", .type "reversed")])
  (hloc : ([(ofString "_reversed", Value.type "reversed"), (ofString "ns_stack", .ref sa), (ofString "self", .ref x)].all fun x => (aK K0 fa).scope.names.lookup x.1 == some .local) = true)
  (hg : ∀ L, GEnv (callEnv (aK K0 fa) L fa) L) (hP0 : P 0 C0) (hpre : ∀ n C, P n C → nr sa lv (C ++ K))
  (turn : ∀ n v C K' o, (dF lv lv.length)[n]? = some v → P n C → (∀ C s, St h0 o (C ++ K') s → St h0 o0 (C ++ K) s) →
   Go h0 o (C ++ K') (wpAny (model prog w) A (assign target env v) (fun _ => wpAny (model prog w) A (execs body env) (TK h0 o K' (P (n + 1)) Q) NoE) NoE))
  (fin : ∀ C, P (dF lv lv.length).length C → Go h0 o0 (C ++ K) (Q .next)) :
  Go h0 o0 (C0 ++ K) (wpAny (model prog w) A (call (.ref fa) [.ref x, .ref sa]) (GK prog w A env target body h0 o0 Q) E) := by
 intro s H
 refine wpAny_call (mS (m := [(ofString "_reversed", .type "reversed"), (ofString "ns_stack", .ref sa), (ofString "self", .ref x)]) B H hf hroom (hbind s (B.X.keeps H.keep)) hloc fun L G g s' hgs hst H' => ?_)
 refine ⟨G, g, _, [(L, _)], dF lv lv.length, C0, K, P, nr sa lv, rfl, hgs, hst, ?_, hP0, H', fun n C hp => ?_, fun n v C K' o s hv hp hb Hs => ?_, fun C s hp Hs => fin C hp s Hs⟩
 ·rw [hbody]
  exact pB (self := .ref x) hh (hg L) (fun x => by with_unfolding_all rfl)
 ·have := hpre n C hp
  exact ⟨.there this.1, fun q hq => ⟨.there (this.2 q hq).1, (this.2 q hq).2⟩⟩
 ·refine ad (turn n v C K' o hv hp hb s Hs) (fun _ s2 q => ad q (fun f s3 q => ?_) fun _ _ q => q) fun _ _ q => q
  cases f <;> exact q
end
noncomputable def UK (h0 : Heap) (o0 : Shared) (Q : VP) (o : Value) : Value → Shared → Prop := fun vu s₃ => ∃ x t j u cs, o = .str x t ∧ vu = .int j u ∧ St h0 o0 cs s₃ ∧ x.length ≤ sizeLine ∧ ∀ t' s', St h0 o0 cs s' → Q (.str (Txt.slice x none (some j)) t') s'
noncomputable def UF (h0 : Heap) (o0 : Shared) (Q : VP) (o : Value) : Value → Shared → Prop := fun vu s₃ => ∃ x t j u cs, o = .str x t ∧ vu = .int j u ∧ St h0 o0 cs s₃ ∧ x.length ≤ sizeLine ∧ ∀ t' s', St h0 o0 cs s' → Q (.str (Txt.slice x (some j) none) t') s'
section
variable {M : Model} {cs cs' V X Y : az} {P1 : GP} {Q : VP}
theorem kU {a b : Str} {pa pb pos : Pos} {k : Nat} {t : Addr} {u v : Value} {Q : Unit → Shared → Prop} (hh : A.handled = none) (H : St h0 o0 cs s) (ht : Has cs t (ay [u, v]))
  (h : ∀ s', St h0 o0 cs s' → wpAny (model prog w) A (storeName env a u) (fun _ s1 => wpAny (model prog w) A (storeName env b v) Q E s1) E s') :
  wpAny (model prog w) A (assign (.Tuple [.Name a pa, .Name b pb] k pos) env (.ref t)) Q E s := by
 rw [arm_assign_Tuple]
 refine aa (wpAny_standAt ?_)
 unfold unpack
 rw [show (assignEach [Expr.Name a pa, Expr.Name b pb] env).length = 2 from rfl, show (assignEach [Expr.Name a pa, Expr.Name b pb] env).findIdx? (·.1) = none from rfl]
 refine aa (aw ?_)
 unfold unpackItems
 refine aa ?_
 unfold notIterableAtAll
 refine aa (wpAny_specialOf (aU H ht).typeIs slot_list_iter.lookup ?_)
 refine ab ?_
 simp only [Bool.false_eq_true, if_false]
 have S : ∀ it, cH prog w A h0 o0 (.ref it) (fun i => [(it, ce t i)]) 2 (fun i x => [u, v][i]? = some x) (fun C => Has C t (ay [u, v])) := fun it => cx (xs := [u, v]) hh
 refine aa (aw (wpAny_pyIter_list (aU H ht) ?_))
 have H2 : St h0 o0 ((s.heap.objs.size, ce t 0) :: cs) { s with heap := s.heap.push { cls := .type "list_iterator", data := .fields #[.ref t, .int 0 0] } } := H.push (k := s.toks) (c := ce t 0) ⟨rfl, rfl⟩ (ae _)
 generalize s.heap.objs.size = it at H2 ⊢
 refine aa (aw ?_)
 show wpAny _ _ (pyNext (.ref it) >>= _) _ _ _
 refine aa ((S it).next 0 cs _ _ _ (by decide) ht H2 fun x s1 hx H3 => ?_)
 cases hx
 refine aa (aw ?_)
 show wpAny _ _ (pyNext (.ref it) >>= _) _ _ _
 refine aa ((S it).next 1 cs _ _ _ (by decide) ht H3 fun x s2 hx H4 => ?_)
 cases hx
 refine aa (aw (ab (ab (ab ?_))))
 simp only [List.length_cons, List.length_nil, Nat.lt_irrefl, if_false]
 refine aa (aw ((S it).done cs _ _ _ ht H4 fun s3 H5 => ?_))
 simp only [Option.isSome_none, Bool.false_eq_true, if_false]
 refine ab ?_
 refine wpAny_assignInOrder_more (t := assign (.Name a pa) env) (ts := [assign (.Name b pb) env]) (x := u) (xs := [v]) ?_
 refine wpAny_assign_Name (ad (h _ H5) (fun _ s1 q => ?_) fun _ _ q => q)
 refine wpAny_assignInOrder_more (t := assign (.Name b pb) env) (ts := []) (x := v) (xs := []) ?_
 refine wpAny_assign_Name (ad q (fun _ s2 q => ?_) fun _ _ q => q)
 exact wpAny_assignInOrder_none q
theorem nT {a b : Str} {pa pb pos : Pos} {k : Nat} {t : Addr} {u v : Value} {Q : Unit → Shared → Prop} (hh : A.handled = none) (ht : Has cs t (a8 [u, v])) (h : Go h0 o0 cs (wpAny (model prog w) A (storeName env a u) (fun _ => wpAny (model prog w) A (storeName env b v) Q E) E)) :
  Go h0 o0 cs (wpAny (model prog w) A (assign (.Tuple [.Name a pa, .Name b pb] k pos) env (.ref t)) Q E) := fun s H => mI hh H ht h
theorem u_2l {a b : Str} {pa pb pos : Pos} {k : Nat} {t : Addr} {u v : Value} {Q : Unit → Shared → Prop} (hh : A.handled = none) (ht : Has cs t (ay [u, v])) (h : Go h0 o0 cs (wpAny (model prog w) A (storeName env a u) (fun _ => wpAny (model prog w) A (storeName env b v) Q E) E)) :
  Go h0 o0 cs (wpAny (model prog w) A (assign (.Tuple [.Name a pa, .Name b pb] k pos) env (.ref t)) Q E) := fun s H => kU hh H ht h
theorem u_3 {a b c : Str} {pa pb pc pos : Pos} {k : Nat} {t : Addr} {u v x : Value} {Q : Unit → Shared → Prop} (hh : A.handled = none) (ht : Has cs t (a8 [u, v, x]))
  (h : Go h0 o0 cs (wpAny (model prog w) A (storeName env a u) (fun _ => wpAny (model prog w) A (storeName env b v) (fun _ => wpAny (model prog w) A (storeName env c x) Q E) E) E)) :
  Go h0 o0 cs (wpAny (model prog w) A (assign (.Tuple [.Name a pa, .Name b pb, .Name c pc] k pos) env (.ref t)) Q E) := fun s H => mH hh H ht h
theorem e_upto {value hi : Expr} {p pos : Pos} (h : Go h0 o0 cs (wpAny (model prog w) A (eval value env) (fun o => wpAny (model prog w) A (eval hi env) (UK h0 o0 Q o) E) E)) (ht : ∀ o r, letTemporaryGo value o r = pure ()) :
  Go h0 o0 cs (wpAny (model prog w) A (eval (.Subscript value (.Slice none (some hi) none p) pos) env) Q E) := fun s H => x_upto (h0 := h0) (o0 := o0) (h s H) ht
theorem uk {x : Str} {t u : Tok} {j : Int} (hz : x.length ≤ sizeLine) (h : ∀ t, Go h0 o0 cs (Q (.str (Txt.slice x none (some j)) t))) : Go h0 o0 cs (UK h0 o0 Q (.str x t) (.int j u)) := fun s H => ⟨x, t, j, u, cs, rfl, rfl, H, hz, fun t s' H' => h t s' H'⟩
theorem x_from {value lo : Expr} {p pos : Pos} (h : wpAny (model prog w) A (eval value env) (fun o s₁ => wpAny (model prog w) A (eval lo env) (UF h0 o0 Q o) E s₁) E s) (ht : ∀ o r, letTemporaryGo value o r = pure ()) :
  wpAny (model prog w) A (eval (.Subscript value (.Slice (some lo) none none p) pos) env) Q E s := by
 refine wpAny_Subscript_str_slice (ad h (fun o s1 h1 => evalPart_some_step (ad h1 (fun vu s3 h3 => evalPart_none_step ?_) fun _ _ q => q)) fun _ _ q => q) ht
 obtain ⟨x, t, j, u, cs, rfl, rfl, H, hz, hq⟩ := h3
 refine ⟨x, t, some (j, u), none, rfl, rfl, rfl, ?_⟩
 have H1 : St h0 o0 cs { s3 with heap := s3.heap.push { cls := .type "slice", data := .fields #[.int j u, .none, .none] } } := H.grow (k := s3.toks) (fun b o e => Heap.get?_push_of_some _ e) (ae _)
 unfold sliceMade
 split
 ·rename_i hc
  have q := hq t _ H1
  rw [show Txt.slice x (some j) none = x from if_pos hc] at q
  exact q
 ·rename_i hc
  have e : Txt.slice x (some j) none = _ := if_neg hc
  have q := hq s3.toks _ (H1.toks (k := s3.toks + 1) (Nat.le_succ _))
  have l := Txt.slice_le x (some j) none
  rw [e] at q l
  exact ⟨Nat.le_trans l hz, q⟩
theorem e_from {value lo : Expr} {p pos : Pos} (h : Go h0 o0 cs (wpAny (model prog w) A (eval value env) (fun o => wpAny (model prog w) A (eval lo env) (UF h0 o0 Q o) E) E)) (ht : ∀ o r, letTemporaryGo value o r = pure ()) :
  Go h0 o0 cs (wpAny (model prog w) A (eval (.Subscript value (.Slice (some lo) none none p) pos) env) Q E) := fun s H => x_from (h0 := h0) (o0 := o0) (h s H) ht
theorem uf {x : Str} {t u : Tok} {j : Int} (hz : x.length ≤ sizeLine) (h : ∀ t, Go h0 o0 cs (Q (.str (Txt.slice x (some j) none) t))) : Go h0 o0 cs (UF h0 o0 Q (.str x t) (.int j u)) := fun s H => ⟨x, t, j, u, cs, rfl, rfl, H, hz, fun t s' H' => h t s' H'⟩
theorem pD {x : Str} {u : Tok} {pl : Sem Bool} {Q : Value × List Value → Shared → Prop} (h : Go h0 o0 cs (Q (.builtin "str.rsplit", [.str x u]))) : Go h0 o0 cs (wpAny M A (getMethod (.str x u) (ofString "rsplit") pl) Q E) := fun s H => GM.rsplit (h s H)
theorem g_split {x : Str} {u : Tok} {pl : Sem Bool} {Q : Value × List Value → Shared → Prop} (h : Go h0 o0 cs (Q (.builtin "str.split", [.str x u]))) : Go h0 o0 cs (wpAny M A (getMethod (.str x u) (ofString "split") pl) Q E) := fun s H => GM.split (h s H)
theorem o8 {x y : Str} {t u v : Tok} {k : Int} (hy : (y.length == 0) = false) (hk : (decide (k < -(2 ^ 63 : Int)) || decide (k ≥ 2 ^ 63)) = false) (hsz : x.length + 2 ≤ sizeLine)
  (h : ∀ a (l : List (Str × Tok)), l.map (·.1) = Txt.rsplitMax x y k → Go h0 o0 ((a, ay (strValues l)) :: cs) (Q (.ref a))) : Go h0 o0 cs (wpAny (model prog w) A (call (.builtin "str.rsplit") [.str x t, .str y u, .int k v]) Q E) := fun s H => jF H hy hk hsz fun a l s' e H' => h a l e s' H'
theorem k_set0 (h : ∀ a, Go h0 o0 ((a, bj false w []) :: cs) (Q (.ref a))) : Go h0 o0 cs (wpAny (model prog w) A (call (.type "set") []) Q E) := fun s H => x_set0 H fun a s' H' => h a s' H'
theorem g_add {b : Bool} {a : Addr} {ks : List Str} {pl : Sem Bool} {Q : Value × List Value → Shared → Prop} (ha : Has cs a (bj b w ks)) (h : Go h0 o0 cs (Q (.builtin "set.add", [.ref a]))) : Go h0 o0 cs (wpAny (model prog w) A (getMethod (.ref a) (ofString "add") pl) Q E) := fun s H => x_addM H ha (h s H)
theorem k_add {b : Bool} {a : Addr} {ks : List Str} {x : Str} {u : Tok} (hz : ks.length + 1 < scanBound) (hp : Put cs a (bj b w ks) (bj b w (if x ∈ ks then ks else ks ++ [x])) cs') (h : Go h0 o0 cs' (Q .none)) : Go h0 o0 cs (wpAny (model prog w) A (call (.builtin "set.add") [.ref a, .str x u]) Q E) := fun s H => x_add H hz hp h
theorem oy {b : Bool} {a : Addr} {ks : List Str} {x : Str} {u : Tok} (ha : Has cs a (bj b w ks)) (h : Go h0 o0 cs (Q (.bool (!decide (x ∈ ks))))) : Go h0 o0 cs (wpAny (model prog w) A (compareOp .NotIn (.str x u) (.ref a)) Q E) := fun s H => kX H ha h
theorem oD {value slice : Expr} {d : Addr} {kvs : List (Str × Value)} {k : Str} {u : Tok} {v : Value} (hd : Has cs d (aM prog w kvs)) (hv : valueAt kvs k = some v)
  (hs : subscripted slice false (.ref d) (.str k u) = operate [.ref d, .str k u] (getItem (.ref d) (.str k u))) (h : Go h0 o0 cs (Q v)) : Go h0 o0 cs (wpAny (model prog w) A (subscriptTail value slice (.ref d) (.str k u)) Q E) := fun s H => x_dget H hd hv hs h
theorem k_dset {d : Addr} {kvs : List (Str × Value)} {k : Str} {u : Tok} {v : Value} {Q : Unit → Shared → Prop} (hp : Put cs d (aM prog w kvs) (aM prog w (stored kvs k v)) cs') (hz : kvs.length ≤ sizeLine) (h : Go h0 o0 cs' (Q ())) : Go h0 o0 cs (wpAny (model prog w) A (setItem (.ref d) (.str k u) v) Q E) := fun s H => x_dset H hp hz h
theorem nn {x : Str} {pos : Pos} {v : Value} {Q : Unit → Shared → Prop} (h : Go h0 o0 cs (wpAny M A (storeName env x v) Q E)) : Go h0 o0 cs (wpAny M A (assign (.Name x pos) env v) Q E) := fun s H => wpAny_assign_Name (h s H)
end
noncomputable abbrev Sp := Str × Str
structure QS where
 (dl nl : List (List Sp)) (pm : List Sp)
noncomputable def QS.of (t : eo) : QS := ⟨t.dl.map Lv.v, t.nl.map Lv.v, t.pm.map fun q => (q.1, q.2.1)⟩
noncomputable def bd (ls : List (List Sp)) : List Sp := ls.reverse.flatten
noncomputable def eU (seen : List Str) (p : Str) : List Str := if p ∈ seen then seen else seen ++ [p]
noncomputable def bL (uri : Str) : List Sp → List Str → Option Str × List Str
 | [], seen => (none, seen)
 | (u, p) :: r, seen => if u = uri ∧ p ∉ seen then (some p, seen) else bL uri r (eU seen p)
noncomputable def iD (p tag : Str) : Str := if p.length = 0 then tag else Str.empty ++ p ++ ofString ":" ++ tag
noncomputable def cu : List (List Sp) → Sp → List (List Sp)
 | [], _ => []
 | [l], q => [l ++ [q]]
 | l :: m :: r, q => l :: cu (m :: r) q
noncomputable def nN (k : Nat) : Str := Str.empty ++ ofString "n" ++ ofString (toString (k : Int))
theorem nN_all : ((List.range 101).all fun n => decide ((nN n).length ≤ 10) && decide ((ofString (toString (n : Int))).length ≤ 10)) = true := by decide +kernel
theorem oK {n : Nat} (h : n ≤ 100) : (nN n).length ≤ 10 ∧ (ofString (toString (n : Int))).length ≤ 10 := by
 have := List.all_eq_true.mp nN_all n (List.mem_range.mpr (by lia))
 simpa using this
noncomputable def pmF (pm : List Sp) (uri : Str) : Str × List Sp := match pm.lookup uri with
 | some p => (p, pm)
 | none => (nN pm.length, pm ++ [(uri, nN pm.length)])
noncomputable def d8 (rw : Bool) (s : QS) (uri tag : Str) : Option (Str × QS) :=
 match bL uri (bd s.dl) [] with
 | (some p, _) => some (iD p tag, s)
 | (none, seen) =>
  if rw = true then some (Str.empty ++ (pmF s.pm uri).1 ++ ofString ":" ++ tag, ⟨cu s.dl (uri, (pmF s.pm uri).1), s.nl, (pmF s.pm uri).2⟩)
  else if uri.length = 0 ∧ ofString "" ∉ seen then some (tag, s)
  else match (bd s.nl).find? fun q => q.1 == uri with
   | some q => some (iD q.2 tag, ⟨cu s.dl (uri, q.2), s.nl, s.pm⟩)
   | none => if uri.length = 0 then some (tag, s) else none
theorem mi : ∀ (ls : List Lv) (q : Pr), (bO ls q).map Lv.v = cu (ls.map Lv.v) q.v
 | [], _ => rfl
 | [l], q => by simp [bO, cu, Lv.v]
 | l :: m :: r, q => by
  show l.v :: (bO (m :: r) q).map Lv.v = l.v :: cu ((m :: r).map Lv.v) q.v
  rw [mi (m :: r) q]
theorem mj : ∀ (ls : List Lv) (q : Pr), (bO ls q).map (·.a) = ls.map (·.a)
 | [], _ => rfl
 | [l], q => rfl
 | l :: m :: r, q => by
  show l.a :: (bO (m :: r) q).map (·.a) = l.a :: ((m :: r).map (·.a))
  rw [mj (m :: r) q]
noncomputable def er (ls : List Lv) : List Pr := ls.reverse.flatMap (·.ps)
theorem iC (ls : List Lv) : (er ls).map Pr.v = bd (ls.map Lv.v) := by
 unfold er bd
 rw [← List.map_reverse, List.flatMap_def, List.map_flatten, List.map_map]; rfl
noncomputable def lvR (ls : List Lv) : List (Addr × List Value) := ls.map fun l => (l.a, l.refs)
theorem iO (ls : List Lv) : dF (lvR ls) (lvR ls).length = (er ls).map fun q => .ref q.a := by
 unfold dF lvR er
 rw [List.take_length, ← List.map_reverse, List.flatMap_map, List.map_flatMap]; rfl
theorem mr {ls : List Lv} {q : Pr} (h : q ∈ er ls) : ∃ l ∈ ls, q ∈ l.ps := by
 obtain ⟨l, hl, hq⟩ := List.mem_flatMap.mp h
 exact ⟨l, List.mem_reverse.mp hl, hq⟩
theorem eM {uri : Str} : ∀ (l r : List Sp) (sn s2 : List Str), bL uri l sn = (none, s2) → bL uri (l ++ r) sn = bL uri r s2
 | [], r, sn, s2, h => by cases h; rfl
 | (u, p) :: l, r, sn, s2, h => by
  unfold bL at h
  split at h
  ·cases h
  ·rename_i hc
   show (if u = uri ∧ p ∉ sn then _ else bL uri (l ++ r) (eU sn p)) = _
   rw [if_neg hc]
   exact eM l r _ _ h
noncomputable def bI (nm : Str) : Sp := if (Txt.slice nm none (some 1) == ofString "{") = true then match Txt.rsplitMax (Txt.slice nm (some 1) none) (ofString "}") 1 with
 | [a, b] => (a, b)
 | _ => (ofString "", ofString "")
 else (ofString "", nm)
noncomputable def fB (nm : Str) : Bool := decide (nm.length ≤ 100) && (!(Txt.slice nm none (some 1) == ofString "{") || (Txt.rsplitMax (Txt.slice nm (some 1) none) (ofString "}") 1).length == 2) && decide ((bI nm).1.length ≤ 100) && decide ((bI nm).2.length ≤ 100)
section
variable {i : fQ} {t : eo} {V : az}
theorem wr_StkD (hb : WB t) {X : az} : nr i.DS (lvR t.dl) (X ++ wr prog w i t V) := by
 refine ⟨.skip ?_, fun q hq => ?_⟩
 ·have := l6 (prog := prog) (w := w) (i := i) (t := t) (V := V)
  unfold lvR
  rw [List.map_map]; exact this
 ·obtain ⟨l, hl, rfl⟩ := List.mem_map.mp hq
  refine ⟨.skip (gf hl), ?_⟩
  have := (hb.dll l hl).1
  unfold Lv.refs; rw [ag]; lia
theorem wr_StkN (hb : WB t) {X : az} : nr i.NS (lvR t.nl) (X ++ wr prog w i t V) := by
 refine ⟨.skip ?_, fun q hq => ?_⟩
 ·have := l5 (prog := prog) (w := w) (i := i) (t := t) (V := V)
  unfold lvR
  rw [List.map_map]; exact this
 ·obtain ⟨l, hl, rfl⟩ := List.mem_map.mp hq
  refine ⟨.skip (l4 hl), ?_⟩
  have := (hb.nll l hl).1
  unfold Lv.refs; rw [ag]; lia
end
theorem it_body (P : Params) : ∃ p1 p2 p3 p4 p5 p6 p7 p8 p9 p10, aZ (KF P) eG = [.For (.Name nsX p1) (.Call (.Name (ofString "_reversed") p2) [.Name (ofString "ns_stack") p3] [] p4) (gIf p5 p6 p7 p8 p9) [] p10] := ⟨_, _, _, _, _, _, _, _, _, _, by with_unfolding_all rfl⟩
theorem it_ok (P : Params) : my (KF P) eG = true := by kernel_rfl!
theorem it_loc (P : Params) {x sa : Addr} : ([(ofString "_reversed", Value.type "reversed"), (ofString "ns_stack", .ref sa), (ofString "self", .ref x)].all fun x => (aK (KF P) eG).scope.names.lookup x.1 == some .local) = true := by kernel_rfl!
theorem it_env (P : Params) (L : Addr) : GEnv (callEnv (aK (KF P) eG) L eG) L := ⟨by kernel_rfl!, by kernel_rfl!, by kernel_rfl!, by kernel_rfl!, by kernel_rfl!, by kernel_rfl!⟩
theorem pr {P : Params} {x sa : Addr} (X : (KF P).In s.heap) : BindsTo s (aK (KF P) eG) ⟨[.ref x, .ref sa], []⟩ [(ofString "self", .ref x), (ofString "ns_stack", .ref sa), (ofString "_reversed", .type "reversed")] := by
 with_reducible refine kp_binds X ?_; intro S; kernel_rfl!
section
variable {M : Model} {V : az}
theorem k_it {sa x : Addr} {ls : List Lv} {target : Expr} {body : List Stmt} {Q : FP} {C0 K : az} (P : Nat → az → Prop) (B : Base (KF w.params) h0) (hh : A.handled = none) (hroom : A.depth < recursionLimit)
  (hP0 : P 0 C0) (hpre : ∀ n C, P n C → nr sa (lvR ls) (C ++ K))
  (turn : ∀ n q C K' o, (er ls)[n]? = some q → P n C → (∀ C s, St h0 o (C ++ K') s → St h0 o0 (C ++ K) s) →
   Go h0 o (C ++ K') (wpAny (model prog w) A (assign target env (.ref q.a)) (fun _ => wpAny (model prog w) A (execs body env) (TK h0 o K' (P (n + 1)) Q) NoE) NoE))
  (fin : ∀ C, P (er ls).length C → Go h0 o0 (C ++ K) (Q .next)) :
  Go h0 o0 (C0 ++ K) (wpAny (model prog w) A (call (.ref eG) [.ref x, .ref sa]) (GK prog w A env target body h0 o0 Q) E) := by
 obtain ⟨p1, p2, p3, p4, p5, p6, p7, p8, p9, p10, hb⟩ := it_body w.params
 refine k_iter (P := P) B hh hroom (it_ok _) hb (fun s X => pr X) (it_loc _) (it_env _) hP0 hpre (fun n v C K' o hv hp hbk => ?_) fun C hp => fin C ?_
 ·rw [iO, List.getElem?_map] at hv
  cases hq : (er ls)[n]? with
  | none => rw [hq] at hv; cases hv
  | some q => rw [hq] at hv; cases hv; exact turn n q C K' o hq hp hbk
 ·rw [iO, ag] at hp; exact hp
theorem k_it0 {sa x : Addr} {ls : List Lv} {target : Expr} {body : List Stmt} {Q : FP} {C0 : az} (P : Nat → az → Prop) (B : Base (KF w.params) h0) (hh : A.handled = none) (hroom : A.depth < recursionLimit)
  (hP0 : P 0 C0) (hpre : ∀ n C, P n C → nr sa (lvR ls) C)
  (turn : ∀ n q C K' o, (er ls)[n]? = some q → P n C → (∀ C s, St h0 o (C ++ K') s → St h0 o0 C s) →
   Go h0 o (C ++ K') (wpAny (model prog w) A (assign target env (.ref q.a)) (fun _ => wpAny (model prog w) A (execs body env) (TK h0 o K' (P (n + 1)) Q) NoE) NoE))
  (fin : ∀ C, P (er ls).length C → Go h0 o0 C (Q .next)) :
  Go h0 o0 C0 (wpAny (model prog w) A (call (.ref eG) [.ref x, .ref sa]) (GK prog w A env target body h0 o0 Q) E) := by
 have := k_it (prog := prog) (A := A) (E := E) (env := env) (o0 := o0) (sa := sa) (x := x) (ls := ls) (target := target) (body := body) (Q := Q) (C0 := C0) (K := []) P B hh hroom hP0 (fun n C hp => by rw [List.append_nil]; exact hpre n C hp)
  (fun n q C K' o hq hp hb => turn n q C K' o hq hp fun C s H => by have := hb C s H; rwa [List.append_nil] at this) (fun C hp => by rw [List.append_nil]; exact fin C hp)
 rwa [List.append_nil] at this
theorem Go.back {o : Shared} {K' C : az} {P : GP} (hb : ∀ C s, St h0 o (C ++ K') s → St h0 o0 C s) (h : Go h0 o0 C P) : Go h0 o (C ++ K') P := fun s H => h s (hb C s H)
theorem oq {ls : List Lv} {uri : Str} {n : Nat} {q : Pr} (hq : (er ls)[n]? = some q) (hn : ∀ p ∈ (er ls).take n, p.u ≠ uri) (he : q.u = uri) : (bd (ls.map Lv.v)).find? (fun q => q.1 == uri) = some q.v := by
 rw [← iC]
 have hlt : n < (er ls).length := (List.getElem?_eq_some_iff.mp hq).1
 have e : er ls = (er ls).take n ++ q :: (er ls).drop (n + 1) := by
  conv => lhs; rw [← List.take_append_drop n (er ls)]
  rw [List.drop_eq_getElem_cons hlt, (List.getElem?_eq_some_iff.mp hq).2]
 rw [e, ai, List.find?_append, List.find?_eq_none.mpr (fun p hp => by
  obtain ⟨r, hr, rfl⟩ := List.mem_map.mp hp
  simpa [Pr.v] using hn r hr), ap, List.find?_cons_of_pos (by simpa [Pr.v] using he)]
 rfl
theorem on {ls : List Lv} {uri : Str} (hn : ∀ p ∈ (er ls).take (er ls).length, p.u ≠ uri) : (bd (ls.map Lv.v)).find? (fun q => q.1 == uri) = none := by
 rw [← iC]
 rw [List.take_length] at hn
 refine List.find?_eq_none.mpr fun p hp => ?_
 obtain ⟨r, hr, rfl⟩ := List.mem_map.mp hp
 simpa [Pr.v] using hn r hr
end
section
variable {M : Model} {cs cs' V X Y : az} {P : GP} {Q : VP} {i : fQ} {t : eo}
theorem o_isub {a b : Int} {t u : Tok} (h : ∀ t, Go h0 o0 cs (Q (.int (a - b) t))) : Go h0 o0 cs (wpAny (model prog w) A (inplaceOp .Sub (.int a t) (.int b u)) Q E) := fun s H => PyProof.Rows.isub_int (h _ _ (H.toks (Nat.le_succ _)))
theorem kA {l : Addr} {xs ys : List Value} {y : Value} (e : xs = ys ++ [y]) (hp : Put cs l (ay xs) (ay ys) cs') (hz : xs.length ≤ sizeLine) (h : Go h0 o0 cs' (Q y)) : Go h0 o0 cs (wpAny (model prog w) A (call (.builtin "list.pop") [.ref l]) Q E) := fun s H => x_pop0 (ys := ys) (y := y) H (e ▸ hp) (e ▸ hz) h
theorem lm {value slice : Expr} {T : Addr} {xs : List Value} {u : Tok} {v : Value} (ht : Has cs T (a8 (v :: xs))) (h : Go h0 o0 cs (Q v)) (hs : subscripted slice false (.ref T) (.int 0 u) = operate [.ref T, .int 0 u] (getItem (.ref T) (.int 0 u)) := by with_unfolding_all rfl) :
  Go h0 o0 cs (wpAny (model prog w) A (subscriptTail value slice (.ref T) (.int 0 u)) Q E) := fun s H => x_tup0 H ht hs (h s H)
theorem iK {l : Addr} {xs : List Value} (hl : Has cs l (ay xs)) (hz : xs.length ≤ sizeLine) (h : ∀ t, Go h0 o0 cs (Q (.int xs.length t))) : Go h0 o0 cs (wpAny (model prog w) A (call (.builtin "len") [.ref l]) Q E) := fun s H => x_len H hl hz fun t s' H' => h t s' H'
theorem kC {pl : Sem Bool} {l : Addr} {xs : List Value} {Q : Value × List Value → Shared → Prop} (hl : Has cs l (ay xs)) (h : Go h0 o0 cs (Q (.builtin "list.pop", [.ref l]))) : Go h0 o0 cs (wpAny (model prog w) A (getMethod (.ref l) (ofString "pop") pl) Q E) := dE (slot := PySem.F.slot_list_pop) (hty := PySem.F.type_list_pop) hl h
theorem Go.sub (hs : cs'.Sublist cs) (h : Go h0 o0 cs' P) : Go h0 o0 cs P := fun s H => h s (H.sub hs)
theorem wr_popD {N : List Lv} {l : Lv} (hn : t.dl = N ++ [l]) : ∃ W, Put (wr prog w i t V) i.DS (ay (t.dl.map fun l => .ref l.a)) (ay (N.map fun l => .ref l.a)) W ∧ (wr prog w i { t with dl := N } V).Sublist W := by
 refine ⟨_, .t4 (.there .here), ?_⟩
 unfold wr
 rw [hn, dj]
 refine List.Sublist.cons_cons _ (List.Sublist.cons_cons _ (List.Sublist.cons_cons _ (List.Sublist.cons_cons _ (List.Sublist.cons_cons _ (List.Sublist.cons_cons _ (List.Sublist.cons_cons _ (List.Sublist.cons_cons _ (List.Sublist.cons_cons _ (List.Sublist.append (List.Sublist.refl _) (List.Sublist.append ?_ (List.Sublist.refl _)))))))))))
 exact List.sublist_append_left _ _
theorem wr_popN {N : List Lv} {l : Lv} (hn : t.nl = N ++ [l]) : ∃ W, Put (wr prog w i t V) i.NS (ay (t.nl.map fun l => .ref l.a)) (ay (N.map fun l => .ref l.a)) W ∧ (wr prog w i { t with nl := N } V).Sublist W := by
 refine ⟨_, .t4 (.there (.there .here)), ?_⟩
 unfold wr
 rw [hn, dj]
 refine List.Sublist.cons_cons _ (List.Sublist.cons_cons _ (List.Sublist.cons_cons _ (List.Sublist.cons_cons _ (List.Sublist.cons_cons _ (List.Sublist.cons_cons _ (List.Sublist.cons_cons _ (List.Sublist.cons_cons _ (List.Sublist.cons_cons _ (List.Sublist.append (List.Sublist.refl _) (List.Sublist.append (List.Sublist.refl _) (List.Sublist.append ?_ (List.Sublist.refl _))))))))))))
 exact List.sublist_append_left _ _
theorem k_popD {N : List Lv} {l : Lv} {p : Addr × bM} (hn : t.dl = N ++ [l]) (hz : t.dl.length ≤ 1000000) (h : Go h0 o0 (p :: wr prog w i { t with dl := N } V) (Q (.ref l.a))) : Go h0 o0 (p :: wr prog w i t V) (wpAny (model prog w) A (call (.builtin "list.pop") [.ref i.DS]) Q E) := by
 obtain ⟨W, hp, hs⟩ := wr_popD (prog := prog) (w := w) (i := i) (V := V) hn
 exact kA (ys := N.map fun l => .ref l.a) (y := .ref l.a) (by rw [hn, ai]; rfl) (.there hp) (by rw [ag, af]; lia) (Go.sub (List.Sublist.cons_cons _ hs) h)
theorem k_popN {N : List Lv} {l : Lv} {p : Addr × bM} (hn : t.nl = N ++ [l]) (hz : t.nl.length ≤ 1000000) (h : Go h0 o0 (p :: wr prog w i { t with nl := N } V) (Q (.ref l.a))) : Go h0 o0 (p :: wr prog w i t V) (wpAny (model prog w) A (call (.builtin "list.pop") [.ref i.NS]) Q E) := by
 obtain ⟨W, hp, hs⟩ := wr_popN (prog := prog) (w := w) (i := i) (V := V) hn
 exact kA (ys := N.map fun l => .ref l.a) (y := .ref l.a) (by rw [hn, ai]; rfl) (.there hp) (by rw [ag, af]; lia) (Go.sub (List.Sublist.cons_cons _ hs) h)
theorem k_newD {l : Addr} {p : Addr × bM} (hz : t.dl.length ≤ 1000000) (h : Go h0 o0 (p :: wr prog w i { t with dl := t.dl ++ [⟨l, []⟩] } V) (Q .none)) : Go h0 o0 ((l, ay []) :: p :: wr prog w i t V) (wpAny (model prog w) A (call (.builtin "list.append") [.ref i.DS, .ref l]) Q E) := by
 have e2 : wr prog w i { t with dl := t.dl ++ [⟨l, []⟩] } V = (i.x, bg bX i.dx) :: (i.dx, cAttrs (cj i t)) :: (i.W, bQ "list.append" i.O) :: (i.O, ay (tv t.out)) :: (i.D, ay (tv t.data)) :: (i.DS, ay ((t.dl.map fun l => .ref l.a) ++ [.ref l])) :: (i.NS, ay (t.nl.map fun l => .ref l.a)) ::
  (i.PM, aM prog w (dv2 t.pm)) :: (i.PS, ay (t.ps.map Value.bool)) :: (i.EC ++ ((cm t.dl ++ [(l, ay [])]) ++ (cm t.nl ++ V))) := by
  unfold wr
  rw [dj, ai]; rfl
 rw [e2] at h
 unfold wr
 refine jm (xs := t.dl.map fun l => .ref l.a) (.t4 (.t2 (.there .here))) (by rw [ag, af]; lia) (Go.perm ?_ h)
 refine (List.Perm.swap _ _ _).trans (List.Perm.cons _ ?_)
 have m1 : ∀ (c : Addr × bM) (a b : az), ((l, (ay [] : bM)) :: a).Perm b → ((l, (ay [] : bM)) :: c :: a).Perm (c :: b) := fun c a b q => (List.Perm.swap _ _ _).trans (q.cons _)
 refine m1 _ _ _ (m1 _ _ _ (m1 _ _ _ (m1 _ _ _ (m1 _ _ _ (m1 _ _ _ (m1 _ _ _ (m1 _ _ _ (m1 _ _ _ ?_))))))))
 rw [show i.EC ++ (cm t.dl ++ (cm t.nl ++ V)) = (i.EC ++ cm t.dl) ++ (cm t.nl ++ V) from by simp, show i.EC ++ ((cm t.dl ++ [(l, ay [])]) ++ (cm t.nl ++ V)) = (i.EC ++ cm t.dl) ++ ((l, ay []) :: (cm t.nl ++ V)) from by simp]
 exact List.perm_middle.symm
theorem k_newN {l : Addr} {X : az} (hz : t.nl.length ≤ 1000000) (h : Go h0 o0 (X ++ wr prog w i { t with nl := t.nl ++ [⟨l, []⟩] } V) (Q .none)) : Go h0 o0 ((l, ay []) :: (X ++ wr prog w i t V)) (wpAny (model prog w) A (call (.builtin "list.append") [.ref i.NS, .ref l]) Q E) := by
 have e2 : wr prog w i { t with nl := t.nl ++ [⟨l, []⟩] } V = (i.x, bg bX i.dx) :: (i.dx, cAttrs (cj i t)) :: (i.W, bQ "list.append" i.O) :: (i.O, ay (tv t.out)) :: (i.D, ay (tv t.data)) :: (i.DS, ay (t.dl.map fun l => .ref l.a)) :: (i.NS, ay ((t.nl.map fun l => .ref l.a) ++ [.ref l])) ::
  (i.PM, aM prog w (dv2 t.pm)) :: (i.PS, ay (t.ps.map Value.bool)) :: (i.EC ++ (cm t.dl ++ ((cm t.nl ++ [(l, ay [])]) ++ V))) := by
  unfold wr
  rw [dj, ai]; rfl
 rw [e2] at h
 unfold wr
 refine jm (xs := t.nl.map fun l => .ref l.a) (.there (.skip (.t4 (.there (.there .here))))) (by rw [ag, af]; lia) (Go.perm ?_ h)
 have m0 : ∀ (X a b : az), ((l, (ay [] : bM)) :: a).Perm b → ((l, (ay [] : bM)) :: (X ++ a)).Perm (X ++ b) := fun X a b q => List.perm_middle.symm.trans (List.Perm.append_left _ q)
 have m1 : ∀ (c : Addr × bM) (a b : az), ((l, (ay [] : bM)) :: a).Perm b → ((l, (ay [] : bM)) :: c :: a).Perm (c :: b) := fun c a b q => (List.Perm.swap _ _ _).trans (q.cons _)
 refine m0 _ _ _ (m1 _ _ _ (m1 _ _ _ (m1 _ _ _ (m1 _ _ _ (m1 _ _ _ (m1 _ _ _ (m1 _ _ _ (m1 _ _ _ (m1 _ _ _ (m0 _ _ _ (m0 _ _ _ ?_)))))))))))
 rw [show (cm t.nl ++ [(l, ay [])]) ++ V = cm t.nl ++ ((l, ay []) :: V) from by simp]
 exact List.perm_middle.symm
theorem fS {name : Str} {v : Value} {expr : Bool} (B : Base (KF w.params) h0) (hx : Has cs i.x (bg bX i.dx)) (hd : Has cs i.dx (cAttrs (cj i t))) (hv : Look (cj i t) name v) (hh : handedIn v = true) (h : Go h0 o0 cs (Q v)) (ok : atNames.contains name = true := by decide +kernel) : Go h0 o0 cs (wpAny (model prog w) A (getAttr (.ref i.x) name expr) Q E) := mx B hx hd hv (kN ok) hh h
theorem w_ig {n : Nat} {k : Int} {u : Tok} {Q : Unit → Shared → Prop} (B : Base (KF w.params) h0) (hx : Has cs i.x (bg bX i.dx)) (hk : k = (n : Int)) (hp : Put cs i.dx (cAttrs (cj i t)) (cAttrs (cj i { t with ig := n, ti := u })) cs') (h : Go h0 o0 cs' (Q ())) : Go h0 o0 cs (wpAny (model prog w) A (setAttr (.ref i.x) (ofString "_ignored_depth") (.int k u)) Q E) := by
 subst hk
 exact cf (B := B) hx hp (mW n u) (hz := k7) h
theorem w_rd {b : Bool} {Q : Unit → Shared → Prop} (B : Base (KF w.params) h0) (hx : Has cs i.x (bg bX i.dx)) (hp : Put cs i.dx (cAttrs (cj i t)) (cAttrs (cj i { t with rd := b })) cs') (h : Go h0 o0 cs' (Q ())) : Go h0 o0 cs (wpAny (model prog w) A (setAttr (.ref i.x) (ofString "_root_done") (.bool b)) Q E) := cf (B := B) hx hp (mV b) (hz := k7) h
theorem w_rs {b : Bool} {Q : Unit → Shared → Prop} (B : Base (KF w.params) h0) (hx : Has cs i.x (bg bX i.dx)) (hp : Put cs i.dx (cAttrs (cj i t)) (cAttrs (cj i { t with rs := b })) cs') (h : Go h0 o0 cs' (Q ())) : Go h0 o0 cs (wpAny (model prog w) A (setAttr (.ref i.x) (ofString "_root_seen") (.bool b)) Q E) := cf (B := B) hx hp (mU b) (hz := k7) h
theorem Go.wOutT {p q : Addr × bM} (h : Go h0 o0 (p :: q :: wr prog w i t V) P) : Go h0 o0 (p :: wr prog w i t (q :: V)) P := Go.perm (List.Perm.cons _ (wr_in (X := [q])).symm) h
theorem Go.wOutTX {p : Addr × bM} (h : Go h0 o0 (p :: (X ++ wr prog w i t V)) P) : Go h0 o0 (p :: wr prog w i t (X ++ V)) P := Go.perm (List.Perm.cons _ wr_in.symm) h
end
section
variable {b : Bool} {cs cs' r : az} {K : az}
theorem perm3 {X Y K : az} : (X ++ (Y ++ K)).Perm (Y ++ (X ++ K)) := by rw [← an, ← an]; exact List.Perm.append_right _ List.perm_append_comm
structure gZ (prog : Program) (w : World) (A : Around) (h0 : Heap) (o0 : Shared) (target : Expr) (it : Value) (f : Nat → az) (n : Nat) (V : Nat → Value → az → Prop) (Pre : az → Prop) : Prop where
 next : ∀ i C s (Q : VP) E, i < n → Pre C → St h0 o0 (f i ++ C) s → (∀ v c s', V i v c → St h0 o0 (c ++ (f (i + 1) ++ C)) s' → Q v s') →
  wpAny (model prog w) A (pyNext it) (fun r s1 => ∃ v, r = some v ∧ wpAny (model prog w) A (letOwnedTupleGo target it v) (fun _ s2 => Q v s2) E s1) E s
 done : ∀ C s (Q : Option Value → Shared → Prop) E, Pre C → St h0 o0 (f n ++ C) s → (∀ s', St h0 o0 C s' → Q none s') → wpAny (model prog w) A (pyNext it) Q E s
 self : ∀ i C s (Q : VP) E, St h0 o0 (f i ++ C) s → Q it s → wpAny (model prog w) A (pyIter it) Q E s
 mono : ∀ C C', Pre C → (∀ p ∈ C, p ∈ C') → Pre C'
theorem kJ {kx vx target iter : Expr} {ifs : List Expr} {scope : Scope} {pos : Pos} {it : Value} {D L : Addr} {cenv : Env} {f : Nat → az} {n : Nat} {V : Nat → Value → az → Prop} {Pre : az → Prop} {R' : RP} {E1 : VP}
  (S : gZ prog w A h0 o0 target it f n V Pre) (P : Nat → List (Str × Value) → az → Prop) (hPre : ∀ i ys C, P i ys C → Pre ((L, cNs []) :: (C ++ ((D, aM prog w ys) :: K)))) (hn : n ≤ sizeLine)
  (turn : ∀ i v c ys C K' s, i < n → V i v c → P i ys C → (∀ p ∈ c, p ∈ K') → St h0 o0 ((L, cNs []) :: (C ++ K')) s →
   wpAny (model prog w) A (assign target cenv v) (fun _ s₂ => wpAny (model prog w) A (ba ifs cenv) (fun ok s₃ =>
    if ok = true then wpAny (model prog w) A (eval kx cenv) (fun kv s₄ => wpAny (model prog w) A (eval vx cenv) (fun y s₅ => ∃ k u m C', kv = .str k u ∧ P (i + 1) (stored ys k y) C' ∧ St h0 o0 ((L, cNs m) :: (C' ++ K')) s₅) E1 s₄) E1 s₃
    else ∃ m C', P (i + 1) ys C' ∧ St h0 o0 ((L, cNs m) :: (C' ++ K')) s₃) E1 s₂) E1 s)
  (hE : ∀ x s, E1 x s → notedBy (model prog w) A cenv (fun x s' => R' (.error x) s') x s) (fin : ∀ ys C s, P n ys C → St h0 o0 ((L, cNs []) :: (D, aM prog w ys) :: (C ++ K)) s → R' (.ok .next) s) {C0 : az} (h0P : P 0 [] C0) (H : St h0 o0 (f 0 ++ ((L, cNs []) :: (C0 ++ ((D, aM prog w []) :: K)))) s) :
  codeAny (model prog w) A (.compLoop (.DictComp kx vx [⟨target, iter, ifs, 0⟩] scope pos) 0 it (.ref D) cenv) R' s := by
 refine codeAny_loop rfl (fun k s => ∃ i ys C, i ≤ n ∧ ys.length ≤ i ∧ k = n - i ∧ P i ys C ∧ St h0 o0 (f i ++ ((L, cNs []) :: (C ++ ((D, aM prog w ys) :: K)))) s) (fun k s hI => ?_) n ⟨0, [], C0, Nat.zero_le _, ae _, rfl, h0P, H⟩
 obtain ⟨i, ys, C, hi, hys, rfl, hP, H⟩ := hI
 show wpAny _ A ((compTurn (.DictComp kx vx [⟨target, iter, ifs, 0⟩] scope pos) 0 it (.ref D) cenv).onRaise (fun x => do noteFrame x cenv; theTreesLotGoes x)) _ _ s
 refine wpAny_noted ?_
 rw [compTurn_dict]
 refine ad (E := E1) ?_ (fun _ _ q => q) hE
 refine aa (wpAny_standAt (aa ?_))
 rcases Nat.lt_or_ge i n with hlt | hge
 ·refine ad (Q := fun r s1 => ∃ v, r = some v ∧ wpAny (model prog w) A (letOwnedTupleGo target it v) (fun _ s2 => ∃ c, V i v c ∧ St h0 o0 (c ++ (f (i + 1) ++ ((L, cNs []) :: (C ++ ((D, aM prog w ys) :: K))))) s2) NoE s1) (E := NoE)
   (S.next i _ s _ _ hlt (hPre i ys C hP) H fun v c s' hv H' => ⟨c, hv, H'⟩) ?_ (fun _ _ q => q.elim)
  rintro r s1 ⟨v, rfl, q⟩
  refine aa (ad q (fun _ s2 q => ?_) fun _ _ q => q.elim)
  obtain ⟨c, hv, H2⟩ := q
  have H2' : St h0 o0 ((L, cNs []) :: (C ++ ((D, aM prog w ys) :: (c ++ (f (i + 1) ++ K))))) s2 := H2.perm (by
   have e1 : (c ++ (f (i + 1) ++ ((L, cNs []) :: (C ++ ((D, aM prog w ys) :: K))))) = (c ++ f (i + 1)) ++ (((L, cNs []) :: C ++ [(D, aM prog w ys)]) ++ K) := by simp
   have e2 : ((L, cNs []) :: (C ++ ((D, aM prog w ys) :: (c ++ (f (i + 1) ++ K))))) = ((L, cNs []) :: C ++ [(D, aM prog w ys)]) ++ ((c ++ f (i + 1)) ++ K) := by simp
   rw [e1, e2]
   exact perm3)
  refine aa (ad (turn i v c ys C ((D, aM prog w ys) :: (c ++ (f (i + 1) ++ K))) s2 hlt hv hP (fun p hp => am _ (List.mem_append_left _ hp)) H2') (fun _ s3 q3 => ?_) fun _ _ q => q)
  refine aa (ad q3 (fun ok s4 q4 => ?_) fun _ _ q => q)
  have back : ∀ {m C' zs s}, St h0 o0 ((L, cNs m) :: (C' ++ ((D, aM prog w zs) :: (c ++ (f (i + 1) ++ K))))) s → St h0 o0 (f (i + 1) ++ ((L, cNs []) :: (C' ++ ((D, aM prog w zs) :: K)))) s := fun {m C' zs s} q =>
   ((q.weak (c' := cNs []) .here fun o ho => ho.sub .nil).sub (cs' := (L, cNs []) :: (C' ++ ((D, aM prog w zs) :: (f (i + 1) ++ K)))) (List.Sublist.cons_cons _ (List.Sublist.append (List.Sublist.refl _) (List.Sublist.cons_cons _ (List.sublist_append_right _ _))))).perm (by
    refine List.Perm.trans (List.perm_append_comm (l₁ := f (i + 1)) (l₂ := (L, cNs []) :: (C' ++ ((D, aM prog w zs) :: K)))) ?_
    simp only [List.cons_append, an]
    exact List.Perm.cons _ (List.Perm.append_left _ (List.Perm.cons _ List.perm_append_comm)))
  cases ok with
  | false =>
   simp only [Bool.false_eq_true, if_false] at q4
   obtain ⟨m, C', hP', H'⟩ := q4
   exact ab ⟨rfl, n - (i + 1), lp4 hlt, i + 1, ys, C', hlt, Nat.le_succ_of_le hys, rfl, hP', back H'⟩
  | true =>
   simp only [if_true] at q4
   refine aa (aa (ad q4 (fun kv s5 q5 => ?_) fun _ _ q => q))
   refine aa (aw (ad q5 (fun y s6 q6 => ?_) fun _ _ q => q))
   obtain ⟨k, u, m, C', rfl, hP', H'⟩ := q6
   refine aa (wpAny_standAt (aw ?_))
   have hput : Put ((L, cNs m) :: (C' ++ ((D, aM prog w ys) :: (c ++ (f (i + 1) ++ K))))) D (aM prog w ys) (aM prog w (stored ys k y)) ((L, cNs m) :: (C' ++ ((D, aM prog w (stored ys k y)) :: (c ++ (f (i + 1) ++ K))))) := .there (Put.skip .here)
   refine wpAny_dictSet_pairs (strKind_is prog w k u) (cr H' hput.has) (fun h' hm hs => ?_) (by lia)
   have H6 := H'.updS (k := s6.toks + 1) hput (Heap.dictOf_iff.mp hm) hs (Nat.le_succ _)
   have hl := stored_length_le ys k y
   exact ab ⟨rfl, n - (i + 1), lp4 hlt, i + 1, stored ys k y, C', hlt, Nat.le_trans hl (Nat.succ_le_succ hys), rfl, hP', back H6⟩
 ·have e : i = n := Nat.le_antisymm hi hge
  subst e
  refine S.done _ s _ _ (hPre i ys C hP) H fun s1 H1 => ab (fin ys C s1 hP (H1.perm ?_))
  exact List.Perm.cons _ (List.perm_middle).symm
theorem fk {kx vx target iter : Expr} {ifs : List Expr} {scope : Scope} {pos : Pos} {cl : List (Str × Addr)} {itv : Value} {RR : Value → Addr → Result → Shared → Prop} {f : Nat → az} {n : Nat} {V : Nat → Value → az → Prop} {Pre : az → Prop} {C0 K : az} {P : Nat → List (Str × Value) → az → Prop} {E1 : Addr → Value → Shared → Prop}
  (hcell : ∀ y ∈ scope.names, y.2 ≠ .cell) (hkind : scope.kind = .function) (S : gZ prog w A h0 o0 target itv f n V Pre) (hP0 : P 0 [] C0) (hsz : n ≤ sizeLine) (H2 : St h0 o0 (f 0 ++ (C0 ++ K)) s) (hl : ∀ i ys C, P i ys C → Pre (C ++ K))
  (turn : ∀ L i v c ys C K' s, i < n → V i v c → P i ys C → (∀ p ∈ c, p ∈ K') → St h0 o0 ((L, cNs []) :: (C ++ K')) s →
    wpAny (model prog w) A (assign target (compEnvC scope cl L env) v) (fun _ s₂ => wpAny (model prog w) A (ba ifs (compEnvC scope cl L env)) (fun ok s₃ =>
     if ok = true then wpAny (model prog w) A (eval kx (compEnvC scope cl L env)) (fun kv s₄ => wpAny (model prog w) A (eval vx (compEnvC scope cl L env)) (fun y s₅ => ∃ k u m C', kv = .str k u ∧ P (i + 1) (stored ys k y) C' ∧ St h0 o0 ((L, cNs m) :: (C' ++ K')) s₅) (E1 L) s₄) (E1 L) s₃
     else ∃ m C', P (i + 1) ys C' ∧ St h0 o0 ((L, cNs m) :: (C' ++ K')) s₃) (E1 L) s₂) (E1 L) s)
  (hE : ∀ L D x s, E1 L x s → notedBy (model prog w) A (compEnvC scope cl L env) (fun x s' => RR (.ref D) L (.error x) s') x s) (fin : ∀ L D ys C s, P n ys C → St h0 o0 ((L, cNs []) :: (D, aM prog w ys) :: (C ++ K)) s → RR (.ref D) L (.ok .next) s) :
  wpAny (model prog w) A newDict (fun acc s₃ => wpAny (model prog w) A (newFunctionEnv scope env.globals cl [] env.qual none .none (some env)) (fun cenv s₄ =>
   codeAny (model prog w) A (.compStart (.DictComp kx vx [⟨target, iter, ifs, 0⟩] scope pos) 0 itv acc { cenv with scope := relabel scope env }) (RR acc cenv.locals) s₄) E s₃) E s := by
 refine aa (wpAny_alloc (ab ?_))
 have H3 : St h0 o0 ((s.heap.objs.size, aM prog w []) :: (f 0 ++ (C0 ++ K))) { s with heap := s.heap.push { cls := .type "dict", data := .dict #[] } } :=
  H2.push (k := s.toks) (c := aM prog w []) (let ⟨o, ho, hc⟩ := Heap.dictOf_iff.mp (Heap.DictOf.new (knd := PySem.strKind prog w) s.heap); by
   rw [Heap.get?_push_size _ rfl] at ho; cases ho; exact hc) (ae _)
 generalize hD : s.heap.objs.size = D at H3 ⊢
 generalize hs3 : ({ s with heap := s.heap.push { cls := .type "dict", data := .dict #[] } } : Shared) = s3 at H3 ⊢
 clear hs3
 refine wpAny_newFunctionEnv hcell (by intro y hy; simp at hy) (fun h₁ hns₁ hsb₁ => ?_) hkind
 have H4 : St h0 o0 ((s3.heap.objs.size, cNs []) :: (D, aM prog w []) :: (f 0 ++ (C0 ++ K))) { s3 with heap := h₁, toks := s3.toks + ([] : List (Str × Value)).length } := by
  refine H3.more (ae _) (dD hns₁ (m := []) fun x v q => by cases q) (fun b o e => ?_) ?_
  ·exact (hsb₁.2 b (Nat.ne_of_lt (Heap.lt_size e))).trans (Heap.get?_push_of_some _ e)
  ·exact Nat.le_add_right _ _
 generalize hL : s3.heap.objs.size = L at H4 ⊢
 generalize hs4 : ({ s3 with heap := h₁, toks := s3.toks + ([] : List (Str × Value)).length } : Shared) = s4 at H4 ⊢
 clear hs4
 have H5 : St h0 o0 (f 0 ++ ((L, cNs []) :: (C0 ++ ((D, aM prog w []) :: K)))) s4 := H4.perm (by
  refine List.Perm.trans List.perm_middle ?_
  refine List.Perm.cons _ ?_
  refine List.Perm.trans (List.Perm.append_left _ List.perm_middle) ?_
  exact List.perm_middle)
 have loop : codeAny (model prog w) A (.compLoop (.DictComp kx vx [⟨target, iter, ifs, 0⟩] scope pos) 0 itv (.ref D) (compEnvC scope cl L env)) (RR (.ref D) L) s4 := by
  refine kJ (E1 := E1 L) (K := K) S P (fun i ys C hP => S.mono _ _ (hl i ys C hP) fun p hp => ?_) hsz (fun i v c ys C K' s hi hv hP hc H => turn L i v c ys C K' s hi hv hP hc H) (hE L D) (fun ys C s hP H => fin L D ys C s hP H) hP0 H5
  rcases List.mem_append.mp hp with q | q
  ·exact am _ (List.mem_append_left _ q)
  ·exact am _ (List.mem_append_right _ (am _ q))
 exact codeAny_compStart_dict loop (S.self 0 _ _ _ _ H5 loop)
theorem kK {kx vx target iter : Expr} {ifs : List Expr} {scope : Scope} {pos : Pos} {cl : List (Str × Addr)} {itv : Value} {RR : Value → Addr → Result → Shared → Prop} {f : Nat → az} {n : Nat} {V : Nat → Value → az → Prop} {Pre : az → Prop} {C0 K : az} {P : Nat → List (Str × Value) → az → Prop}
  (hcell : ∀ y ∈ scope.names, y.2 ≠ .cell) (hkind : scope.kind = .function) (S : gZ prog w A h0 o0 target itv f n V Pre) (hP0 : P 0 [] C0) (hsz : n ≤ sizeLine) (H2 : St h0 o0 (f 0 ++ (C0 ++ K)) s) (hl : ∀ i ys C, P i ys C → Pre (C ++ K))
  (turn : ∀ L i v c ys C K' s, i < n → V i v c → P i ys C → (∀ p ∈ c, p ∈ K') → St h0 o0 ((L, cNs []) :: (C ++ K')) s →
    wpAny (model prog w) A (assign target (compEnvC scope cl L env) v) (fun _ s₂ => wpAny (model prog w) A (ba ifs (compEnvC scope cl L env)) (fun ok s₃ =>
     if ok = true then wpAny (model prog w) A (eval kx (compEnvC scope cl L env)) (fun kv s₄ => wpAny (model prog w) A (eval vx (compEnvC scope cl L env)) (fun y s₅ => ∃ k u m C', kv = .str k u ∧ P (i + 1) (stored ys k y) C' ∧ St h0 o0 ((L, cNs m) :: (C' ++ K')) s₅) NoE s₄) NoE s₃
     else ∃ m C', P (i + 1) ys C' ∧ St h0 o0 ((L, cNs m) :: (C' ++ K')) s₃) NoE s₂) NoE s)
  (fin : ∀ L D ys C s, P n ys C → St h0 o0 ((L, cNs []) :: (D, aM prog w ys) :: (C ++ K)) s → RR (.ref D) L (.ok .next) s) :
  wpAny (model prog w) A newDict (fun acc s₃ => wpAny (model prog w) A (newFunctionEnv scope env.globals cl [] env.qual none .none (some env)) (fun cenv s₄ =>
   codeAny (model prog w) A (.compStart (.DictComp kx vx [⟨target, iter, ifs, 0⟩] scope pos) 0 itv acc { cenv with scope := relabel scope env }) (RR acc cenv.locals) s₄) E s₃) E s :=
 fk (E1 := fun _ => NoE) hcell hkind S hP0 hsz H2 hl turn (fun _ _ _ _ q => q.elim) fin
end
noncomputable def NK (h0 : Heap) (o0 : Shared) (L : Addr) (P : GP) : Unit → Shared → Prop := fun _ s' => ∃ cs', St h0 o0 ((L, cNs []) :: cs') s' ∧ ∀ s'', St h0 o0 cs' s'' → P s''
section
variable {b : Bool} {M : Model} {cs cs' V X Y : az} {i : fQ} {t : eo} {P : GP}
theorem nk {L : Addr} (hs : Sel cs ((L, cNs []) :: cs')) (h : Go h0 o0 cs' P) : Go h0 o0 cs (NK h0 o0 L P ()) := fun s H => ⟨cs', H.sel hs, h⟩
theorem mA {c : Expr} {Q : Bool → Shared → Prop} (h : Go h0 o0 cs (wpAny (model prog w) A (isTrue c env (eval c env)) Q E)) : Go h0 o0 cs (wpAny (model prog w) A (ba [c] env) Q E) := fun s H => ny (h s H)
theorem gS {Q : Bool → Shared → Prop} (h : Go h0 o0 cs (Q true)) : Go h0 o0 cs (wpAny (model prog w) A (ba [] env) Q E) := fun s H => gk (h s H)
theorem g_items {d : Addr} {kvs : List (Str × Value)} {pl : Sem Bool} {Q : Value × List Value → Shared → Prop} (hd : Has cs d (aM prog w kvs)) (h : Go h0 o0 cs (Q (.builtin "dict.items", [.ref d]))) : Go h0 o0 cs (wpAny (model prog w) A (getMethod (.ref d) (ofString "items") pl) Q E) := g_dic PySem.F.slot_dict_items PySem.F.type_dict_items hd h
theorem k_items {d : Addr} {kvs : List (Str × Value)} {Q : VP} (hd : Has cs d (aM prog w kvs)) (h : ∀ v, Go h0 o0 ((v, fo d) :: cs) (Q (.ref v))) : Go h0 o0 cs (wpAny (model prog w) A (call (.builtin "dict.items") [.ref d]) Q E) := fun s H => x_items H hd fun v s' H' => h v s' H'
theorem cN {ys : List (Str × Value)} {k : Str} {v : Value} (h : k ∉ ys.map (·.1)) : stored ys k v = ys ++ [(k, v)] := by
 unfold stored
 rw [if_neg]
 rw [Bool.not_eq_true, List.any_eq_false]
 intro p hp q
 exact h (List.mem_map.mpr ⟨p, hp, of_decide_eq_true q⟩)
end
noncomputable def CF (h0 : Heap) (o0 : Shared) (P : GP) : Shared → Prop := fun s => (∃ cs2, St h0 o0 cs2 s) ∧ P s
noncomputable def SD2 (prog : Program) (w : World) (h0 : Heap) (o0 : Shared) (cs : az) (a : Addr) (x : Str) (Q : VP) : Value → Shared → Prop := fun v2 s4 => ∃ d kvs, v2 = .ref d ∧ St h0 o0 ((a, bj true w [x]) :: cs) s4 ∧ Has cs d (aM prog w kvs) ∧ kvs.length ≤ 6 ∧ ∀ s5, St h0 o0 ((a, bj true w (bV [x] (kvs.map (·.1)))) :: cs) s5 → Q (.ref a) s5
noncomputable def SD1 (prog : Program) (w : World) (A : Around) (h0 : Heap) (o0 : Shared) (cs : az) (env : Env) (e2 : Expr) (a : Addr) (Q : VP) (E : VP) : Value → Shared → Prop := fun v1 s2 => ∃ x u, v1 = .str x u ∧ St h0 o0 ((a, bj true w []) :: cs) s2 ∧ ∀ s3, St h0 o0 ((a, bj true w [x]) :: cs) s3 → wpAny (model prog w) A (eval e2 env) (SD2 prog w h0 o0 cs a x Q) E s3
noncomputable def CV (h0 : Heap) (o0 : Shared) (P : List (Str × Value) → az → Prop) (ys : List (Str × Value)) (L : Addr) (K' : az) (kv : Value) : Value → Shared → Prop := fun y s₅ => ∃ k u m C', kv = .str k u ∧ P (stored ys k y) C' ∧ St h0 o0 ((L, cNs m) :: (C' ++ K')) s₅
noncomputable def CE (h0 : Heap) (o0 : Shared) (P : List Value → az → Prop) (ys : List Value) (L : Addr) (K' : az) : Value → Shared → Prop := fun y s₄ => ∃ m C', P (ys ++ [y]) C' ∧ St h0 o0 ((L, cNs m) :: (C' ++ K')) s₄
noncomputable def FL (prog : Program) (w : World) (A : Around) (env : Env) (target : Expr) (body : List Stmt) (h0 : Heap) (o0 : Shared) (Q : FP) : Value → Shared → Prop := fun x s₁ => ∃ l xs C0 K, ∃ P : Nat → az → Prop, x = .ref l ∧ P 0 C0 ∧ St h0 o0 (C0 ++ K) s₁ ∧ (∀ i C, P i C → Has (C ++ K) l (ay xs)) ∧
   (∀ i v C K' s, xs[i]? = some v → P i C → (∀ C s, St h0 o0 (C ++ K') s → St h0 o0 (C ++ K) s) → St h0 o0 (C ++ K') s →
    wpAny (model prog w) A (assign target env v) (fun _ s₂ => wpAny (model prog w) A (execs body env) (fun f s₃ => match f with
     | .next | .cont => ∃ C', P (i + 1) C' ∧ St h0 o0 (C' ++ K') s₃
     | .brk => Q .next s₃
     | .ret v => Q (.ret v) s₃) NoE s₂) NoE s) ∧
   (∀ C s, P xs.length C → St h0 o0 (C ++ K) s → Q .next s)
section
variable {b : Bool} {cs cs' V X Y : az} {P : GP} {Q : VP}
theorem e_setd {e1 e2 : Expr} {k : Nat} {p2 pos : Pos} {K : Frag} (B : Base K h0) (hc : kdsCode K env.code = true) (hk : (k > 0) = False) (hh : A.handled = none) (he : starEach [e1, .Starred e2 p2] env = [(false, eval e1 env), (true, eval e2 env)])
  (h : ∀ a, Go h0 o0 ((a, bj true w []) :: cs) (wpAny (model prog w) A (eval e1 env) (SD1 prog w A h0 o0 cs env e2 a Q E) E)) : Go h0 o0 cs (wpAny (model prog w) A (eval (.Set [e1, .Starred e2 p2] k pos) env) Q E) :=
 fun s H => mL (B.X.keeps H.keep) hc hk H hh he fun a s1 H1 => h a s1 H1
theorem sd1 {a : Addr} {e2 : Expr} {x : Str} {u : Tok} (h : Go h0 o0 ((a, bj true w [x]) :: cs) (wpAny (model prog w) A (eval e2 env) (SD2 prog w h0 o0 cs a x Q) E)) : Go h0 o0 ((a, bj true w []) :: cs) (SD1 prog w A h0 o0 cs env e2 a Q E (.str x u)) := fun s H => ⟨x, u, rfl, H, h⟩
theorem sd2 {a d : Addr} {x : Str} {kvs : List (Str × Value)} (hd : Has cs d (aM prog w kvs)) (hz : kvs.length ≤ 6) (h : Go h0 o0 ((a, bj true w (bV [x] (kvs.map (·.1)))) :: cs) (Q (.ref a))) : Go h0 o0 ((a, bj true w [x]) :: cs) (SD2 prog w h0 o0 cs a x Q (.ref d)) := fun s H => ⟨d, kvs, rfl, H, hd, hz, h⟩
theorem k_bind {x dx C f : Addr} {m : List (Str × Value)} {name : Str} {expr : Bool} {K : Frag} (B : Base K h0) (hx : Has cs x (bg C dx)) (hd : Has cs dx (cAttrs m)) (hv : m.lookup name = none) (ok : jw K C name f = true)
  (h : ∀ q, Go h0 o0 ((q, dJ f x) :: cs) (Q (.ref q))) : Go h0 o0 cs (wpAny (model prog w) A (getAttr (.ref x) name expr) Q E) := fun s H => x_bind B H hx hd hv ok fun q s' H' => h q s' H'
noncomputable def BK (h0 : Heap) (prog : Program) (w : World) (A : Around) (q f x : Addr) (Q : VP) (E : VP) : List Value → Shared → Prop := fun vs s₁ => ∃ o0 cs, St h0 o0 cs s₁ ∧ Has cs q (dJ f x) ∧ codeAny (model prog w) A (.call (.ref f) ⟨.ref x :: vs, []⟩) (wants Q E) s₁
theorem c_meth {pos : Pos} {q f x : Addr} {e : Expr} {rest : List Expr} {K : Frag} (B : Base K h0) (hf : fnIn K f = true) (h : Go h0 o0 cs (wpAny (model prog w) A (spliced (backTo pos (starEach (e :: rest) env))) (BK h0 prog w A q f x Q E) E))
  (he : starEach (e :: rest) env = (false, eval e env) :: starEach rest env) (hplain : (backTo pos (starEach rest env)).any (·.1) = false) : Go h0 o0 cs (wpAny (model prog w) A (callWith pos (.ref q) [] (backTo pos (starEach (e :: rest) env)) []) Q E) := fun s H => nO B hf (h s H) he hplain
theorem bk {q f x : Addr} {vs : List Value} (hq : Has cs q (dJ f x)) (h : Go h0 o0 cs (codeAny (model prog w) A (.call (.ref f) ⟨.ref x :: vs, []⟩) (wants Q E))) : Go h0 o0 cs (BK h0 prog w A q f x Q E vs) := fun s H => ⟨o0, cs, H, hq, h s H⟩
theorem nY {target : Expr} {it : Value} {f : Nat → az} {n : Nat} {V : Nat → Value → Prop} {Pre : az → Prop} (S : cH prog w A h0 o0 it f n V Pre) : gZ prog w A h0 o0 target it f n (fun i v c => V i v ∧ c = []) Pre where
 next := fun i C s Q E hi hp H hQ => ad (Q := fun r s1 => ∃ v, r = some v ∧ V i v ∧ St h0 o0 (f (i + 1) ++ C) s1) (E := NoE) (S.next i C s _ _ hi hp H fun v s' hv H' => ⟨v, rfl, hv, H'⟩)
  (fun r s1 ⟨v, e, hv, H1⟩ => ⟨v, e, S.own target i C v s1 _ _ hv H1 fun s2 H2 => hQ v [] s2 ⟨hv, rfl⟩ H2⟩) (fun _ _ q => q.elim)
 done := S.done
 self := S.self
 mono := S.mono
theorem s_for {target iter : Expr} {body : List Stmt} {pos : Pos} {Q : FP} (hh : A.handled = none) (h : Go h0 o0 cs (wpAny (model prog w) A (eval iter env) (FL prog w A env target body h0 o0 Q) E))
  (hs : ∀ x, foldedSetIterable iter env x = pure x) : Go h0 o0 cs (wpAny (model prog w) A (exec (.For target iter body [] pos) env) Q E) := fun s H => kY hh (h s H) hs
theorem fl {target : Expr} {body : List Stmt} {Q : FP} {l : Addr} {xs : List Value} {C0 K : az} (P : Nat → az → Prop) (hP0 : P 0 C0) (hl : ∀ i C, P i C → Has (C ++ K) l (ay xs))
  (turn : ∀ i v C K', xs[i]? = some v → P i C → (∀ C s, St h0 o0 (C ++ K') s → St h0 o0 (C ++ K) s) → Go h0 o0 (C ++ K') (wpAny (model prog w) A (assign target env v) (fun _ => wpAny (model prog w) A (execs body env) (TK h0 o0 K' (P (i + 1)) Q) NoE) NoE))
  (fin : ∀ C, P xs.length C → Go h0 o0 (C ++ K) (Q .next)) : Go h0 o0 (C0 ++ K) (FL prog w A env target body h0 o0 Q (.ref l)) := fun s H =>
 ⟨l, xs, C0, K, P, rfl, hP0, H, hl, fun i v C K' s hv hP hb H => ad (turn i v C K' hv hP hb s H) (fun _ s2 q => ad q (fun f s3 q => by cases f <;> exact q) fun _ _ q => q) fun _ _ q => q, fun C s hP H => fin C hP s H⟩
theorem k_sortI {v d : Addr} {kvs : List (Str × Value)} (hh : A.handled = none) (hv : Has cs v (fo d)) (hd : Has cs d (aM prog w kvs)) (h4 : kvs.length ≤ 5) (nd : (kvs.map (·.1)).Nodup)
  (h : ∀ D (ps : List (Addr × (Str × Tok) × Value)), (ps.map fun p => (p.2.1.1, p.2.2)).Perm kvs → dr (fun x y : Str => decide (x.cps.toList < y.cps.toList)) (ps.map fun p => p.2.1.1) → Go h0 o0 ((D, ay (ps.map fun p => .ref p.1)) :: (aQ ps ++ cs)) (Q (.ref D))) :
  Go h0 o0 cs (wpAny (model prog w) A (call (.builtin "sorted") [.ref v]) Q E) := fun s H => g6 H hh hv hd h4 nd fun D ps s' hp hr H' => h D ps hp hr s' H'
theorem e_lam {params : Arguments} {body : Expr} {scope : Scope} {pos : Pos} {c P : Addr} {qual : Str} {T : az} (LB : LamBase h0 c P) (hT : Tb P pos qual T) (hdef : defaultsOf params env = ([], [])) (hcl : closureFor scope env = pure []) (hge : env.globals = mainGlobals) (hcode : env.code = .ref c) (hq : env.qual ++ "<lambda>" = qual)
  (h : ∀ f c', Go h0 o0 ((f, dg "<lambda>" qual params body scope [] c') :: (c', b7 qual) :: (P, cTab #[rawInt pos.line, rawInt pos.col, .ref c']) :: (X ++ cs)) (Q (.ref f))) :
  Go h0 o0 (X ++ (T ++ cs)) (wpAny (model prog w) A (eval (.Lambda params body scope pos) env) Q E) := fun s H => x_lam LB H hT hdef hcl hge hcode hq fun f c' s' H' => h f c' s' H'
theorem k_lam {name qual : Str} {params : Arguments} {body : Expr} {scope : Scope} {c' f : Addr} {x : Str} {v : Value} (lim : h0.NoLimit) (hf : Has cs f (dg name qual params body scope [] c')) (hc : Has cs c' (b7 qual)) (hroom : A.depth < recursionLimit)
  (hbind : ∀ pm ctv, bindArgs (kla_fn name qual params body scope [] pm (.ref c') ctv) ⟨[v], []⟩ = pure [(x, v)]) (hloc : scope.names.lookup x = some .local) (hco : scope.isCoroutine = false) (hgen : scope.isGenerator = false) (hk : scope.kind = .function) (hcell : ∀ x ∈ scope.names, x.2 ≠ .cell)
  (h : ∀ L, Go h0 o0 ((L, cNs [(x, v)]) :: cs) (wpAny (model prog w) (A.deeper (envX qual scope L f (.ref c') [])) (eval body (envX qual scope L f (.ref c') [])) Q NoE)) : Go h0 o0 cs (wpAny (model prog w) A (call (.ref f) [v]) Q E) := fun s H =>
 mR lim H hf hc hroom hbind hloc hco hgen hk hcell fun L s' H' => h L s' H'
theorem k_get1 {d : Addr} {kvs : List (Str × Value)} {k : Str} {u : Tok} (hd : Has cs d (aM prog w kvs)) (h : Go h0 o0 cs (Q ((valueAt kvs k).getD .none))) : Go h0 o0 cs (wpAny (model prog w) A (call (.builtin "dict.get") [.ref d, .str k u]) Q E) := fun s H => x_get1 H hd h
theorem g_get {d : Addr} {kvs : List (Str × Value)} {pl : Sem Bool} {Q : Value × List Value → Shared → Prop} (hd : Has cs d (aM prog w kvs)) (h : Go h0 o0 cs (Q (.builtin "dict.get", [.ref d]))) : Go h0 o0 cs (wpAny (model prog w) A (getMethod (.ref d) (ofString "get") pl) Q E) := g_dic PySem.F.slot_dict_get PySem.F.type_dict_get hd h
theorem oX {x y : Str} {t u v : Tok} {k : Int} (hy : (y.length == 0) = false) (hk : (decide (k < -(2 ^ 63 : Int)) || decide (k ≥ 2 ^ 63)) = false) (hsz : x.length + 2 ≤ sizeLine)
  (h : ∀ a (l : List (Str × Tok)), l.map (·.1) = Txt.splitMax x y k → Go h0 o0 ((a, ay (strValues l)) :: cs) (Q (.ref a))) : Go h0 o0 cs (wpAny (model prog w) A (call (.builtin "str.split") [.str x t, .str y u, .int k v]) Q E) := fun s H => kW H hy hk hsz fun a l s' hl H' => h a l hl s' H'
theorem n8 {x : Str} {v : Value} {r : List (Str × Value)} {P : GP} (h : Go h0 o0 cs (wpAny (model prog w) A (storeName env x v) (fun _ => cb prog w A env r P) NoE)) : Go h0 o0 cs (cb prog w A env ((x, v) :: r) P) := h
theorem sa_n {P : GP} (h : Go h0 o0 cs P) : Go h0 o0 cs (cb prog w A env [] (CF h0 o0 P)) := fun s H => ⟨⟨cs, H⟩, h s H⟩
end
section
variable {b : Bool} {cs cs' V X Y : az} {Q : VP}
theorem k_sortT {a : Addr} {ps : List (Addr × (Str × Tok) × Value)} (ha : Has cs a (ay (ps.map fun p => .ref p.1))) (hps : ∀ p ∈ ps, Has cs p.1 (a8 [.str p.2.1.1 p.2.1.2, p.2.2])) (h4 : ps.length ≤ 5) (nd : (ps.map fun p => p.2.1.1).Nodup)
  (h : ∀ (ps' : List (Addr × (Str × Tok) × Value)) cs2, ps'.Perm ps → dr (fun x y : Str => decide (x.cps.toList < y.cps.toList)) (ps'.map fun p => p.2.1.1) → Put cs a (ay (ps.map fun p => .ref p.1)) (ay (ps'.map fun p => .ref p.1)) cs2 → Go h0 o0 cs2 (Q .none)) :
  Go h0 o0 cs (wpAny (model prog w) A (call (.builtin "list.sort") [.ref a]) Q E) := fun s H =>
 wpAny_call_entry slot_list_sort (aU H ha).typeIs entry_list_sort (lZ H ha hps h4 nd fun ps' cs2 s' hp hr hput H' => ⟨_, rfl, h ps' cs2 hp hr hput s' H'⟩) (args_list_sort _)
theorem fl0 {target : Expr} {body : List Stmt} {Q : FP} {l : Addr} {xs : List Value} (P : Nat → az → Prop) (hP0 : P 0 cs) (hl : ∀ i C, P i C → Has C l (ay xs))
  (turn : ∀ i v C K', xs[i]? = some v → P i C → (∀ C s, St h0 o0 (C ++ K') s → St h0 o0 C s) → Go h0 o0 (C ++ K') (wpAny (model prog w) A (assign target env v) (fun _ => wpAny (model prog w) A (execs body env) (TK h0 o0 K' (P (i + 1)) Q) NoE) NoE))
  (fin : ∀ C, P xs.length C → Go h0 o0 C (Q .next)) : Go h0 o0 cs (FL prog w A env target body h0 o0 Q (.ref l)) := by
 have := fl (K := []) (C0 := cs) (env := env) (Q := Q) (prog := prog) (w := w) (A := A) (target := target) (body := body) P hP0 (fun i C hP => by rw [List.append_nil]; exact hl i C hP) (fun i v C K' hv hP hb => turn i v C K' hv hP fun C s q => by have := hb C s q; rwa [List.append_nil] at this) (fun C hP => by rw [List.append_nil]; exact fin C hP)
 rwa [List.append_nil] at this
theorem ce0 {P : List Value → az → Prop} {ys : List Value} {L : Addr} {C' K' : az} {v : Value} {m : List (Str × Value)} (hP : P (ys ++ [v]) C') (e : cs = (L, cNs m) :: (C' ++ K')) : Go h0 o0 cs (CE h0 o0 P ys L K' v) := fun s H => ⟨m, C', hP, e ▸ H⟩
theorem cv0 {P : List (Str × Value) → az → Prop} {ys : List (Str × Value)} {L : Addr} {C' K' : az} {k : Str} {u : Tok} {v : Value} {m : List (Str × Value)} (hP : P (stored ys k v) C') (e : cs = (L, cNs m) :: (C' ++ K')) : Go h0 o0 cs (CV h0 o0 P ys L K' (.str k u) v) := fun s H => ⟨k, u, m, C', rfl, hP, e ▸ H⟩
theorem dZ {x : Str} {u : Tok} {pl : Sem Bool} {Q : Value × List Value → Shared → Prop} (h : Go h0 o0 cs (Q (.builtin "str.join", [.str x u]))) : Go h0 o0 cs (wpAny (model prog w) A (getMethod (.str x u) (ofString "join") pl) Q E) := fun s H => GM.join (h s H)
theorem dv {x : Str} {t : Tok} {D : Addr} {l : List (Str × Tok)} (hl : Has cs D (ay (strValues l))) (hok : JoinOk x (l.map (·.1)) = true) (h : ∀ t', Go h0 o0 cs (Q (.str (Txt.join x (l.map (·.1))) t'))) : Go h0 o0 cs (wpAny (model prog w) A (call (.builtin "str.join") [.str x t, .ref D]) Q E) := fun s H => x_join H hl hok fun t' s' H' => h t' s' H'
end
noncomputable def kO (M : Model) (A : Around) (env : Env) (cl : List (Str × Addr)) (scope : Scope) (E : VP) (L : Addr) : Value → Shared → Prop := notedBy M A (compEnvC scope cl L env) fun x s' => ∃ m, s'.heap.Ns L m ∧ ∀ h', Heap.SameBut L s'.heap h' → ∀ cenv : Env, cenv.locals = L → wpAny M A (passOn "comprehension.variables-let-go" x cenv : Sem Value) (fun _ _ => False) E { s' with heap := h' }
section
variable {b : Bool} {M : Model} {cs cs' r : az} {K : az} {P : GP}
theorem k_cmp {outer : List Env} {env0 : Env} {cl : List (Str × Addr)} {scope : Scope} {L Lf e : Addr} {cls : String} {t c : Value} {X : Option Addr} {m : List (Str × Value)} (hA : A.frames = some (env0 :: outer)) (hf0 : env0.frame = some Lf) (hf : env.frame = some Lf) (hfr : FrOk cs (env0 :: outer))
  (h : ∀ T, Go h0 o0 (cV e cls t c (some T) ++ cs) (E (.ref e))) : Go h0 o0 (cV e cls t c X ++ (L, cNs m) :: cs) (kO M A env cl scope E L (.ref e)) := by
 have hn : noteFrame (.ref e) (compEnvC scope cl L env) = noteFrame (.ref e) env0 := by
  have hc : (compEnvC scope cl L env).frame = some Lf := hf
  unfold noteFrame PySem.frameOf
  simp only [hc, hf0]
 unfold kO notedBy
 rw [hn]
 refine jk (A := A) (E := fun x s' => ∃ m, s'.heap.Ns L m ∧ ∀ h', Heap.SameBut L s'.heap h' → ∀ cenv : Env, cenv.locals = L → wpAny M A (passOn "comprehension.variables-let-go" x cenv : Sem Value) (fun _ _ => False) E { s' with heap := h' }) hA hf0 hfr.there fun T => ?_
 intro s H
 have H2 : St h0 o0 ((L, cNs m) :: (cV e cls t c (some T) ++ cs)) s := H.perm (List.perm_middle.symm)
 obtain ⟨f, hn, _⟩ := eY H2 .here
 refine ⟨f, hn, fun h' hsb cenv _ => ?_⟩
 have H3 := H2.unframe hsb
 unfold PySem.passOn
 obtain ⟨oe, he, hcls, vs, hd, hsz, v0, v1, v2⟩ := H3.get .here
 refine aa (wpAny_field he hd v1 ?_)
 rw [if_neg (by simp [tbV])]
 refine aa (iL (f := cenv.frame) (Q := fun _ => wpAny M A (throw (.ref e) : Sem Value) (fun _ _ => False) E) ?_ _ H3)
 exact fun s H => wpAny_throw (h T s H)
noncomputable def LKE (prog : Program) (w : World) (A : Around) (env : Env) (h0 : Heap) (o0 : Shared) (y : Str) (cl : List (Str × Addr)) (scope : Scope) (kx vx target : Expr) (Q : FP) (E : VP) : Value → Shared → Prop := fun x s₁ =>
 ∃ l xs C0 K, ∃ P : Nat → List (Str × Value) → az → Prop, x = .ref l ∧ P 0 [] C0 ∧ xs.length ≤ sizeLine ∧ St h0 o0 (C0 ++ K) s₁ ∧ (∀ i ys C, P i ys C → Has (C ++ K) l (ay xs)) ∧
   (∀ L i v ys C K' s, xs[i]? = some v → P i ys C → St h0 o0 ((L, cNs []) :: (C ++ K')) s →
    wpAny (model prog w) A (assign target (compEnvC scope cl L env) v) (fun _ s₂ => wpAny (model prog w) A (ba [] (compEnvC scope cl L env)) (fun ok s₃ =>
     if ok = true then wpAny (model prog w) A (eval kx (compEnvC scope cl L env)) (fun kv s₄ => wpAny (model prog w) A (eval vx (compEnvC scope cl L env)) (fun y s₅ => ∃ k u m C', kv = .str k u ∧ P (i + 1) (stored ys k y) C' ∧ St h0 o0 ((L, cNs m) :: (C' ++ K')) s₅) (kO (model prog w) A env cl scope E L) s₄) (kO (model prog w) A env cl scope E L) s₃
     else ∃ m C', P (i + 1) ys C' ∧ St h0 o0 ((L, cNs m) :: (C' ++ K')) s₃) (kO (model prog w) A env cl scope E L) s₂) (kO (model prog w) A env cl scope E L) s) ∧
   (∀ L D ys C s, P xs.length ys C → St h0 o0 ((D, aM prog w ys) :: (C ++ ((L, cNs []) :: K))) s → wpAny (model prog w) A (storeName env y (.ref D)) (fun _ s' => ∃ cs', St h0 o0 ((L, cNs []) :: cs') s' ∧ ∀ s'', St h0 o0 cs' s'' → Q .next s'') E s)
theorem s_cdlE {kx vx target iter : Expr} {scope : Scope} {pos py spos : Pos} {y : Str} {cl : List (Str × Addr)} {Q : FP} (hh : A.handled = none)
  (hsw : swapsWith (.DictComp kx vx [⟨target, iter, [], 0⟩] scope pos) (some (.Name y py)) spos.line env = pure true)
  (hclos : closureFor scope env = pure cl) (hcell : ∀ y ∈ scope.names, y.2 ≠ .cell) (hkind : scope.kind = .function) (hnames : ∀ y ∈ scope.names, y.2 = .local → scope.names.lookup y.1 = some .local)
  (h : Go h0 o0 cs (wpAny (model prog w) A (eval iter env) (LKE prog w A env h0 o0 y cl scope kx vx target Q E) E)) (hs : ∀ x, foldedSetIterable iter env x = pure x) :
  Go h0 o0 cs (wpAny (model prog w) A (exec (.Assign [.Name y py] (.DictComp kx vx [⟨target, iter, [], 0⟩] scope pos) spos) env) Q E) := by
 intro s H
 rw [exec_Assign_Name_used _ _ _ _ hsw]
 refine aa (wpAny_standAt (aa ?_))
 show wpAny _ A (do let _ ← comprehension (.DictComp kx vx [⟨target, iter, [], 0⟩] scope pos) scope env _ newDict false (eval iter env) (some (assign (.Name y py) env))) _ _ s
 refine aa (ad (wpAny_comprehension_free (use := some (assign (.Name y py) env)) (Q := fun _ s' => Q .next s') rfl hs hclos hkind hnames
  (ad (h s H) (fun xv s₁ h₁ => ?_) fun _ _ e => e)) (fun _ s' hq => ab (ab hq)) fun _ _ e => e)
 obtain ⟨l, xs, C0, K, P, rfl, hP0, hsz, H, hl, turn, fin⟩ := h₁
 refine wpAny_pyIter_list (aU H (hl 0 [] C0 hP0)) (fk (E1 := kO (model prog w) A env cl scope E) (RR := fun acc C => compPost (model prog w) A E (some (assign (.Name y py) env)) (fun _ s' => Q .next s') acc C) hcell hkind (nY (cx (l := l) (xs := xs) hh)) hP0 hsz (H.push (k := s₁.toks) (c := ce l 0) ⟨rfl, rfl⟩ (ae _)) hl (fun L i v c ys C K' s _ hv hP _ H => turn L i v ys C K' s hv.1 hP H) (fun L D x s q => q) fun L D ys C s hP H => ?_)
 show wpAny _ A (assign (.Name y py) env (.ref D)) _ _ _
 refine wpAny_assign_Name (ad (fin L D ys C s hP (H.perm ?_)) (fun _ s' q => ?_) fun _ _ q => q)
 ·refine List.Perm.trans (List.Perm.cons _ List.perm_middle) (List.Perm.swap _ _ _)
 ·obtain ⟨cs', H', hq⟩ := q
  obtain ⟨f, hn, _⟩ := eY H' .here
  exact ⟨f, hn, fun h' hsb => hq _ (H'.unframe hsb)⟩
theorem lkE {y : Str} {cl : List (Str × Addr)} {scope : Scope} {kx vx target : Expr} {Q : FP} {l : Addr} {xs : List Value} (P : Nat → List (Str × Value) → az → Prop) (hP0 : P 0 [] cs) (hz : xs.length ≤ sizeLine) (hl : ∀ i ys C, P i ys C → Has C l (ay xs))
  (turn : ∀ L i v ys C K', xs[i]? = some v → P i ys C → Go h0 o0 ((L, cNs []) :: (C ++ K')) (wpAny (model prog w) A (assign target (compEnvC scope cl L env) v) (fun _ => wpAny (model prog w) A (eval kx (compEnvC scope cl L env)) (fun kv => wpAny (model prog w) A (eval vx (compEnvC scope cl L env)) (CV h0 o0 (P (i + 1)) ys L K' kv) (kO (model prog w) A env cl scope E L)) (kO (model prog w) A env cl scope E L)) (kO (model prog w) A env cl scope E L)))
  (fin : ∀ L D ys C, P xs.length ys C → Go h0 o0 ((D, aM prog w ys) :: (C ++ [(L, cNs [])])) (wpAny (model prog w) A (storeName env y (.ref D)) (NK h0 o0 L (Q .next)) E)) :
  Go h0 o0 cs (LKE prog w A env h0 o0 y cl scope kx vx target Q E (.ref l)) := fun s H =>
 ⟨l, xs, cs, [], P, rfl, hP0, hz, (by rw [List.append_nil]; exact H), fun i ys C hP => by rw [List.append_nil]; exact hl i ys C hP, fun L i v ys C K' s hv hP H => ad (turn L i v ys C K' hv hP s H) (fun _ s2 q => gk (by rw [if_pos rfl]; exact q)) fun _ _ q => q, fun L D ys C s hP H => fin L D ys C hP s H⟩
noncomputable def CLE (prog : Program) (w : World) (A : Around) (env : Env) (h0 : Heap) (o0 : Shared) (cl : List (Str × Addr)) (scope : Scope) (elt target : Expr) (Q : VP) (E : VP) : Value → Shared → Prop := fun x s₁ =>
 ∃ l xs C0 K, ∃ P : Nat → List Value → az → Prop, x = .ref l ∧ P 0 [] C0 ∧ xs.length ≤ sizeLine ∧ St h0 o0 (C0 ++ K) s₁ ∧ (∀ i ys C, P i ys C → Has (C ++ K) l (ay xs)) ∧
   (∀ L i v ys C K' s, xs[i]? = some v → P i ys C → St h0 o0 ((L, cNs []) :: (C ++ K')) s →
    wpAny (model prog w) A (assign target (compEnvC scope cl L env) v) (fun _ s₂ => wpAny (model prog w) A (ba [] (compEnvC scope cl L env)) (fun ok s₃ =>
     if ok = true then wpAny (model prog w) A (eval elt (compEnvC scope cl L env)) (fun y s₄ => ∃ m C', P (i + 1) (ys ++ [y]) C' ∧ St h0 o0 ((L, cNs m) :: (C' ++ K')) s₄) (kO (model prog w) A env cl scope E L) s₃
     else ∃ m C', P (i + 1) ys C' ∧ St h0 o0 ((L, cNs m) :: (C' ++ K')) s₃) (kO (model prog w) A env cl scope E L) s₂) (kO (model prog w) A env cl scope E L) s) ∧
   (∀ D ys C s, P xs.length ys C → St h0 o0 ((D, ay ys) :: (C ++ K)) s → Q (.ref D) s)
theorem e_clE {elt target iter : Expr} {scope : Scope} {pos : Pos} {cl : List (Str × Addr)} {Q : VP} (hh : A.handled = none)
  (hclos : closureFor scope env = pure cl) (hcell : ∀ y ∈ scope.names, y.2 ≠ .cell) (hkind : scope.kind = .function) (hnames : ∀ y ∈ scope.names, y.2 = .local → scope.names.lookup y.1 = some .local)
  (h : Go h0 o0 cs (wpAny (model prog w) A (eval iter env) (CLE prog w A env h0 o0 cl scope elt target Q E) E)) (hs : ∀ x, foldedSetIterable iter env x = pure x) :
  Go h0 o0 cs (wpAny (model prog w) A (eval (.ListComp elt [⟨target, iter, [], 0⟩] scope pos) env) Q E) := by
 intro s H
 rw [eval_ListComp]
 refine wpAny_comprehension_free (use := none) rfl hs hclos hkind hnames (ad (h s H) (fun x s₁ h₁ => ?_) fun _ _ q => q)
 obtain ⟨l, xs, C0, K, P, rfl, hP0, hsz, H, hl, turn, fin⟩ := h₁
 refine wpAny_pyIter_list (aU H (hl 0 [] C0 hP0)) (f0 (E1 := kO (model prog w) A env cl scope E) (RR := fun acc C => compPost (model prog w) A E none Q acc C) hcell hkind (cx (l := l) (xs := xs) hh) hP0 hsz (H.push (k := s₁.toks) (c := ce l 0) ⟨rfl, rfl⟩ (ae _)) hl (fun L i v ys C K' s _ hv hP H => turn L i v ys C K' s hv hP H) (fun L D x s q => q) fun L D ys C s hP H => ?_)
 obtain ⟨f, hn, _⟩ := eY H .here
 exact ⟨f, hn, fun h' hsb => fin D ys C _ hP (H.unframe hsb)⟩
theorem clE {cl : List (Str × Addr)} {scope : Scope} {elt target : Expr} {l : Addr} {xs : List Value} {Q : VP} (P : Nat → List Value → az → Prop) (hP0 : P 0 [] cs) (hz : xs.length ≤ sizeLine) (hl : ∀ i ys C, P i ys C → Has C l (ay xs))
  (turn : ∀ L i v ys C K', xs[i]? = some v → P i ys C → Go h0 o0 ((L, cNs []) :: (C ++ K')) (wpAny (model prog w) A (assign target (compEnvC scope cl L env) v) (fun _ => wpAny (model prog w) A (eval elt (compEnvC scope cl L env)) (CE h0 o0 (P (i + 1)) ys L K') (kO (model prog w) A env cl scope E L)) (kO (model prog w) A env cl scope E L)))
  (fin : ∀ D ys C, P xs.length ys C → Go h0 o0 ((D, ay ys) :: C) (Q (.ref D))) :
  Go h0 o0 cs (CLE prog w A env h0 o0 cl scope elt target Q E (.ref l)) := fun s H =>
 ⟨l, xs, cs, [], P, rfl, hP0, hz, (by rw [List.append_nil]; exact H), fun i ys C hP => by rw [List.append_nil]; exact hl i ys C hP, fun L i v ys C K' s hv hP H => ad (turn L i v ys C K' hv hP s H) (fun _ s2 q => gk (by rw [if_pos rfl]; exact q)) fun _ _ q => q, fun D ys C s hP H => fin D ys C hP s (by rw [List.append_nil] at H; exact H)⟩
end
section
variable {M : Model} {cs cs' : az} {K : Frag} {P : GP}
theorem x_fnGE {fa : Addr} {ar : Args} {binds : List (Str × Value)} {R : RP} (B : Base K h0) (H : St h0 o0 cs s) (hf : gN K fa = true) (hroom : A.depth < recursionLimit) (hbind : BindsTo s (aK K fa) ar binds)
  (h : ∀ L s', St h0 o0 ((L, cNs []) :: ((cellsFrom (L + 1) (aK K fa).scope.names []).map (fun p => (p.2, aN none)) ++ cs)) s' →
   cb prog w A.in1 (callEnvC (aK K fa) L fa) binds (fun s'' => (∃ cs2, St h0 o0 cs2 s'') ∧ wpAny (model prog w) (A.deeper (callEnvC (aK K fa) L fa)) (execs (aZ K fa) (callEnvC (aK K fa) L fa)) (fun f s3 => R (.ok (.ret (match f with | .ret v => v | _ => .none))) s3) (jA (model prog w) (A.deeper (callEnvC (aK K fa) L fa)) (callEnvC (aK K fa) L fa) R) s'') s') :
  codeAny (model prog w) A (.call (.ref fa) ar) R s := by
 unfold gN at hf
 split at hf
 ·rename_i c d fd sl ho
  simp only [Bool.and_eq_true, Bool.not_eq_true', beq_iff_eq] at hf
  obtain ⟨⟨⟨⟨⟨h1, h2⟩, h3⟩, h4⟩, h6⟩, h7⟩ := hf
  have e : aK K fa = fd := by unfold aK; rw [ho]
  have eb : fd.body = .stmts (aZ K fa) := by
   unfold aZ; rw [e]
   cases hb : fd.body with
   | stmts b => rfl
   | expr _ => rw [hb] at h6; cases h6
  rw [e] at hbind h
  refine codeAny_call_function hroom (H.keep _ _ (B.X _ _ ho)) rfl h2 h3 eb ((codeRec_of B.X h1).keeps H.keep) ?_
  refine hbind _ _ _ _ ?_
  rw [List.isEmpty_iff.mp h7]
  simp only [newFunctionEnv, Option.isSome_none, Bool.false_eq_true, if_false]
  refine aa (wpAny_alloc ?_)
  refine aa (wpAny_layCells _ (fun name kind cells => by cases hkc : kind == NameKind.cell <;> simp) _ _ _ _ ?_)
  have ok := cellsFrom_ok fd.scope.names (s.heap.push { cls := .type "frame", data := .dict #[] }) (s.heap.objs.size + 1) [] ⟨fun _ _ hm => (nomatch hm), List.Pairwise.nil⟩ (by rw [Heap.size_push]; exact ae _)
  rw [Heap.size_push] at ok
  rw [show ({ s with heap := s.heap.push { cls := .type "frame", data := .dict #[] } } : Shared).heap.objs.size = s.heap.objs.size + 1 from Heap.size_push ..]
  have hkeep : ∀ b o, s.heap.get? b = some o → (pushCells (s.heap.push { cls := .type "frame", data := .dict #[] }) fd.scope.names).get? b = some o := fun b o q => pushCells_keeps _ _ b o (Heap.get?_push_of_some _ q)
  have hns : (pushCells (s.heap.push { cls := .type "frame", data := .dict #[] }) fd.scope.names).Ns s.heap.objs.size (fun _ => none) := (Heap.Ns.new s.heap (.type "frame")).keeps (pushCells_keeps _ _)
  have H1 : St h0 o0 (((s.heap.objs.size, cNs []) :: (cellsFrom (s.heap.objs.size + 1) fd.scope.names []).map (fun p => (p.2, aN none))) ++ cs) { s with heap := pushCells (s.heap.push { cls := .type "frame", data := .dict #[] }) fd.scope.names, toks := s.toks } := by
   refine H.moreN _ (fun q hq => ?_) ?_ hkeep (ae _)
   ·rcases List.mem_cons.mp hq with rfl | hq
    ·exact ⟨ae _, dD hns (m := []) fun y u q => by cases q⟩
    ·obtain ⟨⟨n, c⟩, hm, rfl⟩ := List.mem_map.mp hq
     obtain ⟨⟨o, ho', hd'⟩, hle⟩ := ok.empty n c hm
     exact ⟨by lia, o, ho', hd'⟩
   ·rw [ap, List.map_map, List.nodup_cons]
    refine ⟨fun hm => ?_, ?_⟩
    ·obtain ⟨⟨n, c⟩, hm, e⟩ := List.mem_map.mp hm
     have := (ok.empty n c hm).2
     have e' : c = s.heap.objs.size := e
     rw [e'] at this
     exact Nat.lt_irrefl _ this
    ·rw [List.nodup_iff_pairwise_ne, List.pairwise_map]
     exact ok.apart
  refine aa (dt binds _ (h s.heap.objs.size _ H1) fun s' q => ab ?_)
  obtain ⟨⟨cs2, H2⟩, q⟩ := q
  exact ⟨B.lim.keeps H2.keep, codeAny_func (ad q (fun f s' q => q) fun _ _ q => q)⟩
 ·cases hf
end
section
variable {M : Model} {cs cs' : az} {P : GP}
theorem nj {fa : Addr} {ar : Args} {binds : List (Str × Value)} {R : RP} {K : Frag} (B : Base K h0) (hf : gN K fa = true) (hroom : A.depth < recursionLimit) (hbind : ∀ s, K.In s.heap → BindsTo s (aK K fa) ar binds)
  (h : ∀ L, Go h0 o0 ((L, cNs []) :: ((cellsFrom (L + 1) (aK K fa).scope.names []).map (fun p => (p.2, aN none)) ++ cs)) (cb prog w A.in1 (callEnvC (aK K fa) L fa) binds (CF h0 o0 (wpAny (model prog w) (A.deeper (callEnvC (aK K fa) L fa)) (execs (aZ K fa) (callEnvC (aK K fa) L fa)) (RK R) (jA (model prog w) (A.deeper (callEnvC (aK K fa) L fa)) (callEnvC (aK K fa) L fa) R))))) :
  Go h0 o0 cs (codeAny (model prog w) A (.call (.ref fa) ar) R) := fun s H => x_fnGE B H hf hroom (hbind s (B.X.keeps H.keep)) fun L s' H' => by
 have key : ∀ (bs : List (Str × Value)) (s : Shared), cb prog w A.in1 (callEnvC (aK K fa) L fa) bs (CF h0 o0 (wpAny (model prog w) (A.deeper (callEnvC (aK K fa) L fa)) (execs (aZ K fa) (callEnvC (aK K fa) L fa)) (RK R) (jA (model prog w) (A.deeper (callEnvC (aK K fa) L fa)) (callEnvC (aK K fa) L fa) R))) s →
   cb prog w A.in1 (callEnvC (aK K fa) L fa) bs (fun s'' => (∃ cs2, St h0 o0 cs2 s'') ∧ wpAny (model prog w) (A.deeper (callEnvC (aK K fa) L fa)) (execs (aZ K fa) (callEnvC (aK K fa) L fa)) (fun f s3 => R (.ok (.ret (match f with | .ret v => v | _ => .none))) s3) (jA (model prog w) (A.deeper (callEnvC (aK K fa) L fa)) (callEnvC (aK K fa) L fa) R) s'') s := by
  intro bs
  induction bs with
  | nil => exact fun s q => ⟨q.1, ad q.2 (fun f s'' q => by cases f <;> exact q) fun _ _ q => q⟩
  | cons p r ih => intro s q; exact ad q (fun _ s2 q => ih s2 q) fun _ _ q => q
 exact key binds s' (h L s' H')
end
section
variable {b : Bool} {M : Model} {cs cs' r : az} {K : az} {P : GP} {Q : VP}
theorem chk_to6 {n : Nat} (h2 : 2 ≤ n) (h4 : n ≤ 6) : fN n (kas_sort n) [] = true := by
 have key : ∀ n, n < 7 → 2 ≤ n → fN n (kas_sort n) [] = true := by decide +kernel
 exact key n (Nat.lt_succ_of_le h4) h2
theorem i0 {a q : Addr} {ks : List Str} {κ : Str → List Str} (H : St h0 o0 cs s) (hh : A.handled = none) (hu : A.units + 2 < cLine) (ha : Has cs a (bj true w ks)) (hk : ks ≠ []) (h4 : ks.length ≤ 6) (nd : ks.Nodup) (inj : ∀ x ∈ ks, ∀ y ∈ ks, κ x = κ y → x = y)
  (hkey : ∀ cs1 x u s (Q : VP), x ∈ ks → (∀ p ∈ cs, p ∈ cs1) → St h0 o0 cs1 s → (∀ k s', St h0 o0 ((k, dI (κ x)) :: cs1) s' → Q (.ref k) s') → wpAny (model prog w) A.in1.in1 (call (.ref q) [.str x u]) Q (fun _ _ => False) s)
  (h : ∀ D (xs : List (Str × Tok)) s', (xs.map (·.1)).Perm ks → dr (fun x y => dW (κ x) (κ y)) (xs.map (·.1)) → St h0 o0 ((D, ay (tv xs)) :: cs) s' → Q (.ref D) s') :
  wpAny (model prog w) A (call (.builtin "sorted") [.ref a] [(ofString "key", .ref q)]) Q E s := by
 refine call_function_entry_kw kind_sorted plain_sorted entry_sorted (ksk_s1 _ _) ?_
 unfold Builtin.«sorted»
 refine aa (m := checkCount "sorted" 1 1 _) (ab ?_)
 refine aa (i1 H hh ha hk fun xs s1 hp H1 => ?_)
 have hxl : xs.length = ks.length := by have := hp.length_eq; simpa using this
 refine aa (cK H1 (by rw [ag, af]; (lia)) fun D s2 H2 _ => ?_)
 have hnd : (xs.map (·.1)).Nodup := hp.nodup_iff.mpr nd
 have O : Ord (tv xs).length (fun i j => dW (κ (xs.getD i default).1) (κ (xs.getD j default).1)) := by
  have hl : (tv xs).length = xs.length := by simp [tv]
  refine ⟨fun i j hi hj hij => ?_, fun i j k hi hj hk h1 h2 => fE h1 h2⟩
  rw [hl] at hi hj
  have m1 : (xs.getD i default).1 ∈ ks := hp.mem_iff.mp (List.mem_map.mpr ⟨xs[i], List.getElem_mem hi, by simp [hi]⟩)
  have m2 : (xs.getD j default).1 ∈ ks := hp.mem_iff.mp (List.mem_map.mpr ⟨xs[j], List.getElem_mem hj, by simp [hj]⟩)
  refine mt fun e => hij ?_
  have e2 := inj _ m1 _ m2 e
  have hi' : i < (xs.map (·.1)).length := by simpa using hi
  have hj' : j < (xs.map (·.1)).length := by simpa using hj
  refine fA hnd hi' hj' ?_
  simpa [hi, hj] using e2
 have hoT := (aU H2 .here).typeIs
 refine aa (aw (wpAny_call_entry_kw slot_list_sort hoT entry_list_sort ?_ (ksk_l1 _ _)))
 show wpAny (model prog w) A.in1.in1 (Builtin.«list.sort» ⟨[.ref D], [(ofString "key", .ref q)]⟩) _ _ _
 refine mJ (kl := fun i => κ (xs.getD i default).1) O (by show A.units + 1 + 1 < cLine; (with_reducible assumption)) .here H2 ?_ (by simp [tv]; (lia)) (fun cs1 i v s' Q' hv hm Hs hq => ?_) fun p cs2 s3 hpm hadj hput H3 => ?_
 ·have hl : (tv xs).length = xs.length := by simp [tv]
  rw [hl]
  by_cases h1 : xs.length ≤ 1
  ·exact .inl h1
  ·exact .inr (chk_to6 (by lia) (by lia))
 ·have hi : i < xs.length := by have := (List.getElem?_eq_some_iff.mp hv).1; simpa [tv] using this
  have ev : v = .str xs[i].1 xs[i].2 := by
   rw [List.getElem?_map, List.getElem?_eq_getElem hi] at hv
   exact (Option.some.inj hv).symm
  subst ev
  have e : xs.getD i default = xs[i] := by simp [hi]
  have hn1 : ∀ p ∈ cs, p.1 ≠ D := fun p hp e => by
   have := H2.nodup
   rw [ap, List.nodup_cons] at this
   exact this.1 (by have q : p.1 ∈ List.map Prod.fst cs := aq hp; rwa [e] at q)
  refine hkey cs1 xs[i].1 xs[i].2 s' Q' (hp.mem_iff.mp (List.mem_map.mpr ⟨xs[i], List.getElem_mem hi, rfl⟩)) (fun p hp => hm p (am _ hp) (hn1 p hp)) Hs fun k s'' H'' => hq k s'' ?_
  rw [e]; exact H''
 ·have hpl : ∀ i ∈ p, i < xs.length := fun i hi => by have := hpm.mem_iff.mp hi; simpa [tv] using this
  have hpm' : p.Perm (List.range xs.length) := by simpa [tv] using hpm
  cases hput with
  | here =>
   refine ⟨_, rfl, ab ⟨_, rfl, h D (p.map fun i => xs.getD i default) s3 ?_ ?_ ?_⟩⟩
   ·exact ((dS xs default hpm').map _).trans hp
   ·rw [List.map_map]
    exact gA (c := fun x y => dW (κ x) (κ y)) (f := fun i => (xs.getD i default).1) p hadj
   ·rw [← getD_tv xs default p hpl]; exact H3
  | there hput =>
   have := H2.nodup
   rw [ap, List.nodup_cons] at this
   exact absurd (aq (f := Prod.fst) hput.has.mem) this.1
theorem oZ {a q : Addr} {ks : List Str} {κ : Str → List Str} (hh : A.handled = none) (hu : A.units + 2 < cLine) (ha : Has cs a (bj true w ks)) (hk : ks ≠ []) (h4 : ks.length ≤ 6) (nd : ks.Nodup) (inj : ∀ x ∈ ks, ∀ y ∈ ks, κ x = κ y → x = y)
  (hkey : ∀ cs1 x u (Q : VP), x ∈ ks → (∀ p ∈ cs, p ∈ cs1) → (∀ k, Go h0 o0 ((k, dI (κ x)) :: cs1) (Q (.ref k))) → Go h0 o0 cs1 (wpAny (model prog w) A.in1.in1 (call (.ref q) [.str x u]) Q NoE))
  (h : ∀ D (xs : List (Str × Tok)), (xs.map (·.1)).Perm ks → dr (fun x y => dW (κ x) (κ y)) (xs.map (·.1)) → Go h0 o0 ((D, ay (tv xs)) :: cs) (Q (.ref D))) :
  Go h0 o0 cs (wpAny (model prog w) A (call (.builtin "sorted") [.ref a] [(ofString "key", .ref q)]) Q E) := fun s H =>
 i0 H hh hu ha hk h4 nd inj (fun cs1 x u s Q hx hm Hs hq => hkey cs1 x u Q hx hm (fun k s' H' => hq k s' H') s Hs) fun D xs s' hp hr H' => h D xs hp hr s' H'
end
theorem jd {α : Type} {c : α → α → Bool} (tr : ∀ x y z, c x y = true → c y z = true → c x z = true) : ∀ {l : List α}, dr c l → l.Pairwise fun x y => c x y = true
 | [], _ => .nil
 | [a], _ => by simp
 | a :: b :: r, h => by
  have ih := jd tr h.2
  refine List.pairwise_cons.mpr ⟨fun y hy => ?_, ih⟩
  rcases List.mem_cons.mp hy with rfl | hy
  ·exact h.1
  ·exact tr _ _ _ h.1 ((List.pairwise_cons.mp ih).1 y hy)
theorem iB {α : Type} {R : α → α → Prop} (irr : ∀ x, ¬ R x x) (tr : ∀ x y z, R x y → R y z → R x z) : ∀ {l1 l2 : List α}, l1.Perm l2 → l1.Pairwise R → l2.Pairwise R → l1 = l2
 | [], l2, hp, _, _ => hp.nil_eq
 | a :: r1, [], hp, _, _ => absurd hp.length_eq (by simp)
 | a :: r1, b :: r2, hp, h1, h2 => by
  have e : a = b := by
   rcases List.mem_cons.mp (hp.mem_iff.mp au) with q | q
   ·exact q
   ·rcases List.mem_cons.mp (hp.mem_iff.mpr au) with q2 | q2
    ·exact q2.symm
    ·exact absurd (tr _ _ _ ((List.pairwise_cons.mp h1).1 b q2) ((List.pairwise_cons.mp h2).1 a q)) (irr a)
  subst e
  rw [iB irr tr ((List.perm_cons a).mp hp) (List.pairwise_cons.mp h1).2 (List.pairwise_cons.mp h2).2]
theorem dQ {α β : Type} {c : β → β → Bool} {f : α → β} (irr : ∀ x, c x x = false) (tr : ∀ x y z, c x y = true → c y z = true → c x z = true) {l1 l2 : List α} (hp : l1.Perm l2) (h1 : dr c (l1.map f)) (h2 : dr c (l2.map f)) : l1 = l2 :=
 iB (R := fun x y => c (f x) (f y) = true) (fun x q => by rw [irr] at q; cases q) (fun x y z => tr _ _ _) hp (List.pairwise_map.mp (jd tr h1)) (List.pairwise_map.mp (jd tr h2))
noncomputable def insS {α : Type} (c : α → α → Bool) (x : α) : List α → List α
 | [] => [x]
 | y :: r => if c x y = true then x :: y :: r else y :: insS c x r
noncomputable def le {α : Type} (c : α → α → Bool) : List α → List α
 | [] => []
 | x :: r => insS c x (le c r)
theorem iM {α : Type} (c : α → α → Bool) (x : α) : ∀ l, (insS c x l).Perm (x :: l)
 | [] => .refl _
 | y :: r => by
  unfold insS
  split
  ·exact .refl _
  ·exact ((iM c x r).cons y).trans (.swap _ _ _)
theorem d6 {α : Type} (c : α → α → Bool) : ∀ l, (le c l).Perm l
 | [] => .refl _
 | x :: r => (iM c x _).trans ((d6 c r).cons x)
section
variable {cs : az} {Q : FP}
end
theorem oY {cs : az} {Q : VP} {a : Addr} {ps : List (Addr × (Str × Tok) × Value)} (hps : ∀ p ∈ ps, Has cs p.1 (a8 [.str p.2.1.1 p.2.1.2, p.2.2])) (h4 : ps.length ≤ 5) (nd : (ps.map fun p => p.2.1.1).Nodup)
  (h : ∀ (ps' : List (Addr × (Str × Tok) × Value)), ps'.Perm ps → dr (fun x y : Str => decide (x.cps.toList < y.cps.toList)) (ps'.map fun p => p.2.1.1) → Go h0 o0 ((a, ay (ps'.map fun p => .ref p.1)) :: cs) (Q .none)) :
  Go h0 o0 ((a, ay (ps.map fun p => .ref p.1)) :: cs) (wpAny (model prog w) A (call (.builtin "list.sort") [.ref a]) Q E) := fun s H =>
 k_sortT .here (fun p hp => .there (hps p hp)) h4 nd (fun ps' cs2 hp hr hput => by
  cases hput with
  | here => exact h ps' hp hr
  | there hput =>
   have := H.nodup
   rw [ap, List.nodup_cons] at this
   exact absurd (aq (f := Prod.fst) hput.has.mem) this.1) s H
noncomputable abbrev jD (x y : Str) : Bool := decide (x.cps.toList < y.cps.toList)
theorem ms (x : Str) : jD x x = false := decide_eq_false (List.lt_irrefl _)
theorem oN (x y z : Str) (h1 : jD x y = true) (h2 : jD y z = true) : jD x z = true := by
 rw [decide_eq_true_eq] at *; exact List.lt_trans h1 h2
theorem ltL_irr (x : List Str) : dW x x = false := by
 induction x with
 | nil => rfl
 | cons a r ih => simp [dW, ih]
section
variable {cs cs' V X Y : az} {P : GP} {i : fQ} {t : eo}
theorem Go.wPull (h : Go h0 o0 (Y ++ wr prog w i t (X ++ V)) P) : Go h0 o0 (X ++ (Y ++ wr prog w i t V)) P := Go.perm (perm3.trans (List.Perm.append_left Y wr_in)) h
theorem Go.tl {Z : az} {p : Addr × bM} (h : Go h0 o0 (Y ++ p :: Z) P) : Go h0 o0 (Y ++ (Z ++ [p])) P := Go.perm (List.Perm.append_left Y (List.perm_append_singleton p _)) h
theorem Go.mid {p : Addr × bM} (h : Go h0 o0 (X ++ p :: Y) P) : Go h0 o0 (p :: (X ++ Y)) P := Go.perm List.perm_middle.symm h
end
noncomputable def UOk (U : List Str) : Prop := U.length ≤ 90 ∧ ∀ u ∈ U, u.length ≤ 100
theorem fJ (dl : List (List Sp)) : (bd dl).length = (dl.map List.length).sum := by
 unfold bd
 rw [List.length_flatten, List.map_reverse, List.sum_reverse]
theorem mem_flatV {dl : List (List Sp)} {x : Sp} : x ∈ bd dl ↔ ∃ l ∈ dl, x ∈ l := by
 unfold bd
 rw [List.mem_flatten]
 constructor
 ·rintro ⟨l, h1, h2⟩; exact ⟨l, List.mem_reverse.mp h1, h2⟩
 ·rintro ⟨l, h1, h2⟩; exact ⟨l, List.mem_reverse.mpr h1, h2⟩
theorem eW : ∀ (dl : List (List Sp)) (p : Sp), (cu dl p).length = dl.length ∧ ((cu dl p).map List.length).sum ≤ (dl.map List.length).sum + 1 ∧ ∀ l ∈ cu dl p, ∀ x ∈ l, x = p ∨ ∃ l ∈ dl, x ∈ l
 | [], p => ⟨rfl, Nat.zero_le _, fun l h => by cases h⟩
 | [l], p => ⟨rfl, by simp [cu], fun m h x hx => by
   have hm : m = l ++ [p] := by simpa [cu] using h
   subst hm
   rcases List.mem_append.mp hx with q | q
   ·exact .inr ⟨l, au, q⟩
   ·exact .inl (by simpa using q)⟩
 | l :: m :: r, p => by
  obtain ⟨h1, h2, h3⟩ := eW (m :: r) p
  refine ⟨by show (l :: cu (m :: r) p).length = _; rw [List.length_cons, h1]; rfl, ?_, ?_⟩
  ·show ((l :: cu (m :: r) p).map List.length).sum ≤ ((l :: m :: r).map List.length).sum + 1
   rw [ap, List.sum_cons, ap, List.sum_cons]; (lia)
  ·intro k hk x hx
   rcases List.mem_cons.mp (show k ∈ l :: cu (m :: r) p from hk) with rfl | hk
   ·exact .inr ⟨_, au, hx⟩
   ·rcases h3 k hk x hx with q | ⟨j, hj, q⟩
    ·exact .inl q
    ·exact .inr ⟨j, am _ hj, q⟩
theorem iQ {uri : Str} : ∀ (l : List Sp) (sn : List Str) {p : Str} {s2 : List Str}, bL uri l sn = (some p, s2) → (uri, p) ∈ l
 | [], sn, p, s2, h => by cases h
 | (u, q) :: r, sn, p, s2, h => by
  unfold bL at h
  split at h
  ·rename_i hc
   cases h
   exact hc.1 ▸ au
  ·exact am _ (iQ r _ h)
structure QB (U : List Str) (n : Nat) (s : QS) : Prop where
 dz : s.dl.length ≤ 1000
 nz : s.nl.length ≤ 1000
 dc : (bd s.dl).length ≤ n
 dp : ∀ p ∈ bd s.dl, p.1.length ≤ 100 ∧ p.2.length ≤ 100
 nc : ∀ l ∈ s.nl, l.length ≤ 1000
 np : ∀ p ∈ bd s.nl, p.1.length ≤ 100 ∧ p.2.length ≤ 100
 pk : (s.pm.map (·.1)).Nodup
 pu : ∀ p ∈ s.pm, p.1 ∈ U ∧ p.2.length ≤ 100
theorem iJ {α : Type} [DecidableEq α] : ∀ {l U : List α}, l.Nodup → (∀ x ∈ l, x ∈ U) → l.length ≤ U.length
 | [], U, _, _ => Nat.zero_le _
 | a :: r, U, nd, h => by
  have h1 := List.nodup_cons.mp nd
  have ha := h a au
  have : r.length ≤ (U.erase a).length := iJ h1.2 fun x hx => by
   have hne : x ≠ a := fun e => h1.1 (e ▸ hx)
   exact (List.mem_erase_of_ne hne).mpr (h x (am _ hx))
  rw [List.length_erase_of_mem ha] at this
  have : 0 < U.length := List.length_pos_of_mem ha
  rw [List.length_cons]; (lia)
theorem QB.pz {U : List Str} {n : Nat} {s : QS} (h : QB U n s) : s.pm.length ≤ U.length := by
 have := iJ h.pk (U := U) fun x hx => by
  obtain ⟨p, hp, rfl⟩ := List.mem_map.mp hx
  exact (h.pu p hp).1
 rwa [ag] at this
theorem QB.mono {U : List Str} {n m : Nat} {s : QS} (h : QB U n s) (hm : n ≤ m) : QB U m s := ⟨h.dz, h.nz, Nat.le_trans h.dc hm, h.dp, h.nc, h.np, h.pk, h.pu⟩
theorem mm {p tag : Str} (h1 : p.length ≤ 100) (h2 : tag.length ≤ 100) : (iD p tag).length ≤ 201 := by
 have z0 : Str.empty.length = 0 := by decide +kernel
 have z1 : (ofString ":").length = 1 := by decide +kernel
 unfold iD
 split
 ·(apply aD; with_reducible assumption; decide)
 ·simp only [ah]; (apply aD; apply aF; apply aF; apply aF; exact aj (by assumption); with_reducible assumption; exact aj (by assumption); with_reducible assumption; decide)
theorem QB.push {U : List Str} {n : Nat} {s : QS} (h : QB U n s) {p : Sp} (hp : p.1.length ≤ 100 ∧ p.2.length ≤ 100) : (cu s.dl p).length ≤ 1000 ∧ (bd (cu s.dl p)).length ≤ n + 1 ∧ ∀ q ∈ bd (cu s.dl p), q.1.length ≤ 100 ∧ q.2.length ≤ 100 := by
 obtain ⟨h1, h2, h3⟩ := eW s.dl p
 refine ⟨by rw [h1]; exact h.dz, by rw [fJ]; have := h.dc; rw [fJ] at this; (lia), fun q hq => ?_⟩
 obtain ⟨l, hl, hq⟩ := mem_flatV.mp hq
 rcases h3 l hl q hq with rfl | hq
 ·exact hp
 ·exact h.dp q (mem_flatV.mpr hq)
theorem gI {pm : List Sp} {uri p : Str} (h : pm.lookup uri = some p) : (uri, p) ∈ pm := by
 induction pm with
 | nil => cases h
 | cons a r ih =>
  rw [List.lookup_cons] at h
  cases e : uri == a.1 with
  | true => rw [e] at h; cases h; rw [beq_iff_eq.mp e]; exact au
  | false => rw [e] at h; exact am _ (ih h)
theorem fZ {pm : List Sp} {uri : Str} (h : pm.lookup uri = none) : uri ∉ pm.map (·.1) := by
 induction pm with
 | nil => simp
 | cons a r ih =>
  rw [List.lookup_cons] at h
  cases e : uri == a.1 with
  | true => rw [e] at h; cases h
  | false =>
   rw [e] at h
   intro hm
   rcases List.mem_cons.mp hm with q | q
   ·exact (beq_eq_false_iff_ne.mp e) q
   ·exact ih h q
theorem QB.step {U : List Str} {n : Nat} {s s' : QS} {rw : Bool} {uri tag q : Str} (h : QB U n s) (hu : uri ∈ U) (htl : tag.length ≤ 100) (hU : UOk U) (hq : d8 rw s uri tag = some (q, s')) : QB U (n + 1) s' ∧ q.length ≤ 201 ∧ s'.nl = s.nl ∧ s'.dl.length = s.dl.length := by
 have hul := hU.2 uri hu
 have hU := hU.1
 have z0 : Str.empty.length = 0 := by decide +kernel
 have z1 : (ofString ":").length = 1 := by decide +kernel
 unfold d8 at hq
 split at hq
 ·rename_i p sn hf
  cases hq
  exact ⟨h.mono (Nat.le_succ _), mm (h.dp _ (iQ _ _ hf)).2 htl, rfl, rfl⟩
 ·split at hq
  ·cases hq
   have hpz := h.pz
   have key : (pmF s.pm uri).1.length ≤ 100 ∧ ((pmF s.pm uri).2.map (·.1)).Nodup ∧ ∀ p ∈ (pmF s.pm uri).2, p.1 ∈ U ∧ p.2.length ≤ 100 := by
    unfold pmF
    split
    ·rename_i p hl
     exact ⟨(h.pu _ (gI hl)).2, h.pk, h.pu⟩
    ·rename_i hl
     have hn := (oK (n := s.pm.length) (by lia)).1
     refine ⟨by dsimp only; (apply aD; with_reducible assumption; decide), ?_, ?_⟩
     ·dsimp only
      rw [ai, List.nodup_append]
      refine ⟨h.pk, by simp, fun a ha b hb e => ?_⟩
      rw [ap, List.map_nil, List.mem_singleton] at hb
      exact fZ hl (by rw [← show b = uri from hb, ← e]; exact ha)
     ·intro p hp
      rcases List.mem_append.mp hp with hp | hp
      ·exact h.pu p hp
      ·rw [List.mem_singleton] at hp; subst hp; exact ⟨hu, by dsimp only; (apply aD; with_reducible assumption; decide)⟩
   obtain ⟨k1, k2, k3⟩ := key
   obtain ⟨p1, p2, p3⟩ := h.push (p := (uri, (pmF s.pm uri).1)) ⟨hul, k1⟩
   exact ⟨⟨p1, h.nz, p2, p3, h.nc, h.np, k2, k3⟩, by simp only [ah]; (apply aD; apply aF; apply aF; apply aF; exact aj (by assumption); with_reducible assumption; exact aj (by assumption); with_reducible assumption; decide), rfl, (eW _ _).1⟩
  ·split at hq
   ·cases hq
    exact ⟨h.mono (Nat.le_succ _), by (apply aD; with_reducible assumption; decide), rfl, rfl⟩
   ·split at hq
    ·rename_i p hf
     cases hq
     have hm := List.mem_of_find?_eq_some hf
     have hpb := h.np _ hm
     obtain ⟨p1, p2, p3⟩ := h.push (p := (uri, p.2)) ⟨hul, hpb.2⟩
     exact ⟨⟨p1, h.nz, p2, p3, h.nc, h.np, h.pk, h.pu⟩, mm hpb.2 htl, rfl, (eW _ _).1⟩
    ·split at hq
     ·cases hq
      exact ⟨h.mono (Nat.le_succ _), by (apply aD; with_reducible assumption; decide), rfl, rfl⟩
     ·cases hq
theorem WB.of {U : List Str} {n : Nat} {t : eo} {dl : List Lv} {pm : List (Str × Str × Tok)} (h : WB t) (hq : QB U n (QS.of { t with dl := dl, pm := pm })) (hn : n ≤ 490) (hU : UOk U) : WB { t with dl := dl, pm := pm } ∧ (er dl).length ≤ 490 := by
 have hc : (bd (dl.map Lv.v)).length ≤ n := hq.dc
 have hl : ∀ l ∈ dl, l.ps.length ≤ n := fun l hl => by
  rw [fJ] at hc
  have : l.ps.length ∈ (dl.map Lv.v).map List.length := List.mem_map.mpr ⟨l.v, List.mem_map.mpr ⟨l, hl, rfl⟩, by unfold Lv.v; rw [ag]⟩
  have h2 : ∀ (L : List Nat) x, x ∈ L → x ≤ L.sum := by
   intro L
   induction L with
   | nil => intro x hx; cases hx
   | cons a r ih =>
    intro x hx
    rw [List.sum_cons]
    rcases List.mem_cons.mp hx with rfl | hx
    ·(lia)
    ·have := ih x hx; (lia)
  have := h2 _ _ this
  (lia)
 have hz := hq.pz
 obtain ⟨hU, hUl⟩ := hU
 have hpl : (pm.map fun q => (q.1, q.2.1)).length ≤ U.length := hz
 rw [ag] at hpl
 refine ⟨⟨h.tot, h.dz, h.psn, h.psz, by have := hq.dz; rw [show (QS.of { t with dl := dl, pm := pm }).dl = dl.map Lv.v from rfl, ag] at this; exact this, h.nlz, fun l hm => ⟨Nat.le_trans (hl l hm) (by apply aD; with_reducible assumption; decide), fun q hqm => ?_⟩, h.nll, ⟨by show pm.length ≤ 100; (lia), fun q hqm => ?_⟩, h.igz⟩, ?_⟩
 ·exact hq.dp q.v (mem_flatV.mpr ⟨l.v, List.mem_map.mpr ⟨l, hm, rfl⟩, List.mem_map.mpr ⟨q, hqm, rfl⟩⟩)
 ·have := hq.pu (q.1, q.2.1) (List.mem_map.mpr ⟨q, hqm, rfl⟩)
  exact ⟨hUl _ this.1, this.2⟩
 ·have : (er dl).length = (bd (dl.map Lv.v)).length := by rw [← iC, ag]
  (lia)
noncomputable def bx (rw : Bool) : QS → List Str → Option (List (Str × Str) × QS)
 | s, [] => some ([], s)
 | s, n :: r => match d8 rw s (bI n).1 (bI n).2 with
  | none => none
  | some (q, s1) => match bx rw s1 r with
   | none => none
   | some (l, s2) => some ((n, q) :: l, s2)
noncomputable def KWK (prog : Program) (w : World) (A : Around) (pos : Pos) (id : String) (env : Env) (kws : List Keyword) (Q : VP) (E : VP) : List Value → Shared → Prop := fun vs s₁ => wpAny (model prog w) A (evalAll ((backToKw pos (keywordEach kws env)).map (·.2)))
   (fun kvs s₂ => wpAny (model prog w) A (call (.builtin id) vs (((backToKw pos (keywordEach kws env)).filterMap (·.1)).zip kvs)) Q E s₂) E s₁
section
variable {cs cs' V X Y : az} {Q : VP}
theorem e_ckw {func : Expr} {args : List Expr} {kws : List Keyword} {pos : Pos} (h : Go h0 o0 cs (wpAny (model prog w) A (eval func env) (fun f => wpAny (model prog w) A (callWith pos f [] (backTo pos (starEach args env)) (backToKw pos (keywordEach kws env))) Q E) E))
  (he : eval (.Call func args kws pos) env = (do callWith pos (← eval func env) [] (backTo pos (starEach args env)) (backToKw pos (keywordEach kws env)))) : Go h0 o0 cs (wpAny (model prog w) A (eval (.Call func args kws pos) env) Q E) := fun s H => Call_kw (h s H) he
theorem c_kw {pos : Pos} {id : String} {e : Expr} {rest : List Expr} {kws : List Keyword} (h : Go h0 o0 cs (wpAny (model prog w) A (spliced (backTo pos (starEach (e :: rest) env))) (KWK prog w A pos id env kws Q E) E))
  (he : backTo pos (starEach (e :: rest) env) = (false, eval e env) :: backTo pos (starEach rest env)) (hplain : (backTo pos (starEach (e :: rest) env)).any (·.1) = false) (hall : (backToKw pos (keywordEach kws env)).all (·.1.isSome) = true) (hkw : (backToKw pos (keywordEach kws env)).any (·.1.isNone) = false) :
  Go h0 o0 cs (wpAny (model prog w) A (callWith pos (.builtin id) [] (backTo pos (starEach (e :: rest) env)) (backToKw pos (keywordEach kws env))) Q E) := fun s H => callWith_kw (h s H) he hplain hall hkw
theorem kwk {pos p2 : Pos} {id : String} {kws : List Keyword} {vs : List Value} {x : Str} {e : Expr} (h1 : backToKw pos (keywordEach kws env) = [(some x, do let v ← eval e env; standAt p2; pure v)]) (h : Go h0 o0 cs (wpAny (model prog w) A (eval e env) (fun v => wpAny (model prog w) A (call (.builtin id) vs [(x, v)]) Q E) E)) :
  Go h0 o0 cs (KWK prog w A pos id env kws Q E vs) := by
 intro s H
 unfold KWK
 rw [h1]
 exact wpAny_evalAll_cons (aa (ad (h s H) (fun v s1 q => aa (wpAny_standAt (ab (wpAny_evalAll_nil q)))) fun _ _ q => q))
theorem jG {v d : Addr} {kvs : List (Str × Value)} (H : St h0 o0 cs s) (hh : A.handled = none) (hv : Has cs v (fo d)) (D : DIn prog w h0 d kvs) (hz : kvs.length ≤ 4096)
  (h : ∀ l (ps : List (Addr × (Str × Tok) × Value)) s', ps.map (fun p => (p.2.1.1, p.2.2)) = kvs → St h0 o0 ((l, ay (ps.map fun p => .ref p.1)) :: (aQ ps ++ cs)) s' → Q (.ref l) s') : wpAny (model prog w) A (call (.type "list") [.ref v]) Q E s := by
 obtain ⟨ep, hD⟩ := D.now H
 obtain ⟨ov, hov, rfl⟩ := H.get hv
 refine di (kdx_call (knd := PySem.strKind prog w) (kvs := kvs) (ep := ep) hh ⟨_, hov, rfl, rfl⟩ hD (by rw [af]; lia) fun h' tk acc c as hk hl hlen hG hacc htk => ?_)
 obtain ⟨ps, e1, e2, e3⟩ := iH hlen hG
 have he : acc.toList = ps.map fun p => Value.ref p.1 := by rw [hacc, ← e1, List.map_map]; rfl
 refine h _ ps _ e2 (H.moreN ((s.heap.objs.size, ay (ps.map fun p : Addr × (Str × Tok) × Value => Value.ref p.1)) :: aQ ps) (fun q hq => ?_) ?_ hk htk)
 ·rcases List.mem_cons.mp hq with rfl | hq
  ·exact ⟨ae _, _, hl, c, by simp [← he]⟩
  ·obtain ⟨p, hp, rfl⟩ := eB hq
   exact ⟨Nat.le_of_lt (hG.above p.1 (by rw [← e1]; exact aq hp)), e3 p hp⟩
 ·rw [ap, List.nodup_cons, cC, e1]
  exact ⟨fun hm => Nat.lt_irrefl _ (hG.above _ hm), hG.rise.imp Nat.ne_of_lt⟩
theorem k_listV {v d : Addr} {kvs : List (Str × Value)} (hh : A.handled = none) (hv : Has cs v (fo d)) (D : DIn prog w h0 d kvs) (hz : kvs.length ≤ 4096)
  (h : ∀ l (ps : List (Addr × (Str × Tok) × Value)), ps.map (fun p => (p.2.1.1, p.2.2)) = kvs → Go h0 o0 ((l, ay (ps.map fun p => .ref p.1)) :: (aQ ps ++ cs)) (Q (.ref l))) : Go h0 o0 cs (wpAny (model prog w) A (call (.type "list") [.ref v]) Q E) := fun s H =>
 jG H hh hv D hz fun l ps s' e H' => h l ps e s' H'
theorem pG {d : Addr} {kvs : List (Str × Value)} {pl : Sem Bool} {Q : Value × List Value → Shared → Prop} (D : DIn prog w h0 d kvs) (h : Go h0 o0 cs (Q (.builtin "dict.items", [.ref d]))) : Go h0 o0 cs (wpAny (model prog w) A (getMethod (.ref d) (ofString "items") pl) Q E) := fun s H =>
 nI PySem.F.slot_dict_items PySem.F.type_dict_items H D (h s H)
theorem pg {d : Addr} {kvs : List (Str × Value)} (D : DIn prog w h0 d kvs) (hs : (d == sysModules) = false) (h : ∀ v, Go h0 o0 ((v, fo d) :: cs) (Q (.ref v))) : Go h0 o0 cs (wpAny (model prog w) A (call (.builtin "dict.items") [.ref d]) Q E) := fun s H => nG H D hs fun v s' H' => h v s' H'
end
noncomputable def CP (h0 : Heap) (o0 : Shared) (cut : List Value → List Value) (Q : VP) : Value → Shared → Prop := fun o s => ∃ l xs cs, o = .ref l ∧ St h0 o0 cs s ∧ s.heap.IsList l (List.toArray xs) ∧ xs.length ≤ sizeLine ∧ ∀ a s', St h0 o0 ((a, ay (cut xs)) :: cs) s' → Q (.ref a) s'
noncomputable def UPK (h0 : Heap) (o0 : Shared) (Q : VP) (o : Value) : Value → Shared → Prop := fun vu s => ∃ (n : Nat) (u : Tok), vu = .int n u ∧ CP h0 o0 (fun xs => xs.take n) Q o s
noncomputable def UP (prog : Program) (w : World) (A : Around) (env : Env) (h0 : Heap) (o0 : Shared) (hi : Expr) (Q : VP) (E : VP) : Value → Shared → Prop := fun o s1 => wpAny (model prog w) A (eval hi env) (UPK h0 o0 Q o) E s1
noncomputable def KW3 (prog : Program) (w : World) (A : Around) (h0 : Heap) (f : Value) (vs : List Value) (names : List Str) (Q : VP) (E : VP) : List Value → Shared → Prop := fun ks s₂ => (∃ o0 cs, St h0 o0 cs s₂) ∧ wpAny (model prog w) A (call f vs (names.zip ks)) Q E s₂
noncomputable def KW2 (prog : Program) (w : World) (A : Around) (h0 : Heap) (pos : Pos) (f : Value) (env : Env) (kws : List Keyword) (Q : VP) (E : VP) : List Value → Shared → Prop := fun vs s₁ => wpAny (model prog w) A (evalAll ((backToKw pos (keywordEach kws env)).map (·.2))) (KW3 prog w A h0 f vs ((backToKw pos (keywordEach kws env)).filterMap (·.1)) Q E) E s₁
noncomputable def IB (x : Addr) (Q : VP) (E : VP) : Result → Shared → Prop := InitBack x fun r s' => match r with | .ok (.ret v) => Q v s' | .ok _ => False | .error e => E e s'
noncomputable def DC (prog : Program) (w : World) (A : Around) (env : Env) (h0 : Heap) (o0 : Shared) (cl : List (Str × Addr)) (scope : Scope) (kx vx target : Expr) (ifs : List Expr) (Q : VP) (E : VP) : Value → Shared → Prop := fun x s₁ =>
 wpAny (model prog w) A (pyIter x) (fun itv s₂ => ∃ f n V Pre C0 K, ∃ P : Nat → List (Str × Value) → az → Prop, gZ prog w A h0 o0 target itv f n V Pre ∧ P 0 [] C0 ∧ n ≤ sizeLine ∧ St h0 o0 (f 0 ++ (C0 ++ K)) s₂ ∧
   (∀ i ys C, P i ys C → Pre (C ++ K)) ∧
   (∀ L i v c ys C K' s, i < n → V i v c → P i ys C → (∀ p ∈ c, p ∈ K') → St h0 o0 ((L, cNs []) :: (C ++ K')) s →
    wpAny (model prog w) A (assign target (compEnvC scope cl L env) v) (fun _ s₂ => wpAny (model prog w) A (ba ifs (compEnvC scope cl L env)) (fun ok s₃ =>
     if ok = true then wpAny (model prog w) A (eval kx (compEnvC scope cl L env)) (fun kv s₄ => wpAny (model prog w) A (eval vx (compEnvC scope cl L env)) (fun y s₅ => ∃ k u m C', kv = .str k u ∧ P (i + 1) (stored ys k y) C' ∧ St h0 o0 ((L, cNs m) :: (C' ++ K')) s₅) NoE s₄) NoE s₃
     else ∃ m C', P (i + 1) ys C' ∧ St h0 o0 ((L, cNs m) :: (C' ++ K')) s₃) NoE s₂) NoE s) ∧
   (∀ D ys C s, P n ys C → St h0 o0 ((D, aM prog w ys) :: (C ++ K)) s → Q (.ref D) s)) E s₁
noncomputable def SK (h0 : Heap) (o0 : Shared) (P : List (Str × Value) → az → Prop) (ys : List (Str × Value)) (L : Addr) (K' : az) : Shared → Prop := fun s₃ => ∃ m C', P ys C' ∧ St h0 o0 ((L, cNs m) :: (C' ++ K')) s₃
section
variable {b : Bool} {M : Model} {cs cs' V X Y : az} {P1 : GP} {Q : VP}
theorem cp {l : Addr} {xs : List Value} {cut : List Value → List Value} (hl : LAt h0 cs l xs) (hz : xs.length ≤ sizeLine) (h : ∀ a, Go h0 o0 ((a, ay (cut xs)) :: cs) (Q (.ref a))) : Go h0 o0 cs (CP h0 o0 cut Q (.ref l)) := fun s H => ⟨l, xs, cs, rfl, H, hl.isList H, hz, fun a s' H' => h a s' H'⟩
theorem e_upL {value hi : Expr} {p pos : Pos} (h : Go h0 o0 cs (wpAny (model prog w) A (eval value env) (UP prog w A env h0 o0 hi Q E) E)) : Go h0 o0 cs (wpAny (model prog w) A (eval (.Subscript value (.Slice none (some hi) none p) pos) env) Q E) := fun s H =>
 l3 (h0 := h0) (o0 := o0) (ad (h s H) (fun o s1 q => evalPart_none_step (evalPart_some_step (ad q (fun vu s2 ⟨n, u, e2, l, xs, cs1, e, H1, hl, hz, hq⟩ => ⟨l, _, none, some n, cs1, xs.take n, e, H1, hl, by simpa using hz, .none, by rw [e2]; exact .int _ _, by rw [slicePick_upto'], hq⟩) fun _ _ q => q))) fun _ _ q => q)
theorem up {hi : Expr} {o : Value} (h : Go h0 o0 cs (wpAny (model prog w) A (eval hi env) (UPK h0 o0 Q o) E)) : Go h0 o0 cs (UP prog w A env h0 o0 hi Q E o) := h
theorem upk {o : Value} {n : Nat} {k : Int} {u : Tok} (e : k = (n : Int)) (h : Go h0 o0 cs (CP h0 o0 (fun xs => xs.take n) Q o)) : Go h0 o0 cs (UPK h0 o0 Q o (.int k u)) := fun s H => ⟨n, u, by rw [e], h s H⟩
theorem dn {a c : Int} {t u : Tok} (hb : c ≠ 0) (h : ∀ t, Go h0 o0 cs (Q (.int (a.fmod c) t))) : Go h0 o0 cs (wpAny (model prog w) A (binaryOp .Mod (.int a t) (.int c u)) Q E) := fun s H => x_mod H hb fun t' s' H' => h t' s' H'
theorem eK {a c : Int} {t u : Tok} (hb : c ≠ 0) (hs : c.natAbs < 1073741824) (h : ∀ t, Go h0 o0 cs (Q (.int (a.fdiv c) t))) : Go h0 o0 cs (wpAny (model prog w) A (binaryOp .FloorDiv (.int a t) (.int c u)) Q E) := fun s H => x_fdiv H hb hs fun t' s' H' => h t' s' H'
theorem o_pow {a n : Int} {t u : Tok} (hn : 0 ≤ n) (hn2 : n ≤ 1000000) (ha : a.natAbs < 2 ^ 64) (h : ∀ t, Go h0 o0 cs (Q (.int (a ^ n.toNat) t))) : Go h0 o0 cs (wpAny (model prog w) A (binaryOp .Pow (.int a t) (.int n u)) Q E) := fun s H => x_pow H hn hn2 ha fun t' s' H' => h t' s' H'
theorem o_gti {a c : Int} {t u : Tok} (h : Go h0 o0 cs (Q (.bool (decide (c < a))))) : Go h0 o0 cs (wpAny (model prog w) A (compareOp .Gt (.int a t) (.int c u)) Q E) := fun s H => PyProof.Rows.gt_int (h s H)
theorem oA {x y : Str} {t u : Tok} (h : Go h0 o0 cs (Q (.bool (x != y)))) : Go h0 o0 cs (wpAny (model prog w) A (compareOp .NotEq (.str x t) (.str y u)) Q E) := fun s H => x_nestr (h s H)
theorem gF {l c : Addr} {xs ys : List Value} (hl : Has cs l (ay xs)) (hc : Has cs c (ay ys)) (hz : xs.length + ys.length ≤ sizeLine) (h : ∀ a, Go h0 o0 ((a, ay (xs ++ ys)) :: cs) (Q (.ref a))) : Go h0 o0 cs (wpAny (model prog w) A (binaryOp .Add (.ref l) (.ref c)) Q E) := fun s H => x_addL H hl hc hz fun a s' H' => h a s' H'
theorem df {value slice : Expr} {l : Addr} {xs : List Value} {k : Int} {u : Tok} {v : Value} (hl : LAt h0 cs l xs) (hk0 : 0 ≤ k) (hk1 : k < 2 ^ 63) (hx : xs[k.toNat]? = some v)
  (hs : subscripted slice false (.ref l) (.int k u) = operate [.ref l, .int k u] (getItem (.ref l) (.int k u))) (h : Go h0 o0 cs (Q v)) : Go h0 o0 cs (wpAny (model prog w) A (subscriptTail value slice (.ref l) (.int k u)) Q E) := fun s H => x_itemG H hl hk0 hk1 hx hs (h s H)
theorem g_app {l : Addr} {xs : List Value} {ex : Bool} (hl : Has cs l (ay xs)) (h : ∀ a, Go h0 o0 ((a, bQ "list.append" l) :: cs) (Q (.ref a))) : Go h0 o0 cs (wpAny (model prog w) A (getAttr (.ref l) (ofString "append") ex) Q E) := fun s H => jH H hl fun a s' H' => h a s' H'
theorem gx {x : Str} {pos' pos : Pos} {op : Operator} {value : Expr} {Q : FP} (h : Go h0 o0 cs (wpAny M A (loadName env x) (fun old => wpAny M A (eval value env) (fun v => wpAny M A (inplaceOp op old v) (fun r => wpAny M A (storeName env x r) (fun _ => Q .next) E) E) E) E)) :
  Go h0 o0 cs (wpAny M A (exec (.AugAssign (.Name x pos') op value pos) env) Q E) := fun s H => wpAny_AugAssign_Name (h s H)
theorem k_str {a N : Int} {t : Tok} (h0' : (if a < 0 then 0 - a else a) < N) (hN : N ≤ 4611686018427387904) (h : ∀ t, Go h0 o0 cs (Q (.str (ofString (toString a)) t))) : Go h0 o0 cs (wpAny (model prog w) A (call (.type "str") [.int a t]) Q E) := fun s H => str_of_int_fit h0' hN fun _ => h _ _ (H.toks (Nat.le_succ _))
theorem pd {n : Int} {t : Tok} (h : ∀ a, Go h0 o0 ((a, lL 0 n 1) :: cs) (Q (.ref a))) : Go h0 o0 cs (wpAny (model prog w) A (call (.type "range") [.int n t]) Q E) := fun s H => nB H fun a s' H' => h a s' H'
theorem o_mulL {l : Addr} {xs : List Value} {x : Int} {u : Tok} (hl : Has cs l (ay xs)) (hlo : 0 ≤ x) (hhi : x < 2 ^ 40) (hz : xs.length * x.toNat ≤ 1000000) (h : ∀ a, Go h0 o0 ((a, ay (List.replicate x.toNat xs).flatten) :: cs) (Q (.ref a))) : Go h0 o0 cs (wpAny (model prog w) A (binaryOp .Mult (.ref l) (.int x u)) Q E) := by
 intro s H
 obtain ⟨n, ho⟩ := bU H hl
 have key : ∀ (k : Nat) (a : Array Value), (List.foldl (fun x1 x2 => x1 ++ x2) a (List.replicate k xs.toArray)) = a ++ (List.replicate k xs).flatten.toArray := by
  intro k
  induction k with
  | zero => intro a; simp
  | succ k ih => intro a; rw [List.replicate_succ, List.foldl_cons, ih, List.replicate_succ, List.flatten_cons]; simp
 refine wpAny_binaryOp_repeat_ref (T := "list") (U := "int") (by decide) ⟨_, ho, rfl⟩ (fun s' => typeIs_int s' x u) noFill_list_mul F.fills_int_mul F.slot_int_rmul repeat_list F.slot_int_index.lookup
  (call_meets F.slot_int_rmul (typeIs_int s x u) F.entry_int_rmul (F.args_int_rmul_2 _ _) (int___rmul___int_list x u l xs.toArray n)
   ⟨ho, rfl, ⟨_, ho, rfl⟩, call_meets F.slot_list_mul ⟨_, ho, rfl⟩ F.entry_list_mul (F.args_list_mul_2 _ _)
    (AutoListH.list___mul___list_int_3 l xs.toArray n x u (by simp [Builtin.List.listFitsIndex]; (lia)) (by simp; (apply aD; with_reducible assumption; decide)) (by simp [Builtin.List.listTooLong, sizeLine]; (apply aD; with_reducible assumption; decide)))
    ⟨ho, ?_⟩⟩)
 refine h _ _ (H.push (k := s.toks) ⟨0, ?_⟩ (ae _))
 rw [key]
 cases xs with
 | nil => simp
 | cons a r => simp
theorem k_make {C fI : Addr} {rest : List Value} {kw : List (Str × Value)} {K : Frag} (B : Base K h0) (hm : makesIn K C = true) (hi : findIn K (.ref C) "__init__" = some (some (.ref fI))) (hf : typeIn K (.ref fI) = some (.type "function"))
  (h : ∀ x dx, Go h0 o0 ((x, bg C dx) :: (dx, cAttrs []) :: cs) (codeAny (model prog w) (A.under (.builtin "type.__call__" ⟨.ref C :: rest, kw⟩)) (.call (.ref fI) ⟨.ref x :: rest, kw⟩) (IB x Q E))) : Go h0 o0 cs (wpAny (model prog w) A (call (.ref C) rest kw) Q E) := fun s H =>
 wpAny_call (x_make B H hm hi hf fun x dx s' H' => h x dx s' H')
theorem ib {x : Addr} (h : Go h0 o0 cs (Q (.ref x))) : Go h0 o0 cs (IB x Q E (.ok (.ret .none))) := fun s H => ⟨rfl, h s H⟩
theorem c_ckw {pos : Pos} {f : Value} {e : Expr} {rest : List Expr} {kws : List Keyword} {K : Frag} (B : Base K h0) (hk : keepIn K f = true) (hall : (backToKw pos (keywordEach kws env)).all (·.1.isSome) = true)
  (h : Go h0 o0 cs (wpAny (model prog w) A (spliced (backTo pos (starEach (e :: rest) env))) (KW2 prog w A h0 pos f env kws Q E) E))
  (hplain : ((backTo pos (starEach (e :: rest) env)).any (·.1) || (backToKw pos (keywordEach kws env)).any (·.1.isNone)) = false) (he : starEach (e :: rest) env = (false, eval e env) :: starEach rest env) :
  Go h0 o0 cs (wpAny (model prog w) A (callWith pos f [] (backTo pos (starEach (e :: rest) env)) (backToKw pos (keywordEach kws env))) Q E) := fun s H => nM B hk hall (h s H) hplain he
theorem kw2 {pos : Pos} {f : Value} {kws : List Keyword} {vs : List Value} {l : List (Sem Value)} {names : List Str} (h1 : (backToKw pos (keywordEach kws env)).map (·.2) = l) (h2 : (backToKw pos (keywordEach kws env)).filterMap (·.1) = names) (h : Go h0 o0 cs (wpAny (model prog w) A (evalAll l) (KW3 prog w A h0 f vs names Q E) E)) :
  Go h0 o0 cs (KW2 prog w A h0 pos f env kws Q E vs) := by
 unfold KW2
 rw [h1, h2]; exact h
theorem ea_c {p2 : Pos} {e : Expr} {r : List (Sem Value)} {Q : List Value → Shared → Prop} (h : Go h0 o0 cs (wpAny M A (eval e env) (fun v => wpAny M A (evalAll r) (fun vs => Q (v :: vs)) E) E)) : Go h0 o0 cs (wpAny M A (evalAll ((do let v ← eval e env; standAt p2; pure v) :: r)) Q E) := fun s H =>
 wpAny_evalAll_cons (aa (ad (h s H) (fun v s1 q => aa (wpAny_standAt (ab q))) fun _ _ q => q))
theorem ea_n {Q : List Value → Shared → Prop} (h : Go h0 o0 cs (Q [])) : Go h0 o0 cs (wpAny M A (evalAll []) Q E) := fun s H => wpAny_evalAll_nil (h s H)
theorem kw3 {f : Value} {vs ks : List Value} {names : List Str} (h : Go h0 o0 cs (wpAny (model prog w) A (call f vs (names.zip ks)) Q E)) : Go h0 o0 cs (KW3 prog w A h0 f vs names Q E ks) := fun s H => ⟨⟨_, _, H⟩, h s H⟩
theorem e_dc {kx vx target iter : Expr} {ifs : List Expr} {scope : Scope} {pos : Pos} {cl : List (Str × Addr)} (hclos : closureFor scope env = pure cl) (hcell : ∀ y ∈ scope.names, y.2 ≠ .cell) (hkind : scope.kind = .function) (hnames : ∀ y ∈ scope.names, y.2 = .local → scope.names.lookup y.1 = some .local)
  (h : Go h0 o0 cs (wpAny (model prog w) A (eval iter env) (DC prog w A env h0 o0 cl scope kx vx target ifs Q E) E)) (hs : ∀ x, foldedSetIterable iter env x = pure x) : Go h0 o0 cs (wpAny (model prog w) A (eval (.DictComp kx vx [⟨target, iter, ifs, 0⟩] scope pos) env) Q E) := by
 intro s H
 rw [arm_eval_DictComp]
 refine wpAny_comprehension_free (use := none) rfl hs hclos hkind hnames (ad (h s H) (fun x s₁ h₁ => ad h₁ (fun itv s2 h₂ => ?_) fun _ _ q => q) fun _ _ q => q)
 obtain ⟨f, n, V, Pre, C0, K, P, S, hP0, hsz, H2, hl, turn, fin⟩ := h₂
 refine kK (RR := fun acc C => compPost (model prog w) A E none Q acc C) hcell hkind S hP0 hsz H2 hl turn fun L D ys C s hP H => ?_
 obtain ⟨f, hn, _⟩ := eY H .here
 exact ⟨f, hn, fun h' hsb => fin D ys C _ hP (H.unframe hsb)⟩
theorem jh {value slice : Expr} {l : Addr} {vs : List Value} {ps : List (Str × Tok)} {ls : List Str} {k : Int} {u : Tok} {d : Str} (hl : Has cs l (ay vs)) (e : vs = tv ps) (e2 : ps.map (·.1) = ls) (hk0 : 0 ≤ k) (hk1 : k < ls.length) (hz : ls.length ≤ 1000)
  (h : ∀ t, Go h0 o0 cs (Q (.str (ls.getD k.toNat d) t))) (hs : subscripted slice false (.ref l) (.int k u) = operate [.ref l, .int k u] (getItem (.ref l) (.int k u)) := by with_unfolding_all rfl) : Go h0 o0 cs (wpAny (model prog w) A (subscriptTail value slice (.ref l) (.int k u)) Q E) := by
 subst e e2
 rw [ag] at hk1 hz
 have hlt : k.toNat < ps.length := by (lia)
 refine df (xs := tv ps) (v := .str ps[k.toNat].1 ps[k.toNat].2) (.new hl) hk0 (by lia) (by unfold tv; rw [List.getElem?_map, List.getElem?_eq_getElem hlt]; rfl) hs ?_
 have := h ps[k.toNat].2
 rwa [List.getD_eq_getElem?_getD, List.getElem?_map, List.getElem?_eq_getElem hlt] at this
theorem oS {x : Str} {L : Addr} {m : List (Str × Value)} {v : Value} (hp : Has cs L (cNs m)) (hv : Look m x v)
  (h : Go h0 o0 cs (Q v)) (hL : env.locals = L := by kernel_rfl!) (hk : env.scope.kind = .function := by kernel_rfl!) (hl : env.kindOf x = some .local := by kernel_rfl!) : Go h0 o0 cs (wpAny M A (loadName env x) Q E) := fun s H => by
 obtain ⟨f, hf, hm⟩ := eY H hp
 subst hL
 exact wpAny_loadName_local hk hl hf (hm _ _ hv.eq) (h s H)
end
theorem jM {a b : Int} {t u : Tok} {v : Value} (l : List Value) (h : TriplesOk l) : TriplesOk (l ++ [.int a t, .int b u, v]) := by
 fun_induction TriplesOk l with
 | case1 => exact trivial
 | case2 _ _ _ _ _ r ih => exact ih h
 | case3 => exact h.elim
theorem nq {pos : Pos} {a b : Int} {t u : Tok} {v cv : Value} (l : List Value) (h : TriplesOk l) (e : codeAmong pos (l ++ [.int a t, .int b u, v]) = some cv) : codeAmong pos l = some cv ∨ cv = v := by
 fun_induction TriplesOk l with
 | case1 =>
  rw [List.nil_append, codeAmong] at e
  split at e
  ·exact .inr (Option.some.inj e).symm
  ·cases e
 | case2 i t j k w r ih =>
  rw [List.cons_append, List.cons_append, List.cons_append, codeAmong] at e
  rw [codeAmong]
  split at e
  ·rename_i hc
   rw [if_pos hc]; exact .inl e
  ·rename_i hc
   rw [if_neg hc]; exact ih h e
 | case3 => exact h.elim
noncomputable def TbL (P : Addr) (qual : Str) (T : az) : Prop := ∃ (ps : Array Value) (cs : List Addr), T = (P, cTab ps) :: cs.map (fun c => (c, b7 qual)) ∧ TriplesOk ps.toList ∧ ∀ pos cv, codeAmong pos ps.toList = some cv → ∃ c ∈ cs, cv = .ref c
theorem TbL.zero {P : Addr} {qual : Str} : TbL P qual [(P, cTab #[])] := ⟨#[], [], rfl, trivial, fun pos cv h => by cases h⟩
section
variable {cs cs' X : az} {K : Frag} {Q : VP}
theorem x_lamL {params : Arguments} {body : Expr} {scope : Scope} {pos : Pos} {c P : Addr} {qual : Str} {T : az} {clos : List (Str × Addr)} (LB : LamBase h0 c P) (H : St h0 o0 (X ++ (T ++ cs)) s) (hT : TbL P qual T) (hdef : defaultsOf params env = ([], [])) (hcl : closureFor scope env = pure clos) (hge : env.globals = mainGlobals) (hcode : env.code = .ref c) (hq : env.qual ++ "<lambda>" = qual)
  (h : ∀ f c' T' s', TbL P qual T' → Has T' c' (b7 qual) → St h0 o0 ((f, dg "<lambda>" qual params body scope clos c') :: (X ++ (T' ++ cs))) s' → Q (.ref f) s') :
  wpAny (model prog w) A (eval (.Lambda params body scope pos) env) Q E s := by
 subst hq
 obtain ⟨mg, hg, hgP, hb⟩ := LB.main
 obtain ⟨ps, ca, rfl, ht, hall⟩ := hT
 have H1 : St h0 o0 ((P, cTab ps) :: (ca.map (fun c => (c, (b7 (env.qual ++ "<lambda>") : bM))) ++ (X ++ cs))) s := H.swap
 obtain ⟨o, ho, rfl⟩ := H1.get .here
 cases hm : codeAmong pos ps.toList with
 | some cv =>
  obtain ⟨c', hc', rfl⟩ := hall _ _ hm
  refine di (kla_eval hdef (kla_makeFunctionHit (mg := mg) (cv := .ref c') hcl hge (hg.keeps H.keep) hcode (LB.code.keeps H.keep) ho ht hm (ej hb H.keep) fun ctv h' tk hk hsz htk => ?_))
  have H2 := H.grow (k := tk) hk htk
  exact h _ c' _ _ ⟨ps, ca, rfl, ht, hall⟩ (Has.of_mem (am _ (List.mem_map.mpr ⟨c', hc', rfl⟩))) (H2.push (k := tk) ⟨_, ctv, rfl⟩ (ae _))
 | none =>
  refine di (kla_eval hdef (kla_makeFunction (mg := mg) hcl hge (hg.keeps H.keep) hcode (LB.code.keeps H.keep) ho ht hm hgP (ej hb H.keep) fun c' ctv h' tk hx hge' hlt hrec htb htk => ?_))
  obtain ⟨c₂, oc, vs, t, e2, hoc, hd, hv⟩ := hrec
  cases e2
  have H2 : St h0 o0 ((P, cTab (ps ++ #[rawInt pos.line, rawInt pos.col, .ref c'])) :: (ca.map (fun c => (c, (b7 (env.qual ++ "<lambda>") : bM))) ++ (X ++ cs))) { s with heap := h', toks := tk } := H1.upd (k := tk) .here ⟨_, htb, rfl⟩ (fun b o hb e => hx b o hb e) htk
  have f := H1.fresh hge'
  have H3 : St h0 o0 ((c', b7 (env.qual ++ "<lambda>")) :: (P, cTab (ps ++ #[rawInt pos.line, rawInt pos.col, .ref c'])) :: (ca.map (fun c => (c, (b7 (env.qual ++ "<lambda>") : bM))) ++ (X ++ cs))) { s with heap := h', toks := tk } := by
   refine ⟨H2.keep, fun p hp => ?_, fun p hp => ?_, ?_, H2.gens, H2.os, H2.tok, H2.flo, fun p hp => ?_, H2.g3⟩
   ·rcases List.mem_cons.mp hp with rfl | hp
    ·exact ⟨oc, hoc, vs, t, hd, hv⟩
    ·exact H2.cell p hp
   ·rcases List.mem_cons.mp hp with rfl | hp
    ·exact f.2.1
    ·exact H2.new p hp
   ·rw [ap, List.nodup_cons]; exact ⟨f.1, H2.nodup⟩
   ·rcases List.mem_cons.mp hp with rfl | hp
    ·exact f.2.2
    ·exact H2.big p hp
  have H4 := H3.push (k := tk) (o := kla_obj "<lambda>" (env.qual ++ "<lambda>") params body scope clos ((mg "__name__").getD .none) c' ctv) (c := dg "<lambda>" (env.qual ++ "<lambda>") params body scope clos c') ⟨_, ctv, rfl⟩ (ae _)
  refine h _ c' ((P, cTab (ps ++ #[rawInt pos.line, rawInt pos.col, .ref c'])) :: (c' :: ca).map (fun c => (c, b7 (env.qual ++ "<lambda>")))) _ ⟨_, c' :: ca, rfl, ?_, ?_⟩ (.there .here) (H4.perm (List.Perm.cons _ ?_))
  ·rw [Array.toList_append]; exact jM _ ht
  ·intro pos2 cv e
   rw [Array.toList_append] at e
   rcases nq _ ht e with e | e
   ·obtain ⟨x, hx, e⟩ := hall _ _ e
    exact ⟨x, am _ hx, e⟩
   ·exact ⟨c', au, e⟩
  ·have key : ∀ p q : Addr × bM, ∀ M : az, (X ++ ((p :: q :: M) ++ cs)).Perm (q :: p :: (M ++ (X ++ cs))) := fun p q M => by
    refine List.Perm.trans ?_ (List.Perm.swap q p _)
    exact perm3 (Y := p :: q :: M)
   exact key _ _ _
theorem fL {params : Arguments} {body : Expr} {scope : Scope} {pos : Pos} {c P : Addr} {qual : Str} {T : az} {clos : List (Str × Addr)} (LB : LamBase h0 c P) (hT : TbL P qual T)
  (h : ∀ f c' T', TbL P qual T' → Has T' c' (b7 qual) → Go h0 o0 ((f, dg "<lambda>" qual params body scope clos c') :: (X ++ (T' ++ cs))) (Q (.ref f))) (hdef : defaultsOf params env = ([], []) := by with_unfolding_all rfl) (hcl : closureFor scope env = pure clos := by kernel_rfl!) (hge : env.globals = mainGlobals := by kernel_rfl!) (hcode : env.code = .ref c := by kernel_rfl!) (hq : env.qual ++ "<lambda>" = qual := by kernel_rfl!) :
  Go h0 o0 (X ++ (T ++ cs)) (wpAny (model prog w) A (eval (.Lambda params body scope pos) env) Q E) := fun s H => x_lamL LB H hT hdef hcl hge hcode hq fun f c' T' s' a b H' => h f c' T' a b s' H'
theorem ly {name qual : Str} {params : Arguments} {body : Expr} {scope : Scope} {clos : List (Str × Addr)} {c' f : Addr} {R : RP} (lim : h0.NoLimit) (hf : Has cs f (dg name qual params body scope clos c')) (hc : Has cs c' (b7 qual)) (hroom : A.depth < recursionLimit)
  (hbind : ∀ pm ctv, bindArgs (kla_fn name qual params body scope clos pm (.ref c') ctv) ⟨[], []⟩ = pure []) (hco : scope.isCoroutine = false) (hgen : scope.isGenerator = false) (hk : scope.kind = .function) (hcell : ∀ x ∈ scope.names, x.2 ≠ .cell)
  (h : ∀ L, Go h0 o0 ((L, cNs []) :: cs) (wpAny (model prog w) (A.deeper (envX qual scope L f (.ref c') clos)) (eval body (envX qual scope L f (.ref c') clos)) (fun v => R (.ok (.ret v))) (jA (model prog w) (A.deeper (envX qual scope L f (.ref c') clos)) (envX qual scope L f (.ref c') clos) R))) :
  Go h0 o0 cs (codeAny (model prog w) A (.call (.ref f) ⟨[], []⟩) R) := by
 intro s H
 obtain ⟨o, ho, pm, ctv, rfl⟩ := H.get hf
 obtain ⟨oc, hoc, vs, t, hd, hv⟩ := H.get hc
 refine kla_callFunE hroom ho rfl hco hgen rfl ⟨c', oc, vs, t, rfl, hoc, hd, hv⟩ ?_
 rw [hbind]
 refine ab (wpAny_newFunctionEnv hcell (fun y hy => by cases hy) (fun h₁ hns hsb => ⟨(lim.keeps H.keep).fresh _ hsb, ?_⟩) hk)
 show codeAny _ _ (.expr body (envX qual scope s.heap.objs.size f (.ref c') clos)) _ _
 have hk₁ : ∀ b o, s.heap.get? b = some o → h₁.get? b = some o := fun b o e => hsb.extBut b o (Nat.ne_of_lt (Heap.lt_size e)) (Heap.get?_push_of_some _ e)
 exact kla_codeExpr (ad (h s.heap.objs.size _ (H.more (k := s.toks) (ae _) (dD hns fun y u q => by cases q) hk₁ (ae _))) (fun v s' q => q) fun _ _ y => y)
theorem ng {b : Addr} {o : Obj} {fd : FuncData} (e : o.data = .func fd) (hp : Heap) (hb : hp.get? b = some o) : ∃ k, (k = Keeper.frame ∨ k = Keeper.machine ∨ k = Keeper.boundFrame) ∧ Looks (model prog w) hp (keeperOf (.ref b)) k := by
 refine ⟨.frame, .inl rfl, (Looks.ld (part := none) hb).andThen ?_⟩
 rw [e]
 exact .now
theorem c_lam0 {pos : Pos} {name qual : Str} {params : Arguments} {body : Expr} {scope : Scope} {clos : List (Str × Addr)} {c' f : Addr} (hf : Has cs f (dg name qual params body scope clos c')) (h : Go h0 o0 cs (wpAny (model prog w) A (call (.ref f) []) Q E)) :
  Go h0 o0 cs (wpAny (model prog w) A (callWith pos (.ref f) [] (backTo pos (starEach [] env)) []) Q E) := by
 intro s H
 obtain ⟨o, ho, pm, ctv, rfl⟩ := H.get hf
 exact callWith_of (P := fun hp => hp.get? f = some _) rfl (fun hp hb => ng rfl hp hb) (evalArgs_nil3 ⟨ho, h s H⟩)
theorem pM {b : List UInt8} {k : Nat} {pos : Pos} (h : ∀ t, Go h0 o0 cs (Q (.bytes b.toArray t))) : Go h0 o0 cs (wpAny (model prog w) A (eval (.Constant (.bytes b) k pos) env) Q E) := fun s H =>
 show wpAny (model prog w) A (do let t ← fresh; pure (Value.bytes b.toArray t)) Q E s from aa (wpAny_fresh (ab (h _ _ (H.toks (Nat.le_succ _)))))
theorem jL {xs ys : List (Str × Tok)} (e : xs.map (·.1) = ys.map (·.1)) (hl : (tv xs).toArray.size = (tv ys).toArray.size) : ∀ j (h1 : j < (tv xs).toArray.size) (h2 : j < (tv ys).toArray.size), SeqAt.EqAt A s (tv xs).toArray[j] (tv ys).toArray[j] true := by
 intro j h1 h2
 have l1 : j < xs.length := by simpa [tv] using h1
 have l2 : j < ys.length := by simpa [tv] using h2
 have e1 : xs[j].1 = ys[j].1 := by
  have := congrArg (fun l => l[j]?) e
  simpa [l1, l2] using this
 have := SeqAt.EqAt.str_str (A := A) (s := s) xs[j].1 xs[j].2 ys[j].1 ys[j].2
 rw [e1, beq_self_eq_true] at this
 simpa [tv, e1] using this
theorem i5 {xs ys : List (Str × Tok)} (e : xs.map (·.1) = ys.map (·.1)) : (tv xs).toArray.size = (tv ys).toArray.size := by
 have := congrArg List.length e
 simpa [tv] using this
theorem oC {a b : Addr} {us vs : List Value} (xs ys : List (Str × Tok)) (ha : Has cs a (ay us)) (hb : Has cs b (ay vs)) (eu : us = tv xs) (ev : vs = tv ys) (e : xs.map (·.1) = ys.map (·.1)) (hu : A.units < cLine) (h : Go h0 o0 cs (Q (.bool true))) : Go h0 o0 cs (wpAny (model prog w) A (compareOp .Eq (.ref a) (.ref b)) Q E) := by
 subst eu ev
 intro s H
 refine cmp_ofEq (SeqAt.RcAt.lists (e := fun _ => true) (aU H ha) (aU H hb) (i5 e) hu (jL e (i5 e)) _ _ _ _ ?_)
 rw [show (List.range (tv xs).toArray.size).all (fun _ => true) = true from by simp]
 exact h s H
theorem oB {a b : Addr} {us vs : List Value} (xs ys : List (Str × Tok)) (ha : Has cs a (ay us)) (hb : Has cs b (ay vs)) (eu : us = tv xs) (ev : vs = tv ys) (e : xs.map (·.1) = ys.map (·.1)) (hu : A.units < cLine) (h : Go h0 o0 cs (Q (.bool false))) : Go h0 o0 cs (wpAny (model prog w) A (compareOp .NotEq (.ref a) (.ref b)) Q E) := by
 subst eu ev
 intro s H
 refine cmp_ofNotEq (SeqAt.RcNeAt.lists (e := fun _ => true) (aU H ha) (aU H hb) (i5 e) hu (jL e (i5 e)) _ _ _ _ ?_)
 rw [show (List.range (tv xs).toArray.size).all (fun _ => true) = true from by simp]
 exact h s H
theorem o_inI {l : Addr} {ns : List (Int × Tok)} {x : Int} {u : Tok} {vs : List Value} (hl : Has cs l (ay vs)) (e : vs = ns.map fun p => .int p.1 p.2) (h : Go h0 o0 cs (Q (.bool (ns.any fun p => p.1 == x)))) : Go h0 o0 cs (wpAny (model prog w) A (compareOp .In (.int x u) (.ref l)) Q E) := fun s H => by
 subst e
 refine SeqAt.in_listAt (fun v => match v with | .int y _ => y == x | _ => false) (aU H hl) (fun y hy => ?_) ?_
 ·obtain ⟨p, _, rfl⟩ := List.mem_map.mp (show y ∈ ns.map fun p => Value.int p.1 p.2 by simpa using hy)
  exact SeqAt.EqAt.int_int _ _ _ _
 ·have e : (ns.map fun p => Value.int p.1 p.2).toArray.any (fun v => match v with | .int y _ => y == x | _ => false) = ns.any fun p => p.1 == x := by
   rw [List.any_toArray, List.any_map]; rfl
  rw [e]; exact h s H
theorem pN {e1 e2 : Expr} {pos : Pos} (h : Go h0 o0 cs (wpAny (model prog w) A (eval e1 env) (fun v => wpAny (model prog w) A (truthy v) (fun b => eR b (wpAny (model prog w) A (eval e2 env) Q E) (Q v)) E) E)) : Go h0 o0 cs (wpAny (model prog w) A (eval (.BoolOp .And [e1, e2] pos) env) Q E) := fun s H => BoolOp_and (h s H)
theorem k_ord {c : Nat} {t : Tok} (h : ∀ t, Go h0 o0 cs (Q (.int c t))) : Go h0 o0 cs (wpAny (model prog w) A (call (.builtin "ord") [.str ⟨#[c]⟩ t]) Q E) := fun s H => P.ord_of_char (h _ _ (H.toks (Nat.le_succ _)))
theorem g_index {x : Str} {u : Tok} {pl : Sem Bool} {Q : Value × List Value → Shared → Prop} (h : Go h0 o0 cs (Q (.builtin "str.index", [.str x u]))) : Go h0 o0 cs (wpAny (model prog w) A (getMethod (.str x u) (ofString "index") pl) Q E) := fun s H => GM.index (h s H)
theorem k_index {x y : Str} {t u : Tok} {i : Nat} {rest : List Nat} (ho : Builtin.Str.occurrences x y 0 x.length 1 = i :: rest) (h : ∀ t, Go h0 o0 cs (Q (.int i t))) : Go h0 o0 cs (wpAny (model prog w) A (call (.builtin "str.index") [.str x t, .str y u]) Q E) := fun s H => SC.index ho (h _ _ (H.toks (Nat.le_succ _)))
noncomputable def lp (ls : List Str) : Str := ls.getD (argBest (fun i j => jD (ls.getD i default) (ls.getD j default)) (ls.length - 1)) default
theorem cmp_ltS {ps : List (Str × Tok)} : CmpOf prog w A .Lt (fun i v => (tv ps).toArray[i]? = some v) (fun i j => jD ((ps.map (·.1)).getD i default) ((ps.map (·.1)).getD j default)) := by
 intro i j vi vj s Q E hi hj h
 have at_ : ∀ (i : Nat) v, (tv ps).toArray[i]? = some v → ∃ t, v = .str ((ps.map (·.1)).getD i default) t := fun i v hv => by
  have hv : (tv ps)[i]? = some v := by simpa using hv
  unfold tv at hv
  rw [List.getElem?_map] at hv
  cases hp : ps[i]? with
  | none => rw [hp] at hv; cases hv
  | some p => rw [hp] at hv; cases hv; exact ⟨p.2, by rw [List.getD_eq_getElem?_getD, List.getElem?_map, hp]; rfl⟩
 obtain ⟨t, rfl⟩ := at_ i vi hi
 obtain ⟨u, rfl⟩ := at_ j vj hj
 exact richCompare_gives (op := .Lt) (typeIs_str s _ t) (typeIs_str s _ u) F.slot_str_lt F.entry_str_lt (F.args_str_lt_2 _ _) (gives_str_lt _ _ t u) (fun x => nomatch x) h
theorem pf {l : Addr} {vs : List Value} {ps : List (Str × Tok)} (hh : A.handled = none) (hl : Has cs l (ay vs)) (e : vs = tv ps) (hne : ps ≠ []) (h : ∀ t, Go h0 o0 cs (Q (.str (lp (ps.map (·.1))) t))) : Go h0 o0 cs (wpAny (model prog w) A (call (.builtin "min") [.ref l]) Q E) := by
 subst e
 intro s H
 have hlI := aU H hl
 have hlt : l < s.heap.objs.size := by obtain ⟨_, e, _⟩ := hlI; exact Heap.lt_size e
 refine di (call_min_walk (wpAny_pyIter_list hlI ?_))
 refine ⟨_, _, _, _, _, _, _, rfl, Walks.list (A := A.in1) hh s.heap.objs.size l (Nat.ne_of_lt hlt) (tv ps).toArray, ⟨⟨_, Heap.get?_push_size _ rfl, rfl, rfl⟩, hlI.push _⟩, (fun b hb => ?_), (by have := List.length_pos_iff.mpr hne; simpa [tv] using this), cmp_ltS, fun v h' tk hP hk htk => ?_⟩
 ·show b < (s.heap.push _).objs.size
  rw [Heap.size_push]
  rcases List.mem_cons.mp hb with rfl | hb
  ·exact Nat.lt_succ_self _
  ·rcases List.mem_cons.mp hb with rfl | hb
   ·exact Nat.lt_succ_of_lt hlt
   ·cases hb
 ·have hv : ∃ t, v = .str (lp (ps.map (·.1))) t := by
   have hP : (tv ps)[argBest (fun i j => jD ((ps.map (·.1)).getD i default) ((ps.map (·.1)).getD j default)) ((tv ps).toArray.size - 1)]? = some v := by simpa using hP
   unfold lp
   have e1 : (tv ps).toArray.size = (ps.map (·.1)).length := by simp [tv]
   rw [e1] at hP
   generalize argBest (fun i j => jD ((ps.map (·.1)).getD i default) ((ps.map (·.1)).getD j default)) ((ps.map (·.1)).length - 1) = n at hP ⊢
   unfold tv at hP
   rw [List.getElem?_map] at hP
   cases hp : ps[n]? with
   | none => rw [hp] at hP; cases hP
   | some p => rw [hp] at hP; cases hP; exact ⟨p.2, by rw [List.getD_eq_getElem?_getD, List.getElem?_map, hp]; rfl⟩
  obtain ⟨t, rfl⟩ := hv
  exact h t _ (H.grow (old_kept hk) htk)
theorem o_mulR {x : Str} {n : Int} {t u : Tok} (hok : MulOk x n) (h : ∀ t, Go h0 o0 cs (Q (.str (Txt.mul x n) t))) : Go h0 o0 cs (wpAny (model prog w) A (binaryOp .Mult (.str x t) (.int n u)) Q E) := fun s H => di (SB.mul hok fun t' k hk => h t' _ (H.toks hk))
noncomputable def UFL (h0 : Heap) (o0 : Shared) (Q : VP) (o : Value) : Value → Shared → Prop := fun vu s => ∃ (n : Nat) (u : Tok), vu = .int n u ∧ CP h0 o0 (fun xs => xs.drop n) Q o s
noncomputable def UQ (prog : Program) (w : World) (A : Around) (env : Env) (h0 : Heap) (o0 : Shared) (lo : Expr) (Q : VP) (E : VP) : Value → Shared → Prop := fun o s1 => wpAny (model prog w) A (eval lo env) (UFL h0 o0 Q o) E s1
theorem e_frL {value lo : Expr} {p pos : Pos} (h : Go h0 o0 cs (wpAny (model prog w) A (eval value env) (UQ prog w A env h0 o0 lo Q E) E)) : Go h0 o0 cs (wpAny (model prog w) A (eval (.Subscript value (.Slice (some lo) none none p) pos) env) Q E) := fun s H =>
 l3 (h0 := h0) (o0 := o0) (ad (h s H) (fun o s1 q => evalPart_some_step (ad q (fun vu s2 ⟨n, u, e2, l, xs, cs1, e, H1, hl, hz, hq⟩ => evalPart_none_step ⟨l, _, some n, none, cs1, xs.drop n, e, H1, hl, by simpa using hz, by rw [e2]; exact .int _ _, .none, by rw [slicePick_from'], hq⟩) fun _ _ q => q)) fun _ _ q => q)
theorem uq {lo : Expr} {o : Value} (h : Go h0 o0 cs (wpAny (model prog w) A (eval lo env) (UFL h0 o0 Q o) E)) : Go h0 o0 cs (UQ prog w A env h0 o0 lo Q E o) := h
theorem ufl {o : Value} {n : Nat} {k : Int} {u : Tok} (e : k = (n : Int)) (h : Go h0 o0 cs (CP h0 o0 (fun xs => xs.drop n) Q o)) : Go h0 o0 cs (UFL h0 o0 Q o (.int k u)) := fun s H => ⟨n, u, by rw [e], h s H⟩
theorem o_nen {a b : Addr} {xs : List Value} (ha : Has cs a (ay xs)) (hb : Has cs b (ay [])) (hu : A.units < cLine) (h : Go h0 o0 cs (Q (.bool (!xs.isEmpty)))) : Go h0 o0 cs (wpAny (model prog w) A (compareOp .NotEq (.ref a) (.ref b)) Q E) := fun s H => x_neNil H ha hb hu (h s H)
theorem eX {x y : Str} {t u : Tok} (hz : x.length + y.length ≤ sizeLine) (h : ∀ t, Go h0 o0 cs (Q (.str (x ++ y) t))) : Go h0 o0 cs (wpAny (model prog w) A (inplaceOp .Add (.str x t) (.str y u)) Q E) := fun s H => x_iadds H hz fun t' s' H' => h t' s' H'
theorem fh {M : Model} {b b' : List Stmt} {Q : FP} (h : Go h0 o0 cs (wpAny M A (execs b' env) Q E)) (e : b = b' := by kernel_rfl!) : Go h0 o0 cs (wpAny M A (execs b env) Q E) := e ▸ h
theorem s_two {M : Model} {st : Stmt} {rest : List Stmt} {Q QK : FP} (hK : QK = KS M A E env rest Q) (h : Go h0 o0 cs (wpAny M A (exec st env) QK E)) : Go h0 o0 cs (wpAny M A (execs (st :: rest) env) Q E) := aE (hK ▸ h)
end
section
variable {cs cs' V X Y : az} {i : fQ} {t : eo} {Q : VP}
theorem c_ns {uri p : Str} {ut pt : Tok} {R : RP} {N : List Lv} {l : Lv} (B : Base (KF w.params) h0) (hroom : A.depth + 2 < recursionLimit) (hb : WB t) (hoz : t.out.length ≤ 100000) (hnl : t.nl = N ++ [l])
  (h1 : t.ig ≠ 0 → Go h0 o0 (wr prog w i t V) (R (.ok (.ret .none))))
  (h2 : t.ig = 0 → ∀ k a, Go h0 o0 (wr prog w i { cg i t k with nl := bO t.nl ⟨a, uri, ut, p, pt⟩ } V) (R (.ok (.ret .none)))) : Go h0 o0 (wr prog w i t V) (codeAny (model prog w) A (.call (.ref aNs) ⟨[.ref i.x, .str p pt, .str uri ut], []⟩) R) := by
 have hroom' : ∀ env, (A.deeper env).depth + 1 < recursionLimit := fun _ => hroom
 refine db (m := [(ofString "uri", .str uri ut), (ofString "prefix", .str p pt), (ofString "self", .ref i.x)]) B (by exact aX 2 (by with_reducible assumption)) (fun s X => by with_reducible refine kp_binds X ?_; intro S; kernel_rfl!) fun L => ?_
 refine aE ?_
 with_reducible refine bt (bh (b8 .here (.n (.n .here)) (.there a9) (.there aS) iu (iy ?_)))
 refine cA (fun hg => ?_) fun hg => ?_
 ·have h1 := h1 (by simpa using hg)
  with_reducible refine aE (n9 (bT (bT (gz ?_))))
  exact Go.sl (.tail (.there .refl))
 have h2 := h2 (by simpa using hg)
 with_reducible refine aL (aJ (aE ?_))
 refine bH (fun f C => f = .next ∧ ∃ k, C = (L, cNs [(ofString "uri", .str uri ut), (ofString "prefix", .str p pt), (ofString "self", .ref i.x)]) :: wr prog w i (cg i t k) V) ?_ ?_
 ·with_reducible refine bt (bh (b8 .here (.n (.n .here)) (.there a9) (.there aS) cW ?_)); refine fV (.there k0) (by have := hb.dz; (simp only [tv, ag, List.length_cons, ao, List.length_nil, List.length_replicate, af]; apply aD; with_reducible assumption; decide)) ?_
  refine e8 (cA (fun hd => ?_) fun hd => ?_)
  ·with_reducible refine aL ?_
   exact jp ⟨rfl, 0, by unfold cg; rw [if_pos (by simpa [tv] using hd)]⟩
  ·with_reducible refine aE (bf (bi (aG .here (.n (.n .here)) (fe (.there a9) (.there aS) (kL ?_))))); refine bv ?_; refine Go.wIn1 (fm B (hroom' _) hb.tot hb.dz (Nat.le_trans hoz (by decide)) hb.psn hb.psz ?_); intro k; refine Go.wOut1 (aJ (aL ?_))
   exact jp ⟨rfl, k, by unfold cg; rw [if_neg (by simpa [tv] using hd)]⟩
 rintro f C ⟨rfl, k, rfl⟩
 have h2 := h2 k
 with_reducible refine aJ (aE (bf (bi (bE (b8 .here (.n (.n .here)) (.there a9) (.there aS) l8 ?_))))); refine d4 (aO fun _ => dT ?_); intro t1
 have eN : ((cg i t k).nl.map fun l => Value.ref l.a) = (N.map fun l => Value.ref l.a) ++ [.ref l.a] := by rw [dw, hnl, ai]; rfl
 have hl : l ∈ (cg i t k).nl := by rw [dw, hnl]; simp
 have hlN : l ∈ t.nl := by rw [hnl]; simp
 with_reducible refine dU (.there l5) eN ?_
 have hL : Has (wr prog w i (cg i t k) V) l.a (ay l.refs) := l4 hl
 with_reducible refine dE (.there (by with_reducible assumption)) ?_; refine cT (aA (da (aA (aG .here .here (aA ?_))))); refine aG .here (.n .here) (aH (cY fun _ => aH ?_))
 rename_i a
 refine k_pushN (X := [_]) (q := ⟨a, uri, ut, p, pt⟩) (by rw [dw]; exact hnl) (by have := (hb.nll l hlN).1; (apply aD; with_reducible assumption; decide)) ?_
 rw [dw]
 have h2 := h2 a
 show Go h0 o0 (_ :: wr prog w i _ V) _
 with_reducible refine aJ (aL (ia ?_))
 exact Go.sl (.tail (.there .refl))
noncomputable def cQ (i : fQ) (t : eo) (k : Tok) : eo := if t.rd = true then { t with out := t.out ++ [(ofString "\n", k)] } else if t.rs = true ∧ t.data ≠ [] then flT i t k else t
noncomputable def sKey : Str := ofString "{http://www.w3.org/XML/1998/namespace}space"
noncomputable def pW (p : Str × Str) : Str := Str.empty ++ ofString " " ++ p.1 ++ ofString "=\"" ++ atF p.2 ++ ofString "\""
noncomputable def pX (l : List (Str × Str)) : Str := dY (l.map pW)
noncomputable def gc (al : List (Str × Str)) (k : Tok) : List (Str × Tok) := if al = [] then [] else [(pX al, k)]
noncomputable abbrev At4 := Addr × (Str × Tok) × Str × Tok
noncomputable def At4.v (p : At4) : Str × Str := (p.2.1.1, p.2.2.1)
noncomputable def oH (q : Str × Str) : Str × Str := (if q.2.length = 0 then ofString "xmlns" else ofString "xmlns:" ++ q.2, q.1)
structure iq (P : Params) (v : Value) (r : Str) (T : String) : Prop where
 rep : iY v r
 ty : ∀ s : Shared, s.TypeIs v T
 nb : (Value.type T == Value.type "builtin_function_or_method") = false
 km : kitMeta T = true
 st : Manifest.isStub T = false
 fc : findCls (KF P) (.type T) (.type "type") "__name__" = some (.get (.builtin "getset_descriptor.__get__") (.builtin "type.__name__") (.type T) (.type "type"))
 q : ktynFast T = T
 rl : r.length ≤ 1000
 tl : (ofString T).length ≤ 100
 inR : ∀ {prog : Program} {w : World} {A : Around} {E : VP} {h0 : Heap} {o0 : Shared} {cs : az} {x : Str} {u : Tok} {Q : VP}, A.handled = none → (∀ e t, Go h0 o0 (cV e "TypeError" t .none none ++ cs) (E (.ref e))) → Go h0 o0 cs (wpAny (model prog w) A (compareOp .In (.str x u) v) Q E)
theorem fq {P : Params} {i : Int} {t : Tok} (h : i.natAbs.log2 < 1920 := by decide +kernel) (hl : (ofString (toString i)).length ≤ 1000 := by decide +kernel) : iq P (.int i t) (ofString (toString i)) "int" :=
 ⟨mX h, fun s => typeIs_int s i t, by decide, by decide +kernel, by decide +kernel, by kernel_rfl!, by decide +kernel, hl, by decide +kernel, fun hh h => ph ln (fun s => typeIs_int s i t) (by kernel_rfl) hh h⟩
theorem pV {P : Params} : iq P .none (ofString "None") "NoneType" :=
 ⟨lj, typeIs_none, by decide, by decide +kernel, by decide +kernel, by kernel_rfl!, by decide +kernel, by decide +kernel, by decide +kernel, fun hh h => ph j9 typeIs_none (by kernel_rfl) hh h⟩
theorem fP {P : Params} {b : Array UInt8} {t : Tok} {r : Str} (h1 : (Builtin.Bytes.tooLong (4 * b.size + 3 + 0) && Builtin.Bytes.tooLong (Builtin.Bytes.literalLength b false + 0)) = false := by decide +kernel) (h2 : Builtin.Bytes.literal b false = r := by decide +kernel) (hr : r.length ≤ 1000 := by decide +kernel) : iq P (.bytes b t) r "bytes" :=
 ⟨jZ h1 h2 (Nat.le_trans hr (by rw [af]; decide)), fun s => typeIs_bytes s b t, by decide, by decide +kernel, by decide +kernel, by kernel_rfl!, by decide +kernel, hr, by decide +kernel, fun hh h => k_inBy hh h⟩
theorem c_ser {v : Value} {r : Str} {T : String} {outer : List Env} {e1 : Addr} {cls1 : String} {t1 : Value} {x1 : Option Addr} (B : Base (KF w.params) h0) (hv : iq w.params v r T) (hroom : A.depth < recursionLimit) (hA : A.frames = some outer) (hfr : FrOk cs outer)
  (hh : A.handled = some (.ref e1)) (h1 : Has cs e1 (gX cls1 t1 x1 .none))
  (h : ∀ e t u X, Go h0 o0 (cV e "TypeError" (.ref t) (.ref e1) (some X) ++ ((t, a8 [.str (bN r (ofString T)) u]) :: cs)) (E (.ref e))) : Go h0 o0 cs (wpAny (model prog w) A (call (.ref aSer) [v]) Q E) := by
 have bTE : bD h0 (ofString "TypeError") (.type "TypeError") := B.bltAt (by kernel_rfl!) (by kernel_rfl!) (by decide +kernel) (by decide +kernel)
 have bTy : bD h0 (ofString "type") (.type "type") := B.bltAt (by kernel_rfl!) (by kernel_rfl!) (by decide +kernel) (by decide +kernel)
 refine bv (cB (m := [(ofString "text", v)]) B hroom (fun s X => by with_reducible refine kp_binds X ?_; intro S; kernel_rfl!) fun L => ?_)
 refine aE (mc F.excRaise_TypeError ?_)
 with_reducible refine aW (bG (ju (aA (eE (a0 ?_))))); refine aI ?_; intro _ _; refine br (by simp only [ah, af]; apply aD; apply aF; exact ae _; exact ae _; decide) ?_; refine a0 ?_
 refine e_fvr ?_
 with_reducible refine aG .here .here ?_
 have z1 : (ofString "cannot serialize ").length = 17 := by decide +kernel
 have z2 : (ofString " (type ").length = 7 := by decide +kernel
 have z3 : (ofString ")").length = 1 := by decide +kernel
 have z0 : Str.empty.length = 0 := by decide +kernel
 have rl := hv.rl
 have tl := hv.tl
 refine f_rep hv.rep (by simp only [ah, af]; apply aD; with_reducible assumption; decide) fun t' => ?_
 with_reducible refine br (by simp only [ah, af]; apply aD; apply aF; apply aF; exact aj (by assumption); exact aj (by assumption); with_reducible assumption; decide) ?_; refine a0 (aI ?_); intro _ _; refine br (by simp only [ah, af]; apply aD; apply aF; apply aF; apply aF; exact aj (by assumption); exact aj (by assumption); with_reducible assumption; exact aj (by assumption); decide) ?_; refine a0 ?_
 refine e_fvs ?_
 skip
 refine e_atA ?_ (by with_unfolding_all rfl)
 with_reducible refine aW (bG (ju (aA (aG .here .here (aH ?_)))))
 refine k_ty hv.ty hv.nb ?_
 refine k_tn B hv.km hv.st hv.fc hv.q (Nat.le_trans tl (by decide)) fun tk => ?_
 refine f_st (by simp only [ah, af]; apply aD; with_reducible assumption; decide) fun t2 => ?_
 with_reducible refine br (by simp only [ah, af]; apply aD; apply aF; apply aF; apply aF; apply aF; exact aj (by assumption); exact aj (by assumption); with_reducible assumption; exact aj (by assumption); with_reducible assumption; decide) ?_; refine a0 (aI ?_); intro _ _; refine br (by simp only [ah, af]; apply aD; apply aF; apply aF; apply aF; apply aF; apply aF; exact aj (by assumption); exact aj (by assumption); with_reducible assumption; exact aj (by assumption); with_reducible assumption; exact aj (by assumption); decide) ?_; refine gK ?_; refine gL (by simp only [ah, af]; apply aD; apply aF; apply aF; apply aF; apply aF; apply aF; exact aj (by assumption); exact aj (by assumption); with_reducible assumption; exact aj (by assumption); with_reducible assumption; exact aj (by assumption); decide) ?_; intro _; refine aH ?_
 refine n_exc F.excCall_TypeError (Nat.le_of_ble_eq_true rfl) fun e t => ?_
 refine rn_some hh (.there (.there h1)) ?_
 refine cc (Around.frames_deeper hA) rfl (FrOk.cons (by kernel_rfl!) rfl (.there .here) (hfr.there.there)) fun X => ?_
 exact Go.drop2 (h e t _ X)
theorem c_cdR {v : Value} {r : Str} {T : String} {outer : List Env} (B : Base (KF w.params) h0) (hv : iq w.params v r T) (hroom : A.depth + 1 < recursionLimit) (hA : A.frames = some outer) (hfr : FrOk cs outer) (hh : A.handled = none)
  (h : ∀ e t u c X, Go h0 o0 (cV e "TypeError" (.ref t) c (some X) ++ ((t, a8 [.str (bN r (ofString T)) u]) :: cs)) (E (.ref e))) : Go h0 o0 cs (wpAny (model prog w) A (call (.ref qd) [v]) Q E) := by
 have bTE : bD h0 (ofString "TypeError") (.type "TypeError") := B.bltAt (by kernel_rfl!) (by kernel_rfl!) (by decide +kernel) (by decide +kernel)
 have bAE : bD h0 (ofString "AttributeError") (.type "AttributeError") := B.bltAt (by kernel_rfl!) (by kernel_rfl!) (by decide +kernel) (by decide +kernel)
 have gSer : bA h0 (ofString "_raise_serialization_error") (.ref aSer) := B.glob (by kernel_rfl!) (by kernel_rfl!)
 refine bv (cB (m := [(ofString "text", v)]) B (by exact aX 1 (by with_reducible assumption)) (fun s X => by with_reducible refine kp_binds X ?_; intro S; kernel_rfl!) fun L => ?_)
 have hA1 : (A.deeper (callEnv (aK (KF w.params) qd) L qd)).frames = some (callEnv (aK (KF w.params) qd) L qd :: outer) := Around.frames_deeper hA
 refine aE (lg (aE ?_))
 with_reducible refine bt (bc (aI fun _ _ => aG .here .here ?_))
 refine hv.inR hh fun e0 t0 => ?_
 refine nV hA1 rfl (FrOk.cons (by kernel_rfl!) rfl .here hfr.there) fun X0 => ?_
 refine h_on ?_
 with_reducible refine da (aA (bG (aA (bG (aH ?_))))); refine cY ?_; intro _
 refine k_m2 cq cF .here (by rw [isSubtype_type]; kernel_rfl) (.there .here) (fF (Go.t1 (k_su ?_)))
 refine aE ?_
 with_reducible refine bf (aW (ch ?_)); refine dK (aA (aG (.skip .here) .here (aH (ck ?_))))
 have fr0 : FrOk ((L, cNs [(ofString "text", v)]) :: cs) (callEnv (aK (KF w.params) qd) L qd :: outer) := FrOk.cons (by kernel_rfl!) rfl .here hfr.there
 refine c_ser B hv (show A.depth + 1 < _ from hroom) hA1 fr0.skip rfl .here fun e t u X => ?_
 exact k_own hA1 rfl fr0.skip.there fun X1 => cc hA1 rfl fr0.skip.there fun X2 => Go.dropN (Go.drop2 (h e t u _ X2))
theorem c_atR {v : Value} {r : Str} {T : String} {outer : List Env} (B : Base (KF w.params) h0) (hv : iq w.params v r T) (hroom : A.depth + 1 < recursionLimit) (hA : A.frames = some outer) (hfr : FrOk cs outer) (hh : A.handled = none)
  (h : ∀ e t u c X, Go h0 o0 (cV e "TypeError" (.ref t) c (some X) ++ ((t, a8 [.str (bN r (ofString T)) u]) :: cs)) (E (.ref e))) : Go h0 o0 cs (wpAny (model prog w) A (call (.ref aAt) [v]) Q E) := by
 have bTE : bD h0 (ofString "TypeError") (.type "TypeError") := B.bltAt (by kernel_rfl!) (by kernel_rfl!) (by decide +kernel) (by decide +kernel)
 have bAE : bD h0 (ofString "AttributeError") (.type "AttributeError") := B.bltAt (by kernel_rfl!) (by kernel_rfl!) (by decide +kernel) (by decide +kernel)
 have gSer : bA h0 (ofString "_raise_serialization_error") (.ref aSer) := B.glob (by kernel_rfl!) (by kernel_rfl!)
 refine bv (cB (m := [(ofString "text", v)]) B (by exact aX 1 (by with_reducible assumption)) (fun s X => by with_reducible refine kp_binds X ?_; intro S; kernel_rfl!) fun L => ?_)
 have hA1 : (A.deeper (callEnv (aK (KF w.params) aAt) L aAt)).frames = some (callEnv (aK (KF w.params) aAt) L aAt :: outer) := Around.frames_deeper hA
 refine aE (lg (aE ?_))
 with_reducible refine bt (bc (aI fun _ _ => aG .here .here ?_))
 refine hv.inR hh fun e0 t0 => ?_
 refine nV hA1 rfl (FrOk.cons (by kernel_rfl!) rfl .here hfr.there) fun X0 => ?_
 refine h_on ?_
 with_reducible refine da (aA (bG (aA (bG (aH ?_))))); refine cY ?_; intro _
 refine k_m2 cq cF .here (by rw [isSubtype_type]; kernel_rfl) (.there .here) (fF (Go.t1 (k_su ?_)))
 refine aE ?_
 with_reducible refine bf (aW (ch ?_)); refine dK (aA (aG (.skip .here) .here (aH (ck ?_))))
 have fr0 : FrOk ((L, cNs [(ofString "text", v)]) :: cs) (callEnv (aK (KF w.params) aAt) L aAt :: outer) := FrOk.cons (by kernel_rfl!) rfl .here hfr.there
 refine c_ser B hv (show A.depth + 1 < _ from hroom) hA1 fr0.skip rfl .here fun e t u X => ?_
 exact k_own hA1 rfl fr0.skip.there fun X1 => cc hA1 rfl fr0.skip.there fun X2 => Go.dropN (Go.drop2 (h e t u _ X2))
theorem FrOk.wr {l : List Env} (h : FrOk V l) : FrOk (wr prog w i t V) l := by rw [ci]; exact h.skip
noncomputable def iX (v : Value) : Prop := ∀ {prog : Program} {w : World} {A : Around} {E : VP} {h0 : Heap} {o0 : Shared} {cs : az} {Q : Bool → Shared → Prop}, Go h0 o0 cs (Q true) → Go h0 o0 cs (wpAny (model prog w) A (truthy v) Q E)
theorem fy {k : Int} {u : Tok} (h : (k != 0) = true) : iX (.int k u) := fun q => iy (by rw [h]; exact q)
theorem fU {b : Array UInt8} {u : Tok} (h : b.size ≠ 0) (h2 : b.size ≤ 1000) : iX (.bytes b u) := by
 intro prog w A E h0 o0 cs Q q s H
 refine truthy_bytes (by lia) ?_
 rw [show ((b.size : Int) != 0) = true from by simpa using h]
 exact q _ (H.toks (by lia))
theorem c_comR {v : Value} {r : Str} {T : String} {R : RP} {outer : List Env} (B : Base (KF w.params) h0) (hv : iq w.params v r T) (hroom : A.depth + 2 < recursionLimit) (hA : A.frames = some outer) (hfr : FrOk V outer) (hh : A.handled = none)
  (hb : WB t) (hoz : t.out.length ≤ 100000) (hw : i.wc = true) (hg : t.ig = 0)
  (h2 : ∀ k e t0 u c X, Go h0 o0 (cV e "TypeError" (.ref t0) c (some X) ++ ((t0, a8 [.str (bN r (ofString T)) u]) :: wr prog w i (cQ i t k) V)) (R (.error (.ref e)))) :
  Go h0 o0 (wr prog w i t V) (codeAny (model prog w) A (.call (.ref ip) ⟨[.ref i.x, v], []⟩) R) := by
 have hroom0 : ∀ env, (A.deeper env).depth < recursionLimit := fun _ => by show A.depth + 1 < _; (exact aX 1 (by with_reducible assumption))
 have hroom1 : ∀ env, (A.deeper env).depth + 1 < recursionLimit := fun _ => by show A.depth + 1 + 1 < _; (with_reducible assumption)
 have gEsc : bA h0 (ofString "_escape_cdata_c14n") (.ref qd) := B.glob (by kernel_rfl!) (by kernel_rfl!)
 refine cB (m := [(ofString "text", v), (ofString "self", .ref i.x)]) B (by exact aX 2 (by with_reducible assumption)) (fun s X => by with_reducible refine kp_binds X ?_; intro S; kernel_rfl!) fun L => ?_
 have hA1 : (A.deeper (callEnv (aK (KF w.params) ip) L ip)).frames = some (callEnv (aK (KF w.params) ip) L ip :: outer) := Around.frames_deeper hA
 refine aE ?_
 with_reducible refine bt (ix (bh (b8 .here (.n .here) (.there a9) (.there aS) tg_wc (aP ?_))))
 refine e8 (cA (fun _ => ?_) fun q => by rw [hw] at q; cases q)
 with_reducible refine aL (aJ (aE (bt (bh (b8 .here (.n .here) (.there a9) (.there aS) iu ?_))))); refine iy ?_
 refine cA (fun q => by rw [hg] at q; exact absurd q (by decide)) fun _ => ?_
 with_reducible refine aL (aJ (aE ?_))
 refine bH (fun f C => f = .next ∧ ∃ k, C = (L, cNs [(ofString "text", v), (ofString "self", .ref i.x)]) :: wr prog w i (cQ i t k) V) ?_ ?_
 ·with_reducible refine bt (bh (b8 .here (.n .here) (.there a9) (.there aS) tg_rd (aP ?_)))
  refine cA (fun hd => ?_) fun hd => ?_
  ·with_reducible refine aE (bf (bi (aG .here (.n .here) (ni (.there a9) (.there aS) (im (.there cI) ?_))))); refine aA (aI fun _ _ => aH (cw (.there cI) ?_))
   rename_i t1 _
   with_reducible refine gJ (by apply aD; with_reducible assumption; decide) (.there cI) (.there (lk _)) ?_; refine aJ (aL ?_)
   exact jp ⟨rfl, t1, by unfold cQ; rw [if_pos hd]⟩
  ·with_reducible refine aE (bt (bZ (bB (bh (b8 .here (.n .here) (.there a9) (.there aS) nW ?_))))); refine aP ?_
   refine cA (fun hr => ?_) fun hr => ?_
   ·with_reducible refine bB (bh (b8 .here (.n .here) (.there a9) (.there aS) cW ?_)); refine fV (.there k0) (by have := hb.dz; (simp only [tv, ag, List.length_cons, ao, List.length_nil, List.length_replicate, af]; apply aD; with_reducible assumption; decide)) ?_
    refine e8 (cA (fun hq => ?_) fun hq => ?_)
    ·with_reducible refine dh (aL (aJ (aL ?_)))
     exact jp ⟨rfl, 0, by unfold cQ; rw [if_neg (by rw [hd]; decide), if_neg (by intro q; exact q.2 (by simpa [tv] using hq))]⟩
    ·with_reducible refine cM (fF (aE (bf (bi (aG .here (.n .here) ?_))))); refine fe (.there a9) (.there aS) (kL (bv ?_)); refine Go.wIn1 (fm B (hroom1 _) hb.tot hb.dz (Nat.le_trans hoz (by decide)) hb.psn hb.psz ?_); intro k; refine Go.wOut1 (aJ (aL (aJ (aL ?_))))
     exact jp ⟨rfl, k, by unfold cQ; rw [if_neg (by rw [hd]; decide), if_pos ⟨hr, by simpa [tv] using hq⟩]⟩
   ·with_reducible refine dh (aL (aJ (aL ?_)))
    exact jp ⟨rfl, 0, by unfold cQ; rw [if_neg (by rw [hd]; decide), if_neg (by rw [hr]; intro q; cases q.1)]⟩
 rintro f C ⟨rfl, k, rfl⟩
 have h2 := h2 k
 generalize cQ i t k = t1 at h2
 with_reducible refine aJ (aE (bf (bi (aG .here (.n .here) (ni (.there a9) (.there aS) ?_))))); refine im (.there cI) (aA (eE (a0 (aI ?_)))); intro _ _; refine br (by decide +kernel) ?_; refine a0 (eO (aW (ch ?_))); refine dK (aA (aG .here .here (aH (ck ?_))))
 have fr0 : FrOk ((L, cNs [(ofString "text", v), (ofString "self", .ref i.x)]) :: wr prog w i t1 V) (callEnv (aK (KF w.params) ip) L ip :: outer) := FrOk.cons (by kernel_rfl!) rfl .here hfr.wr.there
 refine c_cdR B hv (hroom1 _) hA1 fr0 hh fun e t0 u c X => ?_
 exact cc hA1 rfl fr0.there fun X2 => Go.drop2 (h2 e t0 u c X2)
theorem c_piR {tg : Str} {ug : Tok} {v : Value} {r : Str} {T : String} {R : RP} {outer : List Env} (B : Base (KF w.params) h0) (hv : iq w.params v r T) (hroom : A.depth + 2 < recursionLimit) (hA : A.frames = some outer) (hfr : FrOk V outer) (hh : A.handled = none)
  (hb : WB t) (hoz : t.out.length ≤ 100000) (htv : iX v) (hgl : tg.length ≤ 1000) (hg : t.ig = 0)
  (h2 : ∀ k e t0 u c X, Go h0 o0 (cV e "TypeError" (.ref t0) c (some X) ++ ((t0, a8 [.str (bN r (ofString T)) u]) :: wr prog w i (cQ i t k) V)) (R (.error (.ref e)))) :
  Go h0 o0 (wr prog w i t V) (codeAny (model prog w) A (.call (.ref aPi) ⟨[.ref i.x, .str tg ug, v], []⟩) R) := by
 have hroom0 : ∀ env, (A.deeper env).depth < recursionLimit := fun _ => by show A.depth + 1 < _; (exact aX 1 (by with_reducible assumption))
 have hroom1 : ∀ env, (A.deeper env).depth + 1 < recursionLimit := fun _ => by show A.depth + 1 + 1 < _; (with_reducible assumption)
 have z0 : Str.empty.length = 0 := by decide +kernel
 have z1 : (ofString "<?").length = 2 := by decide +kernel
 have z4 : (ofString " ").length = 1 := by decide +kernel
 have gEsc : bA h0 (ofString "_escape_cdata_c14n") (.ref qd) := B.glob (by kernel_rfl!) (by kernel_rfl!)
 refine cB (m := [(ofString "data", v), (ofString "target", .str tg ug), (ofString "self", .ref i.x)]) B (by exact aX 2 (by with_reducible assumption)) (fun s X => by with_reducible refine kp_binds X ?_; intro S; kernel_rfl!) fun L => ?_
 have hA1 : (A.deeper (callEnv (aK (KF w.params) aPi) L aPi)).frames = some (callEnv (aK (KF w.params) aPi) L aPi :: outer) := Around.frames_deeper hA
 refine aE ?_
 with_reducible refine bt (bh (b8 .here (.n (.n .here)) (.there a9) (.there aS) iu (iy ?_)))
 refine cA (fun q => by rw [hg] at q; exact absurd q (by decide)) fun _ => ?_
 with_reducible refine aL (aJ (aE ?_))
 refine bH (fun f C => f = .next ∧ ∃ k, C = (L, cNs [(ofString "data", v), (ofString "target", .str tg ug), (ofString "self", .ref i.x)]) :: wr prog w i (cQ i t k) V) ?_ ?_
 ·with_reducible refine bt (bh (b8 .here (.n (.n .here)) (.there a9) (.there aS) tg_rd (aP ?_)))
  refine cA (fun hd => ?_) fun hd => ?_
  ·with_reducible refine aE (bf (bi (aG .here (.n (.n .here)) (ni (.there a9) (.there aS) (im (.there cI) ?_))))); refine aA (aI fun _ _ => aH (cw (.there cI) ?_))
   rename_i t1 _
   with_reducible refine gJ (by apply aD; with_reducible assumption; decide) (.there cI) (.there (lk _)) ?_; refine aJ (aL ?_)
   exact jp ⟨rfl, t1, by unfold cQ; rw [if_pos hd]⟩
  ·with_reducible refine aE (bt (bZ (bB (bh (b8 .here (.n (.n .here)) (.there a9) (.there aS) nW ?_))))); refine aP ?_
   refine cA (fun hr => ?_) fun hr => ?_
   ·with_reducible refine bB (bh (b8 .here (.n (.n .here)) (.there a9) (.there aS) cW ?_)); refine fV (.there k0) (by have := hb.dz; (simp only [tv, ag, List.length_cons, ao, List.length_nil, List.length_replicate, af]; apply aD; with_reducible assumption; decide)) ?_
    refine e8 (cA (fun hq => ?_) fun hq => ?_)
    ·with_reducible refine dh (aL (aJ (aL ?_)))
     exact jp ⟨rfl, 0, by unfold cQ; rw [if_neg (by rw [hd]; decide), if_neg (by intro q; exact q.2 (by simpa [tv] using hq))]⟩
    ·with_reducible refine cM (fF (aE (bf (bi (aG .here (.n (.n .here)) ?_))))); refine fe (.there a9) (.there aS) (kL (bv ?_)); refine Go.wIn1 (fm B (hroom1 _) hb.tot hb.dz (Nat.le_trans hoz (by decide)) hb.psn hb.psz ?_); intro k; refine Go.wOut1 (aJ (aL (aJ (aL ?_))))
     exact jp ⟨rfl, k, by unfold cQ; rw [if_neg (by rw [hd]; decide), if_pos ⟨hr, by simpa [tv] using hq⟩]⟩
   ·with_reducible refine dh (aL (aJ (aL ?_)))
    exact jp ⟨rfl, 0, by unfold cQ; rw [if_neg (by rw [hd]; decide), if_neg (by rw [hr]; intro q; cases q.1)]⟩
 rintro f C ⟨rfl, k, rfl⟩
 have h2 := h2 k
 generalize cQ i t k = t1 at h2
 with_reducible refine aJ (aE (bf (bi (aG .here (.n (.n .here)) (ni (.there a9) (.there aS) ?_))))); refine im (.there cI) (aA (eF (bh (aG .here .here ?_))))
 refine htv (fF ?_)
 with_reducible refine eE (a0 (aI ?_)); intro _ _; refine br (by simp only [ah, af]; apply aD; apply aF; exact aj (by assumption); exact aj (by assumption); decide) ?_; refine a0 (eO (aG .here (.n .here) ?_)); refine dG (by simp only [ah, af]; apply aD; with_reducible assumption; decide) ?_; intro _; refine br (by simp only [ah, af]; apply aD; apply aF; apply aF; exact aj (by assumption); exact aj (by assumption); with_reducible assumption; decide) ?_; refine a0 (aI ?_); intro _ _; refine br (by simp only [ah, af]; apply aD; apply aF; apply aF; apply aF; exact aj (by assumption); exact aj (by assumption); with_reducible assumption; exact aj (by assumption); decide) ?_; refine a0 (eO (aW (ch ?_))); refine dK (aA (aG .here .here (aH (ck ?_))))
 have fr0 : FrOk ((L, cNs [(ofString "data", v), (ofString "target", .str tg ug), (ofString "self", .ref i.x)]) :: wr prog w i t1 V) (callEnv (aK (KF w.params) aPi) L aPi :: outer) := FrOk.cons (by kernel_rfl!) rfl .here hfr.wr.there
 refine c_cdR B hv (hroom1 _) hA1 fr0 hh fun e t0 u c X => ?_
 exact cc hA1 rfl fr0.there fun X2 => Go.drop2 (h2 e t0 u c X2)
noncomputable def thV (k : Tok) : Nat → Value
 | 0 => .int 7 k
 | 1 => .none
 | 2 => .bytes #[118] k
 | _ => .int (-10 ^ 40) k
noncomputable def thR : Nat → Str
 | 0 => ofString (toString (7 : Int))
 | 1 => ofString "None"
 | 2 => ofString "b'v'"
 | _ => ofString (toString (-10 ^ 40 : Int))
noncomputable def thT : Nat → String
 | 0 => "int"
 | 1 => "NoneType"
 | 2 => "bytes"
 | _ => "int"
noncomputable def wd4 : List Str := [ofString "7 (type int)", ofString "None (type NoneType)", ofString "b'v' (type bytes)", ofString "-1" ++ Txt.mul (ofString "0") 40 ++ ofString " (type int)"]
theorem jN : ∀ n, n < 4 → ofString "cannot serialize " ++ wd4.getD n (ofString "") = bN (thR n) (ofString (thT n)) := by decide +kernel
theorem fz {P : Params} {k : Tok} : ∀ n, iq P (thV k n) (thR n) (thT n)
 | 0 => fq
 | 1 => pV
 | 2 => fP
 | _ + 3 => fq
theorem ji {value slice : Expr} {l : Addr} {vs : List Value} {k : Int} {u : Tok} {Q : VP} (hl : Has cs l (ay vs)) (hk0 : 0 ≤ k) (hk1 : k < vs.length) (hz : vs.length ≤ 1000)
  (h : Go h0 o0 cs (Q (vs.getD k.toNat .none))) (hs : subscripted slice false (.ref l) (.int k u) = operate [.ref l, .int k u] (getItem (.ref l) (.int k u)) := by with_unfolding_all rfl) : Go h0 o0 cs (wpAny (model prog w) A (subscriptTail value slice (.ref l) (.int k u)) Q E) := by
 have hlt : k.toNat < vs.length := by (lia)
 refine df (xs := vs) (v := vs[k.toNat]) (.new hl) hk0 (by lia) (by rw [List.getElem?_eq_getElem hlt]) hs ?_
 rwa [List.getD_eq_getElem?_getD, List.getElem?_eq_getElem hlt] at h
noncomputable def dL (q : Int) : Nat := (q.fmod 4).toNat
theorem gj {q : Int} {u : Tok} {Q : VP} (B : Base (KF w.params) h0) (hroom : A.depth < recursionLimit)
  (h : ∀ T W k k1 k2, Go h0 o0 ((T, a8 [thV k (dL q), .ref W]) :: (W, ay [.str (ofString "TypeError") k1, .str (bN (thR (dL q)) (ofString (thT (dL q)))) k2]) :: cs) (Q (.ref T))) : Go h0 o0 cs (wpAny (model prog w) A (call (.ref gY) [.int q u]) Q E) := by
 have z1 : (ofString "-1").length = 2 := by decide +kernel
 have z2 : (Txt.mul (ofString "0") 40).length = 40 := by decide +kernel
 have z3 : (ofString " (type int)").length = 11 := by decide +kernel
 have z4 : (ofString "cannot serialize ").length = 17 := by decide +kernel
 refine bv (db (m := [(ofString "q", .int q u)]) B (by with_reducible assumption) (fun s X => by with_reducible refine kp_binds X ?_; intro S; kernel_rfl!) fun L => ?_)
 refine aE ?_
 with_reducible refine bK (bq (aA (aO fun _ => aA (cG ?_)))); refine aA (pM fun _ => aA (d4 (aY (aO ?_)))); intro _; refine aO ?_; intro _; refine o_pow (by decide) (by decide) (by decide) fun t1 => ?_
 rw [show ((10 : Int) ^ (40 : Int).toNat) = 10 ^ 40 from rfl]
 with_reducible refine dT fun _ => aH (bn fun _ => aR (.there .here) (.n .new) (aJ (aE ?_))); refine bK (bq (aA (aI fun _ _ => aA (aI ?_)))); intro _ _; refine aA (aI fun _ _ => aA (aY (aY (aI ?_)))); intro _ _; refine aY (aI fun _ _ => aO ?_); intro _
 refine o_mulR ⟨by decide, by decide, by decide +kernel⟩ fun t2 => ?_
 with_reducible refine bu (by rw [z1, z2, af]; decide) fun t3 => ?_; refine aI ?_; intro _ _; refine bu (by rw [ah, z1, z2, z3, af]; decide) fun t3 => ?_; refine aH (bn fun _ => aR (.there (.there .here)) (.n (.n .new)) (aJ (aE (dC ?_)))); refine da (aA (bE (aG (.there (.there .here)) (.n .here) (aY (aG (.there (.there .here)) .here ?_))))); refine aO ?_; intro _; refine dn (by decide) ?_; intro _
 have hb := fm0 q (b := 4) (by decide)
 refine ji (vs := [_, _, _, _]) (.there .here) hb.1 hb.2 (Nat.le_of_ble_eq_true rfl) ?_
 with_reducible refine aA (bq (aA (aI fun _ _ => aA (aY ?_)))); refine aI fun _ _ => bE (aG (.there (.there .here)) (.n (.n .here)) (aY (aG (.there (.there .here)) .here (aO ?_)))); intro _; refine dn (by decide) ?_; intro _
 refine jh (ls := wd4) (d := ofString "") .here (ps := [(_, _), (_, _), (_, _), (_, _)]) rfl rfl hb.1 hb.2 (Nat.le_of_ble_eq_true rfl) fun t4 => ?_
 obtain ⟨n, hn⟩ : ∃ n : Nat, n = dL q := ⟨_, rfl⟩
 have hn4 : n < 4 := by rw [hn]; unfold dL; (lia)
 rw [show (q.fmod 4).toNat = dL q from rfl, ← hn]
 rw [← hn] at h
 have hwl : ∀ n, n < 4 → (wd4.getD n (ofString "")).length ≤ 100 := by decide +kernel
 with_reducible refine bu (by have := hwl n hn4; rw [z4, af]; (apply aD; apply aF; exact ae _; with_reducible assumption; decide)) fun t5 => ?_
 rw [jN n hn4]
 with_reducible refine aH (bn fun _ => aH (cY fun _ => bT (gz ?_)))
 rename_i W T
 refine Go.sel (cs' := (T, _) :: (W, _) :: cs) (.pick .here (.pick .here (.tail (.t2 (.there .refl))))) ?_
 rcases n with _ | _ | _ | _ | n
 ·exact h T W _ _ _
 ·exact h T W 0 _ _
 ·exact h T W _ _ _
 ·exact h T W _ _ _
 ·exact absurd hn4 (by lia)
theorem pT {f c' : Addr} {name qual : Str} {params : Arguments} {body : Expr} {scope : Scope} {clos : List (Str × Addr)} {cls : String} {m : Str} {outer : List Env} {Q : VP} (J : az → Prop) (hcls : cls = "TypeError" ∨ cls = "ValueError")
  (B : Base (KF w.params) h0) (hroom : A.depth < recursionLimit) (hu : A.units + 100 < cLine) (hh : A.handled = none) (hA : A.frames = some outer) (hf : Has cs f (dg name qual params body scope clos c'))
  (hc : ∀ L R, (∀ C e t u c X, J C → FrOk C outer → Go h0 o0 (cV e cls (.ref t) c (some X) ++ ((t, a8 [.str m u]) :: (L, cNs [(ofString "call", .ref f)]) :: C)) (R (.error (.ref e)))) → Go h0 o0 ((L, cNs [(ofString "call", .ref f)]) :: cs) (codeAny (model prog w) (A.deeper (callEnv (aK (KF w.params) bW) L bW)) (.call (.ref f) ⟨[], []⟩) R))
  (h : ∀ C a k1 k2, J C → Go h0 o0 ((a, ay [.str (ofString cls) k1, .str m k2]) :: C) (Q (.ref a))) : Go h0 o0 cs (wpAny (model prog w) A (call (.ref bW) [.ref f]) Q E) := by
 have bTE : bD h0 (ofString "TypeError") (.type "TypeError") := B.bltAt (by kernel_rfl!) (by kernel_rfl!) (by decide +kernel) (by decide +kernel)
 have bVE : bD h0 (ofString "ValueError") (.type "ValueError") := B.bltAt (by kernel_rfl!) (by kernel_rfl!) (by decide +kernel) (by decide +kernel)
 have bStr : bD h0 (ofString "str") (.type "str") := B.bltAt (by kernel_rfl!) (by kernel_rfl!) (by decide +kernel) (by decide +kernel)
 refine bv (cB (m := [(ofString "call", .ref f)]) B (by with_reducible assumption) (fun s X => by with_reducible refine kp_binds X ?_; intro S; kernel_rfl!) fun L => ?_)
 have hA1 : (A.deeper (callEnv (aK (KF w.params) bW) L bW)).frames = some (callEnv (aK (KF w.params) bW) L bW :: outer) := Around.frames_deeper hA
 refine aE (lg (aE ?_))
 with_reducible refine bf (aW (aG .here .here ?_))
 refine c_lam0 (.there hf) ?_
 refine bv (hc L _ fun C e t u c X hJ hfr => ?_)
 refine nV hA1 rfl (FrOk.cons (by kernel_rfl!) rfl (.there .here) hfr.there.there) fun X0 => ?_
 refine h_as ?_
 with_reducible refine bG ?_
 rcases hcls with rfl | rfl
 ·refine k_mT cq (b := true) (by rw [isSubtype_type]; kernel_rfl) .here (fF (k_sa ?_))
  with_reducible refine aR (.skip (.there .here)) (.n .new) ?_
  refine aE ?_
  with_reducible refine dC (bq (aA (aI fun _ _ => aA (aW ?_)))); refine bG (ju (aA (aG (.skip (.there .here)) (.n .here) (aH ?_))))
  refine oW PySem.F.excStr_TypeError (by show A.units + _ + _ < cLine; (lia)) .here (.there (.there .here)) ?_
  with_reducible refine aH (bn fun _ => bT ?_)
  rename_i a
  refine k_un (.t2 (.there (.there .here))) rfl (by kernel_rfl!) (by kernel_rfl!) ?_
  with_reducible refine bT (gz ?_)
  exact Go.sel (cs' := (a, _) :: C) (.pick .here (.tail (.t2 (.there (.there .refl))))) (h C a _ _ hJ)
 ·refine k_mT cq (b := false) (by rw [isSubtype_type]; kernel_rfl) .here (dh ?_)
  refine h_as ?_
  with_reducible refine bG ?_
  refine k_mT gb (b := true) (by rw [isSubtype_type]; kernel_rfl) .here (fF (k_sa ?_))
  with_reducible refine aR (.skip (.there .here)) (.n .new) ?_
  refine aE ?_
  with_reducible refine dC (bq (aA (aI fun _ _ => aA (aW ?_)))); refine bG (ju (aA (aG (.skip (.there .here)) (.n .here) (aH ?_))))
  refine oW PySem.F.excStr_ValueError (by show A.units + _ + _ < cLine; (lia)) .here (.there (.there .here)) ?_
  with_reducible refine aH (bn fun _ => bT ?_)
  rename_i a
  refine k_un (.t2 (.there (.there .here))) rfl (by kernel_rfl!) (by kernel_rfl!) ?_
  with_reducible refine bT (gz ?_)
  exact Go.sel (cs' := (a, _) :: C) (.pick .here (.tail (.t2 (.there (.there .refl))))) (h C a _ _ hJ)
theorem qnE_1 {rw : Bool} {s : QS} {uri tag p : Str} {sn : List Str} (hf : bL uri (bd s.dl) [] = (some p, sn)) : d8 rw s uri tag = some (iD p tag, s) := by unfold d8; rw [hf]
theorem qnE_2 {rw : Bool} {s : QS} {uri tag : Str} {sn : List Str} (hf : bL uri (bd s.dl) [] = (none, sn)) (hrw : rw = false) (hc : uri.length = 0 ∧ ofString "" ∉ sn) : d8 rw s uri tag = some (tag, s) := by
 unfold d8; rw [hf]; dsimp only; rw [if_neg (by rw [hrw]; decide), if_pos hc]
theorem qnE_3 {rw : Bool} {s : QS} {uri tag : Str} {sn : List Str} {p : Sp} (hf : bL uri (bd s.dl) [] = (none, sn)) (hrw : rw = false) (hc : ¬ (uri.length = 0 ∧ ofString "" ∉ sn)) (ho : ((bd s.nl).find? fun q => q.1 == uri) = some p) : d8 rw s uri tag = some (iD p.2 tag, ⟨cu s.dl (uri, p.2), s.nl, s.pm⟩) := by
 unfold d8; rw [hf]; dsimp only; rw [if_neg (by rw [hrw]; decide), if_neg hc, ho]
theorem qnE_4 {rw : Bool} {s : QS} {uri tag : Str} {sn : List Str} (hf : bL uri (bd s.dl) [] = (none, sn)) (hrw : rw = false) (hc : ¬ (uri.length = 0 ∧ ofString "" ∉ sn)) (ho : ((bd s.nl).find? fun q => q.1 == uri) = none) : d8 rw s uri tag = if uri.length = 0 then some (tag, s) else none := by
 unfold d8; rw [hf]; dsimp only; rw [if_neg (by rw [hrw]; decide), if_neg hc, ho]
noncomputable def kP (uri : Str) : Str := Str.empty ++ ofString "Namespace \"" ++ uri ++ ofString "\" is not declared in scope"
theorem cx_qn2 {nm uri tag : Str} {u u2 u3 : Tok} {L S : Addr} {sn : List Str} {R : RP} (B : Base (KF w.params) h0) (hh : A.handled = none) (hroom : A.depth + 2 < recursionLimit) (hb : WB t) (hd : t.dl ≠ []) (hul : uri.length ≤ 100) (htl : tag.length ≤ 100)
  (hf : bL uri (bd (t.dl.map Lv.v)) [] = (none, sn)) (hrw : i.rw = false)
  (h : ∀ q s', d8 i.rw (QS.of t) uri tag = some (q, s') → ∀ T k1 k2 k3 dl' pm', QS.of { t with dl := dl', pm := pm' } = s' → dl'.map (·.a) = t.dl.map (·.a) → Go h0 o0 ((T, a8 [.str q k1, .str tag k2, .str uri k3]) :: wr prog w i { t with dl := dl', pm := pm' } V) (R (.ok (.ret (.ref T)))))
  (hE : d8 i.rw (QS.of t) uri tag = none → ∃ outer, A.frames = some outer ∧ FrOk V outer ∧ ∀ e t0 k X, Go h0 o0 (cV e "ValueError" (.ref t0) .none (some X) ++ ((t0, a8 [.str (kP uri) k]) :: wr prog w i t V)) (R (.error (.ref e)))) :
  Go h0 o0 ((L, cNs [(ofString "uri", .str uri u2), (ofString "qname", .str nm u), (ofString "self", .ref i.x), (ofString "tag", .str tag u3), (ofString "prefixes_seen", .ref S)]) :: (S, bj false w sn) :: wr prog w i t V)
   (wpAny (model prog w) (A.deeper (callEnv (aK (KF w.params) iW) L iW)) (execs ((aZ (KF w.params) iW).drop 3) (callEnv (aK (KF w.params) iW) L iW)) (RK R) (jA (model prog w) (A.deeper (callEnv (aK (KF w.params) iW) L iW)) (callEnv (aK (KF w.params) iW) L iW) R)) := by
 have hh' : ∀ env, (A.deeper env).handled = none := fun _ => hh
 have hroom' : ∀ env, (A.deeper env).depth < recursionLimit := fun _ => by show A.depth + 1 < _; (exact aX 1 (by with_reducible assumption))
 have bVE : bD h0 (ofString "ValueError") (.type "ValueError") := B.bltAt (by kernel_rfl!) (by kernel_rfl!) (by decide +kernel) (by decide +kernel)
 obtain ⟨N, l, hN⟩ : ∃ N l, t.dl = N ++ [l] := ⟨t.dl.dropLast, t.dl.getLast hd, (List.dropLast_concat_getLast hd).symm⟩
 have hl : l ∈ t.dl := by rw [hN]; simp
 have eN : (t.dl.map fun l => Value.ref l.a) = (N.map fun l => Value.ref l.a) ++ [.ref l.a] := by rw [hN, ai]; rfl
 have hlz : l.ps.length ≤ 1000000 := by have := (hb.dll l hl).1; (apply aD; with_reducible assumption; decide)
 have z0 : Str.empty.length = 0 := by decide +kernel
 have z1 : (ofString ":").length = 1 := by decide +kernel
 refine aE ?_
 with_reducible refine bt (bh (b8 .here (.n (.n .here)) (.there (.there a9)) (.there (.there aS)) tg_rw (aP ?_)))
 refine cA (fun q => by rw [hrw] at q; cases q) fun _ => ?_
 have uz : uri.length ≤ sizeLine := by rw [af]; (apply aD; with_reducible assumption; decide)
 refine aL (aJ (aE ?_))
 refine bH (fun f C => (f = .next ∧ ¬ (uri.length = 0 ∧ ofString "" ∉ sn) ∧ C = (L, cNs [(ofString "uri", .str uri u2), (ofString "qname", .str nm u), (ofString "self", .ref i.x), (ofString "tag", .str tag u3), (ofString "prefixes_seen", .ref S)]) :: (S, bj false w sn) :: wr prog w i t V) ∨
  (∃ T, f = .ret (.ref T) ∧ (uri.length = 0 ∧ ofString "" ∉ sn) ∧ C = (T, a8 [.str tag u3, .str tag u3, .str uri u2]) :: wr prog w i t V)) ?_ ?_
 ·with_reducible refine bt (bZ (bB (ix (bh (aG .here .here ?_))))); refine gq uz ?_
  refine e8 (cA (fun hn => ?_) fun hn => ?_)
  ·with_reducible refine dh (aL ?_)
   exact jp (.inl ⟨rfl, fun q => absurd q.1 (by simpa using hn), rfl⟩)
  ·have hn : uri.length = 0 := by simpa using hn
   with_reducible refine bB (bc (aI fun _ _ => aG .here (.n (.n (.n (.n .here)))) (oy (.there .here) (aP ?_))))
   refine e8 (cA (fun hs => ?_) fun hs => ?_)
   ·with_reducible refine dh (aL ?_)
    exact jp (.inl ⟨rfl, fun q => absurd (by simpa using hs) q.2, rfl⟩)
   ·with_reducible refine cM (fF (aE (dC (da (aA ?_))))); refine aG .here (.n (.n (.n .here))) (aA (aG .here (.n (.n (.n .here))) (aA (aG .here .here (aH ?_))))); refine cY fun _ => bT ?_
    rename_i T
    refine Go.sel ?_ (jp (.inr ⟨T, rfl, ⟨hn, by simpa using hs⟩, rfl⟩))
    with_reducible exact .pick .here (.tail (.there (.there .refl)))
 rintro f C (⟨rfl, hc, rfl⟩ | ⟨T, rfl, hc, rfl⟩)
 case inr =>
  have h := h _ _ (qnE_2 (s := QS.of t) hf hrw hc) T u3 u3 u2 t.dl t.pm rfl rfl
  with_reducible refine bT (gz ?_)
  exact h
 refine aJ (aE ?_)
 refine bH (fun f C => (f = .next ∧ (bd (t.nl.map Lv.v)).find? (fun q => q.1 == uri) = none ∧ C = (L, cNs [(ofString "uri", .str uri u2), (ofString "qname", .str nm u), (ofString "self", .ref i.x), (ofString "tag", .str tag u3), (ofString "prefixes_seen", .ref S)]) :: (S, bj false w sn) :: wr prog w i t V) ∨
  (∃ T qp a k1, f = .ret (.ref T) ∧ (bd (t.nl.map Lv.v)).find? (fun q => q.1 == uri) = some (Pr.v qp) ∧ C = (T, a8 [.str (iD qp.p tag) k1, .str tag u3, .str uri u2]) :: wr prog w i { t with dl := bO t.dl ⟨a, uri, u2, qp.p, qp.pt⟩ } V)) ?_ ?_
 ·refine md (hh' _) (hroom' _) B.lim ?_ (fun _ => by with_unfolding_all rfl)
  with_reducible refine bi (aG .here (.n (.n .here)) ?_); refine pF (by assumption) (.there (.there a9)) (.there (.there aS)) ?_; refine fO (aA (b8 .here (.n (.n .here)) (.there (.there a9)) (.there (.there aS)) l8 (aH (ck ?_))))
  refine k_it0 (ls := t.nl) (fun n C => (∀ p ∈ (er t.nl).take n, p.u ≠ uri) ∧ C = (L, cNs [(ofString "uri", .str uri u2), (ofString "qname", .str nm u), (ofString "self", .ref i.x), (ofString "tag", .str tag u3), (ofString "prefixes_seen", .ref S)]) :: (S, bj false w sn) :: wr prog w i t V) B (hh' _) (hroom' _) ⟨by simp, rfl⟩ ?_ ?_ ?_
  ·rintro n C ⟨_, rfl⟩
   exact wr_StkN hb (X := [_, _])
  ·rintro n qp C K' o hqn ⟨hno, rfl⟩ hbk
   obtain ⟨lq, hlq, hqp⟩ := mr (List.mem_of_getElem? hqn)
   have hqb := (hb.nll lq hlq).2 qp hqp
   show Go h0 o (_ :: _ :: (wr prog w i t V ++ K')) _
   rw [← bP]
   refine nT (hh' _) (.t2 (wr_prN hlq hqp)) ?_
   with_reducible refine aR .here (.n4 (.n .new)) (aR .here (.n4 (.n (.n .new))) (aE (bt (bc (aG .here (.n4 (.n .here)) ?_))))); refine aG .here .here (gE (aP ?_))
   by_cases hu : qp.u = uri
   ·rw [beq_iff_eq.mpr hu]
    with_reducible refine fF (aE (bf (bi (bE (b8 .here (.n (.n .here)) (.there (.there a9)) (.there (.there aS)) l9 ?_))))); refine d4 (aO fun _ => dT fun t1 => dU (.there (.there l6)) eN ?_)
    have hL : Has (wr prog w i t (V ++ K')) l.a (ay l.refs) := gf hl
    with_reducible refine dE (.t2 (by with_reducible assumption)) ?_; refine cT (aA (da (aA (aG .here .here (aA ?_))))); refine aG .here (.n4 (.n (.n .here))) (aH (cY fun _ => aH ?_))
    rename_i a
    refine k_pushD (X := [_, _]) (q := ⟨a, uri, u2, qp.p, qp.pt⟩) hN hlz ?_
    show Go h0 o (_ :: _ :: wr prog w i { t with dl := bO t.dl ⟨a, uri, u2, qp.p, qp.pt⟩ } (V ++ K')) _
    with_reducible refine aJ (aE (dC (da (aA ?_))))
    refine bH (fun v C => ∃ k, v = Value.str (iD qp.p tag) k ∧ C = (L, cNs [(ofString "uri", .str uri u2), (ofString "qname", .str nm u), (ofString "self", .ref i.x), (ofString "tag", .str tag u3), (ofString "prefixes_seen", .ref S), (ofString "u", .str qp.u qp.ut), (ofString "prefix", .str qp.p qp.pt)]) :: (S, bj false w sn) :: wr prog w i { t with dl := bO t.dl ⟨a, uri, u2, qp.p, qp.pt⟩ } (V ++ K')) ?_ ?_
    ·with_reducible refine eF (bh (aG .here (.n4 (.n (.n .here))) ?_)); refine gq (by rw [af]; (lia)) ?_
     refine cA (fun hp => ?_) fun hp => ?_
     ·have hp : ¬ qp.p.length = 0 := by simpa using hp
      with_reducible refine eE (a0 (eO (aG .here (.n4 (.n (.n .here))) ?_))); refine dG (by simp only [ah, af]; lia) ?_; intro _; refine br (by simp only [ah, af]; lia) ?_; refine a0 (aI ?_); intro _ _; refine br (by simp only [ah, af]; lia) ?_; refine a0 (eO (aG .here (.n (.n (.n .here))) ?_)); refine dG (by simp only [ah, af]; apply aD; with_reducible assumption; decide) ?_; intro _; refine br (by simp only [ah, af]; lia) ?_; refine gK ?_; refine gL (by simp only [ah, af]; lia) ?_; intro _
      exact jp ⟨_, by unfold iD; rw [if_neg hp], rfl⟩
     ·have hp : qp.p.length = 0 := by simpa using hp
      with_reducible refine aG .here (.n (.n (.n .here))) ?_
      exact jp ⟨_, by unfold iD; rw [if_pos hp], rfl⟩
    rintro v C ⟨k, rfl, rfl⟩
    with_reducible refine aA (aG .here (.n (.n (.n .here))) (aA (aG .here .here (aH (cY ?_))))); intro _; refine bT (bT ?_)
    rename_i T
    with_reducible refine tk_r ?_
    refine Go.sel (cs' := (T, a8 [.str (iD qp.p tag) k, .str tag u3, .str uri u2]) :: wr prog w i { t with dl := bO t.dl ⟨a, uri, u2, qp.p, qp.pt⟩ } (V ++ K')) (.pick .here (.tail (.there (.there .refl)))) ?_
    rw [bP]
    exact Go.back (C := _ :: _) hbk (jp (.inr ⟨T, qp, a, k, rfl, oq hqn hno hu, rfl⟩))
   ·rw [show (qp.u == uri) = false from by simpa using hu]
    with_reducible refine dh (aL (aJ (aL ?_)))
    refine Go.thin (a := L) (m' := [(ofString "uri", .str uri u2), (ofString "qname", .str nm u), (ofString "self", .ref i.x), (ofString "tag", .str tag u3), (ofString "prefixes_seen", .ref S)]) .here (.cons .here (.cons (.n .here) (.cons (.n (.n .here)) (.cons (.n (.n (.n .here))) (.cons (.n (.n (.n (.n .here)))) .nil))))) ?_
    refine tk_n (C := _ :: _ :: wr prog w i t V) ⟨?_, rfl⟩ (by rw [bP]; rfl)
    intro p hp
    rw [List.take_add_one, hqn] at hp
    rcases List.mem_append.mp hp with hp | hp
    ·exact hno p hp
    ·simp only [Option.toList, List.mem_singleton] at hp
     rw [hp]; exact hu
  ·rintro C ⟨hno, rfl⟩
   exact jp (.inl ⟨rfl, on hno, rfl⟩)
 rintro f C (⟨rfl, hfi, rfl⟩ | ⟨T, qp, a, k1, rfl, hfi, rfl⟩)
 ·have e4 := qnE_4 (s := QS.of t) (tag := tag) hf hrw hc hfi
  with_reducible refine aJ (aE (bt (ix (bh (aG .here .here ?_))))); refine gq uz ?_
  refine e8 (cA (fun hn => ?_) fun hn => ?_)
  ·rw [if_neg (by simpa using hn)] at e4
   obtain ⟨outer, hA, hfr, hE⟩ := hE e4
   with_reducible refine aL (aJ (aE ?_))
   refine mc F.excRaise_ValueError ?_
   with_reducible refine aW (bG (ju (aA (eE ?_))))
   have y1 : (ofString "Namespace \"").length = 11 := by decide +kernel
   have y2 : (ofString "\" is not declared in scope").length = 26 := by decide +kernel
   with_reducible refine a0 (aI ?_); intro _ _; refine br (by simp only [ah, af]; apply aD; apply aF; exact aj (by assumption); exact aj (by assumption); decide) ?_; refine a0 (eO (aG .here .here ?_)); refine dG (by simp only [ah, af]; apply aD; with_reducible assumption; decide) ?_; intro _; refine br (by simp only [ah, af]; lia) ?_; refine a0 (aI ?_); intro _ _; refine br (by simp only [ah, af]; lia) ?_; refine gK ?_; refine gL (by simp only [ah, af]; lia) ?_; intro _; refine aH ?_
   refine n_exc F.excCall_ValueError (Nat.le_of_ble_eq_true rfl) fun e t0 => ?_
   refine rn_none (hh' _) ?_
   refine cc (Around.frames_deeper hA) rfl (FrOk.cons (by kernel_rfl!) rfl (.there .here) hfr.wr.there.there.there) fun X => ?_
   exact Go.drop2 (Go.drop2 (hE e t0 _ X))
  ·rw [if_pos (by simpa using hn)] at e4
   with_reducible refine aE (dC (da (aA (aG .here (.n (.n (.n .here))) (aA ?_))))); refine aG .here (.n (.n (.n .here))) (aA (aG .here .here (aH (cY fun _ => bT ?_)))); refine bT (gz ?_)
   rename_i T
   have h := h _ _ e4 T u3 u3 u2 t.dl t.pm rfl rfl
   exact Go.sl (.pick .here (.tail (.there (.there .refl))))
 ·have h := h _ _ (qnE_3 (s := QS.of t) hf hrw hc hfi) T k1 u3 u2 (bO t.dl ⟨a, uri, u2, qp.p, qp.pt⟩) t.pm (by unfold QS.of; dsimp only; rw [mi]; rfl) (mj _ _)
  with_reducible refine bT (gz ?_)
  exact h
theorem kI {nm : Str} {u : Tok} {R : RP} (B : Base (KF w.params) h0) (hh : A.handled = none) (hroom : A.depth + 2 < recursionLimit) (hb : WB t) (hd : t.dl ≠ []) (hsz : (er t.dl).length ≤ 500) (hnm : fB nm = true) (hrw : i.rw = false)
  (h : ∀ q s', d8 i.rw (QS.of t) (bI nm).1 (bI nm).2 = some (q, s') → ∀ T k1 k2 k3 dl' pm', QS.of { t with dl := dl', pm := pm' } = s' → dl'.map (·.a) = t.dl.map (·.a) → Go h0 o0 ((T, a8 [.str q k1, .str (bI nm).2 k2, .str (bI nm).1 k3]) :: wr prog w i { t with dl := dl', pm := pm' } V) (R (.ok (.ret (.ref T)))))
  (hE : d8 i.rw (QS.of t) (bI nm).1 (bI nm).2 = none → ∃ outer, A.frames = some outer ∧ FrOk V outer ∧ ∀ e t0 k X, Go h0 o0 (cV e "ValueError" (.ref t0) .none (some X) ++ ((t0, a8 [.str (kP (bI nm).1) k]) :: wr prog w i t V)) (R (.error (.ref e)))) :
  Go h0 o0 (wr prog w i t V) (codeAny (model prog w) A (.call (.ref iW) ⟨[.ref i.x, .str nm u], []⟩) R) := by
 have hh' : ∀ env, (A.deeper env).handled = none := fun _ => hh
 have hroom' : ∀ env, (A.deeper env).depth < recursionLimit := fun _ => by show A.depth + 1 < _; (exact aX 1 (by with_reducible assumption))
 have bSet : bD h0 (ofString "set") (.type "set") := B.bltAt (by kernel_rfl!) (by kernel_rfl!) (by decide +kernel) (by decide +kernel)
 have z0 : Str.empty.length = 0 := by decide +kernel
 have z1 : (ofString ":").length = 1 := by decide +kernel
 unfold fB at hnm
 simp only [Bool.and_eq_true, decide_eq_true_eq, Bool.or_eq_true, Bool.not_eq_true', beq_iff_eq] at hnm
 obtain ⟨⟨⟨hnl, hns⟩, hul⟩, htl⟩ := hnm
 have nz : nm.length ≤ sizeLine := by rw [af]; (apply aD; with_reducible assumption; decide)
 refine cB (m := [(ofString "uri", .none), (ofString "qname", .str nm u), (ofString "self", .ref i.x)]) B (by exact aX 2 (by with_reducible assumption)) (fun s X => by with_reducible refine kp_binds X ?_; intro S; kernel_rfl!) fun L => ?_
 refine aE ?_
 refine bH (fun f C => f = .next ∧ ∃ u2 u3, C = (L, cNs [(ofString "uri", .str (bI nm).1 u2), (ofString "qname", .str nm u), (ofString "self", .ref i.x), (ofString "tag", .str (bI nm).2 u3)]) :: wr prog w i t V) ?_ ?_
 ·with_reducible refine bt (bc (aG .here .here (cG (o_is (aP ?_))))); refine ifEN (aE (jX (eF (bc ?_)))); refine e_upto ?_ (by intro _ _; with_unfolding_all rfl); refine aG .here (.n .here) (aO fun _ => uk nz fun t1 => aI fun _ _ => gE (aP ?_))
  cases hs : (Txt.slice nm none (some 1) == ofString "{") with
  | false =>
   have es : bI nm = (ofString "", nm) := by unfold bI; rw [if_neg (by rw [hs]; decide)]
   rw [es]
   with_reducible refine dh (da (aA (aI fun _ _ => aA (aG .here (.n .here) ?_)))); refine aH (cY fun _ => nT (hh' _) .here (aR (.there .here) .here (aR (.there .here) (.n (.n (.n .new))) (aJ ?_)))); refine aL ?_
   rename_i t3 ht3 T
   exact Go.sel (cs' := (L, cNs [(ofString "uri", .str (ofString "") t3), (ofString "qname", .str nm u), (ofString "self", .ref i.x), (ofString "tag", .str nm u)]) :: wr prog w i t V) (.pick (.there .here) (.tail (.there .refl))) (jp ⟨rfl, _, _, rfl⟩)
  | true =>
   have hl2 : (Txt.rsplitMax (Txt.slice nm (some 1) none) (ofString "}") 1).length = 2 := by
    rcases hns with q | q
    ·rw [hs] at q; cases q
    ·exact q
   with_reducible refine fF (bi ?_); refine e_from ?_ (by intro _ _; with_unfolding_all rfl); refine aG .here (.n .here) (aO fun _ => uf nz ?_); intro t2
   skip
   with_reducible refine pD (cT (aA (aI fun _ _ => aA (aO ?_)))); intro _; refine aH ?_; refine o8 (by decide +kernel) (by decide) (by have := Txt.slice_le nm (some 1) none; rw [af]; (lia)) ?_; intro D l hl
   obtain ⟨a, b, el⟩ : ∃ a b, l = [a, b] := by
    have e := congrArg List.length hl
    rw [ag, hl2] at e
    match l, e with
    | [a, b], _ => exact ⟨a, b, rfl⟩
   subst el
   have es : bI nm = (a.1, b.1) := by unfold bI; rw [if_pos hs, ← hl]; rfl
   rw [es]
   skip
   with_reducible refine u_2l (hh' _) (show Has _ D (ay [.str a.1 a.2, .str b.1 b.2]) from .here) ?_; refine aR (.there .here) .here (aR (.there .here) (.n (.n (.n .new))) (aJ (aL ?_)))
   exact Go.sel (cs' := (L, cNs [(ofString "uri", .str a.1 a.2), (ofString "qname", .str nm u), (ofString "self", .ref i.x), (ofString "tag", .str b.1 b.2)]) :: wr prog w i t V) (.pick (.there .here) (.tail (.there .refl))) (jp ⟨rfl, _, _, rfl⟩)
 rintro f C ⟨rfl, u2, u3, rfl⟩
 generalize bI nm = st at h hE hul htl
 obtain ⟨uri, tag⟩ := st
 dsimp only at h hE hul htl ⊢
 with_reducible refine aJ (aE (bK (aW (bG (c_ty0 ?_))))); refine k_set0 fun S => aR (.there .here) (.n (.n (.n (.n .new)))) (aJ (aE ?_))
 refine Go.sel (cs' := (L, cNs [(ofString "uri", .str uri u2), (ofString "qname", .str nm u), (ofString "self", .ref i.x), (ofString "tag", .str tag u3), (ofString "prefixes_seen", .ref S)]) :: (S, bj false w []) :: wr prog w i t V) (.pick (.there .here) (.pick .here (.tail .refl))) ?_
 refine bH (fun f C => (f = .next ∧ (bL uri (bd (t.dl.map Lv.v)) []).1 = none ∧ C = (L, cNs [(ofString "uri", .str uri u2), (ofString "qname", .str nm u), (ofString "self", .ref i.x), (ofString "tag", .str tag u3), (ofString "prefixes_seen", .ref S)]) :: (S, bj false w (bL uri (bd (t.dl.map Lv.v)) []).2) :: wr prog w i t V) ∨
  (∃ T p k1, f = .ret (.ref T) ∧ (bL uri (bd (t.dl.map Lv.v)) []).1 = some p ∧ C = (T, a8 [.str (iD p tag) k1, .str tag u3, .str uri u2]) :: wr prog w i t V)) ?_ ?_
 ·refine md (hh' _) (hroom' _) B.lim ?_ (fun _ => by with_unfolding_all rfl)
  with_reducible refine bi (aG .here (.n (.n .here)) ?_); refine pF (by assumption) (.there (.there a9)) (.there (.there aS)) ?_; refine fO (aA (b8 .here (.n (.n .here)) (.there (.there a9)) (.there (.there aS)) l9 (aH (ck ?_))))
  refine k_it0 (ls := t.dl) (fun n C => ∃ sn, sn.length ≤ n ∧ bL uri (((er t.dl).take n).map Pr.v) [] = (none, sn) ∧ C = (L, cNs [(ofString "uri", .str uri u2), (ofString "qname", .str nm u), (ofString "self", .ref i.x), (ofString "tag", .str tag u3), (ofString "prefixes_seen", .ref S)]) :: (S, bj false w sn) :: wr prog w i t V) B (hh' _) (hroom' _) ⟨[], Nat.zero_le _, by simp [bL], rfl⟩ ?_ ?_ ?_
  ·rintro n C ⟨sn, _, _, rfl⟩
   exact wr_StkD hb (X := [_, _])
  ·rintro n qp C K' o hqn ⟨sn, hsl, hno, rfl⟩ hbk
   obtain ⟨lq, hlq, hqp⟩ := mr (List.mem_of_getElem? hqn)
   have hqb := (hb.dll lq hlq).2 qp hqp
   have hfs := eM _ [qp.v] _ _ hno
   have hlt : n < (er t.dl).length := (List.getElem?_eq_some_iff.mp hqn).1
   have etk : ((er t.dl).take (n + 1)).map Pr.v = ((er t.dl).take n).map Pr.v ++ [qp.v] := by rw [List.take_add_one, hqn, ai]; rfl
   rw [← etk] at hfs
   show Go h0 o (_ :: _ :: (wr prog w i t V ++ K')) _
   rw [← bP]
   refine nT (hh' _) (.t2 (nQ hlq hqp)) ?_
   with_reducible refine aR .here (.n4 (.n .new)) (aR .here (.n4 (.n (.n .new))) (aE ?_))
   by_cases hc : qp.u = uri ∧ qp.p ∉ sn
   ·with_reducible refine bt (bZ (bB (bc (aG .here (.n4 (.n .here)) (aG .here .here ?_))))); refine gE (aP ?_)
    rw [beq_iff_eq.mpr hc.1]
    with_reducible refine fF (bB (bc (aG .here (.n4 (.n (.n .here))) (aG .here (.n (.n (.n (.n .here)))) (oy (.there .here) ?_)))))
    rw [decide_eq_false hc.2]
    with_reducible refine aP (ifNF (cM (fF (aE (dC ?_))))); refine da (aA ?_)
    refine bH (fun v C => ∃ k, v = Value.str (iD qp.p tag) k ∧ C = (L, cNs [(ofString "uri", .str uri u2), (ofString "qname", .str nm u), (ofString "self", .ref i.x), (ofString "tag", .str tag u3), (ofString "prefixes_seen", .ref S), (ofString "u", .str qp.u qp.ut), (ofString "prefix", .str qp.p qp.pt)]) :: (S, bj false w sn) :: wr prog w i t (V ++ K')) ?_ ?_
    ·with_reducible refine eF (bh (aG .here (.n4 (.n (.n .here))) ?_)); refine gq (by rw [af]; (lia)) ?_
     refine cA (fun hp => ?_) fun hp => ?_
     ·have hp : ¬ qp.p.length = 0 := by simpa using hp
      with_reducible refine eE (a0 (eO (aG .here (.n4 (.n (.n .here))) ?_))); refine dG (by simp only [ah, af]; lia) ?_; intro _; refine br (by simp only [ah, af]; lia) ?_; refine a0 (aI ?_); intro _ _; refine br (by simp only [ah, af]; lia) ?_; refine a0 (eO (aG .here (.n (.n (.n .here))) ?_)); refine dG (by simp only [ah, af]; apply aD; with_reducible assumption; decide) ?_; intro _; refine br (by simp only [ah, af]; lia) ?_; refine gK ?_; refine gL (by simp only [ah, af]; lia) ?_; intro _
      exact jp ⟨_, by unfold iD; rw [if_neg hp], rfl⟩
     ·have hp : qp.p.length = 0 := by simpa using hp
      with_reducible refine aG .here (.n (.n (.n .here))) ?_
      exact jp ⟨_, by unfold iD; rw [if_pos hp], rfl⟩
    rintro v C ⟨k, rfl, rfl⟩
    with_reducible refine aA (aG .here (.n (.n (.n .here))) (aA (aG .here .here (aH (cY ?_))))); intro _; refine bT (bT ?_)
    rename_i T
    with_reducible refine tk_r ?_
    refine Go.sel (cs' := (T, a8 [.str (iD qp.p tag) k, .str tag u3, .str uri u2]) :: wr prog w i t (V ++ K')) (.pick .here (.tail (.there (.there .refl)))) ?_
    rw [bP]
    refine Go.back (C := _ :: _) hbk (jp (.inr ⟨T, qp.p, k, rfl, ?_, rfl⟩))
    have e : er t.dl = (er t.dl).take (n + 1) ++ (er t.dl).drop (n + 1) := (List.take_append_drop _ _).symm
    have e2 : bL uri [qp.v] sn = (some qp.p, sn) := by show (if qp.u = uri ∧ qp.p ∉ sn then _ else _) = _; rw [if_pos hc]
    rw [← iC, e, ai, etk, an, eM _ _ _ _ hno]
    show (if qp.u = uri ∧ qp.p ∉ sn then _ else _ : Option Str × List Str).1 = _
    rw [if_pos hc]
   ·have e2 : bL uri [qp.v] sn = (none, eU sn qp.p) := by show (if qp.u = uri ∧ qp.p ∉ sn then _ else _) = _; rw [if_neg hc]; rfl
    refine bH (fun f C => f = .next ∧ C = (L, cNs [(ofString "uri", .str uri u2), (ofString "qname", .str nm u), (ofString "self", .ref i.x), (ofString "tag", .str tag u3), (ofString "prefixes_seen", .ref S), (ofString "u", .str qp.u qp.ut), (ofString "prefix", .str qp.p qp.pt)]) :: (S, bj false w sn) :: wr prog w i t (V ++ K')) ?_ ?_
    ·with_reducible refine bt (bZ (bB (bc (aG .here (.n4 (.n .here)) (aG .here .here ?_))))); refine gE (aP ?_)
     by_cases hu : qp.u = uri
     ·have hp : qp.p ∈ sn := Classical.byContradiction fun q => hc ⟨hu, q⟩
      rw [beq_iff_eq.mpr hu]
      with_reducible refine fF (bB (bc (aG .here (.n4 (.n (.n .here))) (aG .here (.n (.n (.n (.n .here)))) (oy (.there .here) ?_)))))
      rw [decide_eq_true hp]
      with_reducible refine aP (ifNT (dh (aL ?_)))
      exact jp ⟨rfl, rfl⟩
     ·rw [show (qp.u == uri) = false from by simpa using hu]
      with_reducible refine dh (dh (aL ?_))
      exact jp ⟨rfl, rfl⟩
    rintro f C ⟨rfl, rfl⟩
    with_reducible refine aJ (aE (bf (bi (aG .here (.n (.n (.n (.n .here)))) (g_add (.there .here) ?_))))); refine cT (aA (aG .here (.n4 (.n (.n .here))) (aH ?_))); refine k_add (ks := sn) (b := false) (by unfold scanBound; (lia)) (.there .here) ?_; refine aJ (aL ?_)
    refine Go.thin (a := L) (m' := [(ofString "uri", .str uri u2), (ofString "qname", .str nm u), (ofString "self", .ref i.x), (ofString "tag", .str tag u3), (ofString "prefixes_seen", .ref S)]) .here (.cons .here (.cons (.n .here) (.cons (.n (.n .here)) (.cons (.n (.n (.n .here))) (.cons (.n (.n (.n (.n .here)))) .nil))))) ?_
    refine tk_n (C := _ :: _ :: wr prog w i t V) ⟨eU sn qp.p, ?_, ?_, rfl⟩ (by rw [bP]; rfl)
    ·unfold eU; split
     ·(exact Nat.le_succ_of_le (by with_reducible assumption))
     ·rw [ao]; show _ + 1 ≤ _; (lia)
    ·rw [hfs, e2]
  ·rintro C ⟨sn, _, hno, rfl⟩
   rw [List.take_length, iC] at hno
   exact jp (.inl ⟨rfl, by rw [hno], by rw [hno]⟩)
 rintro f C (⟨rfl, hf, rfl⟩ | ⟨T, p, k1, rfl, hf, rfl⟩)
 ·refine aJ ?_
  exact Go.mono (cx_qn2 B hh hroom hb hd hul htl (by rw [← hf]) hrw h hE) fun _ q => q
 ·have e1 : bL uri (bd (t.dl.map Lv.v)) [] = (some p, (bL uri (bd (t.dl.map Lv.v)) []).2) := by rw [← hf]
  have h := h _ _ (qnE_1 (s := QS.of t) e1) T k1 u3 u2 t.dl t.pm rfl rfl
  with_reducible refine bT (gz ?_)
  exact h
theorem cx_end {nm q : Str} {u : Tok} {s' : QS} {R : RP} {ND NN : List Lv} {lD lN : Lv} {pp : List Bool} {bp : Bool} (B : Base (KF w.params) h0) (hh : A.handled = none) (hroom : A.depth + 4 < recursionLimit) (hb : WB t) (hoz : t.out.length ≤ 100000) (hnm : fB nm = true) (hrw : i.rw = false)
  (h1 : t.ig ≠ 0 → ∀ k, Go h0 o0 (wr prog w i { t with ig := t.ig - 1, ti := k } V) (R (.ok (.ret .none))))
  (hsz : (er t.dl).length ≤ 500) (hN : t.dl = ND ++ [lD]) (hNN : t.nl = NN ++ [lN]) (hps : t.ps = pp ++ [bp]) (hq : t.ig = 0 → d8 i.rw (QS.of t) (bI nm).1 (bI nm).2 = some (q, s')) (hql : q.length ≤ 1000)
  (h2 : t.ig = 0 → ∀ k k2 pm' dl', (pm'.map fun q => (q.1, q.2.1)) = s'.pm → dl'.map Lv.v = s'.dl.dropLast →
   Go h0 o0 (wr prog w i { cg i t k with out := (cg i t k).out ++ [(Str.empty ++ ofString "</" ++ q ++ ofString ">", k2)], pm := pm', dl := dl', nl := NN, ps := pp, rd := pp.length == 1 } V) (R (.ok (.ret .none)))) :
  Go h0 o0 (wr prog w i t V) (codeAny (model prog w) A (.call (.ref aEnd) ⟨[.ref i.x, .str nm u], []⟩) R) := by
 have hh' : ∀ env, (A.deeper env).handled = none := fun _ => hh
 have hroom' : ∀ env, (A.deeper env).depth + 3 < recursionLimit := fun _ => by show A.depth + 1 + 3 < _; (with_reducible assumption)
 have hroom1 : ∀ env, (A.deeper env).depth + 1 < recursionLimit := fun _ => by show A.depth + 1 + 1 < _; (exact aX 2 (by with_reducible assumption))
 have hroom2 : ∀ env, (A.deeper env).depth + 2 < recursionLimit := fun _ => by show A.depth + 1 + 2 < _; (exact aX 1 (by with_reducible assumption))
 have bLen : bD h0 (ofString "len") (.builtin "len") := B.bltAt (by kernel_rfl!) (by kernel_rfl!) (by decide +kernel) (by decide +kernel)
 have z0 : Str.empty.length = 0 := by decide +kernel
 have z1 : (ofString "</").length = 2 := by decide +kernel
 have z2 : (ofString ">").length = 1 := by decide +kernel
 refine db (m := [(ofString "tag", .str nm u), (ofString "self", .ref i.x)]) B (by exact aX 4 (by with_reducible assumption)) (fun s X => by with_reducible refine kp_binds X ?_; intro S; kernel_rfl!) fun L => ?_
 refine aE ?_
 with_reducible refine bt (bh (b8 .here (.n .here) (.there a9) (.there aS) iu (iy ?_)))
 refine cA (fun hg => ?_) fun hg => ?_
 ·have hg0 : t.ig ≠ 0 := by simpa using hg
  with_reducible refine aE (s_aug (aG .here (.n .here) ?_)); refine fS (by assumption) (.there a9) (.there aS) iu (by kernel_rfl!) ?_; refine aO fun _ => o_isub ?_; intro k; refine w_ig (n := t.ig - 1) B (.there a9) (by lia) (.there (pw_ig _ _)) ?_
  have h1 := h1 hg0 k
  with_reducible refine aJ (aE (n9 (bT (bT (gz ?_)))))
  exact Go.sl (.tail (.there .refl))
 have hg0 : t.ig = 0 := by simpa using hg
 have hq := hq hg0
 have h2 := h2 hg0
 with_reducible refine aL (aJ (aE ?_))
 refine bH (fun f C => f = .next ∧ ∃ k, C = (L, cNs [(ofString "tag", .str nm u), (ofString "self", .ref i.x)]) :: wr prog w i (cg i t k) V) ?_ ?_
 ·with_reducible refine bt (bh (b8 .here (.n .here) (.there a9) (.there aS) cW ?_)); refine fV (.there k0) (by have := hb.dz; (simp only [tv, ag, List.length_cons, ao, List.length_nil, List.length_replicate, af]; apply aD; with_reducible assumption; decide)) ?_
  refine cA (fun hd => ?_) fun hd => ?_
  ·with_reducible refine aE (bf (bi (aG .here (.n .here) (fe (.there a9) (.there aS) (kL ?_))))); refine bv ?_; refine Go.wIn1 (fm B (hroom1 _) hb.tot hb.dz (Nat.le_trans hoz (by decide)) hb.psn hb.psz ?_); intro k; refine Go.wOut1 (aJ (aL ?_))
   exact jp ⟨rfl, k, by unfold cg; rw [if_neg (by simpa [tv] using hd)]⟩
  ·with_reducible refine aL ?_
   exact jp ⟨rfl, 0, by unfold cg; rw [if_pos (by simpa [tv] using hd)]⟩
 rintro f C ⟨rfl, k, rfl⟩
 with_reducible refine aJ (aE (bf (bi (aG .here (.n .here) (ni (.there a9) (.there aS) ?_))))); refine im (.there cI) (aA (eE (a0 (aI ?_)))); intro _ _; refine br (by decide +kernel) ?_; refine a0 (eO (bE (bi (aG .here (.n .here) ?_)))); refine g_qn (by assumption) (.there a9) (.there aS) ?_; refine fO (aA (aG .here .here (aH (ck (bv ?_)))))
 have h2 := h2 k
 have eQ : QS.of (cg i t k) = QS.of t := by unfold QS.of; rw [dy, dw, lE]
 have hb1 := hb.fl (i := i) k
 have hN1 : (cg i t k).dl = ND ++ [lD] := by rw [dy]; exact hN
 have hNN1 : (cg i t k).nl = NN ++ [lN] := by rw [dw]; exact hNN
 have hps1 : (cg i t k).ps = pp ++ [bp] := by rw [gP]; exact hps
 have ho1 : (cg i t k).out.length ≤ 100001 := by have := flD_out (i := i) (t := t) (k := k); (lia)
 have hsz1 : (er (cg i t k).dl).length ≤ 500 := by rw [dy]; exact hsz
 rw [← eQ] at hq
 generalize cg i t k = t1 at h2 hb1 hN1 hNN1 hps1 ho1 hsz1 hq
 dsimp only at h2
 with_reducible refine Go.wIn1 (kI B (hh' _) (hroom2 _) hb1 (by rw [hN1]; simp) hsz1 hnm hrw ?_ fun e => by rw [hq] at e; cases e)
 intro q2 s2 e2 T k1 k2 k3 dl' pm' hs' ha
 rw [hq] at e2
 cases e2
 rw [hN1, ai] at ha
 obtain ⟨ND', lD', hND, hNa, hla⟩ : ∃ ND' lD', dl' = ND' ++ [lD'] ∧ ND'.map (·.a) = ND.map (·.a) ∧ lD'.a = lD.a := by
  have hne : dl' ≠ [] := fun e => by rw [e] at ha; simp at ha
  refine ⟨dl'.dropLast, dl'.getLast hne, (List.dropLast_concat_getLast hne).symm, ?_⟩
  rw [← List.dropLast_concat_getLast hne, ai] at ha
  have := List.append_inj' ha rfl
  exact ⟨this.1, by simpa using this.2⟩
 with_reducible refine Go.wOutT (aO fun _ => lm .here ?_); refine dG (by simp only [ah, af]; apply aD; with_reducible assumption; decide) ?_; intro _; refine br (by simp only [ah, af]; apply aD; apply aF; apply aF; exact aj (by assumption); exact aj (by assumption); with_reducible assumption; decide) ?_; refine a0 (aI ?_); intro _ _; refine br (by simp only [ah, af]; apply aD; apply aF; apply aF; apply aF; exact aj (by assumption); exact aj (by assumption); with_reducible assumption; exact aj (by assumption); decide) ?_; refine gK ?_; refine gL (by simp only [ah, af]; apply aD; apply aF; apply aF; apply aF; exact aj (by assumption); exact aj (by assumption); with_reducible assumption; exact aj (by assumption); decide) ?_; intro _; refine aH (cw (.there (.there cI)) ?_)
 rename_i tj
 with_reducible refine gJ (by dsimp only; (apply aD; with_reducible assumption; decide)) (.there (.there cI)) (.t2 (lk _)) ?_
 show Go h0 o0 (_ :: _ :: wr prog w i { t1 with dl := dl', pm := pm', out := t1.out ++ [(Str.empty ++ ofString "</" ++ q ++ ofString ">", tj)] } V) _
 with_reducible refine aJ (aE (bf (bi (b8 (.there .here) (.n .here) (.there (.there a9)) (.there (.there aS)) jP (kC (.there (.there jJ)) ?_))))); refine fn ?_
 refine Go.sub (ak _ _) ?_
 have ePs : t1.ps.map Value.bool = pp.map Value.bool ++ [.bool bp] := by rw [hps1, ai]; rfl
 with_reducible refine kA (ys := pp.map Value.bool) (y := .bool bp) ePs (.there (pw_PS pp)) (by rw [ag, af]; have := hb1.psz; (apply aD; with_reducible assumption; decide)) ?_
 show Go h0 o0 (_ :: wr prog w i { t1 with dl := dl', pm := pm', out := t1.out ++ [(Str.empty ++ ofString "</" ++ q ++ ofString ">", tj)], ps := pp } V) _
 have hpl : pp.length ≤ 1000 := by have := hb1.psz; rw [hps1, ao] at this; (lia)
 with_reducible refine aJ (aE (cn (gU (aW (bG ?_))))); refine gV (aA (b8 .here (.n .here) (.there a9) (.there aS) jP (aH ?_))); refine iK (.there jJ) (by dsimp only; rw [ag, af]; (apply aD; with_reducible assumption; decide)) ?_; intro tl; refine aO fun _ => cP (aG .here (.n .here) ?_)
 rw [show (((pp.map Value.bool).length : Int) == 1) = (pp.length == 1) from by
  rw [ag]
  by_cases h : pp.length = 1
  ·rw [h]; rfl
  ·have h2 : ¬ (pp.length : Int) = 1 := by (lia)
   rw [beq_eq_false_iff_ne.mpr h, beq_eq_false_iff_ne.mpr h2]]
 with_reducible refine w_rd B (.there a9) (.there (pw_rd _)) ?_
 show Go h0 o0 (_ :: wr prog w i { t1 with dl := dl', pm := pm', out := t1.out ++ [(Str.empty ++ ofString "</" ++ q ++ ofString ">", tj)], ps := pp, rd := pp.length == 1 } V) _
 with_reducible refine aJ (aE (bf (bi (b8 .here (.n .here) (.there a9) (.there aS) l9 (kC (.there l6) ?_))))); refine fn ?_
 have hdl : dl'.length ≤ 1000 := by
  have := congrArg List.length hNa
  rw [ag, ag] at this
  have h3 := hb1.dlz
  rw [hN1, ao] at h3
  rw [hND, ao]; simp only [List.length_cons, List.length_nil] at h3 ⊢; (lia)
 refine k_popD (N := ND') (l := lD') hND (by dsimp only; (apply aD; with_reducible assumption; decide)) ?_
 show Go h0 o0 (_ :: wr prog w i { t1 with dl := ND', pm := pm', out := t1.out ++ [(Str.empty ++ ofString "</" ++ q ++ ofString ">", tj)], ps := pp, rd := pp.length == 1 } V) _
 with_reducible refine aJ (aE (bf (bi (b8 .here (.n .here) (.there a9) (.there aS) l8 (kC (.there l5) ?_))))); refine fn ?_
 refine k_popN (N := NN) (l := lN) hNN1 (by have := hb1.nlz; dsimp only; (apply aD; with_reducible assumption; decide)) ?_
 show Go h0 o0 (_ :: wr prog w i { t1 with dl := ND', pm := pm', out := t1.out ++ [(Str.empty ++ ofString "</" ++ q ++ ofString ">", tj)], nl := NN, ps := pp, rd := pp.length == 1 } V) _
 with_reducible refine aJ (aL (ia ?_))
 refine Go.sub (ak _ _) (h2 tj pm' ND' ?_ ?_)
 ·rw [← hs']; rfl
 ·rw [← hs', show (QS.of { t1 with dl := dl', pm := pm' }).dl = dl'.map Lv.v from rfl, hND, ai]; simp
theorem pR {a n1 : Addr} {tag : Str} {u : Tok} {T : az} {dd : List (Str × Value)} {R : RP} (B : Base (KF w.params) h0) (hh : A.handled = none) (hroom : A.depth < recursionLimit) (hea : i.ea = .none)
  (ha : Has V a (aM prog w dd)) (hdl : dd.length ≤ 6)
  (h : ∀ L S q, Go h0 o0 ([(L, cNs [(ofString "tag", .str tag u), (ofString "attrs", .ref a), (ofString "new_namespaces", .ref n1), (ofString "qname_text", .none), (ofString "qattrs", .none), (ofString "qnames", .ref S)]), (S, bj true w (bV [tag] (dd.map (·.1)))), (q, dJ iW i.x), (L + 1 + 1, aN (some (.ref q))), (L + 1, aN (some (.ref i.x)))] ++ (T ++ wr prog w i t V))
   (wpAny (model prog w) (A.deeper (callEnvC (aK (KF w.params) aB) L aB)) (execs ((aZ (KF w.params) aB).drop 6) (callEnvC (aK (KF w.params) aB) L aB)) (RK R) (jA (model prog w) (A.deeper (callEnvC (aK (KF w.params) aB) L aB)) (callEnvC (aK (KF w.params) aB) L aB) R))) :
  Go h0 o0 (T ++ wr prog w i t V) (codeAny (model prog w) A (.call (.ref aB) ⟨[.ref i.x, .str tag u, .ref a, .ref n1], []⟩) R) := by
 have e1 : handedIn i.ea = true := by rw [hea]; rfl
 have hh' : ∀ env, (A.deeper env).handled = none := fun _ => hh
 refine nj (binds := [(ofString "self", .ref i.x), (ofString "tag", .str tag u), (ofString "attrs", .ref a), (ofString "new_namespaces", .ref n1), (ofString "qname_text", .none)]) B (by kernel_rfl!) (by with_reducible assumption) (fun s X => by with_reducible refine kp_binds X ?_; intro S; kernel_rfl!) fun L => ?_
 rw [show (cellsFrom (L + 1) (aK (KF w.params) aB).scope.names []) = [(ofString "parse_qname", L + 1 + 1), (ofString "self", L + 1)] from by kernel_rfl!]
 show Go h0 o0 ((L, cNs []) :: (L + 1 + 1, aN none) :: (L + 1, aN none) :: (T ++ wr prog w i t V)) _
 refine n8 ?_
 with_reducible refine fj (c := L + 1) (.there (.there .here)) (n8 (aR .here .new (n8 (aR .here (.n .new) (n8 ?_))))); refine aR .here (.n (.n .new)) (n8 (aR .here (.n (.n (.n .new))) (sa_n ?_)))
 refine aE ?_
 refine bt ?_
 with_reducible refine bZ (bB (bc (dH (bF (.there (.there .here)) (fS B (.t2 (.there (.skip a9))) (.t2 (.there (.skip aS))) tg_ea e1 ?_)))))
 rw [hea]
 with_reducible refine cG (fX (aP (kB (dh (aL ?_))))); refine aJ (aE (bK ?_))
 refine e_setd B (by kernel_rfl!) (by simp) (hh' _) (by with_unfolding_all rfl) ?_
 intro S
 with_reducible refine aG (.there .here) .here ?_
 refine sd1 ?_
 with_reducible refine aG (.there .here) (.n .here) ?_
 refine sd2 (.t2 (.there (.skip (bR ha)))) hdl ?_
 with_reducible refine aR (.there .here) (.n (.n (.n (.n .new)))) (aJ (aE (bK (jr fun _ => aR (.there (.there .here)) (.n4 (.n .new)) ?_)))); refine aJ (aE (bt (bc (aG (.there (.there .here)) (.n (.n (.n .here))) (cG ?_))))); refine fX (aP (kB (aL (aJ (aE ?_))))); refine bt (bZ (bB (bc (dH (bF (.t2 (.there (.there .here))) ?_))))); refine fS (by assumption) (.t4 (.there (.skip a9))) (.t4 (.there (.skip aS))) tg_qa (by kernel_rfl!) ?_; refine cG (fX (aP (kB (dh (aE ?_))))); refine bK (cG (aR (.there (.there .here)) (.n4 (.n (.n .new))) (aJ (aL (aJ ?_))))); refine aE (bK (dH (bF (.t2 (.there (.there .here))) ?_)))
 have hbq : jw (KF w.params) bX (ofString "_qname") iW = true := by kernel_rfl!
 have hnq : (cj i t).lookup (ofString "_qname") = none := tg_no (by decide +kernel)
 with_reducible refine k_bind B (.t4 (.there (.skip a9))) (.t4 (.there (.skip aS))) hnq hbq fun q => fj (.t2 (.there (.there .here))) ?_
 refine aJ ?_
 refine Go.thin (a := L) (m' := [(ofString "tag", .str tag u), (ofString "attrs", .ref a), (ofString "new_namespaces", .ref n1), (ofString "qname_text", .none), (ofString "qattrs", .none), (ofString "qnames", .ref S)]) (.t2 (.there .here)) (.cons .here (.cons (.n .here) (.cons (.n (.n .here)) (.cons (.n (.n (.n .here))) (.cons (.n4 (.n (.n .here))) (.cons (.n (.n (.n (.n .here)))) .nil)))))) ?_
 exact Go.sel (cs' := (L, cNs [(ofString "tag", .str tag u), (ofString "attrs", .ref a), (ofString "new_namespaces", .ref n1), (ofString "qname_text", .none), (ofString "qattrs", .none), (ofString "qnames", .ref S)]) :: (S, bj true w (bV [tag] (dd.map (·.1)))) :: (q, dJ iW i.x) :: (L + 1 + 1, aN (some (.ref q))) :: (L + 1, aN (some (.ref i.x))) :: (T ++ wr prog w i t V)) (.pick (.t2 (.there .here)) (.pick (.there (.there .here)) (.pick .here (.pick (.there .here) (.pick (.there .here) (.tail (.there .refl))))))) (h L S q)
noncomputable abbrev lamPos : Pos := ⟨136, 71, 136, 96⟩
noncomputable abbrev lamQ : Str := ofString "C14NWriterTarget._start.<locals>.<lambda>"
noncomputable def κQ (x : Str) : List Str := Txt.splitMax x (ofString "}") 1
theorem cO {rw : Bool} {s s' : QS} {x : Str} {r : List Str} {l : List (Str × Str)} (h : bx rw s (x :: r) = some (l, s')) : ∃ q s1 l2, d8 rw s (bI x).1 (bI x).2 = some (q, s1) ∧ bx rw s1 r = some (l2, s') ∧ l = (x, q) :: l2 := by
 unfold bx at h
 split at h
 ·cases h
 ·rename_i q s1 h1
  split at h
  ·cases h
  ·rename_i l2 s2 h2
   cases h
   exact ⟨q, s1, l2, h1, h2, rfl⟩
theorem cz {x : Str} (h : fB x = true) : x.length ≤ 100 ∧ (bI x).1.length ≤ 100 ∧ (bI x).2.length ≤ 100 := by
 unfold fB at h
 simp only [Bool.and_eq_true, decide_eq_true_eq] at h
 exact ⟨h.1.1.1, h.1.2, h.2⟩
theorem eJ {α : Type} {f : α → Str} {g : α → Value} : ∀ {l : List α}, (l.map f).Nodup → ∀ q ∈ l, valueAt (l.map fun q => (f q, g q)) (f q) = some (g q)
 | [], _, q, h => by cases h
 | a :: r, nd, q, h => by
  rw [ap, List.nodup_cons] at nd
  rcases List.mem_cons.mp h with rfl | h
  ·simp [valueAt]
  ·have hne : ¬ f a = f q := fun e => nd.1 (e ▸ aq h)
   have := eJ (g := g) nd.2 q h
   rw [← this]
   simp [valueAt, hne]
theorem j5 {rw : Bool} {U : List Str} (hU : UOk U) : ∀ {xs : List Str} {n : Nat} {s s' : QS} {l : List (Str × Str)}, QB U n s → (∀ x ∈ xs, fB x = true ∧ (bI x).1 ∈ U) → bx rw s xs = some (l, s') →
  l.map (·.1) = xs ∧ (∀ p ∈ l, p.2.length ≤ 201) ∧ QB U (n + xs.length) s' ∧ s'.nl = s.nl ∧ s'.dl.length = s.dl.length
 | [], n, s, s', l, hb, _, h => by cases h; exact ⟨rfl, (by intro p hp; cases hp), hb, rfl, rfl⟩
 | x :: r, n, s, s', l, hb, hx, h => by
  obtain ⟨q, s1, l2, h1, h2, rfl⟩ := cO h
  have hx0 := hx x au
  obtain ⟨b1, b2, b3, b4⟩ := hb.step hx0.2 (cz hx0.1).2.2 hU h1
  obtain ⟨c1, c2, c3, c4, c5⟩ := j5 hU b1 (fun y hy => hx y (am _ hy)) h2
  refine ⟨by rw [ap, c1], fun p hp => ?_, by rw [List.length_cons, show n + (r.length + 1) = n + 1 + r.length from by (lia)]; exact c3, c4.trans b3, c5.trans b4⟩
  rcases List.mem_cons.mp hp with rfl | hp
  ·exact b2
  ·exact c2 p hp
noncomputable def mY (l : List (Str × Str)) (k : Str) : Str × Str × Str := ((l.lookup k).getD Str.empty, (bI k).2, (bI k).1)
theorem qfL_mem {l : List (Str × Str)} {k : Str} (h : k ∈ l.map (·.1)) : (k, (mY l k).1) ∈ l := by
 unfold mY
 cases e : l.lookup k with
 | none => exact absurd h (fZ e)
 | some p => exact gI e
theorem dB : ∀ (r ks : List Str), ks.Nodup → (bV ks r).Nodup
 | [], ks, h => h
 | x :: r, ks, h => by
  unfold bV
  refine dB r _ ?_
  split
  ·exact h
  ·rename_i hx
   rw [List.nodup_append]
   exact ⟨h, by simp, fun a ha b hb => by rw [List.mem_singleton] at hb; subst hb; exact fun e => hx (e ▸ ha)⟩
theorem de {V1 V2 : az} (h : V1.Sublist V2) : (wr prog w i t V1).Sublist (wr prog w i t V2) := by
 rw [ci (V := V1), ci (V := V2)]
 exact List.Sublist.append (List.Sublist.refl _) h
noncomputable def xmlPr : Sp := (ofString "http://www.w3.org/XML/1998/namespace", ofString "xml")
noncomputable def bC : List Sp := [(ofString "http://www.w3.org/XML/1998/namespace", ofString "xml"), (ofString "http://www.w3.org/1999/xhtml", ofString "html"), (ofString "http://www.w3.org/1999/02/22-rdf-syntax-ns#", ofString "rdf"), (ofString "http://schemas.xmlsoap.org/wsdl/", ofString "wsdl"), (ofString "http://www.w3.org/2001/XMLSchema", ofString "xs"), (ofString "http://www.w3.org/2001/XMLSchema-instance", ofString "xsi"), (ofString "http://purl.org/dc/elements/1.1/", ofString "dc")]
structure Ab where
 (out data : List Str) (q : QS) (ps : List Bool) (rs rd : Bool)
theorem mapDIn (B : Base (KF w.params) h0) : ∃ kvs : List (Str × Str × Tok), kvs.map (fun p => (p.1, p.2.1)) = bC ∧ DIn prog w h0 aMap (dv2 kvs) :=
 ⟨[(ofString "http://www.w3.org/XML/1998/namespace", ofString "xml", 323), (ofString "http://www.w3.org/1999/xhtml", ofString "html", 325), (ofString "http://www.w3.org/1999/02/22-rdf-syntax-ns#", ofString "rdf", 327), (ofString "http://schemas.xmlsoap.org/wsdl/", ofString "wsdl", 329), (ofString "http://www.w3.org/2001/XMLSchema", ofString "xs", 331), (ofString "http://www.w3.org/2001/XMLSchema-instance", ofString "xsi", 333), (ofString "http://purl.org/dc/elements/1.1/", ofString "dc", 335)], rfl, DIn.lit (kvs := [(ofString "http://www.w3.org/XML/1998/namespace", 322, .str (ofString "xml") 323), (ofString "http://www.w3.org/1999/xhtml", 324, .str (ofString "html") 325), (ofString "http://www.w3.org/1999/02/22-rdf-syntax-ns#", 326, .str (ofString "rdf") 327), (ofString "http://schemas.xmlsoap.org/wsdl/", 328, .str (ofString "wsdl") 329), (ofString "http://www.w3.org/2001/XMLSchema", 330, .str (ofString "xs") 331), (ofString "http://www.w3.org/2001/XMLSchema-instance", 332, .str (ofString "xsi") 333), (ofString "http://purl.org/dc/elements/1.1/", 334, .str (ofString "dc") 335)]) (ep := 7) (B.X _ _ (by kernel_rfl!)) (by decide +kernel)⟩
theorem pr_of : ∀ {ps : List (Addr × (Str × Tok) × Value)} {kvs : List (Str × Str × Tok)}, ps.map (fun p => (p.2.1.1, p.2.2)) = dv2 kvs → ∃ qs : List Pr, qs.map Pr.cell = aQ ps ∧ qs.map Pr.v = kvs.map (fun p => (p.1, p.2.1)) ∧ qs.map (·.a) = ps.map (·.1)
 | [], [], _ => ⟨[], rfl, rfl, rfl⟩
 | [], _ :: _, h => by cases h
 | _ :: _, [], h => by cases h
 | p :: r, q :: s, h => by
  unfold dv2 at h
  rw [ap, ap] at h
  obtain ⟨h1, h2⟩ := List.cons.inj h
  obtain ⟨e1, e2⟩ := Prod.mk.inj h1
  obtain ⟨qs, a1, a2, a3⟩ := pr_of (ps := r) (kvs := s) h2
  obtain ⟨a, ⟨k, ku⟩, v⟩ := p
  dsimp only at e1 e2
  subst e1 e2
  exact ⟨⟨a, q.1, ku, q.2.1, q.2.2⟩ :: qs, by rw [ap, a1]; rfl, by rw [ap, a2]; rfl, by rw [ap, a3]; rfl⟩
theorem Pick.wr {a : Addr} {c : bM} {V1 : az} (h : Pick V a c V1) : Pick (wr prog w i t V) a c (wr prog w i t V1) := by rw [ci, ci (V := V1)]; exact h.skip
theorem pj {outer : List Env} {env0 : Env} {cl : List (Str × Addr)} {scope : Scope} {L Lf e : Addr} {cls : String} {tv c : Value} {X : Option Addr} {m : List (Str × Value)} (hp : Pick cs' L (cNs m) cs) (hA : A.frames = some (env0 :: outer)) (hf0 : env0.frame = some Lf) (hf : env.frame = some Lf) (hfr : FrOk cs (env0 :: outer))
  (h : ∀ T, Go h0 o0 (cV e cls tv c (some T) ++ cs) (E (.ref e))) : Go h0 o0 (cV e cls tv c X ++ cs') (kO (model prog w) A env cl scope E L (.ref e)) :=
 Go.perm (List.Perm.append_left _ hp.perm.symm) (k_cmp (m := m) hA hf0 hf hfr h)
theorem gD {rw : Bool} {x q : Str} {s1 s2 : QS} (h : d8 rw s1 (bI x).1 (bI x).2 = some (q, s2)) : ∀ {xs : List Str} {s : QS} {l : List (Str × Str)}, bx rw s xs = some (l, s1) → bx rw s (xs ++ [x]) = some (l ++ [(x, q)], s2)
 | [], s, l, e => by
  cases e
  show bx rw _ [x] = some ([(x, q)], s2)
  unfold bx; rw [h]; rfl
 | y :: r, s, l, e => by
  obtain ⟨q1, s3, l2, h1, h2, rfl⟩ := cO e
  show bx rw s (y :: (r ++ [x])) = _
  unfold bx; rw [h1]; dsimp only; rw [gD h h2]; rfl
theorem cs_C {L S q a' n1 : Addr} {tag : Str} {u : Tok} {T : az} {ks xs : List Str} {R : RP} {U : List Str} {n0 : Nat} {outer : List Env} (B : Base (KF w.params) h0) (LB : LamBase h0 cU be) (hh : A.handled = none) (hroom : A.depth + 3 < recursionLimit) (hu : A.units + 1000 < cLine)
  (hA : A.frames = some outer) (hfr : FrOk V outer) (hrw : i.rw = false)
  (hT : Tb be lamPos lamQ T) (hb : WB t) (hd : t.dl ≠ []) (hU : UOk U) (hqb : QB U n0 (QS.of t)) (hn0 : n0 ≤ 480) (hk0 : ks ≠ []) (h5 : ks.length ≤ 6) (nd : ks.Nodup) (hok : ∀ x ∈ ks, fB x = true ∧ (bI x).1 ∈ U) (inj : ∀ x ∈ ks, ∀ y ∈ ks, κQ x = κQ y → x = y)
  (hx : xs.Perm ks) (hxr : dr (fun x y => dW (κQ x) (κQ y)) xs)
  (h : ∀ l s', bx i.rw (QS.of t) xs = some (l, s') → ∀ D2 dd dl pm T' X, QS.of { t with dl := dl, pm := pm } = s' → dl.map (·.a) = t.dl.map (·.a) → Tb be lamPos lamQ T' → Has X D2 (aM prog w dd) → (∀ p ∈ l, ∃ Tq k1 k2 k3, valueAt dd p.1 = some (.ref Tq) ∧ Has X Tq (a8 [.str p.2 k1, .str (bI p.1).2 k2, .str (bI p.1).1 k3])) →
   Go h0 o0 ((L, cNs [(ofString "tag", .str tag u), (ofString "attrs", .ref a'), (ofString "new_namespaces", .ref n1), (ofString "qname_text", .none), (ofString "qattrs", .none), (ofString "parsed_qnames", .ref D2)]) :: (L + 1, aN (some (.ref i.x))) :: wr prog w i { t with dl := dl, pm := pm } (X ++ (T' ++ V)))
   (wpAny (model prog w) (A.deeper (callEnvC (aK (KF w.params) aB) L aB)) (execs ((aZ (KF w.params) aB).drop 7) (callEnvC (aK (KF w.params) aB) L aB)) (RK R) (jA (model prog w) (A.deeper (callEnvC (aK (KF w.params) aB) L aB)) (callEnvC (aK (KF w.params) aB) L aB) R)))
  (hE : ∀ n x l s1, xs[n]? = some x → bx i.rw (QS.of t) (xs.take n) = some (l, s1) → d8 i.rw s1 (bI x).1 (bI x).2 = none → ∀ T' dl pm e t0 k X, Tb be lamPos lamQ T' →
   Go h0 o0 (cV e "ValueError" (.ref t0) .none (some X) ++ ((t0, a8 [.str (kP (bI x).1) k]) :: (T' ++ wr prog w i { t with dl := dl, pm := pm } V))) (R (.error (.ref e)))) :
  Go h0 o0 ([(L, cNs [(ofString "tag", .str tag u), (ofString "attrs", .ref a'), (ofString "new_namespaces", .ref n1), (ofString "qname_text", .none), (ofString "qattrs", .none), (ofString "qnames", .ref S)]), (S, bj true w ks), (q, dJ iW i.x), (L + 1 + 1, aN (some (.ref q))), (L + 1, aN (some (.ref i.x)))] ++ (T ++ wr prog w i t V))
   (wpAny (model prog w) (A.deeper (callEnvC (aK (KF w.params) aB) L aB)) (execs ((aZ (KF w.params) aB).drop 6) (callEnvC (aK (KF w.params) aB) L aB)) (RK R) (jA (model prog w) (A.deeper (callEnvC (aK (KF w.params) aB) L aB)) (callEnvC (aK (KF w.params) aB) L aB) R)) := by
 have hh' : ∀ env, (A.deeper env).handled = none := fun _ => hh
 have hroom' : ∀ env, (A.deeper env).depth + 1 < recursionLimit := fun _ => by show A.depth + 1 + 1 < _; (exact aX 1 (by with_reducible assumption))
 have hroom1 : ∀ env, (A.deeper env).depth < recursionLimit := fun _ => by show A.depth + 1 < _; (exact aX 2 (by with_reducible assumption))
 have hroom2 : ∀ env, (A.deeper env).depth + 2 < recursionLimit := fun _ => by show A.depth + 1 + 2 < _; (with_reducible assumption)
 have bSor : bD h0 (ofString "sorted") (.builtin "sorted") := B.bltAt (by kernel_rfl!) (by kernel_rfl!) (by decide +kernel) (by decide +kernel)
 have hxn : xs.Nodup := hx.nodup_iff.mpr nd
 have hA1 : (A.deeper (callEnvC (aK (KF w.params) aB) L aB)).frames = some (callEnvC (aK (KF w.params) aB) L aB :: outer) := Around.frames_deeper hA
 refine aE ?_
 refine s_cdlE (cl := [(ofString "parse_qname", L + 1 + 1)]) (hh' _) (by kernel_rfl!) (by kernel_rfl!) (by decide) rfl (by decide) ?_ (fun _ => by with_unfolding_all rfl)
 with_reducible refine e_ckw ?_ (by with_unfolding_all rfl)
 show Go h0 o0 (_ :: _ :: _ :: _ :: _ :: (T ++ wr prog w i t V)) _
 with_reducible refine bG ?_
 refine c_kw ?_ (by with_unfolding_all rfl) (by with_unfolding_all rfl) (by with_unfolding_all rfl) (by with_unfolding_all rfl)
 with_reducible refine aA (aG .here (.n4 (.n .here)) (aH ?_))
 refine kwk rfl ?_
 refine e_lam (X := [_, _, _, _, _]) LB hT (by with_unfolding_all rfl) (by kernel_rfl!) (by kernel_rfl!) (by kernel_rfl!) (by kernel_rfl!) ?_
 intro f c'
 show Go h0 o0 (_ :: _ :: _ :: _ :: _ :: _ :: _ :: _ :: wr prog w i t V) _
 refine oZ (κ := κQ) (hh' _) (by show A.units + 3 + 2 < cLine; (lia)) (.t2 (.there (.there .here))) hk0 h5 nd inj ?_ ?_
 ·intro cs1 x ux Q hxm hsub hq
  refine k_lam (x := ofString "n") B.lim (Has.of_mem (hsub _ au)) (Has.of_mem (hsub _ (am _ au))) (by show A.depth + 1 < recursionLimit; (exact aX 2 (by with_reducible assumption))) (fun pm ctv => by with_unfolding_all rfl) (by with_unfolding_all rfl) rfl rfl rfl (by decide) ?_
  intro L3
  with_reducible refine bi (aG .here .here (g_split (cT (aA (aI ?_))))); intro _ _; refine aA (aO fun _ => aH ?_); refine oX (by decide +kernel) (by decide +kernel) (by have := (cz (hok x hxm).1).1; rw [af]; (apply aD; apply aF; with_reducible assumption; exact ae _; decide)) ?_; intro a2 l2 hl2
  refine Go.weak (c' := dI (κQ x)) .here (fun o ho => ⟨l2, hl2, ho⟩) (Go.sub (List.Sublist.cons_cons _ (ak _ _)) (hq a2))
 intro D zs hzp hzr
 have hzs : zs.map (·.1) = xs := dQ (c := fun x y => dW (κQ x) (κQ y)) (f := fun x => x) (fun x => ltL_irr _) (fun x y z => fE) (hzp.trans hx.symm) (by rw [List.map_id']; exact hzr) (by rw [List.map_id']; exact hxr)
 have hzl : zs.length ≤ 6 := by have := hzp.length_eq; rw [ag] at this; (lia)
 refine Go.thin (a := L) (m' := [(ofString "tag", .str tag u), (ofString "attrs", .ref a'), (ofString "new_namespaces", .ref n1), (ofString "qname_text", .none), (ofString "qattrs", .none)]) (.t2 (.there (.there .here))) (.cons .here (.cons (.n .here) (.cons (.n (.n .here)) (.cons (.n (.n (.n .here))) (.cons (.n (.n (.n (.n .here)))) .nil))))) ?_
 refine Go.sel (cs' := (c', b7 lamQ) :: (be, cTab #[rawInt lamPos.line, rawInt lamPos.col, .ref c']) :: (D, ay (tv zs)) :: (L, cNs [(ofString "tag", .str tag u), (ofString "attrs", .ref a'), (ofString "new_namespaces", .ref n1), (ofString "qname_text", .none), (ofString "qattrs", .none)]) :: (q, dJ iW i.x) :: (L + 1 + 1, aN (some (.ref q))) :: (L + 1, aN (some (.ref i.x))) :: wr prog w i t V) (.pick (.there (.there .here)) (.pick (.there (.there .here)) (.pick .here (.pick (.there .here) (.pick (.there (.there .here)) (.pick (.there (.there .here)) (.pick (.there (.there .here)) (.tail (.there (.there .refl)))))))))) ?_
 refine Go.wPull (X := [_, _]) (Y := [_, _, _, _, _]) ?_
 have hT2 : Tb be lamPos lamQ [(c', b7 lamQ), (be, cTab #[rawInt lamPos.line, rawInt lamPos.col, .ref c'])] := .one
 generalize [(c', (b7 lamQ : bM)), (be, cTab #[rawInt lamPos.line, rawInt lamPos.col, .ref c'])] = T2 at hT2 ⊢
 refine lkE (xs := tv zs) (fun n ys C => ∃ dl pm, ∃ ts : List (Addr × Str × Str), ∃ X, dl.map (·.a) = t.dl.map (·.a) ∧ QB U (n0 + n) (QS.of { t with dl := dl, pm := pm }) ∧ bx i.rw (QS.of t) (xs.take n) = some (ts.map (·.2), QS.of { t with dl := dl, pm := pm }) ∧ ts.map (·.2.1) = xs.take n ∧ ys = ts.map (fun q => (q.2.1, Value.ref q.1)) ∧
  (∀ r ∈ ts, ∃ k1 k2 k3, Has X r.1 (a8 [.str r.2.2 k1, .str (bI r.2.1).2 k2, .str (bI r.2.1).1 k3])) ∧ C = [(D, ay (tv zs)), (L, cNs [(ofString "tag", .str tag u), (ofString "attrs", .ref a'), (ofString "new_namespaces", .ref n1), (ofString "qname_text", .none), (ofString "qattrs", .none)]), (q, dJ iW i.x), (L + 1 + 1, aN (some (.ref q))), (L + 1, aN (some (.ref i.x)))] ++ wr prog w i { t with dl := dl, pm := pm } (X ++ (T2 ++ V)))
  ⟨t.dl, t.pm, [], [], rfl, hqb, rfl, rfl, rfl, (by intro r hr; cases hr), rfl⟩ (by unfold tv; rw [ag, af]; (apply aD; with_reducible assumption; decide)) ?_ ?_ ?_
 ·rintro n ys C ⟨dl, pm, ts, X, _, _, _, _, _, _, rfl⟩
  exact .here
 ·rintro L2 n v ys C K' hv ⟨dl, pm, ts, X, ha, hqn, hrun, htx, rfl, hX, rfl⟩
  obtain ⟨z, hz, rfl⟩ : ∃ z, zs[n]? = some z ∧ v = Value.str z.1 z.2 := by
   unfold tv at hv
   rw [List.getElem?_map] at hv
   cases hzz : zs[n]? with
   | none => rw [hzz] at hv; cases hv
   | some p => rw [hzz] at hv; exact ⟨p, rfl, by cases hv; rfl⟩
  have hxz : xs[n]? = some z.1 := by rw [← hzs, List.getElem?_map, hz]; rfl
  have hnl : n < xs.length := (List.getElem?_eq_some_iff.mp hxz).1
  have hxl : xs.length ≤ 6 := by rw [← hzs, ag]; exact hzl
  have htk : xs.take (n + 1) = xs.take n ++ [z.1] := by rw [List.take_add_one, hxz]; rfl
  have hzo := hok z.1 (hx.mem_iff.mp (List.mem_of_getElem? hxz))
  obtain ⟨hwb, hpz⟩ := hb.of hqn (by lia) hU
  have hdl : dl ≠ [] := fun e => hd (List.map_eq_nil_iff.mp (by rw [← ha, e]; rfl))
  show Go h0 o0 (_ :: _ :: _ :: _ :: _ :: _ :: (wr prog w i { t with dl := dl, pm := pm } (X ++ (T2 ++ V)) ++ K')) _
  rw [← bP]
  with_reducible refine nn (aR .here .new (aG .here .here (aW (bF (.t2 (.there (.there .here))) ?_))))
  refine c_meth (x := i.x) B (show fnIn _ iW = true from by kernel_rfl!) ?_ (by with_unfolding_all rfl) (by with_unfolding_all rfl)
  with_reducible refine aA (aG .here .here (aH ?_))
  refine bk (.t2 (.there .here)) ?_
  refine Go.wIn [_, _, _, _, _, _] ?_
  refine kI B (hh' _) (hroom2 _) hwb hdl (Nat.le_trans hpz (by decide)) hzo.1 hrw ?_ ?_
  ·intro q1 s1 hq1 Tq k1 k2 k3 dl' pm' hs' ha'
   obtain ⟨hQ1, _, _, _⟩ := hqn.step hzo.2 (cz hzo.1).2.2 hU hq1
   refine Go.mono (P := CV h0 o0 _ _ _ _ _ _) ?_ (fun _ q => q)
   refine Go.wOutTX (X := [_, _, _, _, _, _]) ?_
   refine Go.wPull (X := [_]) (Y := [_, _, _, _, _, _]) ?_
   refine cv0 (m := [(ofString "n", .str z.1 z.2)]) (C' := [(D, ay (tv zs)), (L, cNs [(ofString "tag", .str tag u), (ofString "attrs", .ref a'), (ofString "new_namespaces", .ref n1), (ofString "qname_text", .none), (ofString "qattrs", .none)]), (q, dJ iW i.x), (L + 1 + 1, aN (some (.ref q))), (L + 1, aN (some (.ref i.x)))] ++ wr prog w i { t with dl := dl', pm := pm' } (((Tq, a8 [.str q1 k1, .str (bI z.1).2 k2, .str (bI z.1).1 k3]) :: X) ++ (T2 ++ V))) ⟨dl', pm', ts ++ [(Tq, z.1, q1)], _, ha'.trans ha, ?_, ?_, ?_, ?_, ?_, rfl⟩ ?_
   ·rw [show QS.of { t with dl := dl', pm := pm' } = s1 from hs']
    exact hQ1
   ·rw [show QS.of { t with dl := dl', pm := pm' } = s1 from hs', htk, ai]
    exact gD hq1 hrun
   ·rw [ai, htx, htk]; rfl
   ·have hnew : z.1 ∉ (ts.map (fun q => (q.2.1, Value.ref q.1))).map (·.1) := by
     intro hm
     rw [List.map_map, show ts.map ((fun x : Str × Value => x.1) ∘ fun q => (q.2.1, Value.ref q.1)) = ts.map (·.2.1) from rfl, htx] at hm
     obtain ⟨j, hj, hje⟩ := List.getElem_of_mem hm
     rw [List.length_take] at hj
     rw [List.getElem_take] at hje
     have h1 : xs[j]? = some z.1 := by rw [List.getElem?_eq_getElem (by lia), hje]
     have := (List.getElem?_inj (by lia) hxn).mp (h1.trans hxz.symm)
     (lia)
    rw [cN hnew, ai]; rfl
   ·intro r hr
    rcases List.mem_append.mp hr with hr | hr
    ·obtain ⟨j1, j2, j3, hh⟩ := hX r hr
     exact ⟨j1, j2, j3, .there hh⟩
    ·rw [List.mem_singleton] at hr; subst hr; exact ⟨k1, k2, k3, .here⟩
   ·simp only [List.cons_append, List.nil_append, an, ← bP]
  ·intro hq1
   have hfV : FrOk (X ++ (T2 ++ V) ++ K') outer := by
    rw [an, an]
    exact (hfr.sub fun p hp => List.mem_append_left _ hp).skip.skip
   refine ⟨_, hA1, FrOk.cons (by kernel_rfl!) rfl (.there (.there .here)) (hfV.skip), fun e t0 k X0 => ?_⟩
   refine pj (m := [(ofString "n", .str z.1 z.2)]) (.there (Pick.wr .here)) hA1 rfl rfl (FrOk.cons (by kernel_rfl!) rfl (.there (bR (.there .here))) (hfV.skip (X := [_, _, _, _, _])).wr.there) fun X1 => ?_
   refine cc hA1 rfl (FrOk.cons (by kernel_rfl!) rfl (.there (bR (.there .here))) (hfV.skip (X := [_, _, _, _, _])).wr.there) fun X2 => ?_
   refine Go.sub (List.Sublist.append_left (List.Sublist.cons_cons _ (de (V1 := T2 ++ V) ?_)) _) (Go.perm (List.Perm.append_left _ (List.Perm.cons _ wr_in.symm)) (hE n z.1 _ _ hxz hrun hq1 T2 dl pm e t0 k X2 hT2))
   exact (List.sublist_append_right _ _).trans ((List.sublist_append_left _ _).trans (List.sublist_append_right _ _))
 ·rintro L2 D2 ys C ⟨dl, pm, ts, X, ha, hqn, hrun, htx, rfl, hX, rfl⟩
  have hxl : (tv zs).length = xs.length := by unfold tv; rw [← hzs, ag, ag]
  rw [hxl, List.take_length] at hrun htx
  have hnt : (ts.map (·.2.1)).Nodup := by rw [htx]; exact hxn
  show Go h0 o0 ([_, _, _, _, _, _] ++ (wr prog w i { t with dl := dl, pm := pm } (X ++ (T2 ++ V)) ++ [(L2, cNs [])])) _
  refine Go.tl (Y := [_, _, _, _, _, _]) ?_
  show Go h0 o0 (_ :: _ :: _ :: _ :: _ :: _ :: _ :: wr prog w i { t with dl := dl, pm := pm } (X ++ (T2 ++ V))) _
  with_reducible refine aR (.there (.there .here)) (.n4 (.n .new)) ?_
  refine nk (cs' := (D2, aM prog w (ts.map fun q => (q.2.1, Value.ref q.1))) :: (L, cNs [(ofString "tag", .str tag u), (ofString "attrs", .ref a'), (ofString "new_namespaces", .ref n1), (ofString "qname_text", .none), (ofString "qattrs", .none), (ofString "parsed_qnames", .ref D2)]) :: (L + 1, aN (some (.ref i.x))) :: wr prog w i { t with dl := dl, pm := pm } (X ++ (T2 ++ V))) (.pick (.t4 (.there (.there .here))) (.pick .here (.pick (.there .here) (.pick (.t2 (.there .here)) (.tail (.t2 (.there .refl))))))) ?_
  refine Go.wPull (X := [_]) (Y := [_, _]) ?_
  refine aJ ?_
  have h := h _ _ hrun D2 (ts.map fun q => (q.2.1, Value.ref q.1)) dl pm T2 ((D2, aM prog w (ts.map fun q => (q.2.1, Value.ref q.1))) :: X) rfl ha hT2 .here ?_
  ·exact h
  ·intro p hp
   obtain ⟨r, hr, rfl⟩ := List.mem_map.mp hp
   obtain ⟨k1, k2, k3, hT⟩ := hX r hr
   exact ⟨r.1, k1, k2, k3, eJ (f := fun q : Addr × Str × Str => q.2.1) (g := fun q => Value.ref q.1) hnt r hr, .there hT⟩
end
noncomputable def LN (prog : Program) (w : World) (A : Around) (env : Env) (h0 : Heap) (o0 : Shared) (y : Str) (cl : List (Str × Addr)) (scope : Scope) (elt target : Expr) (ifs : List Expr) (Q : FP) (E : VP) : Value → Shared → Prop := fun x s₁ =>
 wpAny (model prog w) A (pyIter x) (fun itv s₂ => ∃ f n V Pre C0 K, ∃ P : Nat → List Value → az → Prop, cH prog w A h0 o0 itv f n V Pre ∧ P 0 [] C0 ∧ n ≤ sizeLine ∧ St h0 o0 (f 0 ++ (C0 ++ K)) s₂ ∧
   (∀ i ys C, P i ys C → Pre (C ++ K)) ∧
   (∀ L i v ys C K' s, i < n → V i v → P i ys C → St h0 o0 ((L, cNs []) :: (C ++ K')) s →
    wpAny (model prog w) A (assign target (compEnvC scope cl L env) v) (fun _ s₂ => wpAny (model prog w) A (ba ifs (compEnvC scope cl L env)) (fun ok s₃ =>
     if ok = true then wpAny (model prog w) A (eval elt (compEnvC scope cl L env)) (fun y s₄ => ∃ m C', P (i + 1) (ys ++ [y]) C' ∧ St h0 o0 ((L, cNs m) :: (C' ++ K')) s₄) NoE s₃
     else ∃ m C', P (i + 1) ys C' ∧ St h0 o0 ((L, cNs m) :: (C' ++ K')) s₃) NoE s₂) NoE s) ∧
   (∀ L D ys C s, P n ys C → St h0 o0 ((D, ay ys) :: (C ++ ((L, cNs []) :: K))) s → wpAny (model prog w) A (storeName env y (.ref D)) (fun _ s' => ∃ cs', St h0 o0 ((L, cNs []) :: cs') s' ∧ ∀ s'', St h0 o0 cs' s'' → Q .next s'') E s)) E s₁
noncomputable def SL (h0 : Heap) (o0 : Shared) (P : List Value → az → Prop) (ys : List Value) (L : Addr) (K' : az) : Shared → Prop := fun s₃ => ∃ m C', P ys C' ∧ St h0 o0 ((L, cNs m) :: (C' ++ K')) s₃
section
variable {cs cs' X : az}
theorem sl {P : List Value → az → Prop} {ys : List Value} {L : Addr} {C' K' : az} {m : List (Str × Value)} (hP : P ys C') (e : cs = (L, cNs m) :: (C' ++ K')) : Go h0 o0 cs (SL h0 o0 P ys L K') := fun s H => ⟨m, C', hP, e ▸ H⟩
theorem og {elt target iter : Expr} {ifs : List Expr} {scope : Scope} {pos py spos : Pos} {y : Str} {cl : List (Str × Addr)} {Q : FP}
  (hcell : ∀ y ∈ scope.names, y.2 ≠ .cell) (hkind : scope.kind = .function) (hnames : ∀ y ∈ scope.names, y.2 = .local → scope.names.lookup y.1 = some .local)
  (h : Go h0 o0 cs (wpAny (model prog w) A (eval iter env) (LN prog w A env h0 o0 y cl scope elt target ifs Q E) E)) (hs : ∀ x, foldedSetIterable iter env x = pure x) (hsw : swapsWith (.ListComp elt [⟨target, iter, ifs, 0⟩] scope pos) (some (.Name y py)) spos.line env = pure true := by kernel_rfl!) (hclos : closureFor scope env = pure cl := by kernel_rfl!) :
  Go h0 o0 cs (wpAny (model prog w) A (exec (.Assign [.Name y py] (.ListComp elt [⟨target, iter, ifs, 0⟩] scope pos) spos) env) Q E) := by
 intro s H
 rw [exec_Assign_Name_used _ _ _ _ hsw]
 refine aa (wpAny_standAt (aa ?_))
 show wpAny _ A (do let _ ← comprehension (.ListComp elt [⟨target, iter, ifs, 0⟩] scope pos) scope env _ (newList []) false (eval iter env) (some (assign (.Name y py) env))) _ _ s
 refine aa (ad (wpAny_comprehension_free (use := some (assign (.Name y py) env)) (Q := fun _ s' => Q .next s') rfl hs hclos hkind hnames
  (ad (h s H) (fun xv s₁ h₁ => ad h₁ (fun itv s2 h₂ => ?_) fun _ _ q => q) fun _ _ e => e)) (fun _ s' hq => ab (ab hq)) fun _ _ e => e)
 obtain ⟨f, n, V, Pre, C0, K, P, S, hP0, hsz, H2, hl, turn, fin⟩ := h₂
 refine lG (RR := fun acc C => compPost (model prog w) A E (some (assign (.Name y py) env)) (fun _ s' => Q .next s') acc C) hcell hkind S hP0 hsz H2 hl turn fun L D ys C s hP H => ?_
 show wpAny _ A (assign (.Name y py) env (.ref D)) _ _ _
 refine wpAny_assign_Name (ad (fin L D ys C s hP (H.perm ?_)) (fun _ s' q => ?_) fun _ _ q => q)
 ·refine List.Perm.trans (List.Perm.cons _ List.perm_middle) (List.Perm.swap _ _ _)
 ·obtain ⟨cs', H', hq⟩ := q
  obtain ⟨f, hn, _⟩ := eY H' .here
  exact ⟨f, hn, fun h' hsb => hq _ (H'.unframe hsb)⟩
theorem lnR {y : Str} {r : Addr} {n : Nat} {b : Int} {cl : List (Str × Addr)} {scope : Scope} {elt target : Expr} {ifs : List Expr} {Q : FP} (P : Nat → List Value → az → Prop) (hh : A.handled = none) (hr : Has cs r (lL 0 b 1)) (hsm : Builtin.Range.small 0 b 1 = true) (hn : Builtin.Range.rangeSize 0 b 1 = (n : Nat)) (hz : n ≤ 1000) (hP0 : P 0 [] cs)
  (turn : ∀ L i u ys C K', i < n → P i ys C → Go h0 o0 ((L, cNs []) :: (C ++ K')) (wpAny (model prog w) A (assign target (compEnvC scope cl L env) (.int (i : Nat) u)) (fun _ => wpAny (model prog w) A (ba ifs (compEnvC scope cl L env)) (fun ok =>
   eR ok (wpAny (model prog w) A (eval elt (compEnvC scope cl L env)) (CE h0 o0 (P (i + 1)) ys L K') NoE) (SL h0 o0 (P (i + 1)) ys L K')) NoE) NoE))
  (fin : ∀ L D ys C, P n ys C → Go h0 o0 ((D, ay ys) :: (C ++ [(L, cNs [])])) (wpAny (model prog w) A (storeName env y (.ref D)) (NK h0 o0 L (Q .next)) E)) : Go h0 o0 cs (LN prog w A env h0 o0 y cl scope elt target ifs Q E (.ref r)) := by
 intro s H
 obtain ⟨o, ho, t, u, v, rfl⟩ := H.get hr
 refine wpAny_pyIter_range ho hsm ?_
 have H2 : St h0 o0 ((s.heap.objs.size, mE s.heap.objs.size (fun i h => IsRangeIter h s.heap.objs.size (0 + (i : Nat) * 1) ((n : Int) - (i : Nat)) 1) 0) :: (cs ++ [])) { s with heap := s.heap.push { cls := .type "range_iterator", data := .fields #[rawInt 0, rawInt (Builtin.Range.rangeSize 0 b 1), rawInt 1] }, toks := s.toks } := by
  rw [List.append_nil]
  exact H.push (k := s.toks) (o := { cls := .type "range_iterator", data := .fields #[rawInt 0, rawInt (Builtin.Range.rangeSize 0 b 1), rawInt 1] }) (fun h hh' => by
   show IsRangeIter _ _ _ _ _
   rw [hn] at hh'
   simpa using hh') (ae _)
 refine ⟨_, n, _, fun _ => True, cs, [], P, jU (Walks.range hh s.heap.objs.size 0 1 n) (fun i v ⟨t, e⟩ q q2 => by rw [e] at q2; cases q2) (fun i h q => ⟨_, q⟩), hP0, Nat.le_trans hz (by rw [af]; decide), H2, fun _ _ _ _ => trivial, ?_, fun L D ys C s hP H => fin L D ys C hP s H⟩
 rintro L i v ys C K' s' hi ⟨u, rfl⟩ hP H'
 have := turn L i u ys C K' hi hP s' H'
 rw [show (0 : Int) + (i : Nat) * 1 = (i : Nat) from by lia]
 exact this
theorem lnL {y : Str} {l : Addr} {xs : List Value} {cl : List (Str × Addr)} {scope : Scope} {elt target : Expr} {ifs : List Expr} {Q : FP} (P : Nat → List Value → az → Prop) (hh : A.handled = none) (hl : ∀ i ys C, P i ys C → Has C l (ay xs)) (hz : xs.length ≤ 1000) (hP0 : P 0 [] cs)
  (turn : ∀ L i v ys C K', xs[i]? = some v → P i ys C → Go h0 o0 ((L, cNs []) :: (C ++ K')) (wpAny (model prog w) A (assign target (compEnvC scope cl L env) v) (fun _ => wpAny (model prog w) A (ba ifs (compEnvC scope cl L env)) (fun ok =>
   eR ok (wpAny (model prog w) A (eval elt (compEnvC scope cl L env)) (CE h0 o0 (P (i + 1)) ys L K') NoE) (SL h0 o0 (P (i + 1)) ys L K')) NoE) NoE))
  (fin : ∀ L D ys C, P xs.length ys C → Go h0 o0 ((D, ay ys) :: (C ++ [(L, cNs [])])) (wpAny (model prog w) A (storeName env y (.ref D)) (NK h0 o0 L (Q .next)) E)) : Go h0 o0 cs (LN prog w A env h0 o0 y cl scope elt target ifs Q E (.ref l)) := by
 intro s H
 refine wpAny_pyIter_list (aU H (hl 0 [] cs hP0)) ?_
 have H2 := H.push (k := s.toks) (o := { cls := .type "list_iterator", data := .fields #[.ref l, rawInt 0] }) (c := ce l 0) ⟨rfl, rfl⟩ (ae _)
 exact ⟨_, xs.length, _, fun C => Has C l (ay xs), cs, [], P, cx (l := l) (xs := xs) hh, hP0, Nat.le_trans hz (by rw [af]; decide), by rw [List.append_nil]; exact H2, fun i ys C hP => by rw [List.append_nil]; exact hl i ys C hP, fun L i v ys C K' s' hi hv hP H' => turn L i v ys C K' hv hP s' H', fun L D ys C s hP H => fin L D ys C hP s H⟩
theorem dcL {l : Addr} {xs : List Value} {cl : List (Str × Addr)} {scope : Scope} {kx vx target : Expr} {ifs : List Expr} {Q : VP} (P : Nat → List (Str × Value) → az → Prop) (hh : A.handled = none) (hl : ∀ i ys C, P i ys C → Has C l (ay xs)) (hz : xs.length ≤ 1000) (hP0 : P 0 [] cs)
  (turn : ∀ L i v ys C K', xs[i]? = some v → P i ys C → Go h0 o0 ((L, cNs []) :: (C ++ K')) (wpAny (model prog w) A (assign target (compEnvC scope cl L env) v) (fun _ => wpAny (model prog w) A (ba ifs (compEnvC scope cl L env)) (fun ok =>
   eR ok (wpAny (model prog w) A (eval kx (compEnvC scope cl L env)) (fun kv => wpAny (model prog w) A (eval vx (compEnvC scope cl L env)) (CV h0 o0 (P (i + 1)) ys L K' kv) NoE) NoE) (SK h0 o0 (P (i + 1)) ys L K')) NoE) NoE))
  (fin : ∀ D ys C, P xs.length ys C → Go h0 o0 ((D, aM prog w ys) :: C) (Q (.ref D))) : Go h0 o0 cs (DC prog w A env h0 o0 cl scope kx vx target ifs Q E (.ref l)) := by
 intro s H
 refine wpAny_pyIter_list (aU H (hl 0 [] cs hP0)) ?_
 have H2 := H.push (k := s.toks) (o := { cls := .type "list_iterator", data := .fields #[.ref l, rawInt 0] }) (c := ce l 0) ⟨rfl, rfl⟩ (ae _)
 refine ⟨_, xs.length, _, fun C => Has C l (ay xs), cs, [], P, nY (cx (l := l) (xs := xs) hh), hP0, Nat.le_trans hz (by rw [af]; decide), by rw [List.append_nil]; exact H2, fun i ys C hP => by rw [List.append_nil]; exact hl i ys C hP, ?_, fun D ys C s hP H => by rw [List.append_nil] at H; exact fin D ys C hP s H⟩
 rintro L i v c ys C K' s' hi ⟨hv, rfl⟩ hP _ H'
 exact turn L i v ys C K' hv hP s' H'
theorem o_tup1 {value slice : Expr} {T : Addr} {xs : List Value} {u : Tok} {v1 v : Value} {Q : VP} (ht : Has cs T (a8 (v1 :: v :: xs))) (hs : subscripted slice false (.ref T) (.int 1 u) = operate [.ref T, .int 1 u] (getItem (.ref T) (.int 1 u))) (h : Go h0 o0 cs (Q v)) :
  Go h0 o0 cs (wpAny (model prog w) A (subscriptTail value slice (.ref T) (.int 1 u)) Q E) := fun s H =>
 tail_any (fw H ht).typeIs PySem.F.slot_tuple_getitem.lookup (getItem_tuple (fw H ht) (j := 1) (by decide) (by decide) (by simp [seqIndex?]; lia) (by simp) (h s H)) hs
theorem s_ass {o i value : Expr} {pos' pos : Pos} {Q : FP} (h : Go h0 o0 cs (wpAny (model prog w) A (eval value env) (fun v => wpAny (model prog w) A (eval o env) (fun ov => wpAny (model prog w) A (eval i env) (fun iv => wpAny (model prog w) A (setItem ov iv v) (fun _ => Q .next) E) E) E) E))
  (hs : swapsWith value (some (.Subscript o i pos')) pos.line env = pure false) : Go h0 o0 cs (wpAny (model prog w) A (exec (.Assign [.Subscript o i pos'] value pos) env) Q E) := fun s H => wpAny_Assign_Subscript (h s H) hs
noncomputable def ic (x : Str) : Nat := x.cps.getD 0 0
theorem pe {x : Str} {t : Tok} {Q : VP} (hx : x = ⟨#[ic x]⟩) (h : ∀ t, Go h0 o0 cs (Q (.int (ic x) t))) : Go h0 o0 cs (wpAny (model prog w) A (call (.builtin "ord") [.str x t]) Q E) := by
 generalize ic x = c at hx h
 subst hx
 exact k_ord h
theorem Go.name {P : GP} (h : ∀ C0, C0 = cs → Go h0 o0 C0 P) : Go h0 o0 cs P := h cs rfl
end
section
variable {cs cs' V X Y : az} {i : fQ} {t : eo} {Q : VP}
theorem cs_D {L D2 a' : Addr} {tag : Str} {u : Tok} {ND : List Lv} {lD : Lv} {R : RP} {ys : List (Str × Str)} (B : Base (KF w.params) h0) (hh : A.handled = none)
  (hN : t.dl = ND ++ [lD]) (hb : ∀ q ∈ lD.ps, q.p.length ≤ 100) (h5 : lD.ps.length ≤ 5) (hz : ys.Perm (lD.v.map oH)) (hzr : dr jD (ys.map (·.1))) (nd : (ys.map (·.1)).Nodup)
  (h : ∀ AL (as : List At4) X, as.map At4.v = ys → (∀ p ∈ as, Has X p.1 (a8 [.str p.2.1.1 p.2.1.2, .str p.2.2.1 p.2.2.2])) →
   Go h0 o0 ((L, cNs [(ofString "tag", .str tag u), (ofString "attrs", .ref a'), (ofString "new_namespaces", .ref lD.a), (ofString "qname_text", .none), (ofString "qattrs", .none), (ofString "parsed_qnames", .ref D2), (ofString "attr_list", .ref AL)]) :: (L + 1, aN (some (.ref i.x))) :: (AL, ay (as.map fun p => .ref p.1)) :: wr prog w i t (X ++ V))
   (wpAny (model prog w) (A.deeper (callEnvC (aK (KF w.params) aB) L aB)) (execs ((aZ (KF w.params) aB).drop 8) (callEnvC (aK (KF w.params) aB) L aB)) (RK R) (jA (model prog w) (A.deeper (callEnvC (aK (KF w.params) aB) L aB)) (callEnvC (aK (KF w.params) aB) L aB) R))) :
  Go h0 o0 ((L, cNs [(ofString "tag", .str tag u), (ofString "attrs", .ref a'), (ofString "new_namespaces", .ref lD.a), (ofString "qname_text", .none), (ofString "qattrs", .none), (ofString "parsed_qnames", .ref D2)]) :: (L + 1, aN (some (.ref i.x))) :: wr prog w i t V)
   (wpAny (model prog w) (A.deeper (callEnvC (aK (KF w.params) aB) L aB)) (execs ((aZ (KF w.params) aB).drop 7) (callEnvC (aK (KF w.params) aB) L aB)) (RK R) (jA (model prog w) (A.deeper (callEnvC (aK (KF w.params) aB) L aB)) (callEnvC (aK (KF w.params) aB) L aB) R)) := by
 have hh' : ∀ env, (A.deeper env).handled = none := fun _ => hh
 have hlm : lD ∈ t.dl := by rw [hN]; simp
 have z1 : (ofString "xmlns:").length = 6 := by decide +kernel
 have hrl : lD.refs.length ≤ 5 := by unfold Lv.refs; rw [ag]; exact h5
 refine aE ?_
 refine bH (fun f C => f = .next ∧ ∃ AL, ∃ as : List At4, ∃ X, as.map At4.v = ys ∧ (∀ p ∈ as, Has X p.1 (a8 [.str p.2.1.1 p.2.1.2, .str p.2.2.1 p.2.2.2])) ∧
  C = (L, cNs [(ofString "tag", .str tag u), (ofString "attrs", .ref a'), (ofString "new_namespaces", .ref lD.a), (ofString "qname_text", .none), (ofString "qattrs", .none), (ofString "parsed_qnames", .ref D2), (ofString "attr_list", .ref AL)]) :: (L + 1, aN (some (.ref i.x))) :: (AL, ay (as.map fun p => .ref p.1)) :: wr prog w i t (X ++ V)) ?_ ?_
 ·refine bt ?_
  with_reducible refine bh (aG .here (.n (.n .here)) ?_); refine fV (.t2 (gf hlm)) (by rw [af]; (apply aD; with_reducible assumption; decide)) ?_
  refine cA (fun hae => ?_) fun hae => ?_
  ·with_reducible refine aE ?_
   refine og (cl := []) (by decide) rfl (by decide) ?_ (fun _ => by with_unfolding_all rfl)
   with_reducible refine aG .here (.n (.n .here)) ?_
   refine lnL (xs := lD.refs) (fun n zs C => ∃ as : List At4, ∃ X, zs = as.map (fun p => Value.ref p.1) ∧ as.map At4.v = (lD.v.take n).map oH ∧ (∀ p ∈ as, Has X p.1 (a8 [.str p.2.1.1 p.2.1.2, .str p.2.2.1 p.2.2.2])) ∧
    C = (L, cNs [(ofString "tag", .str tag u), (ofString "attrs", .ref a'), (ofString "new_namespaces", .ref lD.a), (ofString "qname_text", .none), (ofString "qattrs", .none), (ofString "parsed_qnames", .ref D2)]) :: (L + 1, aN (some (.ref i.x))) :: wr prog w i t (X ++ V)) (hh' _) ?_ (by apply aD; with_reducible assumption; decide) ⟨[], [], rfl, rfl, (by intro p hp; cases hp), rfl⟩ ?_ ?_
   ·rintro n zs C ⟨as, X, _, _, _, rfl⟩
    exact .t2 (gf hlm)
   ·rintro L2 n v zs C K' hv ⟨as, X, rfl, has, hX, rfl⟩
    obtain ⟨q, hqn, rfl⟩ : ∃ q, lD.ps[n]? = some q ∧ v = Value.ref q.a := by
     unfold Lv.refs at hv
     rw [List.getElem?_map] at hv
     cases hx : lD.ps[n]? with
     | none => rw [hx] at hv; cases hv
     | some p => rw [hx] at hv; exact ⟨p, rfl, by cases hv; rfl⟩
    have hqm := List.mem_of_getElem? hqn
    have hqb := hb q hqm
    show Go h0 o0 (_ :: _ :: _ :: (wr prog w i t (X ++ V) ++ K')) _
    rw [← bP, an]
    refine nT (hh' _) (.t2 (.there (nQ hlm hqm))) ?_
    with_reducible refine aR .here .new (aR .here (.n .new) ?_)
    refine gS (fF ?_)
    with_reducible refine da (aA ?_)
    refine bH (fun v C => (∃ k, v = .str (oH q.v).1 k) ∧ C = (L2, cNs [(ofString "uri", .str q.u q.ut), (ofString "prefix", .str q.p q.pt)]) :: (L, cNs [(ofString "tag", .str tag u), (ofString "attrs", .ref a'), (ofString "new_namespaces", .ref lD.a), (ofString "qname_text", .none), (ofString "qattrs", .none), (ofString "parsed_qnames", .ref D2)]) :: (L + 1, aN (some (.ref i.x))) :: wr prog w i t (X ++ (V ++ K'))) ?_ ?_
    ·with_reducible refine eF (bh (aG .here (.n .here) ?_)); refine gq (by rw [af]; (apply aD; with_reducible assumption; decide)) ?_
     refine cA (fun hu => ?_) fun hu => ?_
     ·have hu : ¬ q.p.length = 0 := by simpa using hu
      with_reducible refine aY (aI fun _ _ => aG .here (.n .here) ?_); refine bu (by rw [z1, af]; (apply aD; apply aF; exact ae _; with_reducible assumption; decide)) ?_; intro k
      exact jp ⟨⟨k, by rw [oH, if_neg (show ¬ q.v.2.length = 0 from hu)]; rfl⟩, rfl⟩
     ·have hu : q.p.length = 0 := by simpa using hu
      with_reducible refine aI ?_; intro _ _
      rename_i k _
      exact jp ⟨⟨k, by rw [oH, if_pos (show q.v.2.length = 0 from hu)]⟩, rfl⟩
    rintro v C ⟨⟨k, rfl⟩, rfl⟩
    with_reducible refine aA (aG .here .here (aH (cY ?_))); intro _
    rename_i Tn
    refine Go.wPull (X := [_]) (Y := [_, _, _]) ?_
    refine ce0 (m := [(ofString "uri", .str q.u q.ut), (ofString "prefix", .str q.p q.pt)]) (C' := _ :: _ :: wr prog w i t (((Tn, a8 [.str (oH q.v).1 k, .str q.u q.ut]) :: X) ++ V)) ⟨as ++ [(Tn, ((oH q.v).1, k), (q.u, q.ut))], _, ?_, ?_, ?_, rfl⟩ ?_
    ·simp only [ai, ap, List.map_nil]
    ·have e : lD.v[n]? = some q.v := by unfold Lv.v; rw [List.getElem?_map, hqn]; rfl
     rw [ai, has, List.take_add_one, e, Option.toList_some, ai]; rfl
    ·intro r hr
     rcases List.mem_append.mp hr with hr | hr
     ·exact .there (hX r hr)
     ·rw [List.mem_singleton] at hr; subst hr; exact .here
    ·simp only [List.cons_append, List.nil_append, an, ← bP]
   ·rintro L2 D zs C ⟨as, X, rfl, has, hX, rfl⟩
    have has : as.map At4.v = lD.v.map oH := by rw [has, List.take_of_length_le]; unfold Lv.v Lv.refs; rw [ag, ag]; exact ae _
    have hperm : (as.map At4.v).Perm ys := has ▸ hz.symm
    have hasl : as.length ≤ 5 := by have := congrArg List.length has; unfold Lv.v at this; rw [ag, ag, ag] at this; (lia)
    have hx : ∀ p ∈ as.map (fun p : At4 => ((p.1, p.2.1, Value.str p.2.2.1 p.2.2.2) : Addr × (Str × Tok) × Value)), Has (wr prog w i t (X ++ V)) p.1 (a8 [.str p.2.1.1 p.2.1.2, p.2.2]) := by
     intro p hp
     obtain ⟨r, hr, rfl⟩ := List.mem_map.mp hp
     exact bR (hX r hr).app
    have hk : (as.map (fun p : At4 => ((p.1, p.2.1, Value.str p.2.2.1 p.2.2.2) : Addr × (Str × Tok) × Value))).map (fun p => p.2.1.1) = (as.map At4.v).map (·.1) := by rw [List.map_map, List.map_map]; rfl
    show Go h0 o0 ([_, _, _] ++ (wr prog w i t (X ++ V) ++ [(L2, cNs [])])) _
    refine Go.tl (Y := [_, _, _]) ?_
    show Go h0 o0 (_ :: _ :: _ :: _ :: wr prog w i t (X ++ V)) _
    with_reducible refine aR (.there .here) (.n4 (.n (.n .new))) ?_
    refine nk (cs' := (D, ay (as.map fun p => .ref p.1)) :: (L, cNs [(ofString "tag", .str tag u), (ofString "attrs", .ref a'), (ofString "new_namespaces", .ref lD.a), (ofString "qname_text", .none), (ofString "qattrs", .none), (ofString "parsed_qnames", .ref D2), (ofString "attr_list", .ref D)]) :: (L + 1, aN (some (.ref i.x))) :: wr prog w i t (X ++ V)) (.pick (.t2 (.there .here)) (.pick .here (.pick .here (.pick .here (.tail .refl))))) ?_
    with_reducible refine aJ (aE (bf (bi (aG (.there .here) (.n4 (.n (.n .here))) (dE (slot := PySem.F.slot_list_sort) (hty := PySem.F.type_list_sort) .here ?_))))); refine fn ?_
    have hcomp : ∀ l : List At4, (l.map (fun p : At4 => ((p.1, p.2.1, Value.str p.2.2.1 p.2.2.2) : Addr × (Str × Tok) × Value))).map (fun p => Value.ref p.1) = l.map fun p => Value.ref p.1 := fun l => by rw [List.map_map]; rfl
    rw [← hcomp as]
    refine oY (fun p hp => .t2 (hx p hp)) (by rw [ag]; exact hasl) (by rw [hk]; exact (hperm.map _).nodup_iff.mpr nd) ?_
    intro ps' hpp hpr
    obtain ⟨bs, rfl⟩ : ∃ bs : List At4, ps' = bs.map fun p : At4 => ((p.1, p.2.1, Value.str p.2.2.1 p.2.2.2) : Addr × (Str × Tok) × Value) := by
     have key : ∀ l : List (Addr × (Str × Tok) × Value), (∀ p ∈ l, ∃ x k, p.2.2 = Value.str x k) → ∃ bs : List At4, l = bs.map fun p : At4 => ((p.1, p.2.1, Value.str p.2.2.1 p.2.2.2) : Addr × (Str × Tok) × Value) := by
      intro l
      induction l with
      | nil => intro _; exact ⟨[], rfl⟩
      | cons p r ih =>
       intro h
       obtain ⟨bs, e⟩ := ih fun p hp => h p (am _ hp)
       obtain ⟨x, k, e2⟩ := h p au
       exact ⟨(p.1, p.2.1, (x, k)) :: bs, by rw [e, ap]; congr 1; rw [← e2]⟩
     refine key ps' fun p hp => ?_
     obtain ⟨r, _, rfl⟩ := List.mem_map.mp (hpp.mem_iff.mp hp)
     exact ⟨_, _, rfl⟩
    have hbp : (bs.map At4.v).Perm (as.map At4.v) := by
     have := hpp.map fun p : Addr × (Str × Tok) × Value => (p.2.1.1, match p.2.2 with | .str x _ => x | _ => Str.empty)
     rw [List.map_map, List.map_map] at this
     exact this
    have hby : bs.map At4.v = ys := dQ (c := jD) (f := Prod.fst) ms oN (hbp.trans hperm) (by rw [List.map_map] at hpr ⊢; exact hpr) hzr
    have hbx : ∀ p ∈ bs, Has X p.1 (a8 [.str p.2.1.1 p.2.1.2, .str p.2.2.1 p.2.2.2]) := by
     intro p hp
     obtain ⟨r, hr, e⟩ := List.mem_map.mp (hpp.mem_iff.mp (List.mem_map.mpr ⟨p, hp, rfl⟩))
     simp only [Prod.mk.injEq, Value.str.injEq] at e
     obtain ⟨e1, e2, e3, e4⟩ := e
     have := hX r hr
     rw [e1, e2, e3, e4] at this
     exact this
    with_reducible refine aJ (aL ?_)
    rw [hcomp bs]
    refine Go.sel (cs' := (L, cNs [(ofString "tag", .str tag u), (ofString "attrs", .ref a'), (ofString "new_namespaces", .ref lD.a), (ofString "qname_text", .none), (ofString "qattrs", .none), (ofString "parsed_qnames", .ref D2), (ofString "attr_list", .ref D)]) :: (L + 1, aN (some (.ref i.x))) :: (D, ay (bs.map fun p => .ref p.1)) :: wr prog w i t (X ++ V)) (.pick (.there .here) (.pick (.there .here) (.pick .here (.tail .refl)))) ?_
    exact jp ⟨rfl, D, bs, X, hby, hbx, rfl⟩
  ·have hae : lD.ps = [] := by
    have : lD.refs = [] := by cases hq : lD.refs with | nil => rfl | cons a b => rw [hq] at hae; simp at hae
    exact List.map_eq_nil_iff.mp this
   have hz0 : ys = [] := by unfold Lv.v at hz; rw [hae] at hz; exact List.perm_nil.mp hz
   subst hz0
   with_reducible refine aE (bK (bq (aH (bn fun _ => aR (.there .here) (.n4 (.n (.n .new))) ?_)))); refine aJ (aL ?_)
   rename_i AL
   refine Go.sel (cs' := (L, cNs [(ofString "tag", .str tag u), (ofString "attrs", .ref a'), (ofString "new_namespaces", .ref lD.a), (ofString "qname_text", .none), (ofString "qattrs", .none), (ofString "parsed_qnames", .ref D2), (ofString "attr_list", .ref AL)]) :: (L + 1, aN (some (.ref i.x))) :: (AL, ay []) :: wr prog w i t V) (.pick (.there .here) (.pick (.there .here) (.pick .here (.tail .refl)))) ?_
   exact jp ⟨rfl, AL, [], [], rfl, (by intro p hp; cases hp), rfl⟩
 rintro f C ⟨rfl, AL, as, X, e1, e2, rfl⟩
 exact aJ (h AL as X e1 e2)
noncomputable abbrev At5 := Addr × (Str × Tok) × Value
noncomputable def At5.v (p : At5) : Str × Value := (p.2.1.1, p.2.2)
noncomputable def lQ (qf : Str → Str × Str × Str) (z : Str × Value) : Str × Value := (if (qf z.1).2.2.length = 0 then (qf z.1).2.1 else (qf z.1).1, z.2)
theorem cs_E {L AL D2 a' n1 : Addr} {tag : Str} {u : Tok} {dd : List (Str × Value)} {kvs : List (Str × Value)} {qf : Str → Str × Str × Str} {R : RP} {zs : List (Str × Value)} (B : Base (KF w.params) h0) (hh : A.handled = none)
  (ha : Has V a' (aM prog w kvs)) (hD : Has V D2 (aM prog w dd)) (hqn : ∀ p ∈ kvs, ∃ T k1 k2 k3, valueAt dd p.1 = some (.ref T) ∧ Has V T (a8 [.str (qf p.1).1 k1, .str (qf p.1).2.1 k2, .str (qf p.1).2.2 k3])) (hqz : ∀ p ∈ kvs, (qf p.1).2.2.length ≤ 1000)
  (h4 : kvs.length ≤ 5) (nd : (kvs.map (·.1)).Nodup) (hz : zs.Perm kvs) (hzr : dr jD (zs.map (·.1)))
  (h : ∀ (as : List At5) X, as.map At5.v = zs.map (lQ qf) → (∀ p ∈ as, Has X p.1 (a8 [.str p.2.1.1 p.2.1.2, p.2.2])) →
   Go h0 o0 ((L, cNs [(ofString "tag", .str tag u), (ofString "attrs", .ref a'), (ofString "new_namespaces", .ref n1), (ofString "qname_text", .none), (ofString "qattrs", .none), (ofString "parsed_qnames", .ref D2), (ofString "attr_list", .ref AL)]) :: (L + 1, aN (some (.ref i.x))) :: (AL, ay (as.map fun p => .ref p.1)) :: wr prog w i t (X ++ V))
   (wpAny (model prog w) (A.deeper (callEnvC (aK (KF w.params) aB) L aB)) (execs ((aZ (KF w.params) aB).drop 9) (callEnvC (aK (KF w.params) aB) L aB)) (RK R) (jA (model prog w) (A.deeper (callEnvC (aK (KF w.params) aB) L aB)) (callEnvC (aK (KF w.params) aB) L aB) R))) :
  Go h0 o0 ((L, cNs [(ofString "tag", .str tag u), (ofString "attrs", .ref a'), (ofString "new_namespaces", .ref n1), (ofString "qname_text", .none), (ofString "qattrs", .none), (ofString "parsed_qnames", .ref D2), (ofString "attr_list", .ref AL)]) :: (L + 1, aN (some (.ref i.x))) :: (AL, ay []) :: wr prog w i t V)
   (wpAny (model prog w) (A.deeper (callEnvC (aK (KF w.params) aB) L aB)) (execs ((aZ (KF w.params) aB).drop 8) (callEnvC (aK (KF w.params) aB) L aB)) (RK R) (jA (model prog w) (A.deeper (callEnvC (aK (KF w.params) aB) L aB)) (callEnvC (aK (KF w.params) aB) L aB) R)) := by
 have hh' : ∀ env, (A.deeper env).handled = none := fun _ => hh
 have bSor : bD h0 (ofString "sorted") (.builtin "sorted") := B.bltAt (by kernel_rfl!) (by kernel_rfl!) (by decide +kernel) (by decide +kernel)
 refine aE ?_
 refine bH (fun f C => f = .next ∧ ∃ as : List At5, ∃ X, as.map At5.v = zs.map (lQ qf) ∧ (∀ p ∈ as, Has X p.1 (a8 [.str p.2.1.1 p.2.1.2, p.2.2])) ∧
  C = (L, cNs [(ofString "tag", .str tag u), (ofString "attrs", .ref a'), (ofString "new_namespaces", .ref n1), (ofString "qname_text", .none), (ofString "qattrs", .none), (ofString "parsed_qnames", .ref D2), (ofString "attr_list", .ref AL)]) :: (L + 1, aN (some (.ref i.x))) :: (AL, ay (as.map fun p => .ref p.1)) :: wr prog w i t (X ++ V)) ?_ ?_
 ·refine bt ?_
  with_reducible refine bh (aG .here (.n .here) ?_); refine t_dic (.t2 (.there (bR ha))) (by rw [af]; (apply aD; with_reducible assumption; decide)) ?_
  refine cA (fun hae => ?_) fun hae => ?_
  ·refine aE ?_
   refine s_for (hh' _) ?_ (fun _ => by with_unfolding_all rfl)
   with_reducible refine aW (bG (gV (aA (bi (aG .here (.n .here) ?_))))); refine g_items (.t2 (.there (bR ha))) (fn (k_items (.t2 (.there (bR ha))) fun vw => aH (k_sortI (hh' _) .here (.t4 (bR ha)) h4 nd ?_))); intro Dl ps hpp hpr
   have ezs : ps.map (fun p => (p.2.1.1, p.2.2)) = zs := by
    refine dQ (c := jD) (f := Prod.fst) ms oN (hpp.trans hz.symm) ?_ hzr
    rw [List.map_map]; exact hpr
   have hpl : ps.length = zs.length := by have := congrArg List.length ezs; rwa [ag] at this
   refine Go.mid (Go.wPull (Y := [_, _, _, _, _]) ?_)
   show Go h0 o0 (_ :: _ :: _ :: _ :: _ :: wr prog w i t (aQ ps ++ V)) _
   refine Go.sel (cs' := (L, cNs [(ofString "tag", .str tag u), (ofString "attrs", .ref a'), (ofString "new_namespaces", .ref n1), (ofString "qname_text", .none), (ofString "qattrs", .none), (ofString "parsed_qnames", .ref D2), (ofString "attr_list", .ref AL)]) :: (L + 1, aN (some (.ref i.x))) :: (AL, ay []) :: (Dl, ay (ps.map fun p => .ref p.1)) :: wr prog w i t (aQ ps ++ V)) (.pick (.there (.there .here)) (.pick (.there (.there .here)) (.pick (.there (.there .here)) (.pick .here (.tail (.there .refl)))))) ?_
   refine fl0 (xs := ps.map fun p => .ref p.1) (fun n C => ∃ as : List At5, ∃ X, as.map At5.v = (zs.take n).map (lQ qf) ∧ (∀ p ∈ as, Has X p.1 (a8 [.str p.2.1.1 p.2.1.2, p.2.2])) ∧
    C = (L, cNs [(ofString "tag", .str tag u), (ofString "attrs", .ref a'), (ofString "new_namespaces", .ref n1), (ofString "qname_text", .none), (ofString "qattrs", .none), (ofString "parsed_qnames", .ref D2), (ofString "attr_list", .ref AL)]) :: (L + 1, aN (some (.ref i.x))) :: (AL, ay (as.map fun p => .ref p.1)) :: (Dl, ay (ps.map fun p => .ref p.1)) :: wr prog w i t (X ++ (aQ ps ++ V))) ⟨[], [], rfl, (by intro p hp; cases hp), rfl⟩ ?_ ?_ ?_
   ·rintro n C ⟨as, X, _, _, rfl⟩
    exact .t2 (.there .here)
   ·rintro n v C K' hv ⟨as, X, has, hX, rfl⟩ hbk
    obtain ⟨p, hpn, rfl⟩ : ∃ p, ps[n]? = some p ∧ v = Value.ref p.1 := by
     rw [List.getElem?_map] at hv
     cases hx : ps[n]? with
     | none => rw [hx] at hv; cases hv
     | some p => rw [hx] at hv; exact ⟨p, rfl, by cases hv; rfl⟩
    have hzn : zs[n]? = some (p.2.1.1, p.2.2) := by rw [← ezs, List.getElem?_map, hpn]; rfl
    have hbm : (p.2.1.1, p.2.2) ∈ kvs := hz.mem_iff.mp (List.mem_of_getElem? hzn)
    obtain ⟨T, k1, k2, k3, hv1, hT⟩ := hqn _ hbm
    have hq1 := hqz _ hbm
    dsimp only at hv1 hT hq1
    have hasl : as.length ≤ 5 := by
     have := congrArg List.length has
     rw [ag, ag, List.length_take] at this
     have h6 := hz.length_eq
     (lia)
    show Go h0 o0 (_ :: _ :: _ :: _ :: (wr prog w i t (X ++ (aQ ps ++ V)) ++ K')) _
    rw [← bP, an, an]
    have hpc : Has (X ++ (aQ ps ++ (V ++ K'))) p.1 (a8 [.str p.2.1.1 p.2.1.2, p.2.2]) := .skip (Has.app (eC (List.mem_of_getElem? hpn)))
    have hD' : Has (X ++ (aQ ps ++ (V ++ K'))) D2 (aM prog w dd) := .skip (.skip hD.app)
    have hT' := Has.skip (xs := X) (Has.skip (xs := aQ ps) (Has.app (K := K') hT))
    obtain ⟨pa, ⟨pk, pt⟩, pv⟩ := p
    dsimp only at hv1 hT hq1 hzn hpc hT'
    refine nT (hh' _) (.t4 (bR hpc)) ?_
    with_reducible refine aR .here (.n4 (.n (.n (.n .new)))) (aR .here (.n4 (.n (.n (.n (.n .new))))) (aE (bt (bZ (bB ?_))))); refine bc (aG .here (.n (.n (.n (.n .here)))) (cG (fX (aP (kB ?_))))); refine dh (aL (aJ (aE (jX (bE ?_))))); refine aG .here (.n4 (.n .here)) (aG .here (.n4 (.n (.n (.n .here)))) ?_); refine oD (.t4 (bR hD')) hv1 (by with_unfolding_all rfl) ?_
    refine u_3 (hh' _) (.t4 (bR hT')) ?_
    with_reducible refine aR .here (.n4 (.n4 (.n .new))) (aR .here (.n4 (.n4 (.n (.n .new)))) (aR .here (.n4 (.n4 (.n (.n (.n .new))))) (aJ (aE (bf ?_))))); refine bi (aG .here (.n4 (.n (.n .here))) (dE (.there (.there .here)) (cT (aA (da ?_))))); refine aA ?_
    refine bH (fun v C => v = .str (lQ qf (pk, pv)).1 (if (qf pk).2.2.length = 0 then k2 else k1) ∧ C = (L, cNs [(ofString "tag", .str tag u), (ofString "attrs", .ref a'), (ofString "new_namespaces", .ref n1), (ofString "qname_text", .none), (ofString "qattrs", .none), (ofString "parsed_qnames", .ref D2), (ofString "attr_list", .ref AL), (ofString "k", .str pk pt), (ofString "v", pv), (ofString "attr_qname", .str (qf pk).1 k1), (ofString "attr_name", .str (qf pk).2.1 k2), (ofString "uri", .str (qf pk).2.2 k3)]) :: (L + 1, aN (some (.ref i.x))) :: (AL, ay (as.map fun p => .ref p.1)) :: (Dl, ay (ps.map fun p => .ref p.1)) :: wr prog w i t (X ++ (aQ ps ++ (V ++ K')))) ?_ ?_
    ·with_reducible refine eF (bh (aG .here (.n4 (.n4 (.n (.n (.n .here))))) ?_)); refine gq (by rw [af]; (apply aD; with_reducible assumption; decide)) ?_
     refine cA (fun hu => ?_) fun hu => ?_
     ·have hu : ¬ (qf pk).2.2.length = 0 := by simpa using hu
      with_reducible refine aG .here (.n4 (.n4 (.n .here))) ?_
      exact jp ⟨by rw [lQ, if_neg hu, if_neg hu], rfl⟩
     ·have hu : (qf pk).2.2.length = 0 := by simpa using hu
      with_reducible refine aG .here (.n4 (.n4 (.n (.n .here)))) ?_
      exact jp ⟨by rw [lQ, if_pos hu, if_pos hu], rfl⟩
    rintro v C ⟨rfl, rfl⟩
    with_reducible refine aA (aG .here (.n4 (.n (.n (.n (.n .here))))) (aH (cY fun _ => aH ?_)))
    rename_i Tn
    with_reducible refine du (ys := ((as ++ [((Tn, ((lQ qf (pk, pv)).1, if (qf pk).2.2.length = 0 then k2 else k1), pv) : At5)]).map fun p => .ref p.1)) (.t2 (.there .here)) (by simp only [ai, ap, List.map_nil]) (by rw [ag, af]; (apply aD; with_reducible assumption; decide)) ?_; refine aJ (aL ?_)
    refine Go.thin (a := L) (m' := [(ofString "tag", .str tag u), (ofString "attrs", .ref a'), (ofString "new_namespaces", .ref n1), (ofString "qname_text", .none), (ofString "qattrs", .none), (ofString "parsed_qnames", .ref D2), (ofString "attr_list", .ref AL)]) (.there .here) (.cons .here (.cons (.n .here) (.cons (.n (.n .here)) (.cons (.n (.n (.n .here))) (.cons (.n (.n (.n (.n .here)))) (.cons (.n4 (.n .here)) (.cons (.n4 (.n (.n .here))) .nil))))))) ?_
    refine Go.wPull (X := [_]) (Y := [_, _, _, _]) ?_
    refine tk_n (C := _ :: _ :: _ :: _ :: wr prog w i t (((Tn, a8 [.str (lQ qf (pk, pv)).1 (if (qf pk).2.2.length = 0 then k2 else k1), pv]) :: X) ++ (aQ ps ++ V))) ⟨as ++ [(Tn, ((lQ qf (pk, pv)).1, if (qf pk).2.2.length = 0 then k2 else k1), pv)], _, ?_, ?_, rfl⟩ ?_
    ·rw [ai, has, List.take_add_one, hzn, Option.toList_some, ai]; rfl
    ·intro r hr
     rcases List.mem_append.mp hr with hr | hr
     ·exact .there (hX r hr)
     ·rw [List.mem_singleton] at hr; subst hr; exact .here
    ·simp only [List.cons_append, List.nil_append, an, ← bP]
   ·rintro C ⟨as, X, has, hX, rfl⟩
    rw [ag, List.take_of_length_le (by rw [hpl]; exact ae _)] at has
    with_reducible refine aJ (aL ?_)
    refine Go.sel (cs' := (L, cNs [(ofString "tag", .str tag u), (ofString "attrs", .ref a'), (ofString "new_namespaces", .ref n1), (ofString "qname_text", .none), (ofString "qattrs", .none), (ofString "parsed_qnames", .ref D2), (ofString "attr_list", .ref AL)]) :: (L + 1, aN (some (.ref i.x))) :: (AL, ay (as.map fun p => .ref p.1)) :: wr prog w i t (X ++ (aQ ps ++ V))) (.pick .here (.pick .here (.pick .here (.tail (.there .refl))))) ?_
    exact jp ⟨rfl, as, X ++ aQ ps, has, fun p hp => (hX p hp).app, by rw [an]⟩
  ·have hae : kvs = [] := by cases kvs with | nil => rfl | cons a b => simp at hae
   subst hae
   have hz0 := List.perm_nil.mp hz
   subst hz0
   with_reducible refine aL ?_
   exact jp ⟨rfl, [], [], rfl, (by intro p hp; cases hp), rfl⟩
 rintro f C ⟨rfl, as, X, e1, e2, rfl⟩
 exact aJ (h as X e1 e2)
theorem cs_F1 {L AL D2 a' T : Addr} {tag q : Str} {u kq : Tok} {xs : List Value} {dd d0 : List (Str × Value)} {R : RP} {bp : Bool} {pp : List Bool} (B : Base (KF w.params) h0) (hh : A.handled = none)
  (ha : Has V a' (aM prog w d0)) (hsp : valueAt d0 sKey = none) (hD : Has V D2 (aM prog w dd)) (hv : valueAt dd tag = some (.ref T)) (hT : Has V T (a8 (.str q kq :: xs)))
  (ePp : t.ps = pp ++ [bp]) (hpz : t.ps.length ≤ 1000) (hoz : t.out.length ≤ 100000) (hql : q.length ≤ 1000)
  (h : ∀ k1, Go h0 o0 ((L, cNs [(ofString "tag", .str tag u), (ofString "attrs", .ref a'), (ofString "qname_text", .none), (ofString "parsed_qnames", .ref D2), (ofString "attr_list", .ref AL), (ofString "space_behaviour", .none), (ofString "write", .ref i.W)]) :: (L + 1, aN (some (.ref i.x))) :: wr prog w i { t with ps := t.ps ++ [bp], out := t.out ++ [(ofString "<" ++ q, k1)] } V)
   (wpAny (model prog w) (A.deeper (callEnvC (aK (KF w.params) aB) L aB)) (execs ((aZ (KF w.params) aB).drop 13) (callEnvC (aK (KF w.params) aB) L aB)) (RK R) (jA (model prog w) (A.deeper (callEnvC (aK (KF w.params) aB) L aB)) (callEnvC (aK (KF w.params) aB) L aB) R))) :
  Go h0 o0 ((L, cNs [(ofString "tag", .str tag u), (ofString "attrs", .ref a'), (ofString "qname_text", .none), (ofString "parsed_qnames", .ref D2), (ofString "attr_list", .ref AL)]) :: (L + 1, aN (some (.ref i.x))) :: wr prog w i t V)
   (wpAny (model prog w) (A.deeper (callEnvC (aK (KF w.params) aB) L aB)) (execs ((aZ (KF w.params) aB).drop 9) (callEnvC (aK (KF w.params) aB) L aB)) (RK R) (jA (model prog w) (A.deeper (callEnvC (aK (KF w.params) aB) L aB)) (callEnvC (aK (KF w.params) aB) L aB) R)) := by
 have hh' : ∀ env, (A.deeper env).handled = none := fun _ => hh
 have ePs : t.ps.map Value.bool = pp.map Value.bool ++ [.bool bp] := by rw [ePp, ai]; rfl
 refine aE ?_
 with_reducible refine bK (bi (aG .here (.n .here) ?_)); refine g_get (by exact .t2 (bR ha)) ?_; refine cT (aA (aI fun _ _ => aH ?_)); refine k_get1 (by exact .t2 (bR ha)) ?_
 rw [show (valueAt d0 (ofString "{http://www.w3.org/XML/1998/namespace}space")).getD .none = .none from by rw [show valueAt d0 (ofString "{http://www.w3.org/XML/1998/namespace}space") = none from hsp]; rfl]
 with_reducible refine aR .here (.n4 (.n .new)) (aJ (aE (bf (bi (dH ?_))))); refine bF (.there .here) ?_; refine fS (by assumption) (.there (.there a9)) (.there (.there aS)) jP (by kernel_rfl!) ?_; refine dE (.there (.there jJ)) (cT (aA (eF (bh (aG .here (.n4 (.n .here)) ?_))))); refine gu (dh (bE (dH (bF (.there .here) ?_)))); refine fS (by assumption) (.there (.there a9)) (.there (.there aS)) jP (by kernel_rfl!) ?_; refine d4 (aO fun _ => dT fun t1 => dU (.there (.there jJ)) ePs (aH ?_)); refine du (ys := (t.ps ++ [bp]).map Value.bool) (.t2 (pw_PS (t.ps ++ [bp]))) (by rw [ai, ap, List.map_nil]) (by simp only [tv, ag, List.length_cons, ao, List.length_nil, List.length_replicate, af]; apply aD; with_reducible assumption; decide) ?_
 show Go h0 o0 (_ :: _ :: wr prog w i { t with ps := t.ps ++ [bp] } V) _
 with_reducible refine aJ (aE (bK (dH (bF (.there .here) ?_)))); refine fS (by assumption) (.there (.there a9)) (.there (.there aS)) jO (by kernel_rfl!) ?_; refine aR .here (.n4 (.n (.n .new))) (aJ (aE (bf (aW (aG .here (.n4 (.n (.n .here))) ?_))))); refine im (.there (.there cI)) (aA (aY (aI fun _ _ => bE (bE ?_)))); refine aG .here (.n (.n (.n .here))) (aG .here .here ?_)
 have z1 : (ofString "<").length = 1 := by decide +kernel
 with_reducible refine oD (.t2 (bR hD)) hv (by with_unfolding_all rfl) ?_; refine aO fun _ => lm (.t2 (bR hT)) ?_; refine bu (by rw [z1, af]; (apply aD; apply aF; exact ae _; with_reducible assumption; decide)) ?_; intro k1; refine aH (cw (.there (.there cI)) ?_); refine gJ (by (try dsimp only); (apply aD; with_reducible assumption; decide)) (.there (.there cI)) (.t2 (lk _)) ?_
 exact aJ (h k1)
theorem cs_F0 {L AL D2 a' : Addr} {tag : Str} {u : Tok} {as : List At4} {R : RP} (B : Base (KF w.params) h0) (hh : A.handled = none) (hroom : A.depth + 1 < recursionLimit)
  (hAL : Has V AL (ay (as.map fun p => .ref p.1))) (hp : ∀ p ∈ as, Has V p.1 (a8 [.str p.2.1.1 p.2.1.2, .str p.2.2.1 p.2.2.2]))
  (hnz : t.nl.length ≤ 1000) (hoz : t.out.length ≤ 100001) (haz : as.length ≤ 16) (hal : ∀ p ∈ as, p.2.1.1.length ≤ 1000 ∧ p.2.2.1.length ≤ 100 ∧ (atF p.2.2.1).length ≤ 900000)
  (h : ∀ l k2 k3, Go h0 o0 (wr prog w i { t with out := (t.out ++ gc (as.map At4.v) k2) ++ [(ofString ">", k3)], rs := true, nl := t.nl ++ [⟨l, []⟩] } V) (R (.ok (.ret .none)))) :
  Go h0 o0 ((L, cNs [(ofString "tag", .str tag u), (ofString "attrs", .ref a'), (ofString "qname_text", .none), (ofString "parsed_qnames", .ref D2), (ofString "attr_list", .ref AL), (ofString "space_behaviour", .none), (ofString "write", .ref i.W)]) :: (L + 1, aN (some (.ref i.x))) :: wr prog w i t V)
   (wpAny (model prog w) (A.deeper (callEnvC (aK (KF w.params) aB) L aB)) (execs ((aZ (KF w.params) aB).drop 13) (callEnvC (aK (KF w.params) aB) L aB)) (RK R) (jA (model prog w) (A.deeper (callEnvC (aK (KF w.params) aB) L aB)) (callEnvC (aK (KF w.params) aB) L aB) R)) := by
 have hh' : ∀ env, (A.deeper env).handled = none := fun _ => hh
 have hroom1 : ∀ env, (A.deeper env).depth < recursionLimit := fun _ => by show A.depth + 1 < _; (with_reducible assumption)
 have gAt : bA h0 (ofString "_escape_attrib_c14n") (.ref aAt) := B.glob (by kernel_rfl!) (by kernel_rfl!)
 have z2 : (ofString ">").length = 1 := by decide +kernel
 refine aE ?_
 refine bH (fun f C => f = .next ∧ ∃ k2, C = (L, cNs [(ofString "tag", .str tag u), (ofString "attrs", .ref a'), (ofString "qname_text", .none), (ofString "parsed_qnames", .ref D2), (ofString "attr_list", .ref AL), (ofString "space_behaviour", .none), (ofString "write", .ref i.W)]) :: (L + 1, aN (some (.ref i.x))) :: wr prog w i { t with out := t.out ++ gc (as.map At4.v) k2 } V) ?_ ?_
 ·with_reducible refine bt (bh (aG .here (.n (.n (.n (.n .here)))) ?_)); refine fV (.t2 (bR hAL)) (by rw [ag, af]; (apply aD; with_reducible assumption; decide)) ?_
  refine cA (fun hae => ?_) fun hae => ?_
  ·have hae : as ≠ [] := by intro e; rw [e] at hae; simp at hae
   with_reducible refine aE (bf (aW (aG .here (.n4 (.n (.n .here))) (im (.there (.there cI)) (aA ?_))))); refine bi (aI fun _ _ => dZ (cT (aA ?_)))
   refine e_clE (cl := []) (hh' _) (by kernel_rfl!) (by decide) rfl (by decide) ?_ (fun _ => by with_unfolding_all rfl)
   with_reducible refine aG .here (.n (.n (.n (.n .here)))) ?_
   refine clE (xs := as.map fun p => .ref p.1) (fun n ys C => ∃ l : List (Str × Tok), ys = tv l ∧ l.map (·.1) = (as.take n).map (fun p => pW p.v) ∧ tot l ≤ 1000000 * n ∧ C = (L, cNs [(ofString "tag", .str tag u), (ofString "attrs", .ref a'), (ofString "qname_text", .none), (ofString "parsed_qnames", .ref D2), (ofString "attr_list", .ref AL), (ofString "space_behaviour", .none), (ofString "write", .ref i.W)]) :: (L + 1, aN (some (.ref i.x))) :: wr prog w i t V) ⟨[], rfl, rfl, Nat.zero_le _, rfl⟩ (by rw [ag, af]; (apply aD; with_reducible assumption; decide)) ?_ ?_ ?_
   ·rintro n ys C ⟨l, _, _, _, rfl⟩
    exact .t2 (bR hAL)
   ·rintro L2 n v ys C K' hv ⟨l, rfl, hl, htot, rfl⟩
    obtain ⟨p, hpn, rfl⟩ : ∃ p, as[n]? = some p ∧ v = Value.ref p.1 := by
     rw [List.getElem?_map] at hv
     cases hx : as[n]? with
     | none => rw [hx] at hv; cases hv
     | some p => rw [hx] at hv; exact ⟨p, rfl, by cases hv; rfl⟩
    have hpm := List.mem_of_getElem? hpn
    have hpb := hal p hpm
    have z0 : Str.empty.length = 0 := by decide +kernel
    have y1 : (ofString " ").length = 1 := by decide +kernel
    have y2 : (ofString "=\"").length = 2 := by decide +kernel
    have y3 : (ofString "\"").length = 1 := by decide +kernel
    obtain ⟨pb1, pb2, pb3⟩ := hpb
    show Go h0 o0 (_ :: _ :: _ :: (wr prog w i _ V ++ K')) _
    rw [← bP]
    refine nT (hh' _) (.t2 (.there (bR (Has.app (hp p hpm))))) ?_
    with_reducible refine aR .here .new (aR .here (.n .new) (eE (a0 (aI ?_)))); intro _ _; refine br (by simp only [ah, af]; apply aD; apply aF; exact aj (by assumption); exact aj (by assumption); decide) ?_; refine a0 (eO (aG .here .here ?_)); refine dG (by simp only [ah, af]; apply aD; with_reducible assumption; decide) ?_; intro _; refine br (by simp only [ah, af]; apply aD; apply aF; apply aF; exact aj (by assumption); exact aj (by assumption); with_reducible assumption; decide) ?_; refine a0 (aI ?_); intro _ _; refine br (by simp only [ah, af]; apply aD; apply aF; apply aF; apply aF; exact aj (by assumption); exact aj (by assumption); with_reducible assumption; exact aj (by assumption); decide) ?_; refine a0 (eO (aW (ch ?_))); refine dK (aA (aG .here (.n .here) (aH (ck (c_at B (hroom1 _) pb2 ?_))))); intro tk; refine dG (by simp only [ah, af]; apply aD; with_reducible assumption; decide) ?_; intro _; refine br (by simp only [ah, af]; apply aD; apply aF; apply aF; apply aF; apply aF; exact aj (by assumption); exact aj (by assumption); with_reducible assumption; exact aj (by assumption); with_reducible assumption; decide) ?_; refine a0 (aI ?_); intro _ _; refine br (by simp only [ah, af]; apply aD; apply aF; apply aF; apply aF; apply aF; apply aF; exact aj (by assumption); exact aj (by assumption); with_reducible assumption; exact aj (by assumption); with_reducible assumption; exact aj (by assumption); decide) ?_; refine gK ?_; refine gL (by simp only [ah, af]; apply aD; apply aF; apply aF; apply aF; apply aF; apply aF; exact aj (by assumption); exact aj (by assumption); with_reducible assumption; exact aj (by assumption); with_reducible assumption; exact aj (by assumption); decide) ?_; intro _
    rename_i tj
    refine ce0 (C' := _ :: _ :: wr prog w i _ V) ⟨l ++ [(pW p.v, tj)], ?_, ?_, ?_, rfl⟩ (by rw [bP]; rfl)
    ·rw [tv, tv, ai]; rfl
    ·rw [ai, hl, List.take_add_one, hpn, ai]; rfl
    ·unfold tot at htot ⊢
     rw [ai, List.sum_append]
     have : (pW p.v).length ≤ 1000000 := by
      unfold pW
      simp only [ah, z0, y1, y2, y3]
      show _ + 1 + (At4.v p).1.length + _ + (atF p.2.2.1).length + _ ≤ _
      have : (At4.v p).1.length ≤ 1000 := pb1
      (apply aD; apply aF; apply aF; apply aF; apply aF; apply aF; exact ae _; exact ae _; with_reducible assumption; exact ae _; with_reducible assumption; exact ae _; decide)
     simp only [ap, List.map_nil, List.sum_cons, List.sum_nil]
     (lia)
   ·rintro D ys C ⟨l, rfl, hl, htot, rfl⟩
    rw [ag] at htot
    rw [ag, List.take_length] at hl
    have ejn : Txt.join (ofString "") (l.map (·.1)) = pX (as.map At4.v) := by rw [hl]; unfold pX dY; rw [List.map_map]; rfl
    with_reducible refine aH ?_; refine dv (l := l) (show Has _ D (ay (tv l)) from .here) (cZ (by rw [af]; (lia))) ?_; intro tj
    rw [ejn]
    with_reducible refine aH (cw (.t2 (.there cI)) ?_); refine gJ (by (try dsimp only); (apply aD; with_reducible assumption; decide)) (.t2 (.there cI)) (.t2 (.there (lk _))) ?_
    refine Go.sub (ak _ _) ?_
    show Go h0 o0 (_ :: _ :: wr prog w i { t with out := t.out ++ [(pX (as.map At4.v), tj)] } V) _
    with_reducible refine aJ (aL ?_)
    exact jp ⟨rfl, tj, by rw [gc, if_neg (by simpa using hae)]⟩
  ·have hae : as = [] := by cases as with | nil => rfl | cons a b => simp at hae
   subst hae
   with_reducible refine aL ?_
   exact jp ⟨rfl, 0, by rw [gc, List.map_nil, if_pos rfl, List.append_nil]⟩
 rintro f C ⟨rfl, k2, rfl⟩
 have h := fun l k3 => h l k2 k3
 have ho : (gc (as.map At4.v) k2).length ≤ 1 := by unfold gc; split <;> simp
 have ho2 : (t.out ++ gc (as.map At4.v) k2).length ≤ 100002 := by rw [ao]; (apply aD; apply aF; with_reducible assumption; with_reducible assumption; decide)
 generalize t.out ++ gc (as.map At4.v) k2 = out at h ho2 ⊢
 with_reducible refine aJ (aE (bf (aW (aG .here (.n4 (.n (.n .here))) (im (.there (.there cI)) ?_))))); refine aA (aI fun _ _ => aH (cw (.there (.there cI)) ?_))
 rename_i t3 ht3
 with_reducible refine gJ (by (try dsimp only); (apply aD; with_reducible assumption; decide)) (.there (.there cI)) (.t2 (lk _)) ?_
 show Go h0 o0 (_ :: _ :: wr prog w i { t with out := out ++ [(ofString ">", t3)] } V) _
 with_reducible refine aJ (aE (bt (bc (aG .here (.n (.n .here)) (cG ?_))))); refine fX (aP (kB (aL (aJ (aE ?_))))); refine cn (kH (bF (.there .here) (w_rs B (.there (.there a9)) (.t2 (pw_rs _)) ?_)))
 show Go h0 o0 (_ :: _ :: wr prog w i { t with out := out ++ [(ofString ">", t3)], rs := true } V) _
 with_reducible refine aJ (aE (bf (bi (dH (bF (.there .here) ?_))))); refine fS (by assumption) (.there (.there a9)) (.there (.there aS)) l8 (by kernel_rfl!) ?_; refine dE (.there (.there l5)) (cT (aA (bq (aH (bn ?_))))); intro _; refine aH ?_
 rename_i la
 refine k_newN (X := [_, _]) (by dsimp only; (apply aD; with_reducible assumption; decide)) ?_
 have h := h la t3
 show Go h0 o0 (_ :: _ :: wr prog w i { t with out := out ++ [(ofString ">", t3)], rs := true, nl := t.nl ++ [⟨la, []⟩] } V) _
 with_reducible refine aJ (aL (ia ?_))
 exact Go.sub ((ak _ _).trans (ak _ _)) h
theorem cs_FT {L AL D2 a' : Addr} {tag : Str} {u : Tok} {as : List At5} {n0 : Nat} {p0 : At5} {r : Str} {T : String} {R : RP} {outer : List Env} (B : Base (KF w.params) h0) (hh : A.handled = none) (hroom : A.depth + 2 < recursionLimit) (hA : A.frames = some outer) (hfr : FrOk V outer)
  (hAL : Has V AL (ay (as.map fun p => .ref p.1))) (hp : ∀ p ∈ as, Has V p.1 (a8 [.str p.2.1.1 p.2.1.2, p.2.2]))
  (haz : as.length ≤ 16) (hal : ∀ n p, n < n0 → as[n]? = some p → p.2.1.1.length ≤ 1000 ∧ ∃ x k, p.2.2 = .str x k ∧ x.length ≤ 100 ∧ (atF x).length ≤ 900000)
  (hn0 : as[n0]? = some p0) (hp1 : p0.2.1.1.length ≤ 1000) (hbad : iq w.params p0.2.2 r T)
  (h : ∀ e t0 c k X, Go h0 o0 (cV e "TypeError" (.ref t0) c (some X) ++ ((t0, a8 [.str (bN r (ofString T)) k]) :: wr prog w i t V)) (R (.error (.ref e)))) :
  Go h0 o0 ((L, cNs [(ofString "tag", .str tag u), (ofString "attrs", .ref a'), (ofString "qname_text", .none), (ofString "parsed_qnames", .ref D2), (ofString "attr_list", .ref AL), (ofString "space_behaviour", .none), (ofString "write", .ref i.W)]) :: (L + 1, aN (some (.ref i.x))) :: wr prog w i t V)
   (wpAny (model prog w) (A.deeper (callEnvC (aK (KF w.params) aB) L aB)) (execs ((aZ (KF w.params) aB).drop 13) (callEnvC (aK (KF w.params) aB) L aB)) (RK R) (jA (model prog w) (A.deeper (callEnvC (aK (KF w.params) aB) L aB)) (callEnvC (aK (KF w.params) aB) L aB) R)) := by
 have hh' : ∀ env, (A.deeper env).handled = none := fun _ => hh
 have hroom1 : ∀ env, (A.deeper env).depth < recursionLimit := fun _ => by show A.depth + 1 < _; (exact aX 1 (by with_reducible assumption))
 have hroom2 : ∀ env, (A.deeper env).depth + 1 < recursionLimit := fun _ => by show A.depth + 1 + 1 < _; (with_reducible assumption)
 have gAt : bA h0 (ofString "_escape_attrib_c14n") (.ref aAt) := B.glob (by kernel_rfl!) (by kernel_rfl!)
 have hA1 : (A.deeper (callEnvC (aK (KF w.params) aB) L aB)).frames = some (callEnvC (aK (KF w.params) aB) L aB :: outer) := Around.frames_deeper hA
 have hlt := (List.getElem?_eq_some_iff.mp hn0).1
 refine aE ?_
 with_reducible refine bt (bh (aG .here (.n (.n (.n (.n .here)))) ?_)); refine fV (.t2 (bR hAL)) (by rw [ag, af]; (apply aD; with_reducible assumption; decide)) ?_
 refine cA (fun _ => ?_) fun hae => by cases as with | nil => cases hn0 | cons a b => simp at hae
 with_reducible refine aE (bf (aW (aG .here (.n4 (.n (.n .here))) (im (.there (.there cI)) (aA ?_))))); refine bi (aI fun _ _ => dZ (cT (aA ?_)))
 refine e_clE (cl := []) (hh' _) (by kernel_rfl!) (by decide) rfl (by decide) ?_ (fun _ => by with_unfolding_all rfl)
 with_reducible refine aG .here (.n (.n (.n (.n .here)))) ?_
 refine clE (xs := as.map fun p => .ref p.1) (fun n ys C => n ≤ n0 ∧ C = (L, cNs [(ofString "tag", .str tag u), (ofString "attrs", .ref a'), (ofString "qname_text", .none), (ofString "parsed_qnames", .ref D2), (ofString "attr_list", .ref AL), (ofString "space_behaviour", .none), (ofString "write", .ref i.W)]) :: (L + 1, aN (some (.ref i.x))) :: wr prog w i t V) ⟨Nat.zero_le _, rfl⟩ (by rw [ag, af]; (apply aD; with_reducible assumption; decide)) ?_ ?_ ?_
 ·rintro n ys C ⟨_, rfl⟩
  exact .t2 (bR hAL)
 ·rintro L2 n v ys C K' hv ⟨hnn, rfl⟩
  obtain ⟨p, hpn, rfl⟩ : ∃ p, as[n]? = some p ∧ v = Value.ref p.1 := by
   rw [List.getElem?_map] at hv
   cases hx : as[n]? with
   | none => rw [hx] at hv; cases hv
   | some p => rw [hx] at hv; exact ⟨p, rfl, by cases hv; rfl⟩
  have hpm := List.mem_of_getElem? hpn
  have z0 : Str.empty.length = 0 := by decide +kernel
  have y1 : (ofString " ").length = 1 := by decide +kernel
  have y2 : (ofString "=\"").length = 2 := by decide +kernel
  have y3 : (ofString "\"").length = 1 := by decide +kernel
  show Go h0 o0 (_ :: _ :: _ :: (wr prog w i _ V ++ K')) _
  rw [← bP]
  have hpc := hp p hpm
  rcases Nat.lt_or_ge n n0 with hlt2 | hge
  ·obtain ⟨pb1, x, kx, ex, pb2, pb3⟩ := hal n p hlt2 hpn
   rw [ex] at hpc
   refine nT (hh' _) (.t2 (.there (bR (Has.app hpc)))) ?_
   with_reducible refine aR .here .new (aR .here (.n .new) (eE (a0 (aI ?_)))); intro _ _; refine br (by simp only [ah, af]; apply aD; apply aF; exact aj (by assumption); exact aj (by assumption); decide) ?_; refine a0 (eO (aG .here .here ?_)); refine dG (by simp only [ah, af]; apply aD; with_reducible assumption; decide) ?_; intro _; refine br (by simp only [ah, af]; apply aD; apply aF; apply aF; exact aj (by assumption); exact aj (by assumption); with_reducible assumption; decide) ?_; refine a0 (aI ?_); intro _ _; refine br (by simp only [ah, af]; apply aD; apply aF; apply aF; apply aF; exact aj (by assumption); exact aj (by assumption); with_reducible assumption; exact aj (by assumption); decide) ?_; refine a0 (eO (aW (ch ?_))); refine dK (aA (aG .here (.n .here) (aH (ck (c_at B (hroom1 _) pb2 ?_))))); intro tk; refine dG (by simp only [ah, af]; apply aD; with_reducible assumption; decide) ?_; intro _; refine br (by simp only [ah, af]; apply aD; apply aF; apply aF; apply aF; apply aF; exact aj (by assumption); exact aj (by assumption); with_reducible assumption; exact aj (by assumption); with_reducible assumption; decide) ?_; refine a0 (aI ?_); intro _ _; refine br (by simp only [ah, af]; apply aD; apply aF; apply aF; apply aF; apply aF; apply aF; exact aj (by assumption); exact aj (by assumption); with_reducible assumption; exact aj (by assumption); with_reducible assumption; exact aj (by assumption); decide) ?_; refine gK ?_; refine gL (by simp only [ah, af]; apply aD; apply aF; apply aF; apply aF; apply aF; apply aF; exact aj (by assumption); exact aj (by assumption); with_reducible assumption; exact aj (by assumption); with_reducible assumption; exact aj (by assumption); decide) ?_; intro _
   exact ce0 (C' := _ :: _ :: wr prog w i _ V) ⟨hlt2, rfl⟩ (by rw [bP]; rfl)
  ·have en : n = n0 := Nat.le_antisymm hnn hge
   subst en
   obtain rfl : p = p0 := by rw [hpn] at hn0; exact Option.some.inj hn0
   refine nT (hh' _) (.t2 (.there (bR (Has.app hpc)))) ?_
   with_reducible refine aR .here .new (aR .here (.n .new) (eE (a0 (aI ?_)))); intro _ _; refine br (by simp only [ah, af]; apply aD; apply aF; exact aj (by assumption); exact aj (by assumption); decide) ?_; refine a0 (eO (aG .here .here ?_)); refine dG (by simp only [ah, af]; apply aD; with_reducible assumption; decide) ?_; intro _; refine br (by simp only [ah, af]; apply aD; apply aF; apply aF; exact aj (by assumption); exact aj (by assumption); with_reducible assumption; decide) ?_; refine a0 (aI ?_); intro _ _; refine br (by simp only [ah, af]; apply aD; apply aF; apply aF; apply aF; exact aj (by assumption); exact aj (by assumption); with_reducible assumption; exact aj (by assumption); decide) ?_; refine a0 (eO (aW (ch ?_))); refine dK (aA (aG .here (.n .here) (aH (ck ?_))))
   have hfV : FrOk (V ++ K') outer := hfr.sub fun p hp => List.mem_append_left _ hp
   refine c_atR B hbad (hroom2 _) hA1 (FrOk.cons (by kernel_rfl!) rfl (.there .here) hfV.wr.there.there.there) (hh' _) fun e t0 k c X => ?_
   refine pj (.there .here) hA1 rfl rfl (FrOk.cons (by kernel_rfl!) rfl (.there .here) hfV.wr.there.there.there) fun X1 => ?_
   refine cc hA1 rfl (FrOk.cons (by kernel_rfl!) rfl (.there .here) hfV.wr.there.there.there) fun X2 => ?_
   refine Go.drop2 (Go.drop2 (Go.sub (List.Sublist.append_left (List.Sublist.cons_cons _ (de (V1 := V) (List.sublist_append_left _ _))) _) (h e t0 c k X2)))
 ·rintro D ys C ⟨hnn, rfl⟩
  rw [ag] at hnn
  exact absurd hnn (Nat.not_le_of_lt hlt)
theorem iA {rw : Bool} {x : Str} {r : List Str} : ∀ {xs : List Str} {s s1 s' : QS} {l l1 : List (Str × Str)}, bx rw s (xs ++ x :: r) = some (l, s') → bx rw s xs = some (l1, s1) → d8 rw s1 (bI x).1 (bI x).2 ≠ none
 | [], s, s1, s', l, l1, h, h1 => by
  cases h1
  obtain ⟨q, s2, l2, e, _⟩ := cO h
  rw [e]; exact fun q => nomatch q
 | y :: ys, s, s1, s', l, l1, h, h1 => by
  obtain ⟨q, s2, l2, e, e2, _⟩ := cO h
  obtain ⟨q', s2', l2', e', e2', _⟩ := cO h1
  rw [e] at e'; cases e'
  exact iA e2 e2'
theorem j6 {rw : Bool} {x : Str} {n : Nat} {xs : List Str} {s s1 s' : QS} {l l1 : List (Str × Str)} (h : bx rw s xs = some (l, s')) (hx : xs[n]? = some x) (h1 : bx rw s (xs.take n) = some (l1, s1)) : d8 rw s1 (bI x).1 (bI x).2 ≠ none := by
 have hn := (List.getElem?_eq_some_iff.mp hx).1
 have e : xs = xs.take n ++ x :: xs.drop (n + 1) := by rw [← (List.getElem?_eq_some_iff.mp hx).2, ← List.drop_eq_getElem_cons hn, List.take_append_drop]
 rw [e] at h
 exact iA h h1
theorem snocL {dl N : List Lv} {b : Lv} (h : dl.map (·.a) = N.map (·.a) ++ [b.a]) : ∃ ND lD, dl = ND ++ [lD] ∧ lD.a = b.a := by
 have hne : dl ≠ [] := fun e => by rw [e] at h; simp at h
 refine ⟨dl.dropLast, dl.getLast hne, (List.dropLast_concat_getLast hne).symm, ?_⟩
 rw [← List.dropLast_concat_getLast hne, ai] at h
 simpa using (List.append_inj' h rfl).2
theorem jz (tag : Str) (r : List Str) : bV [tag] r ≠ [] := fun e => by have := (gH r [tag] tag).mpr (.inl (List.mem_singleton.mpr rfl)); rw [e] at this; cases this
theorem cs2_V {a : Addr} {tag : Str} {u : Tok} {T : az} {dd : List (Str × Value)} {R : RP} {n1 : Addr} {U : List Str} {n0 : Nat} {xs : List Str} {outer : List Env}
  (B : Base (KF w.params) h0) (LB : LamBase h0 cU be) (hh : A.handled = none) (hroom : A.depth + 3 < recursionLimit) (hu : A.units + 1000 < cLine) (hA : A.frames = some outer) (hfr : FrOk V outer) (hrw : i.rw = false) (hea : i.ea = .none)
  (hT : Tb be lamPos lamQ T) (hb : WB t) (hd : t.dl ≠ []) (hU : UOk U) (hqb : QB U n0 (QS.of t)) (hn0 : n0 ≤ 480) (ha : Has V a (aM prog w dd)) (hdl : dd.length ≤ 5)
  (hok : ∀ x ∈ bV [tag] (dd.map (·.1)), fB x = true ∧ (bI x).1 ∈ U) (inj : ∀ x ∈ bV [tag] (dd.map (·.1)), ∀ y ∈ bV [tag] (dd.map (·.1)), κQ x = κQ y → x = y)
  (hx : xs.Perm (bV [tag] (dd.map (·.1)))) (hxr : dr (fun x y => dW (κQ x) (κQ y)) xs) (hno : bx i.rw (QS.of t) xs = none)
  (hE : ∀ n x l s1, xs[n]? = some x → bx i.rw (QS.of t) (xs.take n) = some (l, s1) → d8 i.rw s1 (bI x).1 (bI x).2 = none → ∀ T' dl pm e t0 k X, Tb be lamPos lamQ T' →
   Go h0 o0 (cV e "ValueError" (.ref t0) .none (some X) ++ ((t0, a8 [.str (kP (bI x).1) k]) :: (T' ++ wr prog w i { t with dl := dl, pm := pm } V))) (R (.error (.ref e)))) :
  Go h0 o0 (T ++ wr prog w i t V) (codeAny (model prog w) A (.call (.ref aB) ⟨[.ref i.x, .str tag u, .ref a, .ref n1], []⟩) R) := by
 have hadl := ft (dd.map (·.1)) [tag]
 rw [ag, List.length_singleton] at hadl
 refine pR B hh (by exact aX 3 (by with_reducible assumption)) hea ha (by exact Nat.le_succ_of_le (by with_reducible assumption)) fun L S q => ?_
 exact cs_C B LB hh hroom hu hA hfr hrw hT hb hd hU hqb hn0 (jz _ _) (by lia) (dB _ _ (by simp)) hok inj hx hxr (fun l s' e => by rw [hno] at e; cases e) hE
theorem cs2_N {a : Addr} {tag q : Str} {u : Tok} {T : az} {R : RP} {ND : List Lv} {lD : Lv} {U : List Str} {n0 : Nat} {ys : List (Str × Str)} {s' : QS} {outer : List Env} {bp : Bool} {pp : List Bool}
  (B : Base (KF w.params) h0) (LB : LamBase h0 cU be) (hh : A.handled = none) (hroom : A.depth + 3 < recursionLimit) (hu : A.units + 1000 < cLine) (hA : A.frames = some outer) (hfr : FrOk V outer) (hrw : i.rw = false) (hea : i.ea = .none)
  (hT : Tb be lamPos lamQ T) (hb : WB t) (hoz : t.out.length ≤ 100000) (hN : t.dl = ND ++ [lD]) (hU : UOk U) (hqb : QB U n0 (QS.of t)) (hn0 : n0 ≤ 480) (ha : Has V a (aM prog w []))
  (hok : fB tag = true ∧ (bI tag).1 ∈ U) (hq : d8 i.rw (QS.of t) (bI tag).1 (bI tag).2 = some (q, s')) (ePp : t.ps = pp ++ [bp])
  (hy : ys.Perm ((s'.dl.getLastD []).map oH)) (hyr : dr jD (ys.map (·.1))) (hyn : (ys.map (·.1)).Nodup) (hy5 : ys.length ≤ 5) (hyv : ∀ p ∈ ys, p.2.length ≤ 100 ∧ (atF p.2).length ≤ 900000)
  (h : ∀ T' dl pm ll k1 k2 k3, Tb be lamPos lamQ T' → QS.of { t with dl := dl, pm := pm } = s' → dl.map (·.a) = t.dl.map (·.a) →
   Go h0 o0 (T' ++ wr prog w i { t with dl := dl, pm := pm, ps := t.ps ++ [bp], out := ((t.out ++ [(ofString "<" ++ q, k1)]) ++ gc ys k2) ++ [(ofString ">", k3)], rs := true, nl := t.nl ++ [⟨ll, []⟩] } V) (R (.ok (.ret .none)))) :
  Go h0 o0 (T ++ wr prog w i t V) (codeAny (model prog w) A (.call (.ref aB) ⟨[.ref i.x, .str tag u, .ref a, .ref lD.a], []⟩) R) := by
 have hd : t.dl ≠ [] := by rw [hN]; simp
 have hqa : bx i.rw (QS.of t) [tag] = some ([(tag, q)], s') := by unfold bx; rw [hq]; rfl
 obtain ⟨q3, q2, _, _⟩ := hqb.step hok.2 (cz hok.1).2.2 hU hq
 refine pR B hh (by exact aX 3 (by with_reducible assumption)) hea ha (Nat.zero_le _) fun L S qa => ?_
 refine cs_C (xs := [tag]) B LB hh hroom hu hA hfr hrw hT hb hd hU hqb hn0 (jz tag []) (Nat.le_of_ble_eq_true rfl) (dB _ _ (by simp)) (fun x hxm => by rw [List.mem_singleton.mp (show x ∈ [tag] from hxm)]; exact hok) (fun x hxm y hym _ => by rw [List.mem_singleton.mp (show x ∈ [tag] from hxm), List.mem_singleton.mp (show y ∈ [tag] from hym)]) (List.Perm.refl _) trivial ?_ (fun n x l s1 e1 e2 e3 => absurd e3 (j6 hqa e1 e2))
 intro l s'' hr D2 dd dl pm T' XC hs' hda hT' hD2 hdd
 rw [hqa] at hr
 cases hr
 obtain ⟨Tq, k1, k2, k3, e1, e2⟩ := hdd _ (List.mem_singleton.mpr rfl)
 dsimp only at e1 e2
 obtain ⟨ND', lD', hdl, hla⟩ := snocL (dl := dl) (N := ND) (b := lD) (by rw [hda, hN, ai]; rfl)
 have hlv : s'.dl.getLastD [] = lD'.v := by
  rw [← hs', show (QS.of { t with dl := dl, pm := pm }).dl = dl.map Lv.v from rfl, hdl, ai]; simp
 rw [hlv] at hy
 have hlz : lD'.ps.length ≤ 5 := by have := hy.length_eq; unfold Lv.v at this; rw [ag, ag] at this; (lia)
 rw [← hla]
 have hwb : ∀ p ∈ lD'.ps, p.u.length ≤ 100 ∧ p.p.length ≤ 100 := fun p hp => by
  refine q3.dp p.v (mem_flatV.mpr ⟨lD'.v, ?_, List.mem_map.mpr ⟨p, hp, rfl⟩⟩)
  rw [← hs', show (QS.of { t with dl := dl, pm := pm }).dl = dl.map Lv.v from rfl, hdl, ai]; simp
 refine cs_D (ND := ND') (ys := ys) B hh hdl (fun p hp => (hwb p hp).2) hlz hy hyr hyn ?_
 intro AL as XD has hXD
 have hDD : Has (XD ++ (XC ++ (T' ++ V))) D2 (aM prog w dd) := .skip hD2.app
 have hAA : Has (XD ++ (XC ++ (T' ++ V))) a (aM prog w []) := .skip (.skip (.skip ha))
 have hal : as.length ≤ 5 := by have := congrArg List.length has; rw [ag] at this; (lia)
 refine aE (bt ?_)
 with_reducible refine bh (aG .here (.n .here) (t_dic (.t2 (.there (bR hAA))) (Nat.zero_le _) ?_))
 show Go h0 o0 _ (eR false _ _)
 refine dh (aL (aJ ?_))
 refine Go.thin (a := L) (m' := [(ofString "tag", .str tag u), (ofString "attrs", .ref a), (ofString "qname_text", .none), (ofString "parsed_qnames", .ref D2), (ofString "attr_list", .ref AL)]) .here (.cons .here (.cons (.n .here) (.cons (.n (.n (.n .here))) (.cons (.n4 (.n .here)) (.cons (.n4 (.n (.n .here))) .nil))))) ?_
 refine Go.sel (cs' := (AL, ay (as.map fun p => .ref p.1)) :: (L, cNs [(ofString "tag", .str tag u), (ofString "attrs", .ref a), (ofString "qname_text", .none), (ofString "parsed_qnames", .ref D2), (ofString "attr_list", .ref AL)]) :: (L + 1, aN (some (.ref i.x))) :: wr prog w i { t with dl := dl, pm := pm } (XD ++ (XC ++ (T' ++ V)))) (.pick (.there (.there .here)) (.pick .here (.pick .here (.tail .refl)))) ?_
 refine Go.wPull (X := [_]) (Y := [_, _]) ?_
 have hvs : ∀ p ∈ as, p.2.1.1.length ≤ 1000 ∧ p.2.2.1.length ≤ 100 ∧ (atF p.2.2.1).length ≤ 900000 := by
  intro p hp
  have hm : At4.v p ∈ ys := by rw [← has]; exact aq hp
  show (At4.v p).1.length ≤ 1000 ∧ (At4.v p).2.length ≤ 100 ∧ (atF (At4.v p).2).length ≤ 900000
  generalize At4.v p = v at hm
  refine ⟨?_, hyv v hm⟩
  obtain ⟨r, hr, rfl⟩ := List.mem_map.mp (hy.mem_iff.mp hm)
  obtain ⟨p0, hp0, rfl⟩ := List.mem_map.mp hr
  have h1 := (hwb p0 hp0).2
  have z1 : (ofString "xmlns:").length = 6 := by decide +kernel
  have z2 : (ofString "xmlns").length = 5 := by decide +kernel
  unfold oH
  dsimp only
  split
  ·rw [z2]; (apply aD; exact ae _; decide)
  ·rw [ah, z1]
   show 6 + p0.p.length ≤ 1000
   (apply aD; apply aF; exact ae _; with_reducible assumption; decide)
 have hnlz := hb.nlz
 refine cs_F1 (xs := _) (pp := pp) (bp := bp) B hh (.skip hAA) rfl (.skip hDD) e1 (.skip (.skip e2.app)) ePp hb.psz hoz (by apply aD; with_reducible assumption; decide) fun j1 => ?_
 refine cs_F0 (as := as) B hh (by exact aX 2 (by with_reducible assumption)) .here (fun p hp => .skip (hXD p hp).app) hnlz (by dsimp only; rw [ao]; show _ + 1 ≤ _; (apply aD; apply aF; with_reducible assumption; exact ae _; decide)) (by apply aD; with_reducible assumption; decide) hvs fun ll j2 j3 => ?_
 rw [has]
 refine Go.sub (de (V1 := T' ++ V) ?_) (Go.wOut (X := T') (h T' dl pm ll j1 j2 j3 hT' hs' hda))
 exact (List.sublist_append_right _ _).trans ((List.sublist_append_right _ _).trans (List.sublist_append_right _ _))
theorem cs2_T {a : Addr} {tag : Str} {u : Tok} {T : az} {dd : List (Str × Value)} {R : RP} {ND : List Lv} {lD : Lv} {U : List Str} {n0 n2 : Nat} {xs : List Str} {l : List (Str × Str)} {zs : List (Str × Value)} {z0 : Str × Value} {r : Str} {Tn : String} {s' : QS} {outer : List Env} {bp : Bool} {pp : List Bool}
  (B : Base (KF w.params) h0) (LB : LamBase h0 cU be) (hh : A.handled = none) (hroom : A.depth + 3 < recursionLimit) (hu : A.units + 1000 < cLine) (hA : A.frames = some outer) (hfr : FrOk V outer) (hrw : i.rw = false) (hea : i.ea = .none)
  (hT : Tb be lamPos lamQ T) (hb : WB t) (hoz : t.out.length ≤ 100000) (hN : t.dl = ND ++ [lD]) (hU : UOk U) (hqb : QB U n0 (QS.of t)) (hn0 : n0 ≤ 480) (ha : Has V a (aM prog w dd)) (hdl : dd.length ≤ 5) (nd : (dd.map (·.1)).Nodup) (hsp : valueAt dd sKey = none)
  (hok : ∀ x ∈ bV [tag] (dd.map (·.1)), fB x = true ∧ (bI x).1 ∈ U) (inj : ∀ x ∈ bV [tag] (dd.map (·.1)), ∀ y ∈ bV [tag] (dd.map (·.1)), κQ x = κQ y → x = y)
  (hx : xs.Perm (bV [tag] (dd.map (·.1)))) (hxr : dr (fun x y => dW (κQ x) (κQ y)) xs) (hq : bx i.rw (QS.of t) xs = some (l, s')) (hy0 : s'.dl.getLastD [] = []) (ePp : t.ps = pp ++ [bp])
  (hz : zs.Perm dd) (hzr : dr jD (zs.map (·.1))) (hz0 : zs[n2]? = some z0) (hbad : iq w.params z0.2 r Tn) (hbef : ∀ n z, n < n2 → zs[n]? = some z → ∃ x k, z.2 = .str x k ∧ x.length ≤ 100 ∧ (atF x).length ≤ 900000)
  (h : ∀ T' dl pm e t0 c k X k1, Tb be lamPos lamQ T' →
   Go h0 o0 (cV e "TypeError" (.ref t0) c (some X) ++ ((t0, a8 [.str (bN r (ofString Tn)) k]) :: (T' ++ wr prog w i { t with dl := dl, pm := pm, ps := t.ps ++ [bp], out := t.out ++ [(ofString "<" ++ (mY l tag).1, k1)] } V))) (R (.error (.ref e)))) :
  Go h0 o0 (T ++ wr prog w i t V) (codeAny (model prog w) A (.call (.ref aB) ⟨[.ref i.x, .str tag u, .ref a, .ref lD.a], []⟩) R) := by
 have hd : t.dl ≠ [] := by rw [hN]; simp
 have hadl := ft (dd.map (·.1)) [tag]
 rw [ag, List.length_singleton] at hadl
 have hks : ∀ x, x ∈ bV [tag] (dd.map (·.1)) ↔ (x = tag ∨ x ∈ dd.map (·.1)) := fun x => by rw [gH, List.mem_singleton]
 obtain ⟨q1, q2, q3, q4, q5⟩ := j5 hU hqb (fun x hxm => hok x (hx.mem_iff.mp hxm)) hq
 have hin : ∀ x, (x = tag ∨ x ∈ dd.map (·.1)) → (x, (mY l x).1) ∈ l := fun x hxm => qfL_mem (by rw [q1]; exact hx.mem_iff.mpr ((hks x).mpr hxm))
 refine pR B hh (by exact aX 3 (by with_reducible assumption)) hea ha (by exact Nat.le_succ_of_le (by with_reducible assumption)) fun L S qa => ?_
 refine cs_C (xs := xs) B LB hh hroom hu hA hfr hrw hT hb hd hU hqb hn0 (jz tag _) (by lia) (dB _ _ (by simp)) hok inj hx hxr ?_ (fun n x l s1 e1 e2 e3 => absurd e3 (j6 hq e1 e2))
 intro l' s'' hr D2 d2 dl pm T' XC hs' hda hT' hD2 hdd
 rw [hq] at hr
 cases hr
 obtain ⟨ND', lD', hdl2, hla⟩ := snocL (dl := dl) (N := ND) (b := lD) (by rw [hda, hN, ai]; rfl)
 have hlv : s'.dl.getLastD [] = lD'.v := by
  rw [← hs', show (QS.of { t with dl := dl, pm := pm }).dl = dl.map Lv.v from rfl, hdl2, ai]; simp
 have hps0 : lD'.ps = [] := by rw [hlv] at hy0; exact List.map_eq_nil_iff.mp hy0
 rw [← hla]
 refine cs_D (ND := ND') (ys := []) B hh hdl2 (fun p hp => by rw [hps0] at hp; cases hp) (by rw [hps0]; exact Nat.zero_le _) (by rw [show lD'.v = [] from by rw [← hlv]; exact hy0]; exact List.Perm.refl _) trivial (by simp) ?_
 intro AL as XD has hXD
 obtain rfl := List.map_eq_nil_iff.mp has
 have hDD : Has (XD ++ (XC ++ (T' ++ V))) D2 (aM prog w d2) := .skip hD2.app
 have hAA : Has (XD ++ (XC ++ (T' ++ V))) a (aM prog w dd) := .skip (.skip (.skip ha))
 refine cs_E (kvs := dd) (qf := mY l) (zs := zs) (dd := d2) B hh hAA hDD (fun p hp => ?_) (fun p hp => ?_) hdl nd hz hzr ?_
 ·obtain ⟨Tq, k1, k2, k3, e1, e2⟩ := hdd _ (hin p.1 (.inr (aq hp)))
  exact ⟨Tq, k1, k2, k3, e1, .skip e2.app⟩
 ·have := (cz (hok p.1 ((hks _).mpr (.inr (aq hp)))).1).2.1
  show (bI p.1).1.length ≤ 1000
  (apply aD; with_reducible assumption; decide)
 intro as2 XE has2 hXE
 obtain ⟨Tq, k1, k2, k3, e1, e2⟩ := hdd _ (hin tag (.inl rfl))
 refine Go.thin (a := L) (m' := [(ofString "tag", .str tag u), (ofString "attrs", .ref a), (ofString "qname_text", .none), (ofString "parsed_qnames", .ref D2), (ofString "attr_list", .ref AL)]) .here (.cons .here (.cons (.n .here) (.cons (.n (.n (.n .here))) (.cons (.n4 (.n .here)) (.cons (.n4 (.n (.n .here))) .nil))))) ?_
 refine Go.sel (cs' := (AL, ay (as2.map fun p => .ref p.1)) :: (L, cNs [(ofString "tag", .str tag u), (ofString "attrs", .ref a), (ofString "qname_text", .none), (ofString "parsed_qnames", .ref D2), (ofString "attr_list", .ref AL)]) :: (L + 1, aN (some (.ref i.x))) :: wr prog w i { t with dl := dl, pm := pm } (XE ++ (XD ++ (XC ++ (T' ++ V))))) (.pick (.there (.there .here)) (.pick .here (.pick .here (.tail .refl)))) ?_
 refine Go.wPull (X := [_]) (Y := [_, _]) ?_
 have hzl : zs.length ≤ 5 := by have := hz.length_eq; (lia)
 have hasl : as2.length ≤ 5 := by have := congrArg List.length has2; rw [ag, ag] at this; (lia)
 have at_z : ∀ (n : Nat) z, zs[n]? = some z → ∃ p, as2[n]? = some p ∧ At5.v p = lQ (mY l) z := fun n z hn => by
  have := congrArg (fun y : List (Str × Value) => y[n]?) has2
  simp only [List.getElem?_map, hn, Option.map_some] at this
  cases hp : as2[n]? with
  | none => rw [hp] at this; cases this
  | some p => rw [hp] at this; exact ⟨p, rfl, Option.some.inj this⟩
 have z_at : ∀ (n : Nat) p, as2[n]? = some p → ∃ z, zs[n]? = some z ∧ At5.v p = lQ (mY l) z := fun n p hn => by
  have := congrArg (fun y : List (Str × Value) => y[n]?) has2
  simp only [List.getElem?_map, hn, Option.map_some] at this
  cases hp : zs[n]? with
  | none => rw [hp] at this; cases this
  | some z => rw [hp] at this; exact ⟨z, rfl, Option.some.inj this⟩
 have nmz : ∀ (n : Nat) z, zs[n]? = some z → (lQ (mY l) z).1.length ≤ 1000 := fun n z hn => by
  have hm : z.1 ∈ dd.map (·.1) := aq (hz.mem_iff.mp (List.mem_of_getElem? hn))
  have h1 := q2 _ (hin z.1 (.inr hm))
  have h2 := (cz (hok z.1 ((hks _).mpr (.inr hm))).1).2.2
  unfold lQ
  dsimp only at h1 ⊢
  split
  ·show (bI z.1).2.length ≤ 1000; (apply aD; with_reducible assumption; decide)
  ·(apply aD; with_reducible assumption; decide)
 obtain ⟨p0, hp0, hpv⟩ := at_z n2 z0 hz0
 have hpv1 : p0.2.1.1 = (lQ (mY l) z0).1 := congrArg Prod.fst hpv
 have hpv2 : p0.2.2 = z0.2 := congrArg Prod.snd hpv
 refine cs_F1 (xs := _) (pp := pp) (bp := bp) B hh (.skip (.skip hAA)) hsp (.skip (.skip hDD)) e1 (.skip (.skip (.skip e2.app))) ePp hb.psz hoz (by have := q2 _ (hin tag (.inl rfl)); dsimp only at this; (apply aD; with_reducible assumption; decide)) fun j1 => ?_
 refine cs_FT (as := as2) (n0 := n2) (p0 := p0) (r := r) (T := Tn) B hh (by exact aX 1 (by with_reducible assumption)) hA ?_ .here (fun p hp => .skip (hXE p hp).app) (by apply aD; with_reducible assumption; decide) ?_ hp0 (by rw [hpv1]; exact nmz n2 z0 hz0) (by rw [hpv2]; exact hbad) fun e t0 c k X => ?_
 ·exact hfr.skip.skip.skip.skip.skip
 ·intro n p hn hpn
  obtain ⟨z, hzn, ev⟩ := z_at n p hpn
  obtain ⟨x, kx, ex, b1, b2⟩ := hbef n z hn hzn
  exact ⟨by rw [show p.2.1.1 = (lQ (mY l) z).1 from congrArg Prod.fst ev]; exact nmz n z hzn, x, kx, (show p.2.2 = z.2 from congrArg Prod.snd ev).trans ex, b1, b2⟩
 ·refine Go.sub (List.Sublist.append_left (List.Sublist.cons_cons _ (de (V1 := T' ++ V) ?_)) _) (Go.perm (List.Perm.append_left _ (List.Perm.cons _ wr_in.symm)) (h T' dl pm e t0 c k X j1 hT'))
  exact (List.sublist_append_right _ _).trans ((List.sublist_append_right _ _).trans ((List.sublist_append_right _ _).trans (List.sublist_append_right _ _)))
theorem mB {a : Addr} {tag : Str} {u : Tok} {T : az} {R : RP} {outer : List Env} (B : Base (KF w.params) h0) (hh : A.handled = none) (hroom : A.depth + 4 < recursionLimit) (hA : A.frames = some outer) (het : i.et = .none)
  (hb : WB t) (hoz : t.out.length ≤ 99990)
  (h : ∀ L0 n1 k R1, (∀ cs v, Go h0 o0 cs (R (.ok (.ret .none))) → Go h0 o0 cs (R1 (.ok (.ret v)))) →
   (∀ cs e cls tv c X, FrOk cs outer → (∃ m, Has cs L0 (cNs m)) → (∀ X1, Go h0 o0 (cV e cls tv c (some X1) ++ cs) (R (.error (.ref e)))) → Go h0 o0 (cV e cls tv c X ++ cs) (R1 (.error (.ref e)))) →
   Go h0 o0 (T ++ wr prog w i { cg i t k with dl := t.dl ++ [⟨n1, []⟩] } ((L0, cNs [(ofString "attrs", .ref a), (ofString "tag", .str tag u), (ofString "self", .ref i.x), (ofString "new_namespaces", .ref n1)]) :: V)) (codeAny (model prog w) (A.deeper (callEnv (aK (KF w.params) ct) L0 ct)) (.call (.ref aB) ⟨[.ref i.x, .str tag u, .ref a, .ref n1], []⟩) R1)) :
  Go h0 o0 (T ++ wr prog w i t V) (codeAny (model prog w) A (.call (.ref ct) ⟨[.ref i.x, .str tag u, .ref a], []⟩) R) := by
 have hh' : ∀ env, (A.deeper env).handled = none := fun _ => hh
 have hroom1 : ∀ env, (A.deeper env).depth + 1 < recursionLimit := fun _ => by show A.depth + 1 + 1 < _; (exact aX 2 (by with_reducible assumption))
 have e1 : handedIn i.et = true := by rw [het]; rfl
 refine cB (m := [(ofString "attrs", .ref a), (ofString "tag", .str tag u), (ofString "self", .ref i.x)]) B (by exact aX 4 (by with_reducible assumption)) (fun s X => by with_reducible refine kp_binds X ?_; intro S; kernel_rfl!) fun L => ?_
 refine aE ?_
 refine bt ?_
 with_reducible refine bZ (bB (bc (dH (aG .here (.n (.n .here)) (fS B (.there (.skip a9)) (.there (.skip aS)) tg_et e1 ?_)))))
 rw [het]
 with_reducible refine cG (fX (aP (kB (dh (aL ?_))))); refine aJ (aE ?_)
 refine bH (fun f C => f = .next ∧ ∃ k, C = (L, cNs [(ofString "attrs", .ref a), (ofString "tag", .str tag u), (ofString "self", .ref i.x)]) :: (T ++ wr prog w i (cg i t k) V)) ?_ ?_
 ·with_reducible refine bt (bh (b8 .here (.n (.n .here)) (.there (.skip a9)) (.there (.skip aS)) cW ?_)); refine fV (.there (.skip k0)) (by have := hb.dz; (simp only [tv, ag, List.length_cons, ao, List.length_nil, List.length_replicate, af]; apply aD; with_reducible assumption; decide)) ?_
  refine cA (fun hd => ?_) fun hd => ?_
  ·with_reducible refine aE (bf (bi (aG .here (.n (.n .here)) (fe (.there (.skip a9)) (.there (.skip aS)) (kL ?_))))); refine bv ?_
   show Go h0 o0 (([_] ++ T) ++ wr prog w i t V) _
   refine Go.wIn _ (fm B (hroom1 _) hb.tot hb.dz (Nat.le_trans hoz (by decide)) hb.psn hb.psz ?_)
   intro k
   refine Go.wOut ?_
   show Go h0 o0 (_ :: (T ++ wr prog w i (flT i t k) V)) _
   with_reducible refine aJ (aL ?_)
   exact jp ⟨rfl, k, by unfold cg; rw [if_neg (by simpa [tv] using hd)]⟩
  ·with_reducible refine aL ?_
   exact jp ⟨rfl, 0, by unfold cg; rw [if_pos (by simpa [tv] using hd)]⟩
 rintro f C ⟨rfl, k, rfl⟩
 with_reducible refine aJ (aE (bK (bq (aH (bn ?_))))); intro _; refine aR (.there .here) (.n (.n (.n .new))) (aJ (aE (bf (bi (b8 (.there .here) (.n (.n .here)) (.t2 (.skip a9)) (.t2 (.skip aS)) l9 ?_))))); refine dE (.t2 (.skip l6)) (cT (aA (aG (.there .here) (.n (.n (.n .here))) (aH ?_))))
 rename_i n1
 refine Go.perm (List.Perm.append_left [_, _] (wr_in (X := T))) ?_
 have hdl1 : (cg i t k).dl = t.dl := dy
 have hdlz := hb.dlz
 refine k_newD (by rw [hdl1]; (apply aD; with_reducible assumption; decide)) ?_
 rw [hdl1]
 have h := h L n1 k
 generalize ({ cg i t k with dl := t.dl ++ [⟨n1, []⟩] } : eo) = t2 at h ⊢
 with_reducible refine aJ (aE (bt (bZ (bB (bc ?_))))); refine b8 .here (.n (.n .here)) (.there a9) (.there aS) tg_qt (cG (fX (aP (kB (dh ?_))))); refine aL (aJ (aE (bf (bi (aG .here (.n (.n .here)) ?_))))); refine pC (by assumption) (.there a9) (.there aS) ?_; refine fO (aA (aG .here (.n .here) (aA (aG .here .here (aA ?_))))); refine aG .here (.n (.n (.n .here))) (aH (ck (bv ?_)))
 refine Go.wOutTX ?_
 refine Go.wPull (X := [_]) (Y := T) ?_
 refine h _ (fun cs v hq => ?_) (fun cs e cls tv c X hfr hL hq => ?_)
 ·show Go h0 o0 cs (KS _ _ _ _ _ _ _)
  with_reducible refine aJ (aL (ia ?_))
  exact hq
 ·obtain ⟨m, hL⟩ := hL
  exact cc (Around.frames_deeper hA) rfl (FrOk.cons (by kernel_rfl!) rfl hL hfr) hq
end
structure Fam (mk : Nat → List Nat) (G : List Nat) : Prop where
 amp : 38 ∈ G
 head : ∀ s ∈ G, ∃ r, mk s = 38 :: r ∧ r ≠ [] ∧ ∀ c ∈ r, c ∉ G
 apart : ∀ s ∈ G, ∀ t ∈ G, s ≠ t → ¬ mk s <+: mk t
section
variable {mk : Nat → List Nat} {G : List Nat} (F : Fam mk G)
include F
end
theorem oh (c : Nat) (z : List Nat) : ∀ l, rp [c] z 0 l = l.flatMap fun d => if d = c then z else [d]
 | [] => rfl
 | d :: r => by
  have ih := oh c z r
  by_cases h : d = c
  ·subst h
   rw [lh (by simp) (by simp [List.isPrefixOf]), List.flatMap_cons, if_pos rfl]
   simpa using ih
  ·have h1 : ([c] : List Nat).isPrefixOf (d :: r) = false := by
    simp only [List.isPrefixOf, Bool.and_true]
    simpa using Ne.symm h
   rw [jc h1, ih, List.flatMap_cons, if_neg h]; rfl
section
variable {mk : Nat → List Nat} {G : List Nat} (F : Fam mk G)
include F
end
noncomputable def lkT (T : List (Nat × List Nat)) (d : Nat) : List Nat := (T.lookup d).getD [d]
noncomputable def ew (T : List (Nat × List Nat)) (x : Str) : Str := ⟨(x.cps.toList.flatMap (lkT T)).toArray⟩
theorem d9 (T : List (Nat × List Nat)) (x : Str) : (ew T x).cps.toList = x.cps.toList.flatMap (lkT T) := rfl
theorem fW {x y : Str} (h : x.cps.toList = y.cps.toList) : x = y := Str.ext' (Array.toList_inj.mp h)
theorem lenL (x : Str) : x.length = x.cps.toList.length := by simp [Str.length]
theorem oL (x : Str) : ew [] x = x := fW (by rw [d9]; induction x.cps.toList with | nil => rfl | cons a r ih => rw [List.flatMap_cons, ih]; rfl)
theorem mz {c : Nat} {r : List Nat} : ∀ {v : List Nat}, c ∉ v → (v.flatMap fun e => if e = c then r else [e]) = v
 | [], _ => rfl
 | a :: v, h => by
  rw [List.flatMap_cons, if_neg (fun e => h (by rw [e]; exact au)), mz fun m => h (am _ m)]; rfl
theorem lk_step {T : List (Nat × List Nat)} {c : Nat} {r : List Nat} (h1 : ∀ p ∈ T, c ∉ p.2) (d : Nat) : ((lkT T d).flatMap fun e => if e = c then r else [e]) = lkT (T ++ [(c, r)]) d := by
 induction T with
 | nil =>
  show ([d].flatMap _) = (List.lookup d [(c, r)]).getD [d]
  rw [List.flatMap_cons, List.flatMap_nil, List.append_nil]
  by_cases e : d = c
  ·subst e; simp
  ·rw [if_neg e, List.lookup_cons]
   rw [show (d == c) = false from by simpa using e]; rfl
 | cons p T ih =>
  have ih := ih fun q hq => h1 q (am _ hq)
  unfold lkT at ih ⊢
  obtain ⟨k, v⟩ := p
  rw [List.cons_append, List.lookup_cons, List.lookup_cons]
  cases d == k with
  | true => exact mz (h1 (k, v) au)
  | false => exact ih
theorem cJ {T : List (Nat × List Nat)} {x a b : Str} {c : Nat} {r : List Nat} (h1 : ∀ p ∈ T, c ∉ p.2) (ha : a.cps.toList = [c] := by decide +kernel) (hb : b.cps.toList = r := by decide +kernel) : Txt.replace (ew T x) a b = ew (T ++ [(c, r)]) x := by
 refine fW ?_
 rw [gB _ _ _ (by rw [lenL, ha]; simp), ha, hb, oh, d9, d9, List.flatMap_assoc]
 congr 1
 funext d
 exact lk_step h1 d
noncomputable def jR : Nat × List Nat := (38, [38, 97, 109, 112, 59])
noncomputable def tLt : Nat × List Nat := (60, [38, 108, 116, 59])
noncomputable def tGt : Nat × List Nat := (62, [38, 103, 116, 59])
noncomputable def tCr : Nat × List Nat := (13, [38, 35, 120, 68, 59])
noncomputable def TC : List (Nat × List Nat) := [jR, tLt, tGt, tCr]
theorem kf (T) (x y : Str) : ew T (x ++ y) = ew T x ++ ew T y := fW (by simp [d9, Str.cps_append])
theorem mD (x : Str) : cdF x = ew TC x := by
 have e1 : gy x "&" "&amp;" = ew [jR] x := by
  conv => lhs; rw [← oL x]
  exact cJ (c := 38) (by decide)
 have e2 : gy (ew [jR] x) "<" "&lt;" = ew [jR, tLt] x := cJ (c := 60) (by decide)
 have e3 : gy (ew [jR, tLt] x) ">" "&gt;" = ew [jR, tLt, tGt] x := cJ (c := 62) (by decide)
 have e4 : gy (ew [jR, tLt, tGt] x) "\r" "&#xD;" = ew [jR, tLt, tGt, tCr] x := cJ (c := 13) (by decide)
 unfold cdF
 rw [e1, e2, e3, e4]; rfl
theorem ef (l m : List Str) : dY (l ++ m) = dY l ++ dY m := fW (by rw [dX, Str.cps_append, Array.toList_append, dX, dX, List.flatMap_append])
theorem ec (x : Str) : dY [x] = x := fW (by rw [dX]; simp)
theorem mw : dY [] = ofString "" := by decide +kernel
theorem app_nil (x : Str) : x ++ ofString "" = x := fW (by rw [Str.cps_append, Array.toList_append, show (ofString "").cps.toList = [] from by decide +kernel, List.append_nil])
theorem mo (x : Str) : Str.empty ++ x = x := fW (by rw [Str.cps_append, Array.toList_append, show Str.empty.cps.toList = [] from by decide +kernel, List.nil_append])
theorem lR (a b c : Str) : a ++ b ++ c = a ++ (b ++ c) := fW (by simp [Str.cps_append])
noncomputable def prA : Sp := (ofString "urn:a", ofString "p")
noncomputable def D9 : Nat → List (List Sp)
 | 0 => [[xmlPr]]
 | m + 1 => [xmlPr] :: [prA] :: List.replicate m []
noncomputable def N9 (n : Nat) : List (List Sp) := bC :: [prA] :: List.replicate n []
noncomputable def q9 (n : Nat) : QS := ⟨D9 n, N9 n, []⟩
theorem kE (L : List (List Sp)) (m : Nat) : bd (L ++ List.replicate m []) = bd L := by
 unfold bd
 rw [List.reverse_append, List.flatten_append, List.reverse_replicate]
 have : (List.replicate m ([] : List Sp)).flatten = [] := by induction m with | zero => rfl | succ m ih => rw [List.replicate_succ, List.flatten_cons, ih]; rfl
 rw [this, List.nil_append]
theorem iP (m : Nat) : bd (D9 (m + 1)) = [prA, xmlPr] := kE [[xmlPr], [prA]] m
theorem flatN (n : Nat) : bd (N9 n) = prA :: bC := kE [bC, [prA]] n
theorem lW (n : Nat) : (D9 n).length = n + 1 := by cases n with | zero => rfl | succ m => show (List.replicate m []).length + 1 + 1 = _; rw [List.length_replicate]
theorem lU (n : Nat) : (N9 n).length = n + 2 := by show (List.replicate n []).length + 1 + 1 = _; rw [List.length_replicate]
theorem jB (m : Nat) : D9 (m + 1) ++ [[]] = D9 (m + 2) := by
 show [xmlPr] :: [prA] :: (List.replicate m [] ++ [[]]) = _
 rw [← List.replicate_succ']; rfl
theorem mG (n : Nat) : N9 n ++ [[]] = N9 (n + 1) := by
 show bC :: [prA] :: (List.replicate n [] ++ [[]]) = _
 rw [← List.replicate_succ']; rfl
theorem D9_drop (n : Nat) : (D9 (n + 1)).dropLast = D9 n := by
 cases n with
 | zero => rfl
 | succ m => rw [← jB, List.dropLast_concat]
theorem N9_drop (n : Nat) : (N9 (n + 1)).dropLast = N9 n := by rw [← mG, List.dropLast_concat]
theorem last9 (m : Nat) : (D9 (m + 2)).getLastD [] = [] := by rw [← jB]; simp
theorem qn_a {m : Nat} {N : List (List Sp)} {tag : Str} : d8 false ⟨D9 (m + 1), N, []⟩ (ofString "urn:a") tag = some (iD (ofString "p") tag, ⟨D9 (m + 1), N, []⟩) := by
 unfold d8
 dsimp only
 rw [iP, show bL (ofString "urn:a") [prA, xmlPr] [] = (some (ofString "p"), []) from by decide +kernel]
theorem qn_0 {m : Nat} {N : List (List Sp)} {tag : Str} : d8 false ⟨D9 (m + 1), N, []⟩ (ofString "") tag = some (tag, ⟨D9 (m + 1), N, []⟩) := by
 unfold d8
 dsimp only
 rw [iP, show bL (ofString "") [prA, xmlPr] [] = (none, [ofString "p", ofString "xml"]) from by decide +kernel]
 dsimp only
 rw [if_neg (by decide), if_pos (by decide +kernel)]
noncomputable def UX : List Str := [ofString "urn:w", ofString "urn:x", ofString "urn:y", ofString "urn:z"]
theorem qn_no {m n : Nat} {u tag : Str} (hu : u ∈ UX) : d8 false ⟨D9 (m + 1), N9 n, []⟩ u tag = none := by
 have e1 : ∀ u ∈ UX, bL u [prA, xmlPr] [] = (none, [ofString "p", ofString "xml"]) := by decide +kernel
 have e2 : ∀ u ∈ UX, u.length ≠ 0 := by decide +kernel
 have e3 : ∀ u ∈ UX, ((prA :: bC).find? fun q => q.1 == u) = none := by decide +kernel
 unfold d8
 dsimp only
 rw [iP, e1 u hu]
 dsimp only
 rw [if_neg (by decide), if_neg (fun q => e2 u hu q.1), flatN, e3 u hu]
 dsimp only
 rw [if_neg (e2 u hu)]
noncomputable def U9 : List Str := [ofString "", ofString "urn:a", ofString "urn:w", ofString "urn:x", ofString "urn:y", ofString "urn:z"]
theorem uok9 : UOk U9 := ⟨by decide, by decide +kernel⟩
theorem qb9 {m n : Nat} (hm : m ≤ 800) (hn : n ≤ 800) : QB U9 2 ⟨D9 (m + 1), N9 n, []⟩ := by
 have e1 : ∀ p ∈ [prA, xmlPr], p.1.length ≤ 100 ∧ p.2.length ≤ 100 := by decide +kernel
 have e2 : ∀ p ∈ prA :: bC, p.1.length ≤ 100 ∧ p.2.length ≤ 100 := by decide +kernel
 refine ⟨by rw [show (QS.mk (D9 (m + 1)) (N9 n) []).dl = D9 (m + 1) from rfl, lW]; (apply aD; apply aF; apply aF; with_reducible assumption; exact ae _; exact ae _; decide), by rw [show (QS.mk (D9 (m + 1)) (N9 n) []).nl = N9 n from rfl, lU]; (apply aD; apply aF; with_reducible assumption; exact ae _; decide), by rw [show (QS.mk (D9 (m + 1)) (N9 n) []).dl = D9 (m + 1) from rfl, iP]; decide, ?_, ?_, ?_, List.nodup_nil, fun p hp => by cases hp⟩
 ·show ∀ p ∈ bd (D9 (m + 1)), _
  rw [iP]; exact e1
 ·intro l hl
  rcases List.mem_cons.mp (show l ∈ bC :: [prA] :: List.replicate n [] from hl) with rfl | hl
  ·decide
  ·rcases List.mem_cons.mp hl with rfl | hl
   ·decide
   ·rw [List.eq_of_mem_replicate hl]; decide
 ·show ∀ p ∈ bd (N9 n), _
  rw [flatN]; exact e2
noncomputable def tx9 (d : Nat) : Str := ofString "t&" ++ ofString (toString (d : Int))
noncomputable def ta9 (d : Nat) : Str := ofString "t&amp;" ++ ofString (toString (d : Int))
theorem tx9_ok : ∀ d, d < 10 → (tx9 d).length = 3 ∧ (ta9 d).length = 7 ∧ ew TC (tx9 d) = ta9 d := by decide +kernel
structure S9 (n k : Nat) (t : eo) (due held : Str) : Prop where
 q : QS.of t = q9 n
 ps : t.ps = List.replicate (n + 1) false
 rs : t.rs = true
 rd : t.rd = decide (n = 0)
 ig : t.ig = 0
 outE : dY (t.out.map (·.1)) = due
 heldE : cdF (dY (t.data.map (·.1))) = held
 d3 : ∀ p ∈ t.data, p.1.length = 3
 dz : t.data.length ≤ k
 oz : t.out.length ≤ 8 * k + 8
 bz : due.length + held.length ≤ 40 * k + 100
 nz : n ≤ k + 1
theorem tot3 : ∀ {l : List (Str × Tok)}, (∀ p ∈ l, p.1.length = 3) → tot l = 3 * l.length
 | [], _ => rfl
 | p :: r, h => by
  have := tot3 (l := r) fun q hq => h q (am _ hq)
  unfold tot at this ⊢
  rw [ap, List.sum_cons, this, h p au, List.length_cons]; (lia)
section
variable {i : fQ} {t : eo} {n k : Nat} {due held : Str}
theorem S9.dl (h : S9 n k t due held) : t.dl.map Lv.v = D9 n := congrArg QS.dl h.q
theorem S9.nl (h : S9 n k t due held) : t.nl.map Lv.v = N9 n := congrArg QS.nl h.q
theorem S9.pm (h : S9 n k t due held) : t.pm = [] := List.map_eq_nil_iff.mp (congrArg QS.pm h.q)
theorem S9.wb (h : S9 n k t due held) (hk : k ≤ 700) : WB t := by
 have e1 : ∀ m, ∀ l ∈ D9 m, l.length ≤ 1000 ∧ ∀ p ∈ l, p.1.length ≤ 100 ∧ p.2.length ≤ 100 := by
  intro m l hl
  have f1 : ∀ p ∈ [xmlPr], p.1.length ≤ 100 ∧ p.2.length ≤ 100 := by decide +kernel
  have f2 : ∀ p ∈ [prA], p.1.length ≤ 100 ∧ p.2.length ≤ 100 := by decide +kernel
  cases m with
  | zero => rw [List.mem_singleton.mp (show l ∈ [[xmlPr]] from hl)]; exact ⟨by decide, f1⟩
  | succ m =>
   rcases List.mem_cons.mp (show l ∈ [xmlPr] :: [prA] :: List.replicate m [] from hl) with rfl | hl
   ·exact ⟨by decide, f1⟩
   ·rcases List.mem_cons.mp hl with rfl | hl
    ·exact ⟨by decide, f2⟩
    ·rw [List.eq_of_mem_replicate hl]; exact ⟨by decide, fun p hp => by cases hp⟩
 have e2 : ∀ l ∈ N9 n, l.length ≤ 1000 ∧ ∀ p ∈ l, p.1.length ≤ 100 ∧ p.2.length ≤ 100 := by
  intro l hl
  have f1 : ∀ p ∈ bC, p.1.length ≤ 100 ∧ p.2.length ≤ 100 := by decide +kernel
  have f2 : ∀ p ∈ [prA], p.1.length ≤ 100 ∧ p.2.length ≤ 100 := by decide +kernel
  rcases List.mem_cons.mp (show l ∈ bC :: [prA] :: List.replicate n [] from hl) with rfl | hl
  ·exact ⟨by decide, f1⟩
  ·rcases List.mem_cons.mp hl with rfl | hl
   ·exact ⟨by decide, f2⟩
   ·rw [List.eq_of_mem_replicate hl]; exact ⟨by decide, fun p hp => by cases hp⟩
 have hl1 := congrArg List.length h.dl
 have hl2 := congrArg List.length h.nl
 rw [ag, lW] at hl1
 rw [ag, lU] at hl2
 have hn := h.nz
 have hd := h.dz
 refine ⟨by rw [tot3 h.d3]; (lia), by (lia), by rw [h.ps]; simp, by rw [h.ps, List.length_replicate]; (lia), by (lia), by (lia), fun l hl => ?_, fun l hl => ?_, by rw [h.pm]; exact ⟨Nat.zero_le _, fun q hq => by cases hq⟩, by rw [h.ig]; exact Nat.zero_le _⟩
 ·have hm : l.v ∈ D9 n := by rw [← h.dl]; exact aq hl
  have := e1 n _ hm
  unfold Lv.v at this
  rw [ag] at this
  exact ⟨this.1, fun q hq => this.2 q.v (aq hq)⟩
 ·have hm : l.v ∈ N9 n := by rw [← h.nl]; exact aq hl
  have := e2 _ hm
  unfold Lv.v at this
  rw [ag] at this
  exact ⟨this.1, fun q hq => this.2 q.v (aq hq)⟩
theorem S9.mono (h : S9 n k t due held) : S9 n (k + 1) t due held :=
 ⟨h.q, h.ps, h.rs, h.rd, h.ig, h.outE, h.heldE, h.d3, Nat.le_succ_of_le h.dz, by have := h.oz; (lia), by have := h.bz; (lia), by have := h.nz; (exact Nat.le_succ_of_le (by with_reducible assumption))⟩
theorem S9.fl {u : Tok} (h : S9 n k t due held) (hst : i.st = false) : S9 n (k + 1) (cg i t u) (due ++ held) (ofString "") := by
 have m := h.mono
 have hb := h.bz
 have z0 : (ofString "").length = 0 := by decide +kernel
 unfold cg
 by_cases e : t.data = []
 ·rw [if_pos e]
  have e2 : held = ofString "" := by
   rw [← h.heldE, e, List.map_nil, mw]; decide +kernel
  rw [e2, app_nil]
  exact ⟨m.q, m.ps, m.rs, m.rd, m.ig, m.outE, by rw [m.heldE, e2], m.d3, m.dz, m.oz, by rw [z0]; (lia), m.nz⟩
 ·rw [if_neg e]
  have htx : fg i.st (t.data.map (·.1)) t.ps = dY (t.data.map (·.1)) := by unfold fg; rw [hst]; rfl
  have hl : (dY (t.data.map (·.1))).length ≠ 0 := by
   rw [ee, tot3 h.d3]
   have := List.length_pos_iff.mpr e
   (lia)
  unfold flT
  rw [htx, if_pos ⟨hl, h.rs⟩, h.heldE]
  refine ⟨m.q, m.ps, m.rs, m.rd, m.ig, ?_, by rw [List.map_nil, mw]; decide +kernel, (fun p hp => by cases hp), Nat.zero_le _, ?_, by rw [z0, ah]; (lia), m.nz⟩
  ·show dY ((t.out ++ [(held, u)]).map (·.1)) = _
   rw [ai, ef, h.outE, ap, List.map_nil, ec]
  ·show (t.out ++ [(held, u)]).length ≤ _
   have := h.oz
   rw [ao, List.length_singleton]; (lia)
theorem S9.mid {u : Tok} (h : S9 (n + 1) k t due held) (hst : i.st = false) : S9 (n + 1) (k + 1) (cQ i t u) (due ++ held) (ofString "") := by
 have e : cQ i t u = cg i t u := by
  unfold cQ cg
  rw [if_neg (by rw [h.rd]; simp)]
  by_cases q : t.data = []
  ·rw [if_neg (fun x => x.2 q), if_pos q]
  ·rw [if_pos ⟨h.rs, q⟩, if_neg q]
 rw [e]; exact h.fl hst
theorem S9.dat {u : Tok} {d : Nat} (h : S9 n k t due held) (hd : d < 10) : S9 n (k + 1) { t with data := t.data ++ [(tx9 d, u)] } due (held ++ ta9 d) := by
 have m := h.mono
 obtain ⟨t1, t2, t3⟩ := tx9_ok d hd
 have hb := h.bz
 refine ⟨m.q, m.ps, m.rs, m.rd, m.ig, m.outE, ?_, fun p hp => ?_, ?_, m.oz, ?_, m.nz⟩
 ·show cdF (dY ((t.data ++ [(tx9 d, u)]).map (·.1))) = _
  rw [ai, ef, ap, List.map_nil, ec, mD, kf, t3, ← mD, h.heldE]
 ·rcases List.mem_append.mp (show p ∈ t.data ++ [(tx9 d, u)] from hp) with hp | hp
  ·exact h.d3 p hp
  ·rw [List.mem_singleton.mp hp]; exact t1
 ·show (t.data ++ [(tx9 d, u)]).length ≤ _
  have := h.dz
  rw [ao, List.length_singleton]; (lia)
 ·rw [ah, t2]; (lia)
theorem S9.sta {u1 u2 : Tok} {dl : List Lv} {pm : List (Str × Str × Tok)} {ll : Addr} {nm : Str} (h : S9 (n + 1) k t due (ofString "")) (hq : QS.of { t with dl := dl, pm := pm } = ⟨D9 (n + 2), N9 (n + 1), []⟩) (hl : nm.length ≤ 10) (hk : n + 1 ≤ k) :
  S9 (n + 2) (k + 1) { t with dl := dl, pm := pm, ps := t.ps ++ [false], out := (t.out ++ [(ofString "<" ++ nm, u1)]) ++ [(ofString ">", u2)], rs := true, nl := t.nl ++ [⟨ll, []⟩] } (due ++ (ofString "<" ++ nm ++ ofString ">")) (ofString "") := by
 have m := h.mono
 have hb := h.bz
 have z0 : (ofString "").length = 0 := by decide +kernel
 have z1 : (ofString "<").length = 1 := by decide +kernel
 have z2 : (ofString ">").length = 1 := by decide +kernel
 rw [z0] at hb
 refine ⟨?_, ?_, rfl, ?_, m.ig, ?_, m.heldE, m.d3, m.dz, ?_, ?_, by (lia)⟩
 ·have h1 : dl.map Lv.v = D9 (n + 2) := congrArg QS.dl hq
  have h2 : pm.map (fun q => (q.1, q.2.1)) = [] := congrArg QS.pm hq
  unfold QS.of q9
  dsimp only
  rw [h1, h2, ai, h.nl, show [(⟨ll, []⟩ : Lv)].map Lv.v = [[]] from rfl, mG]
 ·show t.ps ++ [false] = _
  rw [h.ps, ← List.replicate_succ']
 ·show t.rd = _
  rw [h.rd]; simp
 ·show dY (((t.out ++ [(ofString "<" ++ nm, u1)]) ++ [(ofString ">", u2)]).map (·.1)) = _
  simp only [ai, ef, ap, List.map_nil, ec]
  rw [h.outE, lR]
 ·show ((t.out ++ [(ofString "<" ++ nm, u1)]) ++ [(ofString ">", u2)]).length ≤ _
  have := h.oz
  simp only [ao, List.length_singleton]; (lia)
 ·simp only [ah, z0, z1, z2]; (lia)
theorem S9.endd {u2 : Tok} {dl NN : List Lv} {pm : List (Str × Str × Tok)} {pp : List Bool} {nm : Str} (h : S9 (n + 1) k t due (ofString "")) (h1 : pm.map (fun q => (q.1, q.2.1)) = []) (h2 : dl.map Lv.v = D9 n) (h3 : NN.map Lv.v = N9 n) (h4 : pp = List.replicate (n + 1) false) (hl : nm.length ≤ 10) :
  S9 n (k + 1) { t with out := t.out ++ [(Str.empty ++ ofString "</" ++ nm ++ ofString ">", u2)], pm := pm, dl := dl, nl := NN, ps := pp, rd := pp.length == 1 } (due ++ (ofString "</" ++ nm ++ ofString ">")) (ofString "") := by
 have m := h.mono
 have hb := h.bz
 have z0 : (ofString "").length = 0 := by decide +kernel
 have z1 : (ofString "</").length = 2 := by decide +kernel
 have z2 : (ofString ">").length = 1 := by decide +kernel
 rw [z0] at hb
 have hn := h.nz
 refine ⟨?_, h4, h.rs, ?_, h.ig, ?_, m.heldE, m.d3, m.dz, ?_, ?_, by (lia)⟩
 ·unfold QS.of q9
  dsimp only
  rw [h1, h2, h3]
 ·show (pp.length == 1) = _
  rw [h4, List.length_replicate]
  cases n with
  | zero => rfl
  | succ m => simp
 ·show dY ((t.out ++ [(Str.empty ++ ofString "</" ++ nm ++ ofString ">", u2)]).map (·.1)) = _
  rw [ai, ef, ap, List.map_nil, ec, h.outE, mo]
 ·show (t.out ++ [_]).length ≤ _
  have := h.oz
  rw [ao, List.length_singleton]; (lia)
 ·simp only [ah, z0, z1, z2]; (lia)
end
section
variable {cs cs' V X Y : az} {i : fQ} {t : eo} {Q : VP}
theorem cx_init {W O x dx : Addr} {ar : Args} {R : RP} (B : Base (KF w.params) h0) (hh : A.handled = none) (hroom : A.depth < recursionLimit)
  (hpost : ∀ i t, i.x = x → i.O = O → i.wc = true → i.st = false → i.rw = false → i.et = .none → i.ea = .none → (t.out = [] ∧ t.data = [] ∧ QS.of t = ⟨[[xmlPr]], [bC, []], []⟩ ∧ t.ps = [false] ∧ t.rs = false ∧ t.rd = false ∧ t.ig = 0) → Go h0 o0 (wr prog w i t V) (R (.ok (.ret .none))))
  (hbind : ∀ s, (KF w.params).In s.heap → BindsTo s (aK (KF w.params) qc) ar [(ofString "self", .ref x), (ofString "write", .ref W), (ofString "with_comments", .bool true), (ofString "strip_text", .bool false), (ofString "rewrite_prefixes", .bool false), (ofString "qname_aware_tags", .none), (ofString "qname_aware_attrs", .none), (ofString "exclude_attrs", .none), (ofString "exclude_tags", .none)]) :
  Go h0 o0 ((x, bg bX dx) :: (dx, cAttrs []) :: (W, bQ "list.append" O) :: (O, ay []) :: V) (codeAny (model prog w) A (.call (.ref qc) ar) R) := by
 have hh' : ∀ env, (A.deeper env).handled = none := fun _ => hh
 have bList : bD h0 (ofString "list") (.type "list") := B.bltAt (by kernel_rfl!) (by kernel_rfl!) (by decide +kernel) (by decide +kernel)
 have gMap : bA h0 (ofString "_namespace_map") (.ref aMap) := B.glob (by kernel_rfl!) (by kernel_rfl!)
 obtain ⟨kvs, hkv, DI⟩ := mapDIn (prog := prog) B
 have hk7 : kvs.length = 7 := by have := congrArg List.length hkv; rwa [ag] at this
 refine db (m := [(ofString "exclude_tags", .none), (ofString "exclude_attrs", .none), (ofString "qname_aware_attrs", .none), (ofString "qname_aware_tags", .none), (ofString "rewrite_prefixes", .bool false), (ofString "strip_text", .bool false), (ofString "with_comments", .bool true), (ofString "write", .ref W), (ofString "self", .ref x)]) B hroom hbind fun L => ?_
 refine aE ?_
 with_reducible refine cn (aG .here (.n4 (.n (.n (.n .here)))) (aG .here (.n4 (.n (.n (.n (.n .here))))) (cf (.there .here) (.there (.there .here)) .new (aJ (aE ?_))))); refine cn (bq (aH (bn fun _ => aG (.there .here) (.n4 (.n (.n (.n (.n .here))))) (cf (.there (.there .here)) (.t2 (.there .here)) (.n .new) ?_)))); refine aJ (aE (cn (aG (.there .here) (.n4 (.n (.n .here))) (aG (.there .here) (.n4 (.n (.n (.n (.n .here))))) (cf (.there (.there .here)) (.t2 (.there .here)) (.n (.n .new)) ?_))))); refine aJ (aE (cn (aG (.there .here) (.n4 (.n .here)) (aG (.there .here) (.n4 (.n (.n (.n (.n .here))))) (cf (.there (.there .here)) (.t2 (.there .here)) (.n (.n (.n .new))) ?_))))); refine aJ (aE (cn (eF (bh (aG (.there .here) (.n .here) ?_))))); refine gu (dh (cG (aG (.there .here) (.n4 (.n (.n (.n (.n .here))))) (cf (.there (.there .here)) (.t2 (.there .here)) (.n (.n (.n (.n .new)))) (aJ ?_))))); refine aE (cn (eF (bh (aG (.there .here) .here (gu ?_))))); refine dh (cG (aG (.there .here) (.n4 (.n (.n (.n (.n .here))))) (cf (.there (.there .here)) (.t2 (.there .here)) (.n4 (.n .new)) (aJ (aE ?_))))); refine cn (aG (.there .here) (.n (.n (.n (.n .here)))) (aG (.there .here) (.n4 (.n (.n (.n (.n .here))))) (cf (.there (.there .here)) (.t2 (.there .here)) (.n4 (.n (.n .new))) (aJ (aE ?_))))); refine bt (bh (aG (.there .here) (.n (.n (.n .here))) (gu (dh (aE ?_))))); refine cn (cG (aG (.there .here) (.n4 (.n (.n (.n (.n .here))))) (cf (.there (.there .here)) (.t2 (.there .here)) (.n4 (.n (.n (.n .new)))) (aJ (aL ?_))))); refine aJ (aE (bt (bh (aG (.there .here) (.n (.n .here)) (gu ?_))))); refine dh (aE (cn (cG (aG (.there .here) (.n4 (.n (.n (.n (.n .here))))) (cf (.there (.there .here)) (.t2 (.there .here)) (.n4 (.n (.n (.n (.n .new))))) ?_))))); refine aJ (aL (aJ (aE (cn (bq ?_))))); refine aA (bq (aA (da (aA (aI ?_))))); intro _ _; refine aA (aI fun _ _ => aH (cY fun _ => aH (bn ?_))); intro _; refine aH (bn fun _ => aG (.t2 (.there (.there .here))) (.n4 (.n (.n (.n (.n .here))))) (cf (.t4 (.there .here)) (.t4 (.there (.there .here))) (.n4 (.n4 (.n .new))) (aJ (aE ?_)))); refine cn (bq (aH (bn fun _ => aG (.t4 (.there .here)) (.n4 (.n (.n (.n (.n .here))))) (cf (.t4 (.there (.there .here))) (.t4 (.t2 (.there .here))) (.n4 (.n4 (.n (.n .new)))) ?_)))); refine aJ (aE (bt (ix (bh (aG (.t4 (.there .here)) (.n (.n (.n (.n .here)))) ?_))))); refine aP (ifNF (aE (bf (bi (dH ?_))))); refine aG (.t4 (.there .here)) (.n4 (.n (.n (.n (.n .here))))) ?_
 rename_i D u1 _ u2 _ t0 l0 DS NSa
 refine Go.thin (a := L) (m' := [(ofString "self", .ref x)]) (.t4 (.there .here)) (.cons (.n4 (.n (.n (.n (.n .here))))) .nil) ?_
 with_reducible refine mx B (.t4 (.there (.there .here))) (.t4 (.t2 (.there .here))) (.n4 (.n4 (.n (.n .here)))) (kN (by decide +kernel)) rfl ?_; refine dE .here (cT (aA (aW (bG (ju ?_))))); refine aA (bi (ch ?_)); refine pG DI (fn ?_); refine pg DI (by decide +kernel) ?_; intro vw; refine aH ?_
 refine k_listV (hh' _) .here DI (by unfold dv2; rw [ag]; (apply aD; exact aj (by assumption); decide)) ?_
 intro l ps hps
 with_reducible refine aH ?_; refine du (ys := [.ref l]) (.there (.skip (.there .here))) rfl (by simp only [tv, ag, List.length_cons, ao, List.length_nil, List.length_replicate, af]; apply aD; exact ae _; decide) ?_
 obtain ⟨qs, a1, a2, a3⟩ := pr_of hps
 have e1 : (ps.map fun p => Value.ref p.1) = (⟨l, qs⟩ : Lv).refs := by
  show _ = qs.map fun q => Value.ref q.a
  rw [show (fun p : Addr × (Str × Tok) × Value => Value.ref p.1) = (fun a => Value.ref a) ∘ (·.1) from rfl, ← List.map_map, ← a3, List.map_map]; rfl
 have e2 : cm [⟨l, qs⟩] = (l, ay (⟨l, qs⟩ : Lv).refs) :: aQ ps := by
  unfold cm Lv.cells
  rw [List.flatMap_cons, List.flatMap_nil, List.append_nil, ← a1]
 rw [e1]
 with_reducible refine aJ (aL (aJ (aE (bf (bi ?_))))); refine dH (aG (.there (.skip (.t4 (.there (.there .here))))) .here ?_)
 skip
 with_reducible refine mx B (.there (.skip (.t4 (.t2 (.there .here))))) (.there (.skip (.t4 (.t2 (.there (.there .here)))))) (.n4 (.n4 (.n (.n .here)))) (kN (by decide +kernel)) rfl ?_; refine dE (.there (.skip (.there .here))) (cT (aA (bq (aH (bn ?_))))); intro _; refine aH ?_
 rename_i n1
 with_reducible refine du (ys := [.ref l, .ref n1]) (.t2 (.skip (.there .here))) rfl (by simp only [tv, ag, List.length_cons, ao, List.length_nil, List.length_replicate, af]; apply aD; apply aF; exact ae _; exact ae _; decide) ?_; refine aJ (aE (cn (jr fun _ => aG (.t2 (.there (.skip (.t4 (.there (.there .here)))))) .here (cf (.t2 (.there (.skip (.t4 (.t2 (.there .here)))))) (.t2 (.there (.skip (.t4 (.t2 (.there (.there .here))))))) (.n4 (.n4 (.n (.n (.n .new))))) ?_)))); refine aJ (aE (cn (bq (aA (kH ?_))))); refine aH (bn fun _ => aG (.t4 (.skip (.t4 (.there (.there .here))))) .here (cf (.t4 (.skip (.t4 (.t2 (.there .here))))) (.t4 (.skip (.t4 (.t2 (.there (.there .here)))))) (.n4 (.n4 (.n (.n (.n (.n .new)))))) (aJ (aE ?_)))); refine cn (cG (aG (.t4 (.skip (.t4 (.there (.there .here))))) .here (cf (.t4 (.skip (.t4 (.t2 (.there .here))))) (.t4 (.skip (.t4 (.t2 (.there (.there .here)))))) (.n4 (.n4 (.n4 (.n .new)))) (aJ (aE ?_))))); refine cn (kH (aG (.t4 (.skip (.t4 (.there (.there .here))))) .here (cf (.t4 (.skip (.t4 (.t2 (.there .here))))) (.t4 (.skip (.t4 (.t2 (.there (.there .here)))))) (.n4 (.n4 (.n4 (.n (.n .new))))) (aJ (aE ?_))))); refine cn (kH (aG (.t4 (.skip (.t4 (.there (.there .here))))) .here (cf (.t4 (.skip (.t4 (.t2 (.there .here))))) (.t4 (.skip (.t4 (.t2 (.there (.there .here)))))) (.n4 (.n4 (.n4 (.n (.n (.n .new)))))) (aJ (aE ?_))))); refine cn (aO fun _ => aG (.t4 (.skip (.t4 (.there (.there .here))))) .here (cf (.t4 (.skip (.t4 (.t2 (.there .here))))) (.t4 (.skip (.t4 (.t2 (.there (.there .here)))))) (.n4 (.n4 (.n4 (.n (.n (.n (.n .new))))))) (aJ (aL ?_)))); refine ia ?_
 rename_i PM PS ti
 have q := hpost ⟨x, dx, W, O, D, DS, NSa, PM, PS, .none, .none, [], true, false, false⟩ ⟨[], [], [⟨l0, [⟨t0, xmlPr.1, u1, xmlPr.2, u2⟩]⟩], [⟨l, qs⟩, ⟨n1, []⟩], [], [false], false, false, 0, ti⟩ rfl rfl rfl rfl rfl rfl rfl ⟨rfl, rfl, (by
  unfold QS.of
  simp only [ap, List.map_nil]
  rw [show Lv.v ⟨l, qs⟩ = bC from a2.trans hkv]; rfl), rfl, rfl, rfl, rfl⟩
 refine Go.sel (cs' := (x, bg bX dx) :: (dx, cAttrs [(ofString "_write", .ref W), (ofString "_data", .ref D), (ofString "_with_comments", .bool true), (ofString "_strip_text", .bool false), (ofString "_exclude_attrs", .none), (ofString "_exclude_tags", .none), (ofString "_rewrite_prefixes", .bool false), (ofString "_qname_aware_tags", .none), (ofString "_find_qname_aware_attrs", .none), (ofString "_declared_ns_stack", .ref DS), (ofString "_ns_stack", .ref NSa), (ofString "_prefix_map", .ref PM), (ofString "_preserve_space", .ref PS), (ofString "_pending_start", .none), (ofString "_root_seen", .bool false), (ofString "_root_done", .bool false), (ofString "_ignored_depth", .int 0 ti)]) :: (W, bQ "list.append" O) :: (O, ay []) :: (D, ay []) :: (DS, ay [.ref l0]) :: (NSa, ay [.ref l, .ref n1]) :: (PM, aM prog w []) :: (PS, ay [.bool false]) :: (l0, ay [.ref t0]) :: (t0, a8 [.str (ofString "http://www.w3.org/XML/1998/namespace") u1, .str (ofString "xml") u2]) :: (n1, ay []) :: (l, ay (⟨l, qs⟩ : Lv).refs) :: (aQ ps ++ V)) (.pick (.t4 (.skip (.t4 (.t2 (.there .here))))) (.pick (.t4 (.skip (.t4 (.t2 (.there .here))))) (.pick (.t4 (.skip (.t4 (.t2 (.there .here))))) (.pick (.t4 (.skip (.t4 (.t2 (.there .here))))) (.pick (.t4 (.skip (.t4 (.there .here)))) (.pick (.t4 (.skip (.there (.there .here)))) (.pick (.t4 (.skip (.there .here))) (.pick (.there .here) (.pick .here (.pick (.t2 (.skip (.there .here))) (.pick (.t2 (.skip (.there .here))) (.pick .here (.pick .here (.tail (.both (.there (.there .refl))))))))))))))))) ?_
 refine Go.perm ?_ q
 unfold wr
 refine .cons _ (.cons _ (.cons _ (.cons _ (.cons _ (.cons _ (.cons _ (.cons _ (.cons _ ?_))))))))
 have e3 : cm [⟨l, qs⟩, ⟨n1, []⟩] = ((l, ay (⟨l, qs⟩ : Lv).refs) :: aQ ps) ++ [(n1, ay [])] := by
  rw [← e2]
  unfold cm Lv.cells Lv.refs
  simp
 show ((l0, _) :: (t0, _) :: (n1, _) :: (((l, ay (⟨l, qs⟩ : Lv).refs) :: aQ ps) ++ V)).Perm ((l0, _) :: (t0, _) :: (cm [⟨l, qs⟩, ⟨n1, []⟩] ++ V))
 rw [e3, an]
 exact .cons _ (.cons _ List.perm_middle.symm)
noncomputable def na : List (Str × Str) := [(ofString "b", ofString "b"), (ofString "{urn:a}c", ofString "p:c"), (ofString "{urn:a}r", ofString "p:r")]
theorem fC : ∀ p ∈ na, fB p.1 = true ∧ p.1.length ≤ 10 ∧ p.2.length ≤ 10 ∧ (bI p.1).1 ∈ U9 ∧ (((bI p.1).1 = ofString "" ∧ p.2 = (bI p.1).2) ∨ ((bI p.1).1 = ofString "urn:a" ∧ p.2 = iD (ofString "p") (bI p.1).2)) := by decide +kernel
theorem oi {p : Str × Str} (hp : p ∈ na) {m : Nat} {N : List (List Sp)} : d8 false ⟨D9 (m + 1), N, []⟩ (bI p.1).1 (bI p.1).2 = some (p.2, ⟨D9 (m + 1), N, []⟩) := by
 rcases (fC p hp).2.2.2.2 with ⟨e1, e2⟩ | ⟨e1, e2⟩
 ·rw [e1, e2]; exact qn_0
 ·rw [e1, e2]; exact qn_a
theorem ja {α : Type} {l : List α} (h : l ≠ []) : ∃ m a, l = m ++ [a] := ⟨l.dropLast, l.getLast h, (List.dropLast_concat_getLast h).symm⟩
theorem WB.newD {n1 : Addr} (h : WB t) (hz : t.dl.length ≤ 900) : WB { t with dl := t.dl ++ [⟨n1, []⟩] } := by
 refine ⟨h.tot, h.dz, h.psn, h.psz, ?_, h.nlz, fun l hl => ?_, h.nll, h.pmz, h.igz⟩
 ·show (t.dl ++ [_]).length ≤ _
  rw [ao, List.length_singleton]; (apply aD; apply aF; with_reducible assumption; exact ae _; decide)
 ·rcases List.mem_append.mp (show l ∈ t.dl ++ [⟨n1, []⟩] from hl) with hl | hl
  ·exact h.dll l hl
  ·rw [List.mem_singleton.mp hl]; exact ⟨Nat.zero_le _, fun q hq => by cases hq⟩
theorem S9.dlz {n k : Nat} {due held : Str} (h : S9 n k t due held) : t.dl.length = n + 1 := by
 have := congrArg List.length h.dl
 rwa [ag, lW] at this
theorem S9.nlz {n k : Nat} {due held : Str} (h : S9 n k t due held) : t.nl.length = n + 2 := by
 have := congrArg List.length h.nl
 rwa [ag, lU] at this
theorem S9.qN {n k : Nat} {due held : Str} {n1 : Addr} {u : Tok} (h : S9 (n + 1) k t due held) : QS.of { cg i t u with dl := t.dl ++ [⟨n1, []⟩] } = ⟨D9 (n + 2), N9 (n + 1), []⟩ := by
 unfold QS.of
 dsimp only
 rw [dw, lE, h.nl, h.pm, ai, h.dl, show [(⟨n1, []⟩ : Lv)].map Lv.v = [[]] from rfl, jB]; rfl
section
variable {n k : Nat} {due held : Str} {R : RP} {outer : List Env}
theorem l9_data {d : Nat} {x : Str} {u : Tok} (B : Base (KF w.params) h0) (hroom : A.depth < recursionLimit) (hS : S9 n k t due held) (hk : k ≤ 680) (hx : x = tx9 d) (hd : d < 10)
  (h : ∀ t', S9 n (k + 1) t' due (held ++ ta9 d) → Go h0 o0 (wr prog w i t' V) (R (.ok (.ret .none)))) : Go h0 o0 (wr prog w i t V) (codeAny (model prog w) A (.call (.ref mF) ⟨[.ref i.x, .str x u], []⟩) R) := by
 subst hx
 refine c_data B hroom (by have := hS.dz; (lia)) ?_
 rw [if_pos hS.ig]
 exact h _ (hS.dat hd)
theorem oU {p : Str × Str} {u : Tok} (B : Base (KF w.params) h0) (hh : A.handled = none) (hroom : A.depth + 4 < recursionLimit) (hrw : i.rw = false) (hst : i.st = false) (hS : S9 (n + 1) k t due held) (hk : k ≤ 680) (hp : p ∈ na)
  (h : ∀ t', S9 n (k + 2) t' (due ++ held ++ (ofString "</" ++ p.2 ++ ofString ">")) (ofString "") → Go h0 o0 (wr prog w i t' V) (R (.ok (.ret .none)))) :
  Go h0 o0 (wr prog w i t V) (codeAny (model prog w) A (.call (.ref aEnd) ⟨[.ref i.x, .str p.1 u], []⟩) R) := by
 obtain ⟨o1, o2, o3, o4, _⟩ := fC p hp
 have hdz := hS.dlz
 have hnz := hS.nlz
 obtain ⟨ND, lD, hND⟩ := ja (l := t.dl) fun e => by rw [e] at hdz; cases hdz
 obtain ⟨NN, lN, hNN⟩ := ja (l := t.nl) fun e => by rw [e] at hnz; cases hnz
 have hps : t.ps = List.replicate (n + 1) false ++ [false] := by rw [hS.ps, ← List.replicate_succ']
 refine cx_end B hh hroom (hS.wb (by apply aD; with_reducible assumption; decide)) (by have := hS.oz; (lia)) o1 hrw (fun q => absurd hS.ig q) ?_ hND hNN hps (fun _ => by rw [hrw, hS.q]; exact oi hp) (by apply aD; with_reducible assumption; decide) (fun _ k1 k2 pm' dl' e1 e2 => ?_)
 ·have e : (er t.dl).length = (bd (t.dl.map Lv.v)).length := by rw [← iC, ag]
  rw [e, hS.dl, iP]; exact Nat.le_of_ble_eq_true rfl
 ·refine h _ ((hS.fl (u := k1) hst).endd e1 (by rw [e2]; exact D9_drop (n + 1 - 1 + 0)) ?_ rfl o3)
  rw [← N9_drop, ← hS.nl, hNN, ai, ap, List.map_nil, List.dropLast_concat]
theorem l9_sta {a : Addr} {p : Str × Str} {u : Tok} {T : az} (B : Base (KF w.params) h0) (LB : LamBase h0 cU be) (hh : A.handled = none) (hroom : A.depth + 5 < recursionLimit) (hu : A.units + 1100 < cLine) (hA : A.frames = some outer) (hfr : FrOk V outer) (hrw : i.rw = false) (hst : i.st = false) (het : i.et = .none) (hea : i.ea = .none)
  (hT : Tb be lamPos lamQ T) (hS : S9 (n + 1) k t due held) (hk : k ≤ 680) (hp : p ∈ na) (ha : Has V a (aM prog w []))
  (h : ∀ T' t', Tb be lamPos lamQ T' → S9 (n + 2) (k + 2) t' (due ++ held ++ (ofString "<" ++ p.2 ++ ofString ">")) (ofString "") → Go h0 o0 (T' ++ wr prog w i t' V) (R (.ok (.ret .none)))) :
  Go h0 o0 (T ++ wr prog w i t V) (codeAny (model prog w) A (.call (.ref ct) ⟨[.ref i.x, .str p.1 u, .ref a], []⟩) R) := by
 obtain ⟨o1, o2, o3, o4, _⟩ := fC p hp
 have hdz := hS.dlz
 have hnz := hS.nz
 refine mB B hh (by exact aX 1 (by with_reducible assumption)) hA het (hS.wb (by apply aD; with_reducible assumption; decide)) (by have := hS.oz; (lia)) fun L0 n1 k1 R1 h1 h2 => ?_
 have hf := hS.fl (u := k1) hst
 have hwb : WB { cg i t k1 with dl := t.dl ++ [⟨n1, []⟩] } := by
  have := (hf.wb (by apply aD; apply aF; with_reducible assumption; exact ae _; decide)).newD (n1 := n1) (by rw [hf.dlz]; (lia))
  rwa [dy] at this
 have hqq : QS.of { cg i t k1 with dl := t.dl ++ [⟨n1, []⟩] } = ⟨D9 (n + 2), N9 (n + 1), []⟩ := hS.qN
 have hps : (cg i t k1).ps = List.replicate (n + 1) false ++ [false] := by rw [gP, hS.ps, ← List.replicate_succ']
 refine cs2_N (lD := ⟨n1, []⟩) (ND := t.dl) (U := U9) (n0 := 2) (ys := []) (s' := ⟨D9 (n + 2), N9 (n + 1), []⟩) (q := p.2) B LB hh (by show A.depth + 1 + 3 < _; (exact aX 1 (by with_reducible assumption))) (by show A.units + _ + 1000 < cLine; (lia)) (Around.frames_deeper hA) (FrOk.cons (by kernel_rfl!) rfl .here hfr.there) hrw hea hT hwb (by have := hf.oz; show (cg i t k1).out.length ≤ _; (lia)) rfl uok9 (by rw [hqq]; exact qb9 (by lia) (by lia)) (by decide) (.there ha) ⟨o1, o4⟩ (by rw [hrw, hqq]; exact oi hp) hps (by rw [last9]; exact List.Perm.refl _) trivial (by simp) (Nat.zero_le _) (fun q hq => by cases hq) ?_
 intro T' dl pm ll j1 j2 j3 hT' hqs hda
 have key := hf.sta (u1 := j1) (u2 := j3) (dl := dl) (pm := pm) (ll := ll) (nm := p.2) (by rw [← hqs]) o3 (by with_reducible assumption)
 refine h1 _ _ (Go.sub (List.Sublist.append_left (de (V1 := V) (ak _ _)) T') (h T' _ hT' ?_))
 have e : ∀ o : List (Str × Tok), o ++ gc [] j2 = o := fun o => List.append_nil o
 rw [e]
 exact key
end
structure I9 (N : List (List Sp)) (t : eo) : Prop where
 out : t.out = []
 data : t.data = []
 q : QS.of t = ⟨[[xmlPr]], N, []⟩
 ps : t.ps = [false]
 rs : t.rs = false
 rd : t.rd = false
 ig : t.ig = 0
theorem I9.wb {N : List (List Sp)} (h : I9 N t) (hz : N.length ≤ 10) (hN : ∀ l ∈ N, l.length ≤ 1000 ∧ ∀ p ∈ l, p.1.length ≤ 100 ∧ p.2.length ≤ 100) : WB t := by
 have f1 : ∀ p ∈ [xmlPr], p.1.length ≤ 100 ∧ p.2.length ≤ 100 := by decide +kernel
 have hd : t.dl.map Lv.v = [[xmlPr]] := congrArg QS.dl h.q
 have hn : t.nl.map Lv.v = N := congrArg QS.nl h.q
 have hp : t.pm = [] := List.map_eq_nil_iff.mp (congrArg QS.pm h.q)
 have hl1 := congrArg List.length hd
 have hl2 := congrArg List.length hn
 rw [ag] at hl1 hl2
 have hl1 : t.dl.length = 1 := hl1
 refine ⟨by rw [h.data]; exact Nat.zero_le _, by rw [h.data]; exact Nat.zero_le _, by rw [h.ps]; simp, by rw [h.ps]; exact Nat.le_of_ble_eq_true rfl, by (apply aD; exact aj (by assumption); decide), by (lia), fun l hl => ?_, fun l hl => ?_, by rw [hp]; exact ⟨Nat.zero_le _, fun q hq => by cases hq⟩, by rw [h.ig]; exact Nat.zero_le _⟩
 ·have hm : l.v ∈ [[xmlPr]] := by rw [← hd]; exact aq hl
  have e := List.mem_singleton.mp hm
  have e2 := congrArg List.length e
  unfold Lv.v at e2
  rw [ag] at e2
  exact ⟨by rw [e2]; decide, fun q hq => f1 q.v (by rw [← e]; exact aq hq)⟩
 ·have hm : l.v ∈ N := by rw [← hn]; exact aq hl
  have := hN _ hm
  unfold Lv.v at this
  rw [ag] at this
  exact ⟨this.1, fun q hq => this.2 q.v (aq hq)⟩
theorem bnd0 : ∀ l ∈ [bC, []], l.length ≤ 1000 ∧ ∀ p ∈ l, p.1.length ≤ 100 ∧ p.2.length ≤ 100 := by decide +kernel
theorem bnd1 : ∀ l ∈ [bC, [prA]], l.length ≤ 1000 ∧ ∀ p ∈ l, p.1.length ≤ 100 ∧ p.2.length ≤ 100 := by decide +kernel
section
variable {n k : Nat} {due held : Str} {R : RP} {outer : List Env}
theorem l9_ns {ut pt : Tok} (B : Base (KF w.params) h0) (hroom : A.depth + 2 < recursionLimit) (hI : I9 [bC, []] t)
  (h : ∀ t', I9 [bC, [prA]] t' → Go h0 o0 (wr prog w i t' V) (R (.ok (.ret .none)))) : Go h0 o0 (wr prog w i t V) (codeAny (model prog w) A (.call (.ref aNs) ⟨[.ref i.x, .str (ofString "p") pt, .str (ofString "urn:a") ut], []⟩) R) := by
 have hn : t.nl.map Lv.v = [bC, []] := congrArg QS.nl hI.q
 obtain ⟨N, l, hN⟩ := ja (l := t.nl) fun e => by rw [e] at hn; cases hn
 refine c_ns B hroom (hI.wb (by decide) bnd0) (by rw [hI.out]; exact Nat.zero_le _) hN (fun q => absurd hI.ig q) fun _ k1 a => ?_
 have e : cg i t k1 = t := by unfold cg; rw [if_pos hI.data]
 rw [e]
 refine h _ ⟨hI.out, hI.data, ?_, hI.ps, hI.rs, hI.rd, hI.ig⟩
 rw [hN, ai] at hn
 have h1 : N.map Lv.v = [bC] ∧ l.v = [] := by
  have := List.append_inj' (t₁ := [l].map Lv.v) (t₂ := [[]]) (show N.map Lv.v ++ [l].map Lv.v = [bC] ++ [[]] from hn) rfl
  exact ⟨this.1, by simpa using this.2⟩
 have hd : t.dl.map Lv.v = [[xmlPr]] := congrArg QS.dl hI.q
 have hp : t.pm.map (fun q => (q.1, q.2.1)) = [] := congrArg QS.pm hI.q
 unfold QS.of
 dsimp only
 rw [hN, cy, ai, h1.1, hd, hp, ap, List.map_nil]
 have h2 : Lv.v { l with ps := l.ps ++ [⟨a, ofString "urn:a", ut, ofString "p", pt⟩] } = l.v ++ [prA] := by
  unfold Lv.v
  rw [ai]; rfl
 rw [h2, h1.2]; rfl
theorem l9_st1 {a : Addr} {u : Tok} {T : az} (B : Base (KF w.params) h0) (LB : LamBase h0 cU be) (hh : A.handled = none) (hroom : A.depth + 5 < recursionLimit) (hu : A.units + 1100 < cLine) (hA : A.frames = some outer) (hfr : FrOk V outer) (hrw : i.rw = false) (het : i.et = .none) (hea : i.ea = .none)
  (hT : Tb be lamPos lamQ T) (hI : I9 [bC, [prA]] t) (ha : Has V a (aM prog w []))
  (h : ∀ T' t', Tb be lamPos lamQ T' → S9 1 1 t' (ofString "<p:r xmlns:p=\"urn:a\">") (ofString "") → Go h0 o0 (T' ++ wr prog w i t' V) (R (.ok (.ret .none)))) :
  Go h0 o0 (T ++ wr prog w i t V) (codeAny (model prog w) A (.call (.ref ct) ⟨[.ref i.x, .str (ofString "{urn:a}r") u, .ref a], []⟩) R) := by
 have hwb0 := hI.wb (by decide) bnd1
 have hd : t.dl.map Lv.v = [[xmlPr]] := congrArg QS.dl hI.q
 have hn : t.nl.map Lv.v = [bC, [prA]] := congrArg QS.nl hI.q
 have hp : t.pm.map (fun q => (q.1, q.2.1)) = [] := congrArg QS.pm hI.q
 have hl1 : t.dl.length = 1 := by have := congrArg List.length hd; rwa [ag] at this
 refine mB B hh (by exact aX 1 (by with_reducible assumption)) hA het hwb0 (by rw [hI.out]; exact Nat.zero_le _) fun L0 n1 k1 R1 h1 h2 => ?_
 have e : cg i t k1 = t := by unfold cg; rw [if_pos hI.data]
 rw [e]
 have hqq : QS.of { t with dl := t.dl ++ [⟨n1, []⟩] } = ⟨[[xmlPr], []], [bC, [prA]], []⟩ := by
  unfold QS.of
  dsimp only
  rw [ai, hd, hn, hp]; rfl
 have hq0 : d8 false ⟨[[xmlPr], []], [bC, [prA]], []⟩ (bI (ofString "{urn:a}r")).1 (bI (ofString "{urn:a}r")).2 = some (ofString "p:r", ⟨[[xmlPr], [prA]], [bC, [prA]], []⟩) := by
  have s1 : bI (ofString "{urn:a}r") = (ofString "urn:a", ofString "r") := by decide +kernel
  rw [s1]
  unfold d8
  dsimp only
  rw [show bL (ofString "urn:a") (bd [[xmlPr], []]) [] = (none, [ofString "xml"]) from by decide +kernel]
  dsimp only
  rw [if_neg (by decide), if_neg (by decide +kernel), show ((bd [bC, [prA]]).find? fun q => q.1 == ofString "urn:a") = some prA from by decide +kernel]
  dsimp only
  rw [show iD prA.2 (ofString "r") = ofString "p:r" from by decide +kernel]; rfl
 have hqb : QB U9 1 ⟨[[xmlPr], []], [bC, [prA]], []⟩ := by
  have f1 : ∀ p ∈ bd [[xmlPr], []], p.1.length ≤ 100 ∧ p.2.length ≤ 100 := by decide +kernel
  have f2 : ∀ p ∈ bd [bC, [prA]], p.1.length ≤ 100 ∧ p.2.length ≤ 100 := by decide +kernel
  exact ⟨Nat.le_of_ble_eq_true rfl, Nat.le_of_ble_eq_true rfl, Nat.le_of_ble_eq_true rfl, f1, fun l hl => (bnd1 l hl).1, f2, List.nodup_nil, fun p hp => by cases hp⟩
 refine cs2_N (lD := ⟨n1, []⟩) (ND := t.dl) (U := U9) (n0 := 1) (ys := [(ofString "xmlns:p", ofString "urn:a")]) (s' := ⟨[[xmlPr], [prA]], [bC, [prA]], []⟩) (q := ofString "p:r") (pp := []) (bp := false) B LB hh (by show A.depth + 1 + 3 < _; (exact aX 1 (by with_reducible assumption))) (by show A.units + _ + 1000 < cLine; (lia)) (Around.frames_deeper hA) (FrOk.cons (by kernel_rfl!) rfl .here hfr.there) hrw hea hT (hwb0.newD (by rw [hl1]; decide)) (by show t.out.length ≤ _; rw [hI.out]; exact Nat.zero_le _) rfl uok9 (by rw [hqq]; exact hqb) (by decide) (.there ha) (by decide +kernel) (by rw [hrw, hqq]; exact hq0) hI.ps (by rw [show ([[xmlPr], [prA]].getLastD []).map oH = [(ofString "xmlns:p", ofString "urn:a")] from by decide +kernel]) trivial (by simp) (Nat.le_of_ble_eq_true rfl) (fun q hq => by rw [List.mem_singleton.mp hq]; decide +kernel) ?_
 intro T' dl pm ll j1 j2 j3 hT' hqs hda
 refine h1 _ _ (Go.sub (List.Sublist.append_left (de (V1 := V) (ak _ _)) T') (h T' _ hT' ?_))
 have g1 : dl.map Lv.v = [[xmlPr], [prA]] := congrArg QS.dl hqs
 have g2 : pm.map (fun q => (q.1, q.2.1)) = [] := congrArg QS.pm hqs
 have eat : gc [(ofString "xmlns:p", ofString "urn:a")] j2 = [(ofString " xmlns:p=\"urn:a\"", j2)] := by
  unfold gc
  rw [if_neg (by simp), show pX [(ofString "xmlns:p", ofString "urn:a")] = ofString " xmlns:p=\"urn:a\"" from by decide +kernel]
 rw [eat]
 refine ⟨?_, ?_, rfl, hI.rd, hI.ig, ?_, ?_, ?_, ?_, ?_, by decide +kernel, by decide⟩
 ·unfold QS.of
  dsimp only
  rw [g1, g2, ai, hn]; rfl
 ·show t.ps ++ [false] = _
  rw [hI.ps]; rfl
 ·dsimp only
  rw [hI.out]
  show dY [ofString "<" ++ ofString "p:r", ofString " xmlns:p=\"urn:a\"", ofString ">"] = _
  decide +kernel
 ·show cdF (dY (t.data.map (·.1))) = _
  rw [hI.data]; decide +kernel
 ·show ∀ p ∈ t.data, _
  rw [hI.data]; intro p hp; cases hp
 ·show t.data.length ≤ _
  rw [hI.data]; exact Nat.zero_le _
 ·show (((t.out ++ [_]) ++ [_]) ++ [_]).length ≤ _
  rw [hI.out]; exact Nat.le_of_ble_eq_true rfl
theorem S9.mid0 {u : Tok} (h : S9 0 k t due (ofString "")) : S9 0 (k + 1) (cQ i t u) (due ++ ofString "\n") (ofString "") := by
 have m := h.mono
 have hb := h.bz
 have z0 : (ofString "").length = 0 := by decide +kernel
 have z1 : (ofString "\n").length = 1 := by decide +kernel
 rw [z0] at hb
 unfold cQ
 rw [if_pos (by rw [h.rd]; rfl)]
 refine ⟨m.q, m.ps, m.rs, m.rd, m.ig, ?_, m.heldE, m.d3, m.dz, ?_, by rw [ah, z0, z1]; (lia), m.nz⟩
 ·show dY ((t.out ++ [(ofString "\n", u)]).map (·.1)) = _
  rw [ai, ef, h.outE, ap, List.map_nil, ec]
 ·show (t.out ++ [(ofString "\n", u)]).length ≤ _
  have := h.oz
  rw [ao, List.length_singleton]; (lia)
theorem l9_com {v : Value} {r : Str} {T : String} {due' : Str} (B : Base (KF w.params) h0) (hv : iq w.params v r T) (hroom : A.depth + 2 < recursionLimit) (hA : A.frames = some outer) (hfr : FrOk V outer) (hh : A.handled = none) (hw : i.wc = true)
  (hS : S9 n k t due held) (hk : k ≤ 680) (hm : ∀ u, S9 n (k + 1) (cQ i t u) due' (ofString ""))
  (h : ∀ t' e t0 u c X, S9 n (k + 1) t' due' (ofString "") → Go h0 o0 (cV e "TypeError" (.ref t0) c (some X) ++ ((t0, a8 [.str (bN r (ofString T)) u]) :: wr prog w i t' V)) (R (.error (.ref e)))) :
  Go h0 o0 (wr prog w i t V) (codeAny (model prog w) A (.call (.ref ip) ⟨[.ref i.x, v], []⟩) R) :=
 c_comR B hv hroom hA hfr hh (hS.wb (by apply aD; with_reducible assumption; decide)) (by have := hS.oz; (lia)) hw hS.ig fun k1 e t0 u c X => h _ e t0 u c X (hm k1)
theorem l9_pi {tg : Str} {ug : Tok} {v : Value} {r : Str} {T : String} {due' : Str} (B : Base (KF w.params) h0) (hv : iq w.params v r T) (hroom : A.depth + 2 < recursionLimit) (hA : A.frames = some outer) (hfr : FrOk V outer) (hh : A.handled = none) (htv : iX v) (hg : tg.length ≤ 1000)
  (hS : S9 n k t due held) (hk : k ≤ 680) (hm : ∀ u, S9 n (k + 1) (cQ i t u) due' (ofString ""))
  (h : ∀ t' e t0 u c X, S9 n (k + 1) t' due' (ofString "") → Go h0 o0 (cV e "TypeError" (.ref t0) c (some X) ++ ((t0, a8 [.str (bN r (ofString T)) u]) :: wr prog w i t' V)) (R (.error (.ref e)))) :
  Go h0 o0 (wr prog w i t V) (codeAny (model prog w) A (.call (.ref aPi) ⟨[.ref i.x, .str tg ug, v], []⟩) R) :=
 c_piR B hv hroom hA hfr hh (hS.wb (by apply aD; with_reducible assumption; decide)) (by have := hS.oz; (lia)) htv hg hS.ig fun k1 e t0 u c X => h _ e t0 u c X (hm k1)
end
noncomputable def uz : Str := ofString "urn:z"
noncomputable def ux : Str := ofString "urn:x"
noncomputable def uy : Str := ofString "urn:y"
noncomputable def uw : Str := ofString "urn:w"
noncomputable def unkL : List (List Str) := [[], [uz], [ux], [uz, ux], [uy], [uz, uy], [ux, uy], [uz, ux, uy]]
noncomputable def brk (u : Str) : Str := ofString "{" ++ u ++ ofString "}k"
noncomputable def hH (unk : List Str) : Str := brk (unk.headD uw)
noncomputable def kt (unk : List Str) : List Str := (unk.drop 1 ++ [ofString "urn:a"]).map brk
noncomputable def fD (unk : List Str) : Str := lp (unk ++ [uw].drop unk.length)
noncomputable def xsU (unk : List Str) : List Str := le (fun x y => dW (κQ x) (κQ y)) (bV [hH unk] (kt unk))
noncomputable def iz {α : Type} (c : α → α → Bool) : List α → Bool
 | a :: b :: r => c a b && iz c (b :: r)
 | _ => true
theorem eV {α : Type} {c : α → α → Bool} : ∀ {l : List α}, iz c l = true → dr c l
 | [], _ => trivial
 | [a], _ => trivial
 | a :: b :: r, h => by
  have h' : (c a b && iz c (b :: r)) = true := h
  rw [Bool.and_eq_true] at h'
  exact ⟨h'.1, eV h'.2⟩
noncomputable def chkX (xs : List Str) : Bool := (xs.all fun x => fB x && decide ((bI x).1 ∈ U9)) && (xs.all fun x => xs.all fun y => !(κQ x == κQ y) || x == y)
theorem mC {xs : List Str} (h : chkX xs = true) : (∀ x ∈ xs, fB x = true ∧ (bI x).1 ∈ U9) ∧ ∀ x ∈ xs, ∀ y ∈ xs, κQ x = κQ y → x = y := by
 unfold chkX at h
 rw [Bool.and_eq_true] at h
 refine ⟨fun x hx => by simpa using List.all_eq_true.mp h.1 x hx, fun x hx y hy e => ?_⟩
 have := List.all_eq_true.mp (List.all_eq_true.mp h.2 x hx) y hy
 simpa [e] using this
theorem unk_all : (unkL.all fun unk => chkX (bV [hH unk] (kt unk)) && iz (fun x y => dW (κQ x) (κQ y)) (xsU unk) && decide ((kt unk).length ≤ 5) && (xsU unk == brk (ofString "urn:a") :: (xsU unk).drop 1) && (match (xsU unk).drop 1 with | x :: _ => decide ((bI x).1 ∈ UX) && decide ((bI x).1 = fD unk) | [] => false)) = true := by decide +kernel
theorem brk_a : bI (brk (ofString "urn:a")) = (ofString "urn:a", ofString "k") := by decide +kernel
theorem mf {m n : Nat} {x : Str} {r : List Str} (hx : (bI x).1 ∈ UX) : bx false ⟨D9 (m + 1), N9 n, []⟩ (brk (ofString "urn:a") :: x :: r) = none := by
 unfold bx
 rw [brk_a, qn_a]
 dsimp only
 unfold bx
 rw [qn_no hx]
theorem oj {m n : Nat} {x y : Str} {r : List Str} (hx : (bI x).1 ∈ UX) {j : Nat} {l : List (Str × Str)} {s1 : QS} (e1 : (brk (ofString "urn:a") :: x :: r)[j]? = some y) (e2 : bx false ⟨D9 (m + 1), N9 n, []⟩ ((brk (ofString "urn:a") :: x :: r).take j) = some (l, s1)) (e3 : d8 false s1 (bI y).1 (bI y).2 = none) : y = x := by
 rcases j with _ | _ | j
 ·have e1 : brk (ofString "urn:a") = y := by simpa using e1
  subst e1
  cases e2
  rw [brk_a, qn_a] at e3
  cases e3
 ·simpa using e1.symm
 ·exfalso
  have e2 : bx false ⟨D9 (m + 1), N9 n, []⟩ (brk (ofString "urn:a") :: x :: r.take j) = some (l, s1) := e2
  rw [mf hx] at e2
  cases e2
section
variable {n k : Nat} {due held : Str} {R : RP} {outer : List Env}
theorem l9_V {a : Addr} {u : Tok} {T : az} {unk : List Str} {dd : List (Str × Value)} {tag : Str} (B : Base (KF w.params) h0) (LB : LamBase h0 cU be) (hh : A.handled = none) (hroom : A.depth + 5 < recursionLimit) (hu : A.units + 1100 < cLine) (hA : A.frames = some outer) (hfr : FrOk V outer) (hrw : i.rw = false) (hst : i.st = false) (het : i.et = .none) (hea : i.ea = .none)
  (hT : Tb be lamPos lamQ T) (hS : S9 (n + 1) k t due held) (hk : k ≤ 680) (hun : unk ∈ unkL) (ha : Has V a (aM prog w dd)) (hdd : dd.map (·.1) = kt unk) (htag : tag = hH unk)
  (h : ∀ T' t' e t0 k X, Tb be lamPos lamQ T' → dY (t'.out.map (·.1)) = due ++ held → t'.out.length ≤ 10000 → Go h0 o0 (cV e "ValueError" (.ref t0) .none (some X) ++ ((t0, a8 [.str (kP (fD unk)) k]) :: (T' ++ wr prog w i t' V))) (R (.error (.ref e)))) :
  Go h0 o0 (T ++ wr prog w i t V) (codeAny (model prog w) A (.call (.ref ct) ⟨[.ref i.x, .str tag u, .ref a], []⟩) R) := by
 subst htag
 have hc := List.all_eq_true.mp unk_all unk hun
 simp only [Bool.and_eq_true, beq_iff_eq, decide_eq_true_eq] at hc
 obtain ⟨⟨⟨⟨c1, c2⟩, c3⟩, c4⟩, c5⟩ := hc
 obtain ⟨ok, inj⟩ := mC c1
 have hdz := hS.dlz
 have hnz := hS.nz
 refine mB B hh (by exact aX 1 (by with_reducible assumption)) hA het (hS.wb (by apply aD; with_reducible assumption; decide)) (by have := hS.oz; (lia)) fun L0 n1 k1 R1 h1 h2 => ?_
 have hf := hS.fl (u := k1) hst
 have hwb : WB { cg i t k1 with dl := t.dl ++ [⟨n1, []⟩] } := by
  have := (hf.wb (by apply aD; apply aF; with_reducible assumption; exact ae _; decide)).newD (n1 := n1) (by rw [hf.dlz]; (lia))
  rwa [dy] at this
 have hqq : QS.of { cg i t k1 with dl := t.dl ++ [⟨n1, []⟩] } = ⟨D9 (n + 2), N9 (n + 1), []⟩ := hS.qN
 have fr1 : FrOk ((L0, cNs [(ofString "attrs", .ref a), (ofString "tag", .str (hH unk) u), (ofString "self", .ref i.x), (ofString "new_namespaces", .ref n1)]) :: V) (callEnv (aK (KF w.params) ct) L0 ct :: outer) := FrOk.cons (by kernel_rfl!) rfl .here hfr.there
 obtain ⟨x0, r0, hx0⟩ : ∃ x0 r0, (xsU unk).drop 1 = x0 :: r0 := by
  cases e : (xsU unk).drop 1 with
  | nil => rw [e] at c5; cases c5
  | cons x r => exact ⟨x, r, rfl⟩
 rw [hx0] at c4 c5
 simp only [Bool.and_eq_true, decide_eq_true_eq] at c5
 obtain ⟨c5, c6⟩ := c5
 refine cs2_V (U := U9) (n0 := 2) (xs := xsU unk) B LB hh (by show A.depth + 1 + 3 < _; (exact aX 1 (by with_reducible assumption))) (by show A.units + _ + 1000 < cLine; (lia)) (Around.frames_deeper hA) fr1 hrw hea hT hwb (by simp) uok9 (by rw [hqq]; exact qb9 (by lia) (by lia)) (by decide) (.there ha) (by have := congrArg List.length hdd; rw [ag] at this; (lia)) (by rw [hdd]; exact ok) (by rw [hdd]; exact inj) (by rw [hdd]; exact d6 _ _) (eV c2) (by rw [hrw, hqq, c4]; exact mf c5) ?_
 intro j y l s1 e1 e2 e3 T' dl pm e t0 kk X hT'
 rw [hrw, hqq, c4] at e2
 rw [c4] at e1
 rw [hrw] at e3
 have ey := oj c5 e1 e2 e3
 subst ey
 rw [c6]
 refine h2 _ e _ _ _ _ ?_ ⟨_, .there (.skip (bR .here))⟩ fun X1 => ?_
 ·exact (hfr.there.wr.skip).there
 ·refine Go.sub (List.Sublist.append_left (List.Sublist.cons_cons _ (List.Sublist.append_left (de (V1 := V) (ak _ _)) T')) _) (h T' _ e t0 kk X1 hT' ?_ ?_)
  ·exact hf.outE
  ·have := hf.oz
   show (cg i t k1).out.length ≤ _
   (lia)
end
noncomputable def kd : Str := ofString "d"
noncomputable def kb : Str := ofString "b"
noncomputable def kc : Str := ofString "c"
noncomputable def ke : Str := ofString "e"
noncomputable def ka : Str := ofString "a"
noncomputable def kT : Str := ofString "{urn:a}k"
noncomputable def keyL : List (List Str) := [[], [kd], [kb], [kd, kb], [kc], [kd, kc], [kb, kc], [kd, kb, kc]]
noncomputable def xsT (ks : List Str) : List Str := le (fun x y => dW (κQ x) (κQ y)) (bV [kT] (ks ++ [ke] ++ [ka]))
noncomputable def pQ (ks : List Str) (f : Str → Value) (v : Value) : List (Str × Value) := (ks ++ [ke]).map (fun k => (k, f k)) ++ [(ka, v)]
noncomputable def zsT (dd : List (Str × Value)) : List (Str × Value) := le (fun x y : Str × Value => jD x.1 y.1) dd
noncomputable def cD (ks : List Str) : Str := lp (ks ++ [ke])
theorem key_all : (keyL.all fun ks => chkX (bV [kT] (ks ++ [ke] ++ [ka])) && iz (fun x y => dW (κQ x) (κQ y)) (xsT ks) && decide ((ks ++ [ke] ++ [ka]).length ≤ 5) && decide (ks ++ [ke] ++ [ka]).Nodup && ((xsT ks).all fun x => decide ((bI x).1 = ofString "" ∨ (bI x).1 = ofString "urn:a")) && decide (sKey ∉ ks ++ [ke] ++ [ka]) && iz (fun x y => jD x y) (le (fun x y => jD x y) (ks ++ [ke] ++ [ka])) && decide (kT ∈ xsT ks) && decide (cD ks ∈ ks ++ [ke])) = true := by decide +kernel
theorem zs_at (f : Str → Value) (v : Value) : ∀ ks ∈ keyL, (zsT (pQ ks f v))[0]? = some (ka, v) ∧ (zsT (pQ ks f v))[1]? = some (cD ks, f (cD ks)) ∧ (zsT (pQ ks f v)).map (·.1) = le (fun x y => jD x y) (ks ++ [ke] ++ [ka]) := by
 have m1 : cD [] = ke := by decide +kernel
 have m2 : cD [kd] = kd := by decide +kernel
 have m3 : cD [kb] = kb := by decide +kernel
 have m4 : cD [kd, kb] = kb := by decide +kernel
 have m5 : cD [kc] = kc := by decide +kernel
 have m6 : cD [kd, kc] = kc := by decide +kernel
 have m7 : cD [kb, kc] = kb := by decide +kernel
 have m8 : cD [kd, kb, kc] = kb := by decide +kernel
 intro ks hks
 simp only [keyL, List.mem_cons, List.not_mem_nil, or_false] at hks
 rcases hks with rfl | rfl | rfl | rfl | rfl | rfl | rfl | rfl
 ·rw [m1]; exact ⟨by kernel_rfl!, by kernel_rfl!, by kernel_rfl!⟩
 ·rw [m2]; exact ⟨by kernel_rfl!, by kernel_rfl!, by kernel_rfl!⟩
 ·rw [m3]; exact ⟨by kernel_rfl!, by kernel_rfl!, by kernel_rfl!⟩
 ·rw [m4]; exact ⟨by kernel_rfl!, by kernel_rfl!, by kernel_rfl!⟩
 ·rw [m5]; exact ⟨by kernel_rfl!, by kernel_rfl!, by kernel_rfl!⟩
 ·rw [m6]; exact ⟨by kernel_rfl!, by kernel_rfl!, by kernel_rfl!⟩
 ·rw [m7]; exact ⟨by kernel_rfl!, by kernel_rfl!, by kernel_rfl!⟩
 ·rw [m8]; exact ⟨by kernel_rfl!, by kernel_rfl!, by kernel_rfl!⟩
noncomputable def nmq (x : Str) : Str := if (bI x).1 = ofString "" then (bI x).2 else iD (ofString "p") (bI x).2
theorem mh {m : Nat} {N : List (List Sp)} : ∀ {xs : List Str}, (∀ x ∈ xs, (bI x).1 = ofString "" ∨ (bI x).1 = ofString "urn:a") → bx false ⟨D9 (m + 1), N, []⟩ xs = some (xs.map fun x => (x, nmq x), ⟨D9 (m + 1), N, []⟩)
 | [], _ => rfl
 | x :: r, h => by
  have ih := mh (m := m) (N := N) (xs := r) fun y hy => h y (am _ hy)
  have e1 : d8 false ⟨D9 (m + 1), N, []⟩ (bI x).1 (bI x).2 = some (nmq x, ⟨D9 (m + 1), N, []⟩) := by
   have ne : ¬ ofString "urn:a" = ofString "" := by decide +kernel
   unfold nmq
   rcases h x au with e | e
   ·rw [e, if_pos rfl]; exact qn_0
   ·rw [e, if_neg ne]; exact qn_a
  unfold bx
  rw [e1]
  dsimp only
  rw [ih]; rfl
theorem fY {g : Str → Str} {x : Str} : ∀ {xs : List Str}, x ∈ xs → (xs.map fun y => (y, g y)).lookup x = some (g x)
 | y :: r, h => by
  rw [ap, List.lookup_cons]
  cases e : x == y with
  | true => rw [beq_iff_eq.mp e]
  | false =>
   rcases List.mem_cons.mp h with rfl | h
   ·rw [beq_self_eq_true] at e; cases e
   ·exact fY h
theorem nS {dd : List (Str × Value)} {x : Str} (h : x ∉ dd.map (·.1)) : valueAt dd x = none := by
 unfold valueAt
 rw [List.find?_eq_none.mpr fun p hp q => h (by rw [← show p.1 = x from by simpa using q]; exact aq hp)]
 rfl
theorem pO {ks : List Str} {f : Str → Value} {v : Value} : (pQ ks f v).map (·.1) = ks ++ [ke] ++ [ka] := by
 unfold pQ
 rw [ai, List.map_map, show ((fun x : Str × Value => x.1) ∘ fun k => (k, f k)) = id from rfl, List.map_id]; rfl
theorem kT_q : nmq kT = ofString "p:k" := by decide +kernel
section
variable {n k : Nat} {due held : Str} {R : RP} {outer : List Env}
set_option maxHeartbeats 1000000 in
theorem l9_T {a : Addr} {u : Tok} {T : az} {ks : List Str} {f : Str → Value} {kv : Tok} {r : Str} {Tn : String} {dd : List (Str × Value)} (B : Base (KF w.params) h0) (LB : LamBase h0 cU be) (hh : A.handled = none) (hroom : A.depth + 5 < recursionLimit) (hu : A.units + 1100 < cLine) (hA : A.frames = some outer) (hfr : FrOk V outer) (hrw : i.rw = false) (hst : i.st = false) (het : i.et = .none) (hea : i.ea = .none)
  (hT : Tb be lamPos lamQ T) (hS : S9 (n + 1) k t due held) (hk : k ≤ 680) (hks : ks ∈ keyL) (ha : Has V a (aM prog w dd)) (hdd : dd = pQ ks f (.str (ofString "v") kv)) (hbad : iq w.params (f (cD ks)) r Tn)
  (h : ∀ T' t' e t0 c k X, Tb be lamPos lamQ T' → dY (t'.out.map (·.1)) = due ++ held ++ ofString "<p:k" → t'.out.length ≤ 10000 → Go h0 o0 (cV e "TypeError" (.ref t0) c (some X) ++ ((t0, a8 [.str (bN r (ofString Tn)) k]) :: (T' ++ wr prog w i t' V))) (R (.error (.ref e)))) :
  Go h0 o0 (T ++ wr prog w i t V) (codeAny (model prog w) A (.call (.ref ct) ⟨[.ref i.x, .str kT u, .ref a], []⟩) R) := by
 subst hdd
 have hc := List.all_eq_true.mp key_all ks hks
 simp only [Bool.and_eq_true, decide_eq_true_eq] at hc
 obtain ⟨⟨⟨⟨⟨⟨⟨⟨c1, c2⟩, c3⟩, c4⟩, c5⟩, c6⟩, c7⟩, c8⟩, c9⟩ := hc
 obtain ⟨ok, inj⟩ := mC c1
 obtain ⟨z0, z1, zk⟩ := zs_at f (.str (ofString "v") kv) ks hks
 have hkeys := pO (ks := ks) (f := f) (v := .str (ofString "v") kv)
 have hns : ∀ x ∈ xsT ks, (bI x).1 = ofString "" ∨ (bI x).1 = ofString "urn:a" := fun x hx => by simpa using List.all_eq_true.mp c5 x hx
 have hdz := hS.dlz
 have hnz := hS.nz
 refine mB B hh (by exact aX 1 (by with_reducible assumption)) hA het (hS.wb (by apply aD; with_reducible assumption; decide)) (by have := hS.oz; (lia)) fun L0 n1 k1 R1 h1 h2 => ?_
 have hf := hS.fl (u := k1) hst
 have hwb : WB { cg i t k1 with dl := t.dl ++ [⟨n1, []⟩] } := by
  have := (hf.wb (by apply aD; apply aF; with_reducible assumption; exact ae _; decide)).newD (n1 := n1) (by rw [hf.dlz]; (lia))
  rwa [dy] at this
 have hqq : QS.of { cg i t k1 with dl := t.dl ++ [⟨n1, []⟩] } = ⟨D9 (n + 2), N9 (n + 1), []⟩ := hS.qN
 have hps : (cg i t k1).ps = List.replicate (n + 1) false ++ [false] := by rw [gP, hS.ps, ← List.replicate_succ']
 have fr1 : FrOk ((L0, cNs [(ofString "attrs", .ref a), (ofString "tag", .str kT u), (ofString "self", .ref i.x), (ofString "new_namespaces", .ref n1)]) :: V) (callEnv (aK (KF w.params) ct) L0 ct :: outer) := FrOk.cons (by kernel_rfl!) rfl .here hfr.there
 have hdl5 : (pQ ks f (.str (ofString "v") kv)).length ≤ 5 := by have := congrArg List.length hkeys; rw [ag] at this; (lia)
 refine cs2_T (lD := ⟨n1, []⟩) (ND := t.dl) (U := U9) (n0 := 2) (n2 := 1) (xs := xsT ks) (l := (xsT ks).map fun x => (x, nmq x)) (zs := zsT (pQ ks f (.str (ofString "v") kv))) (z0 := (cD ks, f (cD ks))) (r := r) (Tn := Tn) (s' := ⟨D9 (n + 2), N9 (n + 1), []⟩) B LB hh (by show A.depth + 1 + 3 < _; (exact aX 1 (by with_reducible assumption))) (by show A.units + _ + 1000 < cLine; (lia)) (Around.frames_deeper hA) fr1 hrw hea hT hwb (by have := hf.oz; show (cg i t k1).out.length ≤ _; (lia)) rfl uok9 (by rw [hqq]; exact qb9 (by lia) (by lia)) (by decide) (.there ha) hdl5 (by rw [hkeys]; exact c4) (nS (by rw [hkeys]; exact c6)) (by rw [hkeys]; exact ok) (by rw [hkeys]; exact inj) (by rw [hkeys]; exact d6 _ _) (eV c2) (by rw [hrw, hqq]; exact mh hns) (last9 n) hps (d6 _ _) (by rw [zk]; exact eV c7) z1 hbad ?_ ?_
 ·intro j z hj hz
  have hj0 : j = 0 := by (lia)
  subst hj0
  rw [z0] at hz
  cases hz
  exact ⟨_, kv, rfl, by decide +kernel, by decide +kernel⟩
 intro T' dl pm e t0 c kk X j1 hT'
 refine h2 _ e _ _ _ _ ?_ ⟨_, .there (.skip (bR .here))⟩ fun X1 => ?_
 ·exact (hfr.there.wr.skip).there
 ·refine Go.sub (List.Sublist.append_left (List.Sublist.cons_cons _ (List.Sublist.append_left (de (V1 := V) (ak _ _)) T')) _) (h T' _ e t0 c kk X1 hT' ?_ ?_)
  ·show dY (((cg i t k1).out ++ [(ofString "<" ++ (mY ((xsT ks).map fun x => (x, nmq x)) kT).1, j1)]).map (·.1)) = _
   have e1 : (mY ((xsT ks).map fun x => (x, nmq x)) kT).1 = ofString "p:k" := by
    unfold mY
    dsimp only
    rw [fY c8]
    exact kT_q
   rw [e1, ai, ef, hf.outE, ap, List.map_nil, ec, show ofString "<" ++ ofString "p:k" = ofString "<p:k" from by decide +kernel]
  ·have := hf.oz
   show ((cg i t k1).out ++ [_]).length ≤ _
   rw [ao, List.length_singleton]; (lia)
end
structure Op9 where
 (a : Addr) (p : Str × Str) (k1 k2 : Tok)
noncomputable def Op9.ref (o : Op9) : Value := .ref o.a
noncomputable abbrev pZ : Addr := 179
noncomputable abbrev dq : Addr := 177
noncomputable def lawQ : Str := ofString "law.<locals>.<lambda>"
structure J9 where
 (L OP sc x O : Addr)
@[reducible] noncomputable def lawF (j : J9) (due : Str) (dk : Tok) (held : Str) (hk : Tok) (r : List (Str × Value)) : List (Str × Value) :=
 (ofString "due", .str due dk) :: (ofString "held", .str held hk) :: (ofString "pieces", .ref j.O) :: (ofString "opened", .ref j.OP) :: (ofString "script", .ref j.sc) :: r
@[reducible] noncomputable def lawX (j : J9) (due : Str) (dk : Tok) (held : Str) (hk : Tok) (r : List (Str × Value)) (ops : List Op9) (tv qv nv av : Option Value) (Z : az) : az :=
 (j.L, cNs (lawF j due dk held hk r)) :: (j.OP, ay (ops.map Op9.ref)) :: (j.L + 1 + 1 + 1 + 1 + 1, aN (some (.ref j.x))) :: (j.L + 1 + 1 + 1 + 1, aN tv) :: (j.L + 1 + 1 + 1, aN qv) :: (j.L + 1 + 1, aN nv) :: (j.L + 1, aN av) :: Z
noncomputable def ds : Stmt → List Stmt
 | .If _ b _ _ => b
 | _ => []
noncomputable def ifE : Stmt → List Stmt
 | .If _ _ e _ => e
 | _ => []
noncomputable def forB : Stmt → List Stmt
 | .For _ _ b _ _ => b
 | .While _ b _ _ => b
 | _ => []
noncomputable def oG (l : List Stmt) (n : Nat) : Stmt := l.getD n (.Pass ⟨0, 0, 0, 0⟩)
noncomputable abbrev nx (P : Params) : List Stmt := aZ (KF P) io
noncomputable abbrev lwF (P : Params) : List Stmt := forB (oG (nx P) 8)
noncomputable abbrev lw0 (P : Params) : Stmt := oG (lwF P) 3
noncomputable abbrev lw1 (P : Params) : Stmt := oG (ifE (lw0 P)) 0
noncomputable abbrev lw2 (P : Params) : Stmt := oG (ifE (lw1 P)) 0
noncomputable abbrev lw3 (P : Params) : Stmt := oG (ifE (lw2 P)) 0
noncomputable abbrev kg (P : Params) : Stmt := oG (ifE (lw3 P)) 0
noncomputable abbrev jC (P : Params) : Stmt := oG (ifE (kg P)) 0
noncomputable abbrev aV (P : Params) (L : Addr) : Env := callEnvC (aK (KF P) io) L io
theorem Go.tIn {T Z X : az} {P : GP} (h : Go h0 o0 (T ++ wr prog w i t (X ++ Z)) P) : Go h0 o0 (X ++ (T ++ wr prog w i t Z)) P := by
 refine Go.perm ?_ h
 rw [ci (V := Z), ci (V := X ++ Z)]
 refine perm3.trans (List.Perm.append_left _ perm3)
theorem Go.tOut {T Z X : az} {P : GP} (h : Go h0 o0 (X ++ (T ++ wr prog w i t Z)) P) : Go h0 o0 (T ++ wr prog w i t (X ++ Z)) P := by
 refine Go.perm ?_ h
 rw [ci (V := Z), ci (V := X ++ Z)]
 exact (perm3.trans (List.Perm.append_left _ perm3)).symm
theorem Go.sIn {T Z X : az} {P : GP} (h : Go h0 o0 (wr prog w i t (X ++ (T ++ Z))) P) : Go h0 o0 (X ++ (T ++ wr prog w i t Z)) P := by
 refine Go.perm ?_ h
 rw [← an, ← an]
 exact wr_in
theorem Go.sOut {T Z X : az} {P : GP} (h : Go h0 o0 (X ++ (T ++ wr prog w i t Z)) P) : Go h0 o0 (wr prog w i t (X ++ (T ++ Z))) P := by
 refine Go.perm ?_ h
 rw [← an, ← an]
 exact wr_in.symm
theorem Go.lIn {T T2 Z X : az} {P : GP} (h : Go h0 o0 (X ++ (T2 ++ (T ++ wr prog w i t Z))) P) : Go h0 o0 (X ++ (T ++ wr prog w i t (T2 ++ Z))) P := by
 refine Go.perm (List.Perm.append_left X ?_) h
 rw [ci (V := Z), ci (V := T2 ++ Z)]
 exact ((perm3 (X := T2) (Y := T)).trans (List.Perm.append_left _ perm3)).symm
theorem Go.lOut {T T2 Z X : az} {P : GP} (h : Go h0 o0 (X ++ (T ++ wr prog w i t (T2 ++ Z))) P) : Go h0 o0 (X ++ (T2 ++ (T ++ wr prog w i t Z))) P := by
 refine Go.perm (List.Perm.append_left X ?_) h
 rw [ci (V := Z), ci (V := T2 ++ Z)]
 exact (perm3 (X := T2) (Y := T)).trans (List.Perm.append_left _ perm3)
theorem Go.exS {B T Z X : az} {p q : Addr × bM} {P : GP} (h : Go h0 o0 (B ++ (p :: (X ++ (T ++ wr prog w i t Z)))) P) : Go h0 o0 (B ++ (p :: wr prog w i t (q :: (X ++ (T ++ Z))))) P := by
 refine Go.sub (cs' := B ++ (p :: wr prog w i t (X ++ (T ++ Z)))) (List.Sublist.append_left (List.Sublist.cons_cons _ (de (ak _ _))) _) ?_
 refine Go.perm (List.Perm.append_left B (List.Perm.cons _ ?_)) h
 rw [← an, ← an]
 exact wr_in.symm
theorem Go.exT {B T Z X : az} {p q : Addr × bM} {P : GP} (h : Go h0 o0 (B ++ (p :: (X ++ (T ++ wr prog w i t Z)))) P) : Go h0 o0 (B ++ (p :: (T ++ wr prog w i t (q :: (X ++ Z))))) P := by
 refine Go.sub (cs' := B ++ (p :: (T ++ wr prog w i t (X ++ Z)))) (List.Sublist.append_left (List.Sublist.cons_cons _ (List.Sublist.append_left (de (ak _ _)) T)) _) ?_
 refine Go.perm (List.Perm.append_left B (List.Perm.cons _ ?_)) h
 rw [ci (V := Z), ci (V := X ++ Z)]
 exact (perm3.trans (List.Perm.append_left _ perm3)).symm
theorem s_while {test : Expr} {body : List Stmt} {pos : Pos} {Q : FP} (P : Nat → az → Prop)
  (turn : ∀ n C, P n C → Go h0 o0 C (wpAny (model prog w) A (isTrue test env (eval test env)) (fun b => eR b (wpAny (model prog w) A (execs body env) (fun f s₃ => match f with
   | .next | .cont => ∃ m C', m < n ∧ P m C' ∧ St h0 o0 C' s₃
   | .brk => Q .next s₃
   | .ret v => Q (.ret v) s₃) NoE) (Q .next)) NoE)) {n : Nat} (hP : P n cs) : Go h0 o0 cs (wpAny (model prog w) A (exec (.While test body [] pos) env) Q NoE) := fun s H =>
 x_while (K := []) P (fun n C s hP H => ad (turn n C hP s (by rw [List.append_nil] at H; exact H)) (fun b s2 q => by
  cases b with
  | true =>
   rw [eR, if_pos rfl] at q
   rw [if_pos rfl]
   refine ad q (fun f s3 q => ?_) fun _ _ q => q
   cases f with
   | next => obtain ⟨m, C', a, b, c⟩ := q; exact ⟨m, C', a, b, by rw [List.append_nil]; exact c⟩
   | cont => obtain ⟨m, C', a, b, c⟩ := q; exact ⟨m, C', a, b, by rw [List.append_nil]; exact c⟩
   | brk => exact q
   | ret v => exact q
  | false =>
   rw [eR, if_neg (by decide)] at q
   rw [if_neg (by decide)]; exact q) fun _ _ q => q) hP (by rw [List.append_nil]; exact H)
structure LI9 (i : fQ) (k : Nat) (ops : List Op9) (t : eo) (due held : Str) : Prop where
 s : S9 ops.length k t due held
 op : ∀ o ∈ ops, o.p ∈ na
structure kR (i : fQ) : Prop where
 wc : i.wc = true
 st : i.st = false
 rw : i.rw = false
 et : i.et = .none
 ea : i.ea = .none
@[reducible] noncomputable def jd9 (L OP sc : Addr) (i : fQ) : J9 := ⟨L, OP, sc, i.x, i.O⟩
noncomputable def noA : Arguments := { posonlyargs := [], args := [], vararg := none, kwonlyargs := [], kw_defaults := [], kwarg := none, defaults := [] }
noncomputable def gg (l : List Str) : Scope := { kind := .function, names := l.map fun x => (x, .free), isGenerator := false, isCoroutine := false, more := [] }
noncomputable def comB (p2 p3 p4 p5 : Pos) : Expr := .Call (.Attribute (.Name (ofString "writer") p2) (ofString "comment") p3) [.Name (ofString "thing") p4] [] p5
noncomputable def lX (o : Expr) (name : Str) (apos : Pos) (args : List Expr) (pos : Pos) : Prop := ∀ env : Env, ∃ pl, eval (.Call (.Attribute o name apos) args [] pos) env = (do
 let ov ← eval o env
 standAt apos.atName
 let (f, first) ← holding [ov] (getMethod ov name pl)
 callWith pos f first (backTo pos (starEach args env)) [])
noncomputable def clC (L : Addr) : List (Str × Addr) := [(ofString "writer", L + 1 + 1 + 1 + 1 + 1), (ofString "thing", L + 1 + 1 + 1 + 1)]
section
variable {L OP sc : Addr} {due held due' d0 h1 : Str} {dk hk : Tok} {r : List (Str × Value)} {ops : List Op9} {tv qv nv av : Option Value} {T T2 : az} {n k : Nat}
theorem pn {f c' : Addr} {p2 p3 p4 p5 : Pos} {v : Value} {rr : Str} {Tn : String} {Q : VP} (B : Base (KF w.params) h0) (W : kR i) (hroom : A.depth + 6 < recursionLimit) (hu : A.units + 100 < cLine) (hh : A.handled = none) (hA : A.frames = some [aV w.params L])
  (he : lX (.Name (ofString "writer") p2) (ofString "comment") p3 [.Name (ofString "thing") p4] p5) (hc : Has T2 c' (b7 lawQ)) (hbad : iq w.params v rr Tn) (hS : S9 n k t d0 h1) (hk6 : k ≤ 680) (hm : ∀ u, S9 n (k + 1) (cQ i t u) due' (ofString ""))
  (h : ∀ t' a k1 k2, S9 n (k + 1) t' due' (ofString "") → Go h0 o0 ((a, ay [.str (ofString "TypeError") k1, .str (bN rr (ofString Tn)) k2]) :: lawX (jd9 L OP sc i) due dk held hk r ops (some v) qv nv av (T ++ wr prog w i t' (T2 ++ V))) (Q (.ref a))) :
  Go h0 o0 ((f, dg "<lambda>" lawQ noA (comB p2 p3 p4 p5) (gg [ofString "thing", ofString "writer"]) (clC L) c') :: lawX (jd9 L OP sc i) due dk held hk r ops (some v) qv nv av (T ++ wr prog w i t (T2 ++ V))) (wpAny (model prog w) A (call (.ref bW) [.ref f]) Q E) := by
 refine pT (cls := "TypeError") (m := bN rr (ofString Tn)) (fun C => ∃ t', S9 n (k + 1) t' due' (ofString "") ∧ C = (f, dg "<lambda>" lawQ noA (comB p2 p3 p4 p5) (gg [ofString "thing", ofString "writer"]) (clC L) c') :: lawX (jd9 L OP sc i) due dk held hk r ops (some v) qv nv av (T ++ wr prog w i t' (T2 ++ V))) (.inl rfl) B (by exact aX 6 (by with_reducible assumption)) hu hh hA .here (fun Lr R hR => ?_) (fun C a k1 k2 hJ => ?_)
 ·have hA1 := Around.frames_deeper (env := callEnv (aK (KF w.params) bW) Lr bW) hA
  refine ly B.lim (.there .here) (.t4 (.t4 (.there (.skip (bR hc.app))))) (by show A.depth + 1 < _; (exact aX 5 (by with_reducible assumption))) (fun pm ctv => by with_unfolding_all rfl) rfl rfl rfl (by decide) fun Ll => ?_
  obtain ⟨pl, he⟩ := he (envX lawQ (gg [ofString "thing", ofString "writer"]) Ll f (Value.ref c') (clC L))
  refine bi ?_ (he := he)
  with_reducible refine gT (.t4 (.there .here)) (by kernel_rfl!) (by kernel_rfl!) (by kernel_rfl!) ?_; refine g_mcom (by assumption) (.t4 (.t4 (.t2 (.skip a9)))) (.t4 (.t4 (.t2 (.skip aS)))) ?_; refine fO (aA ?_); refine gT (c := L + 1 + 1 + 1 + 1) (.t4 (.there (.there .here))) (by kernel_rfl!) (by kernel_rfl!) (by kernel_rfl!) ?_; refine aH (ck ?_)
  refine bv ?_
  show Go h0 o0 ([_, _, _, _, _, _, _, _, _, _] ++ (T ++ wr prog w i t (T2 ++ V))) _
  have fr : ∀ Z, FrOk ((Lr, cNs [(ofString "call", .ref f)]) :: (f, dg "<lambda>" lawQ noA (comB p2 p3 p4 p5) (gg [ofString "thing", ofString "writer"]) (clC L) c') :: lawX (jd9 L OP sc i) due dk held hk r ops (some v) qv nv av Z) [callEnv (aK (KF w.params) bW) Lr bW, aV w.params L] := fun Z => FrOk.cons (by kernel_rfl!) rfl .here (FrOk.cons (by kernel_rfl!) rfl (.there (.there .here)) FrOk.nil)
  have fr3 : FrOk ([_, _, _, _, _, _, _, _, _, _] ++ (T ++ (T2 ++ V))) (envX lawQ (gg [ofString "thing", ofString "writer"]) Ll f (Value.ref c') (clC L) :: [callEnv (aK (KF w.params) bW) Lr bW, aV w.params L]) := FrOk.cons rfl rfl (.here (a := Ll) (c := cNs [])) ((fr (T ++ (T2 ++ V))).there)
  have hA2 := Around.frames_deeper (env := envX lawQ (gg [ofString "thing", ofString "writer"]) Ll f (Value.ref c') (clC L)) hA1
  refine Go.sIn (l9_com B hbad (by show A.depth + 1 + 1 + 2 < _; (exact aX 2 (by with_reducible assumption))) hA2 fr3 hh W.wc hS hk6 hm fun t' e t0 u c X hS' => ?_)
  refine cc hA2 rfl fr3.wr.there fun X1 => ?_
  refine Go.exS (X := [_, _, _, _, _, _, _, _, _]) ?_
  exact hR _ e t0 u c X1 ⟨t', hS', rfl⟩ (FrOk.cons (by kernel_rfl!) rfl (.there .here) FrOk.nil)
 ·obtain ⟨t', hS', rfl⟩ := hJ
  exact Go.sub (List.Sublist.cons_cons _ (ak _ _)) (h t' a k1 k2 hS')
end
noncomputable def piB (ax : Expr) (p2 p3 p4 p5 : Pos) : Expr := .Call (.Attribute (.Name (ofString "writer") p2) (ofString "pi") p3) [.Constant (.str (ofString "t")) 0 p4, ax] [] p5
theorem jW {l : List Str} : ∀ x ∈ (gg l).names, x.2 ≠ .cell := fun x hx => by
 obtain ⟨y, _, rfl⟩ := List.mem_map.mp (show x ∈ l.map fun x => (x, NameKind.free) from hx)
 exact fun q => nomatch q
section
variable {L OP sc : Addr} {due held due' d0 h1 : Str} {dk hk : Tok} {r : List (Str × Value)} {ops : List Op9} {tv qv nv av : Option Value} {T T2 : az} {n k : Nat}
theorem k9_pi {f c' : Addr} {p2 p3 p4 p5 : Pos} {ax : Expr} {nms : List Str} {cl : List (Str × Addr)} {vf : Tok → Value} {rr : Str} {Tn : String} {Q : VP} (B : Base (KF w.params) h0) (W : kR i) (hroom : A.depth + 6 < recursionLimit) (hu : A.units + 100 < cLine) (hh : A.handled = none) (hA : A.frames = some [aV w.params L])
  (he : lX (.Name (ofString "writer") p2) (ofString "pi") p3 [.Constant (.str (ofString "t")) 0 p4, ax] p5) (hc : Has T2 c' (b7 lawQ)) (hw1 : ∀ Ll, (envX lawQ (gg nms) Ll f (.ref c') cl).kindOf (ofString "writer") = some .free) (hw2 : cl.lookup (ofString "writer") = some (L + 1 + 1 + 1 + 1 + 1))
  (hstar : ∀ env : Env, starEach [ax] env = [(false, eval ax env)]) (hback : ∀ env : Env, (backTo p5 (starEach [ax] env)).any (·.1) = false) (hax : ∀ (Ll : Addr) (A' : Around) (cs : az) (Q : VP) (E : VP), Has cs (L + 1 + 1 + 1) (aN qv) → (∀ u, Go h0 o0 cs (Q (vf u))) → Go h0 o0 cs (wpAny (model prog w) A' (eval ax (envX lawQ (gg nms) Ll f (.ref c') cl)) Q E))
  (hbad : ∀ u, iq w.params (vf u) rr Tn) (htv : ∀ u, iX (vf u)) (hS : S9 n k t d0 h1) (hk6 : k ≤ 680) (hm : ∀ u, S9 n (k + 1) (cQ i t u) due' (ofString ""))
  (h : ∀ t' a k1 k2, S9 n (k + 1) t' due' (ofString "") → Go h0 o0 ((a, ay [.str (ofString "TypeError") k1, .str (bN rr (ofString Tn)) k2]) :: lawX (jd9 L OP sc i) due dk held hk r ops tv qv nv av (T ++ wr prog w i t' (T2 ++ V))) (Q (.ref a))) :
  Go h0 o0 ((f, dg "<lambda>" lawQ noA (piB ax p2 p3 p4 p5) (gg nms) cl c') :: lawX (jd9 L OP sc i) due dk held hk r ops tv qv nv av (T ++ wr prog w i t (T2 ++ V))) (wpAny (model prog w) A (call (.ref bW) [.ref f]) Q E) := by
 refine pT (cls := "TypeError") (m := bN rr (ofString Tn)) (fun C => ∃ t', S9 n (k + 1) t' due' (ofString "") ∧ C = (f, dg "<lambda>" lawQ noA (piB ax p2 p3 p4 p5) (gg nms) cl c') :: lawX (jd9 L OP sc i) due dk held hk r ops tv qv nv av (T ++ wr prog w i t' (T2 ++ V))) (.inl rfl) B (by exact aX 6 (by with_reducible assumption)) hu hh hA .here (fun Lr R hR => ?_) (fun C a k1 k2 hJ => ?_)
 ·have hA1 := Around.frames_deeper (env := callEnv (aK (KF w.params) bW) Lr bW) hA
  refine ly B.lim (.there .here) (.t4 (.t4 (.there (.skip (bR hc.app))))) (by show A.depth + 1 < _; (exact aX 5 (by with_reducible assumption))) (fun pm ctv => by with_unfolding_all rfl) rfl rfl rfl jW fun Ll => ?_
  obtain ⟨pl, he⟩ := he (envX lawQ (gg nms) Ll f (Value.ref c') cl)
  refine bi ?_ (he := he)
  with_reducible refine gT (c := L + 1 + 1 + 1 + 1 + 1) (.t4 (.there .here)) rfl (hw1 Ll) hw2 ?_; refine g_mpi (by assumption) (.t4 (.t4 (.t2 (.skip a9)))) (.t4 (.t4 (.t2 (.skip aS)))) ?_; refine fO ?_ (he := rfl) (hp := (hback _)); refine aA ?_ (he := rfl); refine aI ?_; intro _ _
  refine aA ?_ (he := (hstar _))
  refine hax Ll _ _ _ _ (.t4 (.t2 (.there .here))) fun u => ?_
  with_reducible refine aH (ck ?_)
  refine bv ?_
  show Go h0 o0 ([_, _, _, _, _, _, _, _, _, _] ++ (T ++ wr prog w i t (T2 ++ V))) _
  have fr : ∀ Z, FrOk ((Lr, cNs [(ofString "call", .ref f)]) :: (f, dg "<lambda>" lawQ noA (piB ax p2 p3 p4 p5) (gg nms) cl c') :: lawX (jd9 L OP sc i) due dk held hk r ops tv qv nv av Z) [callEnv (aK (KF w.params) bW) Lr bW, aV w.params L] := fun Z => FrOk.cons (by kernel_rfl!) rfl .here (FrOk.cons (by kernel_rfl!) rfl (.there (.there .here)) FrOk.nil)
  have fr3 : FrOk ([_, _, _, _, _, _, _, _, _, _] ++ (T ++ (T2 ++ V))) (envX lawQ (gg nms) Ll f (Value.ref c') cl :: [callEnv (aK (KF w.params) bW) Lr bW, aV w.params L]) := FrOk.cons rfl rfl (.here (a := Ll) (c := cNs [])) ((fr (T ++ (T2 ++ V))).there)
  have hA2 := Around.frames_deeper (env := envX lawQ (gg nms) Ll f (Value.ref c') cl) hA1
  refine Go.sIn (l9_pi B (hbad u) (by show A.depth + 1 + 1 + 2 < _; (exact aX 2 (by with_reducible assumption))) hA2 fr3 hh (htv u) (by decide +kernel) hS hk6 hm fun t' e t0 u c X hS' => ?_)
  refine cc hA2 rfl fr3.wr.there fun X1 => ?_
  refine Go.exS (X := [_, _, _, _, _, _, _, _, _]) ?_
  exact hR _ e t0 u c X1 ⟨t', hS', rfl⟩ (FrOk.cons (by kernel_rfl!) rfl (.there .here) FrOk.nil)
 ·obtain ⟨t', hS', rfl⟩ := hJ
  exact Go.sub (List.Sublist.cons_cons _ (ak _ _)) (h t' a k1 k2 hS')
end
noncomputable def clS (L : Addr) : List (Str × Addr) := [(ofString "writer", L + 1 + 1 + 1 + 1 + 1), (ofString "name", L + 1 + 1), (ofString "attrs", L + 1)]
section
variable {L OP sc : Addr} {due held due' d0 h1 : Str} {dk hk : Tok} {r : List (Str × Value)} {ops : List Op9} {tv qv nv av : Option Value} {T T2 : az} {n k : Nat}
end
theorem S9.join {n k : Nat} {due held : Str} (h : S9 n k t due held) (hk : k ≤ 680) : tot t.out ≤ sizeLine := by
 have := h.bz
 rw [← ee, h.outE, af]
 (lia)
section
variable {L OP sc W2 : Addr} {due held due' d0 h1 : Str} {dk hk u1 u2 kk : Tok} {kd : Int} {r : List (Str × Value)} {ops : List Op9} {tv qv nv av : Option Value} {T T2 : az} {n k : Nat} {Q : FP}
theorem c9_C {v : Value} {rr : Str} {Tn : String} (B : Base (KF w.params) h0) (LB2 : LamBase h0 pZ dq) (W : kR i) (hroom : A.depth + 6 < recursionLimit) (hu : A.units + 100 < cLine) (hh : A.handled = none) (hA : A.frames = some [aV w.params L])
  (hT2 : TbL dq lawQ T2) (hbad : iq w.params v rr Tn) (hS : S9 (n + 1) k t d0 h1) (hk6 : k ≤ 670) (hD : due = d0 ++ h1) (hW : Has V W2 (ay [.str (ofString "TypeError") u1, .str (bN rr (ofString Tn)) u2]))
  (h : ∀ t' T2', TbL dq lawQ T2' → S9 (n + 1) (k + 1) t' due (ofString "") → Go h0 o0 (lawX (jd9 L OP sc i) due dk held hk ((ofString "kind", .int kd kk) :: (ofString "words", .ref W2) :: r) ops (some v) qv nv av (T ++ wr prog w i t' (T2' ++ V))) (Q .next)) :
  Go h0 o0 (lawX (jd9 L OP sc i) due dk held hk ((ofString "kind", .int kd kk) :: (ofString "words", .ref W2) :: r) ops (some v) qv nv av (T ++ wr prog w i t (T2 ++ V))) (wpAny (model prog w) A (execs (ds (lw2 w.params)) (aV w.params L)) Q NoE) := by
 have gRef : bA h0 (ofString "_law_refused") (.ref bW) := B.glob (by kernel_rfl!) (by kernel_rfl!)
 refine aE (bt ?_)
 with_reducible refine bZ (gr (bc (aW (ch ?_)))); refine dK (aA ?_)
 show Go h0 o0 ([_, _, _, _, _, _, _] ++ (T ++ wr prog w i t (T2 ++ V))) _
 refine Go.lIn ?_
 refine fL (X := [_, _, _, _, _, _, _]) (clos := clC L) (qual := lawQ) LB2 hT2 fun f c' T2' hT2' hc' => ?_
 refine Go.lOut (X := [_, _, _, _, _, _, _, _]) ?_
 with_reducible refine aH (ck ?_)
 refine pn (due' := due) B W hroom hu hh hA (fun _ => ⟨_, by with_unfolding_all rfl⟩) hc' hbad hS (by apply aD; with_reducible assumption; decide) (fun u => by rw [hD]; exact hS.mid W.st) fun t' a j1 j2 hS' => ?_
 with_reducible refine aG (.there .here) (.n4 (.n (.n .here))) ?_
 have hWW : Has ((a, ay [Value.str (ofString "TypeError") j1, Value.str (bN rr (ofString Tn)) j2]) :: lawX (jd9 L OP sc i) due dk held hk ((ofString "kind", .int kd kk) :: (ofString "words", .ref W2) :: r) ops (some v) qv nv av (T ++ wr prog w i t' (T2' ++ V))) W2 (ay [.str (ofString "TypeError") u1, .str (bN rr (ofString Tn)) u2]) := .t4 (.t4 (.skip (bR (.skip hW))))
 refine oB (xs := [(ofString "TypeError", j1), (bN rr (ofString Tn), j2)]) (ys := [(ofString "TypeError", u1), (bN rr (ofString Tn), u2)]) .here hWW rfl rfl rfl (by exact aX 100 (by with_reducible assumption)) ?_
 with_reducible refine aP (dh (gr (bc (bi (aI ?_))))); intro _ _; refine dZ (cT (aA (aG (.there .here) (.n (.n .here)) (aH ?_))))
 refine dv (l := t'.out) (x := ofString "") (D := i.O) (.t4 (.t4 (.skip mT))) (cZ (hS'.join (by apply aD; apply aF; with_reducible assumption; exact ae _; decide))) fun ta => ?_
 rw [show Txt.join (ofString "") (t'.out.map (·.1)) = due from hS'.outE]
 with_reducible refine aG (.there .here) .here (oA ?_)
 rw [show (due != due) = false from by simp]
 with_reducible refine aP (dh (jQ (dh (aL (aJ ?_))))); refine aL ?_
 exact Go.sub (ak _ _) (h t' T2' hT2' hS')
end
noncomputable def pvV (k : Tok) : Nat → Value
 | 0 => .int 9 k
 | 1 => .bytes #[118] k
 | 2 => .int (-1) k
 | _ => .bytes #[60] k
noncomputable def pvR : Nat → Str
 | 0 => ofString (toString (9 : Int))
 | 1 => ofString "b'v'"
 | 2 => ofString (toString (-1 : Int))
 | _ => ofString "b'<'"
noncomputable def pvT : Nat → String
 | 0 => "int"
 | 1 => "bytes"
 | 2 => "int"
 | _ => "bytes"
noncomputable def pw4 : List Str := [ofString "9 (type int)", ofString "b'v' (type bytes)", ofString "-1 (type int)", ofString "b'<' (type bytes)"]
theorem om : ∀ n, n < 4 → ofString "cannot serialize " ++ pw4.getD n (ofString "") = bN (pvR n) (ofString (pvT n)) := by decide +kernel
theorem pv_bad {P : Params} {k : Tok} : ∀ n, iq P (pvV k n) (pvR n) (pvT n)
 | 0 => fq
 | 1 => fP
 | 2 => fq
 | _ + 3 => show iq P (.bytes #[60] k) (ofString "b'<'") "bytes" from fP
theorem pv_true {k : Tok} : ∀ n, iX (pvV k n)
 | 0 => fy (by decide)
 | 1 => fU (by decide) (by decide)
 | 2 => fy (by decide)
 | _ + 3 => fU (by decide) (by decide)
theorem thN_lt (q : Int) : dL q < 4 := by
 have := fm0 q (b := 4) (by decide)
 unfold dL; (lia)
section
variable {L OP sc : Addr} {due held due' d0 h1 : Str} {dk hk u1 u2 kk : Tok} {kd : Int} {r : List (Str × Value)} {ops : List Op9} {tv qv nv av : Option Value} {T T2 : az} {n k : Nat} {Q : FP}
theorem c9_P {q : Int} {qk : Tok} (B : Base (KF w.params) h0) (LB2 : LamBase h0 pZ dq) (W : kR i) (hroom : A.depth + 6 < recursionLimit) (hu : A.units + 100 < cLine) (hh : A.handled = none) (hA : A.frames = some [aV w.params L])
  (hT2 : TbL dq lawQ T2) (hS : S9 (n + 1) k t d0 h1) (hk6 : k ≤ 670) (hD : due = d0 ++ h1)
  (h : ∀ t' T2', TbL dq lawQ T2' → S9 (n + 1) (k + 1) t' due (ofString "") → Go h0 o0 (lawX (jd9 L OP sc i) due dk held hk r ops tv (some (.int q qk)) nv av (T ++ wr prog w i t' (T2' ++ V))) (Q .next)) :
  Go h0 o0 (lawX (jd9 L OP sc i) due dk held hk r ops tv (some (.int q qk)) nv av (T ++ wr prog w i t (T2 ++ V))) (wpAny (model prog w) A (execs (ds (lw3 w.params)) (aV w.params L)) Q NoE) := by
 have gRef : bA h0 (ofString "_law_refused") (.ref bW) := B.glob (by kernel_rfl!) (by kernel_rfl!)
 have z4 : (ofString "cannot serialize ").length = 17 := by decide +kernel
 have hwl : ∀ n, n < 4 → (pw4.getD n (ofString "")).length ≤ 100 := by decide +kernel
 have hb := fm0 q (b := 4) (by decide)
 have hn4 := thN_lt q
 refine aE (bt ?_)
 with_reducible refine bZ (gr (bc (aW (ch ?_)))); refine dK (aA ?_)
 show Go h0 o0 ([_, _, _, _, _, _, _] ++ (T ++ wr prog w i t (T2 ++ V))) _
 refine Go.lIn ?_
 refine fL (X := [_, _, _, _, _, _, _]) (clos := [(ofString "writer", L + 1 + 1 + 1 + 1 + 1), (ofString "q", L + 1 + 1 + 1)]) (qual := lawQ) LB2 hT2 fun f c' T2' hT2' hc' => ?_
 refine Go.lOut (X := [_, _, _, _, _, _, _, _]) ?_
 with_reducible refine aH (ck ?_)
 refine k9_pi (due' := due) (vf := fun u => pvV u (dL q)) (rr := pvR (dL q)) (Tn := pvT (dL q)) (nms := [ofString "q", ofString "writer"]) B W hroom hu hh hA (fun _ => ⟨_, by with_unfolding_all rfl⟩) hc' (fun _ => by kernel_rfl!) (by kernel_rfl!) (fun _ => by with_unfolding_all rfl) (fun _ => by with_unfolding_all rfl) (fun Ll A' cs Q' E' hq hQ => ?_) (fun u => pv_bad _) (fun u => pv_true _) hS (by apply aD; with_reducible assumption; decide) (fun u => by rw [hD]; exact hS.mid W.st) fun t' a j1 j2 hS' => ?_
 ·with_reducible refine bE (bq (aA (aO fun _ => aA (pM ?_)))); intro _; refine aA (d4 (aO fun _ => dT fun _ => aA (pM ?_))); intro _; refine aH (bn fun _ => aY ?_); refine gT (.there (by with_reducible assumption)) (by kernel_rfl!) (by kernel_rfl!) (by kernel_rfl!) ?_; refine aO ?_; intro _; refine dn (by decide) ?_; intro _
  refine ji (vs := [_, _, _, _]) .here hb.1 hb.2 (Nat.le_of_ble_eq_true rfl) ?_
  refine Go.sub (ak _ _) ?_
  rw [show (q.fmod 4).toNat = dL q from rfl]
  generalize dL q = m at hQ hn4
  rcases m with _ | _ | _ | _ | m
  ·exact hQ _
  ·exact hQ _
  ·exact hQ _
  ·exact hQ _
  ·exact absurd hn4 (by lia)
 with_reducible refine bq (aA (aI fun _ _ => aA (aY (aI ?_)))); intro _ _; refine bE (bq (aA (aI fun _ _ => aA (aI ?_)))); intro _ _; refine aA (aI fun _ _ => aA (aI fun _ _ => aH (bn ?_))); intro _; refine aY (bF (c := L + 1 + 1 + 1) (.t4 (.there (.there .here))) (aO ?_)); intro _; refine dn (by decide) ?_; intro _
 refine jh (ls := pw4) (d := ofString "") .here (ps := [(_, _), (_, _), (_, _), (_, _)]) rfl rfl hb.1 hb.2 (Nat.le_of_ble_eq_true rfl) fun t4 => ?_
 refine Go.sub (ak _ _) ?_
 rw [show (q.fmod 4).toNat = dL q from rfl]
 with_reducible refine bu (by have := hwl _ hn4; rw [z4, af]; (apply aD; apply aF; exact ae _; with_reducible assumption; decide)) fun t5 => ?_
 rw [om _ hn4]
 with_reducible refine aH (bn ?_); intro _
 refine oB (xs := [(ofString "TypeError", j1), (bN (pvR (dL q)) (ofString (pvT (dL q))), j2)]) (ys := [(ofString "TypeError", _), (bN (pvR (dL q)) (ofString (pvT (dL q))), t5)]) (.there .here) .here rfl rfl rfl (by exact aX 100 (by with_reducible assumption)) ?_
 refine Go.sub ((ak _ _).trans (ak _ _)) ?_
 with_reducible refine aP (dh (gr (bc (bi (aI ?_))))); intro _ _; refine dZ (cT (aA (aG .here (.n (.n .here)) (aH ?_))))
 refine dv (l := t'.out) (x := ofString "") (D := i.O) (.t4 (.t2 (.there (.skip mT)))) (cZ (hS'.join (by apply aD; apply aF; with_reducible assumption; exact ae _; decide))) fun ta => ?_
 rw [show Txt.join (ofString "") (t'.out.map (·.1)) = due from hS'.outE]
 with_reducible refine aG .here .here (oA ?_)
 rw [show (due != due) = false from by simp]
 with_reducible refine aP (dh (jQ (dh (aL (aJ ?_))))); refine aL ?_
 exact h t' T2' hT2' hS'
end
theorem Go.push1 {T T2 X : az} {p : Addr × bM} {P : GP} (h : Go h0 o0 (X ++ (T ++ wr prog w i t (T2 ++ (p :: V)))) P) : Go h0 o0 (p :: (X ++ (T ++ wr prog w i t (T2 ++ V)))) P := by
 refine Go.perm ?_ h
 rw [ci (V := T2 ++ V), ci (V := T2 ++ (p :: V))]
 simp only [← an]
 exact List.perm_middle.symm
section
variable {L OP sc : Addr} {due held due' d0 h1 : Str} {dk hk u1 u2 kk : Tok} {kd : Int} {r : List (Str × Value)} {ops : List Op9} {tv qv nv av : Option Value} {T T2 : az} {n k : Nat} {Q : FP}
theorem c9_D {q : Int} {qk : Tok} (B : Base (KF w.params) h0) (hroom : A.depth + 6 < recursionLimit) (hS : S9 n k t due held) (hk6 : k ≤ 670)
  (h : ∀ t' d hk', S9 n (k + 1) t' due (held ++ ta9 d) → Go h0 o0 (lawX (jd9 L OP sc i) due dk (held ++ ta9 d) hk' r ops tv (some (.int q qk)) nv av (T ++ wr prog w i t' (T2 ++ V))) (Q .next)) :
  Go h0 o0 (lawX (jd9 L OP sc i) due dk held hk r ops tv (some (.int q qk)) nv av (T ++ wr prog w i t (T2 ++ V))) (wpAny (model prog w) A (execs (ifE (jC w.params)) (aV w.params L)) Q NoE) := by
 have bStr : bD h0 (ofString "str") (.type "str") := B.bltAt (by kernel_rfl!) (by kernel_rfl!) (by decide +kernel) (by decide +kernel)
 have c1 : (ofString "t&").length = 2 := by decide +kernel
 have c2 : (ofString "t&amp;").length = 6 := by decide +kernel
 have hb := fm0 q (b := 10) (by decide)
 obtain ⟨m, hm⟩ : ∃ m : Nat, q.fmod 10 = m := ⟨(q.fmod 10).toNat, by (lia)⟩
 have hm10 : m < 10 := by (lia)
 have hml := (oK (n := m) (by lia)).2
 refine aE ?_
 with_reducible refine bf (bi (bF (.there (.there .here)) ?_)); refine g_mdata (by assumption) (.t4 (.t2 (.there (.skip a9)))) (.t4 (.t2 (.there (.skip aS)))) ?_; refine fO (aA (aY (aI fun _ _ => aW (bG ?_)))); refine ju (aA (aY (bF (c := L + 1 + 1 + 1) (.t2 (.there (.there .here))) (aO ?_)))); intro _; refine dn (by decide) ?_; intro _; refine aH ?_
 rw [hm]
 with_reducible refine k_str (N := 20) (by split <;> (lia)) (by decide) fun ks => ?_; refine bu (by rw [c1, af]; (apply aD; apply aF; exact ae _; with_reducible assumption; decide)) fun k2 => ?_; refine aH (ck (bv ?_))
 show Go h0 o0 ([_, _, _, _, _, _, _] ++ (T ++ wr prog w i t (T2 ++ V))) _
 refine Go.sIn (l9_data (d := m) B (by exact aX 6 (by with_reducible assumption)) hS (by apply aD; with_reducible assumption; decide) rfl hm10 fun t' hS' => Go.sOut ?_)
 show Go h0 o0 (lawX (jd9 L OP sc i) due dk held hk r ops tv (some (.int q qk)) nv av (T ++ wr prog w i t' (T2 ++ V))) _
 with_reducible refine aJ (aE (gx (oS .here (.n .here) (aY (aI ?_))))); intro _ _; refine aW (bG (ju (aA (aY (bF (c := L + 1 + 1 + 1) (.t2 (.there (.there .here))) ?_))))); refine aO ?_; intro _; refine dn (by decide) ?_; intro _; refine aH ?_
 rw [hm]
 with_reducible refine k_str (N := 20) (by split <;> (lia)) (by decide) fun ks => ?_; refine bu (by rw [c2, af]; (apply aD; apply aF; exact ae _; with_reducible assumption; decide)) fun k3 => ?_
 have hbz := hS'.bz
 have ea : ofString "t&amp;" ++ ofString (toString (m : Int)) = ta9 m := rfl
 rw [ea]
 rw [ah] at hbz
 with_reducible refine eX (by rw [af]; (lia)) fun k4 => ?_; refine aR .here (.n .here) (aJ (aL ?_))
 exact h t' m k4 hS'
theorem c9_S {q : Int} {qk : Tok} (B : Base (KF w.params) h0) (LB : LamBase h0 cU be) (W : kR i) (hroom : A.depth + 6 < recursionLimit) (hu : A.units + 1200 < cLine) (hh : A.handled = none) (hA : A.frames = some [aV w.params L])
  (hT : Tb be lamPos lamQ T) (hS : S9 (n + 1) k t d0 h1) (hk6 : k ≤ 670) (hD : due = d0 ++ h1) (hl : ops.length = n + 1)
  (h : ∀ o T' t' G dk', o.p ∈ na → Has G o.a (ay [.str o.p.1 o.k1, .str o.p.2 o.k2]) → Tb be lamPos lamQ T' → S9 (n + 2) (k + 2) t' (due ++ (ofString "<" ++ o.p.2 ++ ofString ">")) (ofString "") → Go h0 o0 (lawX (jd9 L OP sc i) (due ++ (ofString "<" ++ o.p.2 ++ ofString ">")) dk' held hk r (ops ++ [o]) tv (some (.int q qk)) nv av (T' ++ wr prog w i t' (T2 ++ (G ++ V)))) (Q .next)) :
  Go h0 o0 (lawX (jd9 L OP sc i) due dk held hk r ops tv (some (.int q qk)) nv av (T ++ wr prog w i t (T2 ++ V))) (wpAny (model prog w) A (execs (ds (lw0 w.params)) (aV w.params L)) Q NoE) := by
 have z1 : (ofString "<").length = 1 := by decide +kernel
 have z2 : (ofString ">").length = 1 := by decide +kernel
 have hb := fm0 q (b := 2) (by decide)
 have hnz := hS.nz
 refine aE ?_
 refine bH (fun f C => f = .next ∧ ∃ o : Op9, ∃ G, o.p ∈ na ∧ Has G o.a (ay [.str o.p.1 o.k1, .str o.p.2 o.k2]) ∧ C = lawX (jd9 L OP sc i) due dk held hk r (ops ++ [o]) tv (some (.int q qk)) nv av (T ++ wr prog w i t (T2 ++ (G ++ V)))) ?_ ?_
 ·with_reducible refine bf (bi (aG .here (.n (.n (.n .here))) (dE (.there .here) (cT (aA ?_))))); refine bE (bq (aA (bq (aA (aI ?_))))); intro _ _; refine aA (aI fun _ _ => aH (bn fun _ => aA (bq ?_))); refine aA (aI fun _ _ => aA (aI fun _ _ => aH (bn ?_))); intro _; refine aH (bn fun _ => aY (bF (c := L + 1 + 1 + 1) (.t4 (.t2 (.there .here))) (aO ?_))); intro _; refine dn (by decide) ?_; intro _
  refine ji (vs := [_, _]) .here hb.1 hb.2 (Nat.le_of_ble_eq_true rfl) ?_
  refine Go.sub (ak _ _) ?_
  with_reducible refine aH ?_
  rename_i k1 _ k2 _ a1 k3 _ k4 _ a2 _ _ _
  obtain ⟨m, hm⟩ : ∃ m : Nat, m = (q.fmod 2).toNat := ⟨_, rfl⟩
  have hm2 : m < 2 := by (lia)
  rw [← hm]
  rcases m with _ | _ | m
  ·refine Go.sub (ak _ _) ?_
   refine du (xs := ops.map Op9.ref) (ys := (ops ++ [Op9.mk a1 (ofString "b", ofString "b") k1 k2]).map Op9.ref) (.there (.there .here)) (by rw [ai]; rfl) (by rw [ag, hl, af]; (lia)) ?_
   skip
   refine Go.push1 (X := [_, _, _, _, _, _, _]) ?_
   exact jp ⟨rfl, ⟨a1, (ofString "b", ofString "b"), k1, k2⟩, [_], show (ofString "b", ofString "b") ∈ na from by decide +kernel, .here, rfl⟩
  ·refine Go.sub (List.Sublist.cons_cons _ (ak _ _)) ?_
   refine du (xs := ops.map Op9.ref) (ys := (ops ++ [Op9.mk a2 (ofString "{urn:a}c", ofString "p:c") k3 k4]).map Op9.ref) (.there (.there .here)) (by rw [ai]; rfl) (by rw [ag, hl, af]; (lia)) ?_
   skip
   refine Go.push1 (X := [_, _, _, _, _, _, _]) ?_
   exact jp ⟨rfl, ⟨a2, (ofString "{urn:a}c", ofString "p:c"), k3, k4⟩, [_], show (ofString "{urn:a}c", ofString "p:c") ∈ na from by decide +kernel, .here, rfl⟩
  ·exact absurd hm2 (by lia)
 rintro f C ⟨rfl, o, G, hp, hG, rfl⟩
 obtain ⟨o1, o2, o3, o4, _⟩ := fC o.p hp
 have hlast : (ops ++ [o]).map Op9.ref = ops.map Op9.ref ++ [.ref o.a] := by rw [ai]; rfl
 with_reducible refine aJ (aE (bf (bi (bF (.there (.there .here)) (gM (.t4 (.t2 (.there (.skip a9)))) (.t4 (.t2 (.there (.skip aS)))) ?_))))); refine fO (aA (bE (bE (aG .here (.n (.n (.n .here))) (d4 ?_))))); refine aO fun _ => dT ?_; intro _
 have hGo : ∀ T t, Has (lawX (jd9 L OP sc i) due dk held hk r (ops ++ [o]) tv (some (.int q qk)) nv av (T ++ wr prog w i t (T2 ++ (G ++ V)))) o.a (ay [.str o.p.1 o.k1, .str o.p.2 o.k2]) := fun T t => .t4 (.t2 (.there (.skip (bR (.skip hG.app)))))
 refine dU (ys := ops.map Op9.ref) (v := .ref o.a) (.there .here) hlast ?_
 with_reducible refine aO ?_; intro _
 refine df (v := .str o.p.1 o.k1) (.new (hGo _ _)) (by decide) (by decide) rfl (by with_unfolding_all rfl) ?_
 with_reducible refine aA (jr fun _ => aH (ck ?_))
 rename_i d
 refine bv ?_
 show Go h0 o0 ([_, _, _, _, _, _, _, _] ++ (T ++ wr prog w i t (T2 ++ (G ++ V)))) _
 refine Go.tIn (l9_sta (p := o.p) B LB hh (by exact aX 1 (by with_reducible assumption)) (by exact aX 100 (by with_reducible assumption)) hA (FrOk.cons (by kernel_rfl!) rfl (.there .here) FrOk.nil) W.rw W.st W.et W.ea hT hS (by apply aD; with_reducible assumption; decide) hp .here fun T' t' hT' hS' => Go.tOut ?_)
 refine Go.sub (ak _ _) ?_
 show Go h0 o0 (lawX (jd9 L OP sc i) due dk held hk r (ops ++ [o]) tv (some (.int q qk)) nv av (T' ++ wr prog w i t' (T2 ++ (G ++ V)))) _
 rw [← hD] at hS'
 with_reducible refine aJ (aE (gx (oS .here .here (aY (aY ?_))))); refine aI fun _ _ => bE (bE (aG .here (.n (.n (.n .here))) (d4 (aO ?_)))); intro _; refine dT ?_; intro _
 refine dU (ys := ops.map Op9.ref) (v := .ref o.a) (.there .here) hlast ?_
 with_reducible refine aO ?_; intro _
 refine df (v := .str o.p.2 o.k2) (.new (hGo _ _)) (by decide) (by decide) rfl (by with_unfolding_all rfl) ?_
 with_reducible refine bu (by rw [z1, af]; (apply aD; apply aF; exact ae _; with_reducible assumption; decide)) fun k3 => ?_; refine aI ?_; intro _ _; refine bu (by rw [ah, z1, z2, af]; (apply aD; apply aF; apply aF; exact ae _; with_reducible assumption; exact ae _; decide)) fun k4 => ?_
 have hbz := hS'.bz
 rw [ah] at hbz
 with_reducible refine eX (by rw [af]; (lia)) fun k5 => ?_; refine aR .here .here (aJ (aL ?_))
 exact h o T' t' G k5 hp hG hT' hS'
end
section
variable {L OP sc : Addr} {due held due' d0 h1 : Str} {dk hk u1 u2 kk : Tok} {kd : Int} {r : List (Str × Value)} {ops : List Op9} {tv qv nv av : Option Value} {T T2 : az} {n k : Nat} {Q : FP}
theorem c9_E {o : Op9} (B : Base (KF w.params) h0) (W : kR i) (hroom : A.depth + 6 < recursionLimit) (hh : A.handled = none)
  (hS : S9 (n + 1) k t d0 h1) (hk6 : k ≤ 670) (hD : due = d0 ++ h1) (hl : ops.length ≤ 1000) (hp : o.p ∈ na) (hG : Has V o.a (ay [.str o.p.1 o.k1, .str o.p.2 o.k2]))
  (h : ∀ t' dk', S9 n (k + 2) t' (due ++ (ofString "</" ++ o.p.2 ++ ofString ">")) (ofString "") → Go h0 o0 (lawX (jd9 L OP sc i) (due ++ (ofString "</" ++ o.p.2 ++ ofString ">")) dk' held hk r ops tv qv nv av (T ++ wr prog w i t' (T2 ++ V))) (Q .next)) :
  Go h0 o0 (lawX (jd9 L OP sc i) due dk held hk r (ops ++ [o]) tv qv nv av (T ++ wr prog w i t (T2 ++ V))) (wpAny (model prog w) A (execs (ds (lw1 w.params)) (aV w.params L)) Q NoE) := by
 have z1 : (ofString "</").length = 2 := by decide +kernel
 have z2 : (ofString ">").length = 1 := by decide +kernel
 have hnz := hS.nz
 obtain ⟨o1, o2, o3, o4, _⟩ := fC o.p hp
 have hlast : (ops ++ [o]).map Op9.ref = ops.map Op9.ref ++ [.ref o.a] := by rw [ai]; rfl
 have hGo : ∀ op T t, Has (lawX (jd9 L OP sc i) due dk held hk r op tv qv nv av (T ++ wr prog w i t (T2 ++ V))) o.a (ay [.str o.p.1 o.k1, .str o.p.2 o.k2]) := fun op T t => .t4 (.t2 (.there (.skip (bR (.skip hG)))))
 refine aE ?_
 with_reducible refine bf (bi (bF (.there (.there .here)) ?_)); refine pE (by assumption) (.t4 (.t2 (.there (.skip a9)))) (.t4 (.t2 (.there (.skip aS)))) ?_; refine fO (aA (bE (bE (aG .here (.n (.n (.n .here))) (d4 ?_))))); refine aO fun _ => dT ?_; intro _
 refine dU (ys := ops.map Op9.ref) (v := .ref o.a) (.there .here) hlast ?_
 with_reducible refine aO ?_; intro _
 refine df (v := .str o.p.1 o.k1) (.new (hGo _ _ _)) (by decide) (by decide) rfl (by with_unfolding_all rfl) ?_
 with_reducible refine aH (ck ?_)
 refine bv ?_
 show Go h0 o0 ([_, _, _, _, _, _, _] ++ (T ++ wr prog w i t (T2 ++ V))) _
 refine Go.sIn (oU (p := o.p) B hh (by exact aX 2 (by with_reducible assumption)) W.rw W.st hS (by apply aD; with_reducible assumption; decide) hp fun t' hS' => Go.sOut ?_)
 show Go h0 o0 (lawX (jd9 L OP sc i) due dk held hk r (ops ++ [o]) tv qv nv av (T ++ wr prog w i t' (T2 ++ V))) _
 rw [← hD] at hS'
 with_reducible refine aJ (aE (gx (oS .here .here (aY (aY ?_))))); refine aI fun _ _ => bE (bi (aG .here (.n (.n (.n .here))) (kC (.there .here) (fn ?_)))); refine kA (xs := (ops ++ [o]).map Op9.ref) (ys := ops.map Op9.ref) (y := .ref o.a) hlast (.there .here) (by rw [ag, ao, af]; simp; (apply aD; with_reducible assumption; decide)) ?_; refine aO ?_; intro _
 refine df (v := .str o.p.2 o.k2) (.new (hGo _ _ _)) (by decide) (by decide) rfl (by with_unfolding_all rfl) ?_
 with_reducible refine bu (by rw [z1, af]; (apply aD; apply aF; exact ae _; with_reducible assumption; decide)) fun k3 => ?_; refine aI ?_; intro _ _; refine bu (by rw [ah, z1, z2, af]; (apply aD; apply aF; apply aF; exact ae _; with_reducible assumption; exact ae _; decide)) fun k4 => ?_
 have hbz := hS'.bz
 rw [ah] at hbz
 with_reducible refine eX (by rw [af]; (lia)) fun k5 => ?_; refine aR .here .here (aJ (aL ?_))
 exact h t' k5 hS'
end
noncomputable def h8 (l : List Str) (b : Nat → Bool) (m : Nat) : List Str := ((List.range m).filter b).map fun i => l.getD i (ofString "")
theorem bS (l : List Str) (b : Nat → Bool) (m : Nat) : h8 l b (m + 1) = if b m = true then h8 l b m ++ [l.getD m (ofString "")] else h8 l b m := by
 unfold h8
 rw [List.range_succ, List.filter_append, ai]
 cases e : b m <;> simp [e]
noncomputable def kM (q : Int) (m : Nat) : Bool := ((q.fdiv 8).fdiv (2 ^ m)).fmod 2 == 1
theorem sel_unk (b : Nat → Bool) : h8 [uz, ux, uy] b 3 ∈ unkL := by
 have z : h8 [uz, ux, uy] b 0 = [] := rfl
 rw [bS _ b 2, bS _ b 1, bS _ b 0, z]
 generalize b 0 = b0
 generalize b 1 = b1
 generalize b 2 = b2
 revert b0 b1 b2
 decide +kernel
noncomputable def kuA : Str := ofString "urn:a"
theorem gp : (unkL.all fun unk => decide (kt unk).Nodup && ((unk.drop 1 ++ [kuA]).all fun x => decide (x.length ≤ 10)) && decide ((unk.headD uw).length ≤ 10) && decide ((fD unk).length ≤ 10) && decide (unk.length ≤ 3)) = true := by decide +kernel
theorem ml : ∀ m, m < 3 → ((2 : Int) ^ m) ≠ 0 ∧ ((2 : Int) ^ m).natAbs < 1073741824 := by decide
theorem fv (l m : List (Str × Tok)) : tv (l ++ m) = tv l ++ tv m := ai
theorem nU {l : List (Str × Tok)} {m : Nat} {v : Value} (h : (tv l)[m]? = some v) : ∃ p, l[m]? = some p ∧ v = .str p.1 p.2 := by
 unfold tv at h
 rw [List.getElem?_map] at h
 cases hp : l[m]? with
 | none => rw [hp] at h; cases h
 | some p => rw [hp] at h; exact ⟨p, rfl, (Option.some.inj h).symm⟩
theorem i6 (l : List (Str × Tok)) (n : Nat) : tv (l.drop n) = (tv l).drop n := List.map_drop
theorem Go.txts1 {a : Addr} {C : az} {P : GP} {vs : List Value} {ps : List (Str × Tok)} {ls : List Str} (e : vs = tv ps) (e2 : ps.map (·.1) = ls) (h : ∀ ps : List (Str × Tok), ps.map (·.1) = ls → Go h0 o0 ((a, ay (tv ps)) :: C) P) : Go h0 o0 ((a, ay vs) :: C) P := by
 subst e
 exact h ps e2
theorem iw {α β : Type} {l : List α} {g : α → β} {m : Nat} {x : α} (nd : (l.map g).Nodup) (h : l[m]? = some x) : l.take (m + 1) = l.take m ++ [x] ∧ g x ∉ (l.take m).map g := by
 have e : l.take (m + 1) = l.take m ++ [x] := by rw [List.take_add_one, h]; rfl
 refine ⟨e, fun q => ?_⟩
 have n2 : ((l.take (m + 1)).map g).Nodup := nd.sublist ((List.take_sublist _ _).map g)
 rw [e, ai] at n2
 exact (List.nodup_append.mp n2).2.2 _ q _ (by simp) rfl
theorem nsM_eq (u : Str) : kP u = ofString "Namespace \"" ++ u ++ ofString "\" is not declared in scope" := by
 unfold kP
 rw [mo]
theorem dP {M : Model} {st : Stmt} {rest rest' : List Stmt} {Q : FP} (k : ∀ QK : Flow → Shared → Prop, (∀ {cs' : az}, Go h0 o0 cs' (wpAny M A (execs rest' env) Q E) → Go h0 o0 cs' (QK .next)) → Go h0 o0 cs (wpAny M A (exec st env) QK E)) (hr : rest = rest' := by kernel_rfl!) : Go h0 o0 cs (wpAny M A (execs (st :: rest) env) Q E) :=
 aE (k _ fun h => by subst hr; exact aJ h)
section
variable {L : Addr} {q : Int} {qk : Tok} {m : List (Str × Value)} {nv av : Option Value} {Z : az} {Q : FP}
@[reducible] noncomputable def vX (L : Addr) (m : List (Str × Value)) (q : Int) (qk : Tok) (av nv : Option Value) (Z : az) : az := (L, cNs m) :: (L + 1 + 1 + 1, aN (some (.int q qk))) :: (L + 1, aN av) :: (L + 1 + 1, aN nv) :: Z
theorem c9_Va {m' : Value → List (Str × Value)} (B : Base (KF w.params) h0) (hh : A.handled = none) (hset : ∀ v, SetN m (ofString "unknown") v (m' v))
  (h : ∀ D (ps : List (Str × Tok)), ps.map (·.1) ∈ unkL → Go h0 o0 ((D, ay (tv ps)) :: vX L (m' (.ref D)) q qk av nv Z) (wpAny (model prog w) A (execs ((ds (kg w.params)).drop 1) (aV w.params L)) Q NoE)) :
  Go h0 o0 (vX L m q qk av nv Z) (wpAny (model prog w) A (execs (ds (kg w.params)) (aV w.params L)) Q NoE) := by
 have bRange : bD h0 (ofString "range") (.type "range") := B.bltAt (by kernel_rfl!) (by kernel_rfl!) (by decide +kernel) (by decide +kernel)
 refine dP (rest' := (ds (kg w.params)).drop 1) fun QK hK => ?_
 refine og (cl := [(ofString "q", L + 1 + 1 + 1)]) (by decide) rfl (by decide) ?_ (fun _ => by with_unfolding_all rfl)
 with_reducible refine aW (bG (ju (aA (aO fun _ => aH ?_)))); refine pd fun rg => ?_
 refine Go.name fun C0 hC0 => ?_
 have hq : Has C0 (L + 1 + 1 + 1) (aN (some (.int q qk))) := by rw [hC0]; exact .there (.there .here)
 refine lnR (n := 3) (fun m ys C => ∃ ps : List (Str × Tok), ys = tv ps ∧ ps.map (·.1) = h8 [uz, ux, uy] (kM q) m ∧ C = C0) hh (by rw [hC0]; exact .here) (by decide) (by decide) (by decide) ⟨[], rfl, rfl, rfl⟩ ?_ ?_
 ·rintro L2 m um ys C K' hm ⟨ps, rfl, e1, rfl⟩
  clear hC0
  refine nn ?_
  with_reducible refine aR .here .new ?_
  refine mA ?_
  with_reducible refine bc (aY (aY (aY (bF (.there hq.app) (aO ?_))))); intro _; refine eK (by decide) (by decide) ?_; intro _; refine aY (aO fun _ => aG .here .here ?_); refine o_pow (by lia) (by lia) (by decide) fun tp => ?_
  rw [Int.toNat_natCast]
  have hp := ml m hm
  with_reducible refine eK hp.1 hp.2 fun tq => ?_; refine aO ?_; intro _; refine dn (by decide) ?_; intro _; refine aO fun _ => cP (aP ?_)
  refine cA (fun hb1 => ?_) fun hb1 => ?_
  ·have hb1 : kM q m = true := hb1
   with_reducible refine bE (bq (aA (aI fun _ _ => aA (aI ?_)))); intro _ _; refine aA (aI fun _ _ => aH (bn fun _ => aG (.there .here) .here ?_))
   refine jh (ls := [uz, ux, uy]) (d := ofString "") .here (ps := [(_, _), (_, _), (_, _)]) rfl rfl (by lia) (by show (m : Int) < 3; (lia)) (by decide) fun kk => ?_
   rw [Int.toNat_natCast]
   refine Go.sub (ak _ _) ?_
   exact ce0 (C' := C) ⟨ps ++ [([uz, ux, uy].getD m (ofString ""), kk)], by rw [fv]; rfl, by rw [ai, e1, bS, if_pos hb1]; rfl, rfl⟩ rfl
  ·have hb1 : kM q m = false := hb1
   exact sl (C' := C) ⟨ps, rfl, by rw [e1, bS, hb1]; rfl, rfl⟩ rfl
 rintro L2 D ys C ⟨ps, rfl, e1, rfl⟩
 rw [hC0]
 clear hC0 hq C
 have hun := sel_unk (kM q)
 rw [← e1] at hun
 simp only [List.cons_append]
 with_reducible refine aR (.there (.there .here)) (hset _) ?_
 refine nk (cs' := (D, ay (tv ps)) :: vX L (m' (.ref D)) q qk av nv (Z ++ [])) (.pick (.t4 (.t2 (.skip .here))) (.pick .here (.pick (.there .here) (.pick (.there .here) (.pick (.there .here) (.pick (.there .here) (.tail (.there .refl)))))))) ?_
 rw [List.append_nil]
 with_reducible refine hK ?_
 exact h D ps hun
theorem c9_Vb {D : Addr} {ps : List (Str × Tok)} (hh : A.handled = none) (hlk : Look m (ofString "unknown") (.ref D)) (hun : ps.map (·.1) ∈ unkL)
  (h : ∀ a (dd : List (Str × Value)), dd.map (·.1) = kt (ps.map (·.1)) → Go h0 o0 ((a, aM prog w dd) :: (D, ay (tv ps)) :: vX L m q qk (some (.ref a)) nv Z) (wpAny (model prog w) A (execs ((ds (kg w.params)).drop 2) (aV w.params L)) Q NoE)) :
  Go h0 o0 ((D, ay (tv ps)) :: vX L m q qk av nv Z) (wpAny (model prog w) A (execs ((ds (kg w.params)).drop 1) (aV w.params L)) Q NoE) := by
 have hc := List.all_eq_true.mp gp _ hun
 simp only [Bool.and_eq_true, decide_eq_true_eq] at hc
 obtain ⟨⟨⟨⟨c1, c2⟩, c3⟩, c4⟩, c5⟩ := hc
 clear c3 c4
 have hpl : ps.length ≤ 3 := by rwa [ag] at c5
 refine dP (rest' := (ds (kg w.params)).drop 2) fun QK hK => ?_
 refine bK ?_
 refine e_dc (cl := []) (by kernel_rfl!) (by decide) rfl (by decide) ?_ (fun _ => by with_unfolding_all rfl)
 with_reducible refine aY ?_
 refine e_frL ?_
 with_reducible refine aG (.there .here) hlk ?_
 refine uq ?_
 with_reducible refine aO ?_; intro _
 refine ufl (n := 1) rfl ?_
 refine cp (.new .here) (by unfold tv; rw [ag, af]; (apply aD; with_reducible assumption; decide)) fun a2 => ?_
 with_reducible refine bq (aA (aI fun _ _ => aH (bn ?_))); intro _; refine gF (.there .here) .here (by rw [← i6]; unfold tv; rw [ag, List.length_drop, List.length_singleton, af]; (lia)) fun a3 => ?_
 refine Go.txts1 (ps := ps.drop 1 ++ [(_, _)]) (ls := (ps.map (·.1)).drop 1 ++ [kuA]) (by rw [fv, i6]; rfl) (by rw [ai, List.map_drop]; rfl) fun ps2 hp2 => ?_
 have hl2 : ps2.length ≤ 4 := by have := congrArg List.length hp2; rw [ag, ao, List.length_drop, ag] at this; rw [List.length_singleton] at this; (lia)
 rw [← hp2] at c2
 have c1 : ((ps2.map (·.1)).map brk).Nodup := by rw [hp2]; exact c1
 refine Go.name fun C0 hC0 => ?_
 refine dcL (fun m ys C => ys.map (·.1) = ((ps2.map (·.1)).take m).map brk ∧ C = C0) hh (fun _ _ C hC => by rw [hC.2, hC0]; exact .here) (by unfold tv; rw [ag]; (apply aD; with_reducible assumption; decide)) ⟨rfl, rfl⟩ ?_ ?_
 ·rintro L2 m v ys C K' hv ⟨e2, rfl⟩
  clear hC0 h hlk hK
  obtain ⟨p, hp, rfl⟩ := nU hv
  have hx : (ps2.map (·.1))[m]? = some p.1 := by rw [List.getElem?_map, hp]; rfl
  obtain ⟨n1, n2⟩ := iw c1 hx
  have hpz : p.1.length ≤ 10 := by simpa using List.all_eq_true.mp c2 p.1 (List.mem_of_getElem? hx)
  have z1 : (ofString "{").length = 1 := by decide +kernel
  have z2 : (ofString "}k").length = 2 := by decide +kernel
  refine nn ?_
  with_reducible refine aR .here .new ?_
  refine gS (fF ?_)
  with_reducible refine aY (aY (aI fun _ _ => aG .here .here ?_)); refine bu (by rw [z1, af]; (apply aD; apply aF; exact ae _; with_reducible assumption; decide)) fun t3 => ?_; refine aI ?_; intro _ _; refine bu (by rw [ah, z1, z2, af]; (apply aD; apply aF; apply aF; exact ae _; with_reducible assumption; exact ae _; decide)) fun t4 => ?_; refine aI ?_; intro _ _
  refine cv0 (C' := C) ⟨?_, rfl⟩ rfl
  show (stored ys (brk p.1) _).map (·.1) = _
  rw [cN (by rw [e2]; exact n2), ai, e2, n1, ai]; rfl
 rintro D2 ys C ⟨e2, rfl⟩
 rw [hC0]
 clear hC0 C
 rw [show (tv ps2).length = (ps2.map (·.1)).length from by unfold tv; rw [ag, ag], List.take_length, hp2] at e2
 with_reducible refine fj (c := L + 1) (.t4 (.t2 (.there .here))) ?_
 refine Go.sub (List.Sublist.cons_cons _ (.cons _ (.cons _ (.cons _ (List.Sublist.refl _))))) ?_
 with_reducible refine hK ?_
 exact h D2 ys e2
theorem c9_Vc {D : Addr} {p0 : Addr × bM} {ps : List (Str × Tok)} (hu : A.units + 2000 < cLine) (hlk : Look m (ofString "unknown") (.ref D)) (hun : ps.map (·.1) ∈ unkL)
  (h : ∀ k, Go h0 o0 (p0 :: (D, ay (tv ps)) :: vX L m q qk av (some (.str (hH (ps.map (·.1))) k)) Z) (wpAny (model prog w) A (execs ((ds (kg w.params)).drop 3) (aV w.params L)) Q NoE)) :
  Go h0 o0 (p0 :: (D, ay (tv ps)) :: vX L m q qk av nv Z) (wpAny (model prog w) A (execs ((ds (kg w.params)).drop 2) (aV w.params L)) Q NoE) := by
 have hc := List.all_eq_true.mp gp _ hun
 simp only [Bool.and_eq_true, decide_eq_true_eq] at hc
 obtain ⟨⟨⟨⟨c1, c2⟩, c3⟩, c4⟩, c5⟩ := hc
 clear c1 c2 c4 c5 hun
 have z1 : (ofString "{").length = 1 := by decide +kernel
 have z2 : (ofString "}k").length = 2 := by decide +kernel
 refine dP (rest' := (ds (kg w.params)).drop 3) fun QK hK => ?_
 refine bK ?_
 with_reducible refine aY (aY (aI ?_)); intro _ _
 refine Go.name fun C0 hC0 => ?_
 refine bH (fun v C => (∃ u, v = .str ((ps.map (·.1)).headD uw) u) ∧ C = C0) ?_ ?_
 ·rw [hC0]
  clear hC0 C0 h
  refine eF ?_
  with_reducible refine bc (aG (.there (.there .here)) hlk (bq (aH (bn ?_)))); intro _
  refine o_nen (.there (.there .here)) .here (by lia) ?_
  refine Go.sub (ak _ _) ?_
  rw [show (!(tv ps).isEmpty) = !ps.isEmpty from by cases ps <;> rfl]
  with_reducible refine aP ?_
  rcases ps with _ | ⟨p, r0⟩
  ·refine dh ?_
   with_reducible refine aI ?_; intro _ _
   exact jp ⟨⟨_, rfl⟩, rfl⟩
  ·refine fF ?_
   with_reducible refine bE (aG (.there (.there .here)) hlk (aO ?_)); intro _
   refine df (v := .str p.1 p.2) (.new (.there .here)) (by decide) (by decide) rfl (by with_unfolding_all rfl) ?_
   exact jp ⟨⟨_, rfl⟩, rfl⟩
 rintro v C ⟨⟨u3, rfl⟩, rfl⟩
 rw [hC0]
 clear hC0 C
 with_reducible refine bu (by rw [z1, af]; (apply aD; apply aF; exact ae _; with_reducible assumption; decide)) fun t3 => ?_; refine aI ?_; intro _ _; refine bu (by rw [ah, z1, z2, af]; (apply aD; apply aF; apply aF; exact ae _; with_reducible assumption; exact ae _; decide)) fun t4 => ?_; refine fj (c := L + 1 + 1) (.t4 (.there .here)) (hK ?_)
 exact h t4
theorem c9_Vd {D : Addr} {p0 : Addr × bM} {ps : List (Str × Tok)} {m' : Value → List (Str × Value)} (B : Base (KF w.params) h0) (hh : A.handled = none) (hlk : Look m (ofString "unknown") (.ref D)) (hset : ∀ v, SetN m (ofString "words") v (m' v)) (hun : ps.map (·.1) ∈ unkL)
  (h : ∀ W2 k1 k2, Go h0 o0 ((W2, ay [.str (ofString "ValueError") k1, .str (kP (fD (ps.map (·.1)))) k2]) :: p0 :: (D, ay (tv ps)) :: (L, cNs (m' (.ref W2))) :: Z) (wpAny (model prog w) A (execs ((ds (kg w.params)).drop 4) (aV w.params L)) Q NoE)) :
  Go h0 o0 (p0 :: (D, ay (tv ps)) :: (L, cNs m) :: Z) (wpAny (model prog w) A (execs ((ds (kg w.params)).drop 3) (aV w.params L)) Q NoE) := by
 have bLen : bD h0 (ofString "len") (.builtin "len") := B.bltAt (by kernel_rfl!) (by kernel_rfl!) (by decide +kernel) (by decide +kernel)
 have bMin : bD h0 (ofString "min") (.builtin "min") := B.bltAt (by kernel_rfl!) (by kernel_rfl!) (by decide +kernel) (by decide +kernel)
 have hc := List.all_eq_true.mp gp _ hun
 simp only [Bool.and_eq_true, decide_eq_true_eq] at hc
 obtain ⟨⟨⟨⟨c1, c2⟩, c3⟩, c4⟩, c5⟩ := hc
 clear c1 c2 c3 hun
 have hpl : ps.length ≤ 3 := by rwa [ag] at c5
 have z3 : (ofString "Namespace \"").length = 11 := by decide +kernel
 have z4 : (ofString "\" is not declared in scope").length = 26 := by decide +kernel
 refine dP (rest' := (ds (kg w.params)).drop 4) fun QK hK => ?_
 refine bK ?_
 with_reducible refine bq (aA (aI fun _ _ => aA (aY (aY ?_)))); refine aI fun _ _ => aW (bG (gV (aA (aY ?_)))); refine aG (.there (.there .here)) hlk ?_
 skip
 refine e_frL ?_
 with_reducible refine bq (aA (aI fun _ _ => aH (bn ?_))); intro _
 refine uq ?_
 with_reducible refine aW (bG (gV (aA (aG (.t2 (.there .here)) hlk (aH ?_))))); refine iK (.there (.there .here)) (by unfold tv; rw [ag, af]; (apply aD; with_reducible assumption; decide)) fun tn => ?_
 refine ufl rfl ?_
 refine cp (.new .here) (by rw [af]; exact Nat.le_of_ble_eq_true rfl) fun a4 => ?_
 with_reducible refine gF (.t2 (.there .here)) .here (by unfold tv; rw [ag, List.length_drop, List.length_singleton, af]; (lia)) fun a5 => ?_
 refine Go.txts1 (ps := ps ++ [(_, _)].drop ps.length) (ls := ps.map (·.1) ++ [uw].drop (ps.map (·.1)).length) (by rw [fv, i6]; unfold tv; rw [ag]; rfl) (by rw [ai, List.map_drop, ag]; rfl) fun ps3 hp3 => ?_
 with_reducible refine aH ?_
 refine pf hh .here rfl ?_ fun t5 => ?_
 ·intro e
  rw [e] at hp3
  have := congrArg List.length hp3
  rw [ao, List.length_drop] at this
  have e3 : (0 : Nat) = (ps.map (·.1)).length + (1 - (ps.map (·.1)).length) := this
  (lia)
 refine Go.sub (.cons _ (.cons _ (.cons _ (List.Sublist.refl _)))) ?_
 rw [show lp (ps3.map (·.1)) = fD (ps.map (·.1)) from by rw [hp3]; rfl]
 with_reducible refine bu (by rw [z3, af]; (apply aD; apply aF; exact ae _; with_reducible assumption; decide)) fun t6 => ?_; refine aI ?_; intro _ _; refine bu (by rw [ah, z3, z4, af]; (apply aD; apply aF; apply aF; exact ae _; with_reducible assumption; exact ae _; decide)) fun t7 => ?_
 rw [← nsM_eq]
 with_reducible refine aH (bn fun _ => aR (.t2 (.there .here)) (hset _) (hK ?_))
 exact h _ _ _
end
section
variable {L OP sc : Addr} {due held : Str} {dk hk : Tok} {ops : List Op9} {tx nv av : Option Value} {Z : az} {Q : FP}
theorem c9_V1 {q : Int} {qk : Tok} (B : Base (KF w.params) h0) (hh : A.handled = none) (hu : A.units + 2000 < cLine)
  (h : ∀ unk a W2 (dd : List (Str × Value)) k1 k2 k3, unk ∈ unkL → dd.map (·.1) = kt unk → Go h0 o0 ((a, aM prog w dd) :: (W2, ay [.str (ofString "ValueError") k1, .str (kP (fD unk)) k2]) :: lawX (jd9 L OP sc i) due dk held hk [(ofString "words", .ref W2)] ops tx (some (.int q qk)) (some (.str (hH unk) k3)) (some (.ref a)) Z) (wpAny (model prog w) A (execs ((ds (kg w.params)).drop 4) (aV w.params L)) Q NoE)) :
  Go h0 o0 (lawX (jd9 L OP sc i) due dk held hk [] ops tx (some (.int q qk)) nv av Z) (wpAny (model prog w) A (execs (ds (kg w.params)) (aV w.params L)) Q NoE) := by
 refine Go.sel (cs' := vX L (lawF (jd9 L OP sc i) due dk held hk []) q qk av nv ((OP, ay (ops.map Op9.ref)) :: (L + 1 + 1 + 1 + 1 + 1, aN (some (.ref i.x))) :: (L + 1 + 1 + 1 + 1, aN tx) :: Z)) (by with_reducible exact .pick .here (.pick (.t2 (.there .here)) (.pick (.t2 (.there (.there .here))) (.pick (.t2 (.there .here)) (.pick .here (.pick .here (.pick .here (.tail .refl)))))))) ?_
 with_reducible refine c9_Va (m' := fun v => lawF (jd9 L OP sc i) due dk held hk [(ofString "unknown", v)]) B hh (fun v => by with_reducible exact .n4 (.n .new)) fun D ps hun => ?_
 have hlk : Look (lawF (jd9 L OP sc i) due dk held hk [(ofString "unknown", .ref D)]) (ofString "unknown") (.ref D) := by with_reducible exact .n4 (.n .here)
 with_reducible refine c9_Vb hh hlk hun fun a dd hdd => ?_; refine c9_Vc hu hlk hun fun k3 => ?_; refine c9_Vd (m' := fun v => lawF (jd9 L OP sc i) due dk held hk [(ofString "unknown", .ref D), (ofString "words", v)]) B hh hlk (fun v => by with_reducible exact .n4 (.n (.n .new))) hun fun W2 k1 k2 => ?_
 refine Go.thin (a := L) (m' := lawF (jd9 L OP sc i) due dk held hk [(ofString "words", .ref W2)]) (.t2 (.there .here)) (.cons .here (.cons (.n .here) (.cons (.n (.n .here)) (.cons (.n (.n (.n .here))) (.cons (.n (.n (.n (.n .here)))) (.cons (.n4 (.n (.n .here))) .nil)))))) ?_
 refine Go.sel (cs' := (a, aM prog w dd) :: (W2, ay [.str (ofString "ValueError") k1, .str (kP (fD (ps.map (·.1)))) k2]) :: lawX (jd9 L OP sc i) due dk held hk [(ofString "words", .ref W2)] ops tx (some (.int q qk)) (some (.str (hH (ps.map (·.1))) k3)) (some (.ref a)) Z) (by with_reducible exact .pick (.there .here) (.pick .here (.pick (.there .here) (.pick (.t2 (.there (.there .here))) (.pick (.t2 (.there (.there .here))) (.pick (.t2 (.there (.there .here))) (.pick (.there .here) (.pick (.there (.there .here)) (.pick (.there .here) (.tail (.there .refl))))))))))) ?_
 exact h _ _ _ _ _ _ _ hun hdd
end
theorem sel_key (b : Nat → Bool) : h8 [kd, kb, kc] b 3 ∈ keyL := by
 have z : h8 [kd, kb, kc] b 0 = [] := rfl
 rw [bS _ b 2, bS _ b 1, bS _ b 0, z]
 generalize b 0 = b0
 generalize b 1 = b1
 generalize b 2 = b2
 revert b0 b1 b2
 decide +kernel
theorem oV : (keyL.all fun ks => decide (ks ++ [ke]).Nodup && decide (ka ∉ ks ++ [ke]) && ((ks ++ [ke]).all fun x => decide (x = ⟨#[ic x]⟩)) && decide (cD ks ∈ ks ++ [ke]) && decide (ks.length ≤ 3)) = true := by decide +kernel
theorem occ3 : ∀ m, m < 3 → Builtin.Str.occurrences (ofString "dbc") ([kd, kb, kc].getD m (ofString "")) 0 (ofString "dbc").length 1 = [m] := by decide +kernel
theorem val_map {ys : List (Str × Value)} (nd : (ys.map (·.1)).Nodup) : ys = (ys.map (·.1)).map fun k => (k, (valueAt ys k).getD .none) := by
 have e : ∀ p ∈ ys, (p.1, (valueAt ys p.1).getD .none) = p := fun p hp => by
  have := eJ (f := fun p : Str × Value => p.1) (g := fun p => p.2) (l := ys) nd p hp
  rw [show (ys.map fun q => (q.1, q.2)) = ys from List.map_id' _] at this
  rw [this]; rfl
 rw [List.map_map]
 conv => lhs; rw [← List.map_id ys]
 exact List.map_congr_left fun p hp => (e p hp).symm
theorem o_124 {value slice : Expr} {l : Addr} {t1 t2 t4 u : Tok} {m : Nat} {Q : VP} (hl : Has cs l (ay [.int 1 t1, .int 2 t2, .int 4 t4])) (hm : m < 3)
  (hs : subscripted slice false (.ref l) (.int m u) = operate [.ref l, .int m u] (getItem (.ref l) (.int m u))) (h : ∀ u, Go h0 o0 cs (Q (.int (2 ^ m) u))) : Go h0 o0 cs (wpAny (model prog w) A (subscriptTail value slice (.ref l) (.int m u)) Q E) := by
 obtain ⟨v, hv⟩ : ∃ v, ([.int 1 t1, .int 2 t2, .int 4 t4] : List Value)[m]? = some (.int (2 ^ m) v) := by
  rcases m with _ | _ | _ | m
  ·exact ⟨_, rfl⟩
  ·exact ⟨_, rfl⟩
  ·exact ⟨_, rfl⟩
  ·exact absurd hm (by lia)
 exact df (.new hl) (by lia) (by lia) (by rw [Int.toNat_natCast]; exact hv) hs (h v)
section
variable {L : Addr} {q : Int} {qk : Tok} {m : List (Str × Value)} {nv av : Option Value} {Z : az} {Q : FP}
theorem c9_Ta {m' : Value → List (Str × Value)} (hh : A.handled = none) (hset : ∀ v, SetN m (ofString "keys") v (m' v))
  (h : ∀ D (ps : List (Str × Tok)), ps.map (·.1) ∈ keyL → Go h0 o0 ((D, ay (tv ps)) :: vX L (m' (.ref D)) q qk av nv Z) (wpAny (model prog w) A (execs ((ds (jC w.params)).drop 1) (aV w.params L)) Q NoE)) :
  Go h0 o0 (vX L m q qk av nv Z) (wpAny (model prog w) A (execs (ds (jC w.params)) (aV w.params L)) Q NoE) := by
 refine dP (rest' := (ds (jC w.params)).drop 1) fun QK hK => ?_
 refine og (cl := [(ofString "q", L + 1 + 1 + 1)]) (by decide) rfl (by decide) ?_ (fun _ => by with_unfolding_all rfl)
 with_reducible refine bq (aA (aI fun _ _ => aA (aI fun _ _ => aA ?_))); refine aI fun _ _ => aH (bn ?_); intro _
 refine Go.txts1 (ps := [(_, _), (_, _), (_, _)]) (ls := [kd, kb, kc]) rfl rfl fun ps0 hp0 => ?_
 have hl3 := congrArg List.length hp0
 rw [ag] at hl3
 have hl3 : ps0.length = 3 := hl3
 refine Go.name fun C0 hC0 => ?_
 have hq : Has C0 (L + 1 + 1 + 1) (aN (some (.int q qk))) := by rw [hC0]; exact .there (.there .here)
 refine lnL (fun m ys C => ∃ ps : List (Str × Tok), ys = tv ps ∧ ps.map (·.1) = h8 [kd, kb, kc] (kM q) m ∧ C = C0) hh (fun _ _ C ⟨_, _, _, hC⟩ => by rw [hC, hC0]; exact .here) (by unfold tv; rw [ag, hl3]; decide) ⟨[], rfl, rfl, rfl⟩ ?_ ?_
 ·rintro L2 m v ys C K' hv ⟨ps, rfl, e1, rfl⟩
  clear hC0
  obtain ⟨p, hp, rfl⟩ := nU hv
  have hm : m < 3 := by rw [← hl3]; exact (List.getElem?_eq_some_iff.mp hp).1
  have e0 : [kd, kb, kc].getD m (ofString "") = p.1 := by rw [← hp0, List.getD_eq_getElem?_getD, List.getElem?_map, hp]; rfl
  have ho := occ3 m hm
  rw [e0] at ho
  refine nn ?_
  with_reducible refine aR .here .new ?_
  refine mA ?_
  with_reducible refine bc (aY (aY (aY (bF (.there hq.app) (aO ?_))))); intro _; refine eK (by decide) (by decide) ?_; intro _; refine bE (bq (aA (aO fun _ => aA (aO ?_)))); intro _; refine aA (aO fun _ => aH (bn fun _ => bi (aI ?_))); intro _ _; refine g_index (cT (aA (aG (.there .here) .here (aH ?_))))
  refine k_index ho fun ti => ?_
  have hp2 := ml m hm
  refine o_124 .here hm (by with_unfolding_all rfl) fun tp => ?_
  with_reducible refine eK hp2.1 hp2.2 fun tq => ?_
  refine Go.sub (ak _ _) ?_
  with_reducible refine aO ?_; intro _; refine dn (by decide) ?_; intro _; refine aO fun _ => cP (aP ?_)
  refine cA (fun hb1 => ?_) fun hb1 => ?_
  ·have hb1 : kM q m = true := hb1
   with_reducible refine aG .here .here ?_
   exact ce0 (C' := C) ⟨ps ++ [(p.1, p.2)], by rw [fv]; rfl, by rw [ai, e1, bS, if_pos hb1, e0]; rfl, rfl⟩ rfl
  ·have hb1 : kM q m = false := hb1
   exact sl (C' := C) ⟨ps, rfl, by rw [e1, bS, hb1]; rfl, rfl⟩ rfl
 rintro L2 D ys C ⟨ps, rfl, e1, rfl⟩
 rw [hC0]
 clear hC0 hq C
 rw [show (tv ps0).length = 3 from by unfold tv; rw [ag, hl3]] at e1
 have hks := sel_key (kM q)
 rw [← e1] at hks
 simp only [List.cons_append]
 with_reducible refine aR (.there (.there .here)) (hset _) ?_
 refine nk (cs' := (D, ay (tv ps)) :: vX L (m' (.ref D)) q qk av nv (Z ++ [])) (.pick (.t4 (.t2 (.skip .here))) (.pick .here (.pick (.there .here) (.pick (.there .here) (.pick (.there .here) (.pick (.there .here) (.tail (.there .refl)))))))) ?_
 rw [List.append_nil]
 with_reducible refine hK ?_
 exact h D ps hks
theorem lx {ks : List Str} (h : ks ∈ keyL) : (ks ++ [ke]).Nodup ∧ ka ∉ ks ++ [ke] ∧ (∀ x ∈ ks ++ [ke], x = ⟨#[ic x]⟩) ∧ cD ks ∈ ks ++ [ke] ∧ ks.length ≤ 3 := by
 have hc := List.all_eq_true.mp oV _ h
 simp only [Bool.and_eq_true, decide_eq_true_eq] at hc
 obtain ⟨⟨⟨⟨c1, c2⟩, c3⟩, c4⟩, c5⟩ := hc
 exact ⟨c1, c2, fun x hx => by simpa using List.all_eq_true.mp c3 x hx, c4, c5⟩
theorem c9_Tb {D : Addr} {ps : List (Str × Tok)} (B : Base (KF w.params) h0) (hh : A.handled = none) (hroom : A.depth + 10 < recursionLimit) (hlk : Look m (ofString "keys") (.ref D)) (hks : ps.map (·.1) ∈ keyL)
  (h : ∀ a (ys : List (Str × Value)), ys.map (·.1) = ps.map (·.1) ++ [ke] → (∀ p ∈ ys, ∃ k, p.2 = thV k (dL (q.fdiv 8 + ic p.1))) → Go h0 o0 ((a, aM prog w ys) :: (D, ay (tv ps)) :: vX L m q qk (some (.ref a)) nv Z) (wpAny (model prog w) A (execs ((ds (jC w.params)).drop 2) (aV w.params L)) Q NoE)) :
  Go h0 o0 ((D, ay (tv ps)) :: vX L m q qk av nv Z) (wpAny (model prog w) A (execs ((ds (jC w.params)).drop 1) (aV w.params L)) Q NoE) := by
 have bOrd : bD h0 (ofString "ord") (.builtin "ord") := B.bltAt (by kernel_rfl!) (by kernel_rfl!) (by decide +kernel) (by decide +kernel)
 have gThing : bA h0 (ofString "_law_thing") (.ref gY) := B.glob (by kernel_rfl!) (by kernel_rfl!)
 obtain ⟨c1, _, hord, _, c5⟩ := lx hks
 have hpl : ps.length ≤ 3 := by rwa [ag] at c5
 refine dP (rest' := (ds (jC w.params)).drop 2) fun QK hK => ?_
 refine bK ?_
 refine e_dc (cl := [(ofString "q", L + 1 + 1 + 1)]) (by kernel_rfl!) (by decide) rfl (by decide) ?_ (fun _ => by with_unfolding_all rfl)
 with_reducible refine aY (aG (.there .here) hlk (bq (aA (aI fun _ _ => aH ?_)))); refine bn ?_; intro _; refine gF (.there .here) .here (by unfold tv; rw [ag, List.length_singleton, af]; (apply aD; apply aF; with_reducible assumption; exact ae _; decide)) fun a3 => ?_
 refine Go.txts1 (ps := ps ++ [(_, _)]) (ls := ps.map (·.1) ++ [ke]) (by rw [fv]; rfl) (by rw [ai]; rfl) fun ps2 hp2 => ?_
 have hl2 : ps2.length ≤ 4 := by have := congrArg List.length hp2; rw [ag, ao, ag, List.length_singleton] at this; (lia)
 have n0 : ((ps2.map (·.1)).map id).Nodup := by rw [List.map_id, hp2]; exact c1
 refine Go.name fun C0 hC0 => ?_
 have hq : Has C0 (L + 1 + 1 + 1) (aN (some (.int q qk))) := by rw [hC0]; exact .t2 (.there (.there .here))
 refine dcL (fun m ys C => ys.map (·.1) = (ps2.map (·.1)).take m ∧ (∀ p ∈ ys, ∃ k, p.2 = thV k (dL (q.fdiv 8 + ic p.1))) ∧ C = C0) hh (fun _ _ C hC => by rw [hC.2.2, hC0]; exact .here) (by unfold tv; rw [ag]; (apply aD; with_reducible assumption; decide)) ⟨rfl, (fun p hp => by cases hp), rfl⟩ ?_ ?_
 ·rintro L2 m v ys C K' hv ⟨e2, e3, rfl⟩
  clear hC0 h hlk hK
  obtain ⟨p, hp, rfl⟩ := nU hv
  have hx : (ps2.map (·.1))[m]? = some p.1 := by rw [List.getElem?_map, hp]; rfl
  obtain ⟨n1, n2⟩ := iw n0 hx
  rw [List.map_id] at n2
  have hpo := hord p.1 (by rw [← hp2]; exact List.mem_of_getElem? hx)
  refine nn ?_
  with_reducible refine aR .here .new ?_
  refine gS (fF ?_)
  with_reducible refine aG .here .here (bE (aW (ch ?_))); refine dK (aA (aY (aY (bF (.there hq.app) (aO ?_))))); intro _; refine eK (by decide) (by decide) ?_; intro _; refine aW (bG (gV (aA (aG .here .here (aH ?_)))))
  refine pe hpo fun to => ?_
  with_reducible refine oE fun t3 => ?_; refine aH (ck ?_)
  refine gj B (by lia) fun T9 W9 j0 j1 j2 => ?_
  with_reducible refine aO ?_; intro _
  refine lm .here ?_
  refine Go.sub ((ak _ _).trans (ak _ _)) ?_
  refine cv0 (C' := C) ⟨?_, ?_, rfl⟩ rfl
  ·rw [cN (by rw [e2]; exact n2), ai, e2, n1]; rfl
  ·rw [cN (by rw [e2]; exact n2)]
   intro p9 hp9
   rcases List.mem_append.mp hp9 with hp9 | hp9
   ·exact e3 p9 hp9
   ·rw [List.mem_singleton.mp hp9]; exact ⟨_, rfl⟩
 rintro D2 ys C ⟨e2, e3, rfl⟩
 rw [hC0]
 clear hC0 hq C
 rw [show (tv ps2).length = (ps2.map (·.1)).length from by unfold tv; rw [ag, ag], List.take_length, hp2] at e2
 with_reducible refine fj (c := L + 1) (.t4 (.there (.there .here))) ?_
 refine Go.sub (List.Sublist.cons_cons _ (.cons _ (.cons _ (List.Sublist.refl _)))) ?_
 with_reducible refine hK ?_
 exact h D2 ys e2 e3
theorem c9_Tc {D2 : Addr} {p0 : Addr × bM} {ys : List (Str × Value)} (hn : ka ∉ ys.map (·.1)) (hz : ys.length ≤ 1000)
  (h : ∀ k, Go h0 o0 ((D2, aM prog w (ys ++ [(ka, .str (ofString "v") k)])) :: p0 :: vX L m q qk (some (.ref D2)) nv Z) (wpAny (model prog w) A (execs ((ds (jC w.params)).drop 3) (aV w.params L)) Q NoE)) :
  Go h0 o0 ((D2, aM prog w ys) :: p0 :: vX L m q qk (some (.ref D2)) nv Z) (wpAny (model prog w) A (execs ((ds (jC w.params)).drop 2) (aV w.params L)) Q NoE) := by
 refine dP (rest' := (ds (jC w.params)).drop 3) fun QK hK => ?_
 refine s_ass ?_ (by with_unfolding_all rfl)
 with_reducible refine aI fun _ _ => bF (c := L + 1) (.t2 (.there (.there .here))) (aI ?_); intro _ _
 refine k_dset .here (by rw [af]; (apply aD; with_reducible assumption; decide)) ?_
 rw [show ofString "a" = ka from rfl, cN hn]
 with_reducible refine hK ?_
 exact h _
theorem c9_Td {D : Addr} {p0 : Addr × bM} {ps : List (Str × Tok)} {m' : Value → List (Str × Value)} (B : Base (KF w.params) h0) (hh : A.handled = none) (hroom : A.depth + 10 < recursionLimit) (hlk : Look m (ofString "keys") (.ref D)) (hset : ∀ v, SetN m (ofString "words") v (m' v)) (hks : ps.map (·.1) ∈ keyL)
  (h : ∀ W2 k1 k2, Go h0 o0 ((W2, ay [.str (ofString "TypeError") k1, .str (bN (thR (dL (q.fdiv 8 + ic (cD (ps.map (·.1)))))) (ofString (thT (dL (q.fdiv 8 + ic (cD (ps.map (·.1)))))))) k2]) :: p0 :: (D, ay (tv ps)) :: vX L (m' (.ref W2)) q qk av nv Z) (wpAny (model prog w) A (execs ((ds (jC w.params)).drop 4) (aV w.params L)) Q NoE)) :
  Go h0 o0 (p0 :: (D, ay (tv ps)) :: vX L m q qk av nv Z) (wpAny (model prog w) A (execs ((ds (jC w.params)).drop 3) (aV w.params L)) Q NoE) := by
 have bOrd : bD h0 (ofString "ord") (.builtin "ord") := B.bltAt (by kernel_rfl!) (by kernel_rfl!) (by decide +kernel) (by decide +kernel)
 have bMin : bD h0 (ofString "min") (.builtin "min") := B.bltAt (by kernel_rfl!) (by kernel_rfl!) (by decide +kernel) (by decide +kernel)
 have gThing : bA h0 (ofString "_law_thing") (.ref gY) := B.glob (by kernel_rfl!) (by kernel_rfl!)
 obtain ⟨_, _, hord, c4, c5⟩ := lx hks
 have hpl : ps.length ≤ 3 := by rwa [ag] at c5
 refine dP (rest' := (ds (jC w.params)).drop 4) fun QK hK => ?_
 refine bK ?_
 with_reducible refine bE (aW (ch ?_)); refine dK (aA (aY (aY (bF (.t2 (.there .here)) (aO ?_))))); intro _; refine eK (by decide) (by decide) ?_; intro _; refine aW (bG (gV (aA (aW (bG ?_))))); refine gV (aA (aY (aG (.there (.there .here)) hlk (bq (aA ?_))))); refine aI fun _ _ => aH (bn ?_); intro _; refine gF (.there (.there .here)) .here (by unfold tv; rw [ag, List.length_singleton, af]; (apply aD; apply aF; with_reducible assumption; exact ae _; decide)) fun a5 => ?_
 refine Go.txts1 (ps := ps ++ [(_, _)]) (ls := ps.map (·.1) ++ [ke]) (by rw [fv]; rfl) (by rw [ai]; rfl) fun ps3 hp3 => ?_
 with_reducible refine aH ?_
 refine pf hh .here rfl (fun e => by rw [e] at hp3; exact List.cons_ne_nil _ _ (List.append_eq_nil_iff.mp hp3.symm).2) fun t5 => ?_
 rw [show lp (ps3.map (·.1)) = cD (ps.map (·.1)) from by rw [hp3]; rfl]
 refine Go.sub (.cons _ (.cons _ (List.Sublist.refl _))) ?_
 with_reducible refine aH ?_
 refine pe (hord _ c4) fun to => ?_
 with_reducible refine oE fun t6 => ?_; refine aH (ck ?_)
 refine gj B (by lia) fun T9 W9 j0 j1 j2 => ?_
 with_reducible refine aO ?_; intro _
 refine o_tup1 .here (by with_unfolding_all rfl) ?_
 refine Go.sub (ak _ _) ?_
 with_reducible refine aR (.t2 (.there .here)) (hset _) (hK ?_)
 exact h _ _ _
end
section
variable {L OP sc : Addr} {due held : Str} {dk hk : Tok} {ops : List Op9} {tx nv av : Option Value} {Z : az} {Q : FP}
theorem c9_T1 {q : Int} {qk : Tok} (B : Base (KF w.params) h0) (hh : A.handled = none) (hroom : A.depth + 10 < recursionLimit)
  (h : ∀ ks a W2 (f : Str → Value) kv k1 k2 rr Tn, ks ∈ keyL → iq w.params (f (cD ks)) rr Tn → Go h0 o0 ((a, aM prog w (pQ ks f (.str (ofString "v") kv))) :: (W2, ay [.str (ofString "TypeError") k1, .str (bN rr (ofString Tn)) k2]) :: lawX (jd9 L OP sc i) due dk held hk [(ofString "words", .ref W2)] ops tx (some (.int q qk)) nv (some (.ref a)) Z) (wpAny (model prog w) A (execs ((ds (jC w.params)).drop 4) (aV w.params L)) Q NoE)) :
  Go h0 o0 (lawX (jd9 L OP sc i) due dk held hk [] ops tx (some (.int q qk)) nv av Z) (wpAny (model prog w) A (execs (ds (jC w.params)) (aV w.params L)) Q NoE) := by
 refine Go.sel (cs' := vX L (lawF (jd9 L OP sc i) due dk held hk []) q qk av nv ((OP, ay (ops.map Op9.ref)) :: (L + 1 + 1 + 1 + 1 + 1, aN (some (.ref i.x))) :: (L + 1 + 1 + 1 + 1, aN tx) :: Z)) (.pick .here (.pick (.t2 (.there .here)) (.pick (.t2 (.there (.there .here))) (.pick (.t2 (.there .here)) (.pick .here (.pick .here (.pick .here (.tail .refl)))))))) ?_
 with_reducible refine c9_Ta (m' := fun v => lawF (jd9 L OP sc i) due dk held hk [(ofString "keys", v)]) hh (fun v => by with_reducible exact .n4 (.n .new)) fun D ps hks => ?_
 have hlk : Look (lawF (jd9 L OP sc i) due dk held hk [(ofString "keys", .ref D)]) (ofString "keys") (.ref D) := by with_reducible exact .n4 (.n .here)
 obtain ⟨c1, c2, _, c4, c5⟩ := lx hks
 with_reducible refine c9_Tb B hh hroom hlk hks fun a ys e2 e3 => ?_; refine c9_Tc (by rw [e2]; exact c2) (by have := congrArg List.length e2; rw [ag, ao, List.length_singleton] at this; (lia)) fun kv => ?_; refine c9_Td (m' := fun v => lawF (jd9 L OP sc i) due dk held hk [(ofString "keys", .ref D), (ofString "words", v)]) B hh hroom hlk (fun v => by with_reducible exact .n4 (.n (.n .new))) hks fun W2 k1 k2 => ?_
 have hys := val_map (ys := ys) (by rw [e2]; exact c1)
 obtain ⟨f, hf⟩ : ∃ f : Str → Value, f = fun k => (valueAt ys k).getD .none := ⟨_, rfl⟩
 have hys : ys = (ps.map (·.1) ++ [ke]).map fun k => (k, f k) := by rw [← e2, hf]; exact hys
 obtain ⟨kz, hfm⟩ : ∃ k, f (cD (ps.map (·.1))) = thV k (dL (q.fdiv 8 + ic (cD (ps.map (·.1))))) := by
  have hm : (cD (ps.map (·.1)), f (cD (ps.map (·.1)))) ∈ ys := by rw [hys]; exact aq c4
  exact e3 _ hm
 rw [hys]
 clear hf e2 e3 hys
 refine Go.thin (a := L) (m' := lawF (jd9 L OP sc i) due dk held hk [(ofString "words", .ref W2)]) (.t2 (.there .here)) (.cons .here (.cons (.n .here) (.cons (.n (.n .here)) (.cons (.n (.n (.n .here))) (.cons (.n (.n (.n (.n .here)))) (.cons (.n4 (.n (.n .here))) .nil)))))) ?_
 have hw := h (ps.map (·.1)) a W2 f kv k1 k2 _ _ hks (by rw [hfm]; exact fz _)
 refine Go.sel ?_ hw
 unfold pQ
 with_reducible exact .pick (.there .here) (.pick .here (.pick (.there .here) (.pick (.t2 (.there (.there .here))) (.pick (.t2 (.there (.there .here))) (.pick (.t2 (.there (.there .here))) (.pick (.there .here) (.pick (.there (.there .here)) (.pick (.there .here) (.tail (.there .refl))))))))))
end
noncomputable def sgB (ax : Expr) (p2 p3 p5 p6 : Pos) : Expr := .Call (.Attribute (.Name (ofString "writer") p2) (ofString "start") p3) [ax, .Name (ofString "attrs") p6] [] p5
section
variable {L OP sc : Addr} {due held due' d0 h1 : Str} {dk hk : Tok} {r : List (Str × Value)} {ops : List Op9} {tv qv nv av : Option Value} {T T2 : az} {n k : Nat}
theorem k9_sg {f c' a : Addr} {p2 p3 p5 p6 : Pos} {ax : Expr} {nms : List Str} {cl : List (Str × Addr)} {tag m D : Str} {dd : List (Str × Value)} {cls : String} {Q : VP} (hcls : cls = "TypeError" ∨ cls = "ValueError") (B : Base (KF w.params) h0) (hroom : A.depth + 10 < recursionLimit) (hu : A.units + 2000 < cLine) (hh : A.handled = none) (hA : A.frames = some [aV w.params L])
  (he : lX (.Name (ofString "writer") p2) (ofString "start") p3 [ax, .Name (ofString "attrs") p6] p5) (hc : Has T2 c' (b7 lawQ)) (ha : Has V a (aM prog w dd))
  (hw1 : ∀ Ll, (envX lawQ (gg nms) Ll f (.ref c') cl).kindOf (ofString "writer") = some .free) (hw2 : cl.lookup (ofString "writer") = some (L + 1 + 1 + 1 + 1 + 1))
  (ha1 : ∀ Ll, (envX lawQ (gg nms) Ll f (.ref c') cl).kindOf (ofString "attrs") = some .free) (ha2 : cl.lookup (ofString "attrs") = some (L + 1))
  (hstar : ∀ env : Env, starEach [ax, .Name (ofString "attrs") p6] env = (false, eval ax env) :: starEach [.Name (ofString "attrs") p6] env) (hax : ∀ (Ll : Addr) (A' : Around) (cs : az) (Q : VP) (E : VP), Has cs (L + 1 + 1) (aN nv) → (∀ u, Go h0 o0 cs (Q (.str tag u))) → Go h0 o0 cs (wpAny (model prog w) A' (eval ax (envX lawQ (gg nms) Ll f (.ref c') cl)) Q E))
  (hcall : ∀ (A' : Around) outer V' ut R, A'.handled = none → A'.depth + 5 < recursionLimit → A'.units + 1100 < cLine → A'.frames = some outer → FrOk V' outer → Has V' a (aM prog w dd) →
   (∀ T' t' e t0 c k X, Tb be lamPos lamQ T' → dY (t'.out.map (·.1)) = D → t'.out.length ≤ 10000 → Go h0 o0 (cV e cls (.ref t0) c (some X) ++ ((t0, a8 [.str m k]) :: (T' ++ wr prog w i t' V'))) (R (.error (.ref e)))) →
   Go h0 o0 (T ++ wr prog w i t V') (codeAny (model prog w) A' (.call (.ref ct) ⟨[.ref i.x, .str tag ut, .ref a], []⟩) R))
  (h : ∀ T' t' b k1 k2, Tb be lamPos lamQ T' → dY (t'.out.map (·.1)) = D → t'.out.length ≤ 10000 → Go h0 o0 ((b, ay [.str (ofString cls) k1, .str m k2]) :: lawX (jd9 L OP sc i) due dk held hk r ops tv qv nv (some (.ref a)) (T' ++ wr prog w i t' (T2 ++ V))) (Q (.ref b))) :
  Go h0 o0 ((f, dg "<lambda>" lawQ noA (sgB ax p2 p3 p5 p6) (gg nms) cl c') :: lawX (jd9 L OP sc i) due dk held hk r ops tv qv nv (some (.ref a)) (T ++ wr prog w i t (T2 ++ V))) (wpAny (model prog w) A (call (.ref bW) [.ref f]) Q E) := by
 refine pT (cls := cls) (m := m) (fun C => ∃ T' t', Tb be lamPos lamQ T' ∧ dY (t'.out.map (·.1)) = D ∧ t'.out.length ≤ 10000 ∧ C = (f, dg "<lambda>" lawQ noA (sgB ax p2 p3 p5 p6) (gg nms) cl c') :: lawX (jd9 L OP sc i) due dk held hk r ops tv qv nv (some (.ref a)) (T' ++ wr prog w i t' (T2 ++ V))) hcls B (by lia) (by lia) hh hA .here (fun Lr R hR => ?_) (fun C b k1 k2 hJ => ?_)
 ·have hA1 := Around.frames_deeper (env := callEnv (aK (KF w.params) bW) Lr bW) hA
  refine ly B.lim (.there .here) (.t4 (.t4 (.there (.skip (bR hc.app))))) (by show A.depth + 1 < _; (lia)) (fun pm ctv => by with_unfolding_all rfl) rfl rfl rfl jW fun Ll => ?_
  obtain ⟨pl, he⟩ := he (envX lawQ (gg nms) Ll f (Value.ref c') cl)
  refine bi ?_ (he := he)
  with_reducible refine gT (c := L + 1 + 1 + 1 + 1 + 1) (.t4 (.there .here)) rfl (hw1 Ll) hw2 (gM (.t4 (.t4 (.t2 (.skip a9)))) (.t4 (.t4 (.t2 (.skip aS)))) ?_); refine fO ?_ (he := (hstar _))
  refine aA ?_ (he := (hstar _))
  refine hax Ll _ _ _ _ (.t4 (.t2 (.there (.there .here)))) fun ut => ?_
  with_reducible refine aA (gT (c := L + 1) (.t4 (.t4 (.there .here))) rfl (ha1 Ll) ha2 (aH (ck ?_)))
  refine bv ?_
  show Go h0 o0 ([_, _, _, _, _, _, _, _, _, _] ++ (T ++ wr prog w i t (T2 ++ V))) _
  have fr : ∀ Z, FrOk ((Lr, cNs [(ofString "call", .ref f)]) :: (f, dg "<lambda>" lawQ noA (sgB ax p2 p3 p5 p6) (gg nms) cl c') :: lawX (jd9 L OP sc i) due dk held hk r ops tv qv nv (some (.ref a)) Z) [callEnv (aK (KF w.params) bW) Lr bW, aV w.params L] := fun Z => FrOk.cons (by kernel_rfl!) rfl .here (FrOk.cons (by kernel_rfl!) rfl (.there (.there .here)) FrOk.nil)
  have fr3 : FrOk ([_, _, _, _, _, _, _, _, _, _] ++ (T2 ++ V)) (envX lawQ (gg nms) Ll f (Value.ref c') cl :: [callEnv (aK (KF w.params) bW) Lr bW, aV w.params L]) := FrOk.cons rfl rfl (.here (a := Ll) (c := cNs [])) ((fr (T2 ++ V)).there)
  have hA2 := Around.frames_deeper (env := envX lawQ (gg nms) Ll f (Value.ref c') cl) hA1
  refine Go.tIn (hcall _ _ _ _ _ hh (by show A.depth + 1 + 1 + 5 < _; (exact aX 3 (by with_reducible assumption))) (by show A.units + _ + _ + 1100 < cLine; (lia)) hA2 fr3 (.t4 (.t4 (.t2 (.skip (.skip ha))))) fun T' t' e t0 c k X hT' h1 h2 => ?_)
  refine cc hA2 rfl (fr3.wr.skip).there fun X1 => ?_
  refine Go.exT (X := [_, _, _, _, _, _, _, _, _]) ?_
  exact hR _ e t0 k c X1 ⟨T', t', hT', h1, h2, rfl⟩ (FrOk.cons (by kernel_rfl!) rfl (.there .here) FrOk.nil)
 ·obtain ⟨T', t', hT', h1, h2, rfl⟩ := hJ
  exact Go.sub (List.Sublist.cons_cons _ (ak _ _)) (h T' t' b k1 k2 hT' h1 h2)
end
theorem mu {due : Str} (h : dY (t.out.map (·.1)) = due) (hz : due.length ≤ 40000) : tot t.out ≤ sizeLine := by
 rw [← ee, h, af]; (apply aD; with_reducible assumption; decide)
section
variable {L OP sc W2 : Addr} {due held due' d0 h1 : Str} {dk hk u1 u2 kk : Tok} {r : List (Str × Value)} {ops : List Op9} {tx qv nv av : Option Value} {T T2 Z : az} {n k : Nat} {Q : FP}
theorem c9_V2 {a : Addr} {unk : List Str} {dd : List (Str × Value)} {k1 k2 k3 : Tok} (B : Base (KF w.params) h0) (LB : LamBase h0 cU be) (LB2 : LamBase h0 pZ dq) (W : kR i) (hroom : A.depth + 10 < recursionLimit) (hu : A.units + 2000 < cLine) (hh : A.handled = none) (hA : A.frames = some [aV w.params L])
  (hT : Tb be lamPos lamQ T) (hT2 : TbL dq lawQ T2) (hS : S9 (n + 1) k t d0 h1) (hk6 : k ≤ 670) (hD : due = d0 ++ h1) (hun : unk ∈ unkL) (hdd : dd.map (·.1) = kt unk) (ha : Has V a (aM prog w dd)) (hW : Has V W2 (ay [.str (ofString "ValueError") k1, .str (kP (fD unk)) k2]))
  (h : ∀ X T' T2' t', Tb be lamPos lamQ T' → TbL dq lawQ T2' → Go h0 o0 (X ++ (T' ++ wr prog w i t' (T2' ++ V))) (Q (.ret (.bool true)))) :
  Go h0 o0 (lawX (jd9 L OP sc i) due dk held hk [(ofString "words", .ref W2)] ops tx qv (some (.str (hH unk) k3)) (some (.ref a)) (T ++ wr prog w i t (T2 ++ V))) (wpAny (model prog w) A (execs ((ds (kg w.params)).drop 4) (aV w.params L)) Q NoE) := by
 have gRef : bA h0 (ofString "_law_refused") (.ref bW) := B.glob (by kernel_rfl!) (by kernel_rfl!)
 refine aE (dC (pN ?_))
 with_reducible refine gU (aW (ch ?_)); refine dK (aA ?_)
 show Go h0 o0 ([_, _, _, _, _, _, _] ++ (T ++ wr prog w i t (T2 ++ V))) _
 refine Go.lIn ?_
 refine fL (X := [_, _, _, _, _, _, _]) (clos := clS L) (qual := lawQ) LB2 hT2 fun f c' T2' hT2' hc' => ?_
 refine Go.lOut (X := [_, _, _, _, _, _, _, _]) ?_
 with_reducible refine aH (ck ?_)
 refine k9_sg (nms := [ofString "attrs", ofString "name", ofString "writer"]) (tag := hH unk) (m := kP (fD unk)) (D := due) (cls := "ValueError") (.inr rfl) B hroom hu hh hA (fun _ => ⟨_, by with_unfolding_all rfl⟩) hc' ha (fun _ => by kernel_rfl!) (by kernel_rfl!) (fun _ => by kernel_rfl!) (by kernel_rfl!) (fun _ => by with_unfolding_all rfl) (fun Ll A' cs Q' E' hq hQ => ?_) (fun A' outer V' ut R a1 a2 a3 a4 a5 a6 a7 => ?_) fun T' t' b j1 j2 hT' e1 e2 => ?_
 ·with_reducible refine gT (c := L + 1 + 1) hq (by kernel_rfl!) (by kernel_rfl!) (by kernel_rfl!) ?_
  exact hQ k3
 ·exact l9_V B LB a1 a2 a3 a4 a5 W.rw W.st W.et W.ea hT hS (by apply aD; with_reducible assumption; decide) hun a6 hdd rfl fun T' t' e t0 kk X b1 b2 b3 => a7 T' t' e t0 _ kk X b1 (b2.trans hD.symm) b3
 with_reducible refine aG (.there .here) (.n4 (.n .here)) ?_
 have hWW : Has ((b, ay [.str (ofString "ValueError") j1, .str (kP (fD unk)) j2]) :: lawX (jd9 L OP sc i) due dk held hk [(ofString "words", .ref W2)] ops tx qv (some (.str (hH unk) k3)) (some (.ref a)) (T' ++ wr prog w i t' (T2' ++ V))) W2 (ay [.str (ofString "ValueError") k1, .str (kP (fD unk)) k2]) := .t4 (.t4 (.skip (bR (.skip hW))))
 refine oC (xs := [(ofString "ValueError", j1), (kP (fD unk), j2)]) (ys := [(ofString "ValueError", k1), (kP (fD unk), k2)]) .here hWW rfl rfl rfl (by lia) ?_
 with_reducible refine aP (fF (gU (bi (aI fun _ _ => dZ ?_)))); refine cT (aA (aG (.there .here) (.n (.n .here)) (aH ?_)))
 have hbz := hS.bz
 refine dv (l := t'.out) (x := ofString "") (D := i.O) (.t4 (.t4 (.skip mT))) (cZ (mu e1 (by rw [hD, ah]; (lia)))) fun ta => ?_
 rw [show Txt.join (ofString "") (t'.out.map (·.1)) = due from e1]
 with_reducible refine aG (.there .here) .here (gE (bT ?_))
 rw [beq_self_eq_true]
 exact h [_, _, _, _, _, _, _, _] T' T2' t' hT' hT2'
theorem c9_T2 {a : Addr} {ks : List Str} {f : Str → Value} {rr : Str} {Tn : String} {kv k1 k2 : Tok} (B : Base (KF w.params) h0) (LB : LamBase h0 cU be) (LB2 : LamBase h0 pZ dq) (W : kR i) (hroom : A.depth + 10 < recursionLimit) (hu : A.units + 2000 < cLine) (hh : A.handled = none) (hA : A.frames = some [aV w.params L])
  (hT : Tb be lamPos lamQ T) (hT2 : TbL dq lawQ T2) (hS : S9 (n + 1) k t d0 h1) (hk6 : k ≤ 670) (hD : due = d0 ++ h1) (hks : ks ∈ keyL) (hbad : iq w.params (f (cD ks)) rr Tn) (ha : Has V a (aM prog w (pQ ks f (.str (ofString "v") kv)))) (hW : Has V W2 (ay [.str (ofString "TypeError") k1, .str (bN rr (ofString Tn)) k2]))
  (h : ∀ X T' T2' t', Tb be lamPos lamQ T' → TbL dq lawQ T2' → Go h0 o0 (X ++ (T' ++ wr prog w i t' (T2' ++ V))) (Q (.ret (.bool true)))) :
  Go h0 o0 (lawX (jd9 L OP sc i) due dk held hk [(ofString "words", .ref W2)] ops tx qv nv (some (.ref a)) (T ++ wr prog w i t (T2 ++ V))) (wpAny (model prog w) A (execs ((ds (jC w.params)).drop 4) (aV w.params L)) Q NoE) := by
 have gRef : bA h0 (ofString "_law_refused") (.ref bW) := B.glob (by kernel_rfl!) (by kernel_rfl!)
 have z1 : (ofString "<p:k").length = 4 := by decide +kernel
 refine aE (dC (pN ?_))
 with_reducible refine gU (aW (ch ?_)); refine dK (aA ?_)
 show Go h0 o0 ([_, _, _, _, _, _, _] ++ (T ++ wr prog w i t (T2 ++ V))) _
 refine Go.lIn ?_
 refine fL (X := [_, _, _, _, _, _, _]) (clos := [(ofString "writer", L + 1 + 1 + 1 + 1 + 1), (ofString "attrs", L + 1)]) (qual := lawQ) LB2 hT2 fun g c' T2' hT2' hc' => ?_
 refine Go.lOut (X := [_, _, _, _, _, _, _, _]) ?_
 with_reducible refine aH (ck ?_)
 refine k9_sg (nms := [ofString "attrs", ofString "writer"]) (tag := kT) (m := bN rr (ofString Tn)) (D := due ++ ofString "<p:k") (cls := "TypeError") (.inl rfl) B hroom hu hh hA (fun _ => ⟨_, by with_unfolding_all rfl⟩) hc' ha (fun _ => by kernel_rfl!) (by kernel_rfl!) (fun _ => by kernel_rfl!) (by kernel_rfl!) (fun _ => by with_unfolding_all rfl) (fun Ll A' cs Q' E' hq hQ => ?_) (fun A' outer V' ut R a1 a2 a3 a4 a5 a6 a7 => ?_) fun T' t' b j1 j2 hT' e1 e2 => ?_
 ·with_reducible refine aI ?_; intro _ _
  exact hQ _
 ·exact l9_T B LB a1 a2 a3 a4 a5 W.rw W.st W.et W.ea hT hS (by apply aD; with_reducible assumption; decide) hks a6 rfl hbad fun T' t' e t0 c kk X b1 b2 b3 => a7 T' t' e t0 c kk X b1 (by rw [hD]; exact b2) b3
 with_reducible refine aG (.there .here) (.n4 (.n .here)) ?_
 have hWW : Has ((b, ay [.str (ofString "TypeError") j1, .str (bN rr (ofString Tn)) j2]) :: lawX (jd9 L OP sc i) due dk held hk [(ofString "words", .ref W2)] ops tx qv nv (some (.ref a)) (T' ++ wr prog w i t' (T2' ++ V))) W2 (ay [.str (ofString "TypeError") k1, .str (bN rr (ofString Tn)) k2]) := .t4 (.t4 (.skip (bR (.skip hW))))
 refine oC (xs := [(ofString "TypeError", j1), (bN rr (ofString Tn), j2)]) (ys := [(ofString "TypeError", k1), (bN rr (ofString Tn), k2)]) .here hWW rfl rfl rfl (by lia) ?_
 with_reducible refine aP (fF (gU (bi (aI fun _ _ => dZ ?_)))); refine cT (aA (aG (.there .here) (.n (.n .here)) (aH ?_)))
 have hbz := hS.bz
 refine dv (l := t'.out) (x := ofString "") (D := i.O) (.t4 (.t4 (.skip mT))) (cZ (mu e1 (by rw [ah, hD, ah, z1]; (lia)))) fun ta => ?_
 rw [show Txt.join (ofString "") (t'.out.map (·.1)) = due ++ ofString "<p:k" from e1]
 with_reducible refine aY (aG (.there .here) .here (aI ?_)); intro _ _; refine bu (by rw [hD, ah, z1, af]; (lia)) fun tb => ?_; refine gE (bT ?_)
 rw [beq_self_eq_true]
 exact h [_, _, _, _, _, _, _, _] T' T2' t' hT' hT2'
end
noncomputable def OpOk (V : az) (o : Op9) : Prop := o.p ∈ na ∧ Has V o.a (ay [.str o.p.1 o.k1, .str o.p.2 o.k2])
noncomputable def Nx9 (prog : Program) (w : World) (h0 : Heap) (o0 : Shared) (L OP sc : Addr) (i : fQ) (k : Nat) (ops : List Op9) (V : az) (Q : FP) : Prop :=
 ∀ ops' T T2 t due held dk hk r tx qv nv av G, Tb be lamPos lamQ T → TbL dq lawQ T2 → S9 (ops'.length) (k + 2) t due held → ops' ≠ [] → ops'.length ≤ ops.length + 1 → (∀ o ∈ ops', o ∈ ops ∨ OpOk G o) → Go h0 o0 (lawX (jd9 L OP sc i) due dk held hk r ops' tx qv nv av (T ++ wr prog w i t (T2 ++ (G ++ V)))) (Q .next)
noncomputable def Rt9 (prog : Program) (w : World) (h0 : Heap) (o0 : Shared) (i : fQ) (V : az) (Q : FP) : Prop :=
 ∀ X T T2 t G, Tb be lamPos lamQ T → TbL dq lawQ T2 → Go h0 o0 (X ++ (T ++ wr prog w i t (T2 ++ (G ++ V)))) (Q (.ret (.bool true)))
noncomputable def mq (kd q : Int) (n : Nat) : Bool := (([0, 3, 4, 5] : List Int).any fun x => x == kd) || ((kd == 6 && q.fmod 4 == 3) || (kd == 1 && decide (1 < (n : Int))))
section
variable {L OP sc W2 : Addr} {due held due' d0 h1 : Str} {dk hk u1 u2 kk : Tok} {r : List (Str × Value)} {ops : List Op9} {tx qv nv av : Option Value} {T T2 Z : az} {n k : Nat} {Q : FP}
theorem c9_mv {kd q : Int} {kk qk : Tok} {QK : FP} (B : Base (KF w.params) h0) (hl : ops.length ≤ 1000) (hz : due.length + held.length ≤ 40000)
  (h : ∀ dk' hk', Go h0 o0 (lawX (jd9 L OP sc i) (if mq kd q ops.length = true then due ++ held else due) dk' (if mq kd q ops.length = true then ofString "" else held) hk' ((ofString "kind", .int kd kk) :: r) ops tx (some (.int q qk)) nv av Z) (QK .next)) :
  Go h0 o0 (lawX (jd9 L OP sc i) due dk held hk ((ofString "kind", .int kd kk) :: r) ops tx (some (.int q qk)) nv av Z) (wpAny (model prog w) A (exec (oG (lwF w.params) 2) (aV w.params L)) QK NoE) := by
 have bLen : bD h0 (ofString "len") (.builtin "len") := B.bltAt (by kernel_rfl!) (by kernel_rfl!) (by decide +kernel) (by decide +kernel)
 have hzz : due.length + held.length ≤ sizeLine := by rw [af]; (apply aD; with_reducible assumption; decide)
 refine bt ?_
 refine Go.name fun C0 hC0 => ?_
 refine bH (fun b C => b = mq kd q ops.length ∧ C = C0) ?_ ?_
 ·rw [hC0]
  clear hC0 C0
  with_reducible refine bZ (gr (bc (aG .here (.n4 (.n .here)) (bq (aA ?_))))); refine aO fun _ => aA (aO fun _ => aA (aO fun _ => aA ?_)); refine aO fun _ => aH (bn ?_); intro _
  refine o_inI (ns := [(0, _), (3, _), (4, _), (5, _)]) .here rfl ?_
  refine Go.sub (ak _ _) ?_
  with_reducible refine aP ?_
  refine cA (fun g1 => ?_) fun g1 => ?_
  ·have g1 : (([0, 3, 4, 5] : List Int).any fun x => x == kd) = true := g1
   exact jp ⟨by unfold mq; rw [g1]; rfl, rfl⟩
  have g1 : (([0, 3, 4, 5] : List Int).any fun x => x == kd) = false := g1
  have hm : mq kd q ops.length = ((kd == 6 && q.fmod 4 == 3) || (kd == 1 && decide (1 < (ops.length : Int)))) := by unfold mq; rw [g1]; rfl
  rw [hm]
  refine Go.name fun C0 hC0 => ?_
  refine gr ?_
  refine bH (fun b C => b = (kd == 6 && q.fmod 4 == 3) ∧ C = C0) ?_ ?_
  ·rw [hC0]
   clear hC0 C0 hm
   refine bZ (bB ?_)
   with_reducible refine bc (aG .here (.n4 (.n .here)) (aO fun _ => cP (aP ?_)))
   refine cA (fun g2 => ?_) fun g2 => ?_
   ·refine bB ?_
    with_reducible refine bc (aY (bF (c := L + 1 + 1 + 1) (.t2 (.there (.there .here))) (aO ?_))); intro _; refine dn (by decide) ?_; intro _; refine aO fun _ => cP (aP ?_)
    exact cA (fun g3 => cM (jp ⟨by rw [g2, g3]; rfl, rfl⟩)) fun g3 => jp ⟨by rw [g2, g3]; rfl, rfl⟩
   ·exact jp ⟨by rw [g2]; rfl, rfl⟩
  rintro b C ⟨rfl, rfl⟩
  refine cA (fun g2 => jp ⟨by rw [g2]; rfl, hC0⟩) fun g2 => ?_
  rw [g2, Bool.false_or]
  refine gr ?_
  refine bH (fun b C' => b = (kd == 1 && decide (1 < (ops.length : Int))) ∧ C' = C) ?_ ?_
  ·rw [hC0]
   clear hC0 C hm
   refine bZ (bB ?_)
   with_reducible refine bc (aG .here (.n4 (.n .here)) (aO fun _ => cP (aP ?_)))
   refine cA (fun g2 => ?_) fun g2 => ?_
   ·refine bB ?_
    with_reducible refine bc (aW (bG (gV (aA (aG .here (.n (.n (.n .here))) ?_))))); refine aH ?_; refine iK (.there .here) (by rw [ag, af]; (apply aD; with_reducible assumption; decide)) fun tn => ?_
    rw [ag]
    with_reducible refine aO fun _ => o_gti (aP ?_)
    exact cA (fun g3 => cM (jp ⟨by rw [g2, g3]; rfl, rfl⟩)) fun g3 => jp ⟨by rw [g2, g3]; rfl, rfl⟩
   ·exact jp ⟨by rw [g2]; rfl, rfl⟩
  rintro b C2 ⟨rfl, rfl⟩
  exact cA (fun g3 => jp ⟨g3.symm, hC0⟩) fun g3 => jQ (jp ⟨g3.symm, hC0⟩)
 rintro b C ⟨rfl, rfl⟩
 rw [hC0]
 clear hC0 C
 refine cA (fun hb => ?_) fun hb => ?_
 ·rw [if_pos hb, if_pos hb] at h
  with_reducible refine aE (gx (oS .here .here (aG .here (.n .here) ?_))); refine eX (by assumption) ?_; intro _; refine aR .here .here (aJ (aE (bK (aI fun _ _ => aR .here (.n .here) ?_)))); refine aJ (aL ?_)
  exact h _ _
 ·rw [if_neg (by rw [hb]; decide), if_neg (by rw [hb]; decide)] at h
  exact aL (h _ _)
end
theorem f84 {q : Int} (h : q.fmod 8 = 3 ∨ q.fmod 8 = 7) : q.fmod 4 = 3 := by
 have e4 : q.fmod 4 = (q.fmod 8).fmod 4 := by
  rw [Int.fmod_eq_emod_of_nonneg _ (by decide), Int.fmod_eq_emod_of_nonneg _ (by decide), Int.fmod_eq_emod_of_nonneg _ (by decide)]; lia
 rw [e4]
 rcases h with h | h <;> rw [h] <;> rfl
theorem mv6 {q : Int} {n : Nat} (h : q.fmod 8 = 3 ∨ q.fmod 8 = 7) : mq 6 q n = true := by
 unfold mq
 rw [f84 h]; rfl
theorem mv_no {kd q : Int} {n : Nat} (g0 : ¬ kd = 0) (g1 : ¬ (kd = 1 ∧ 1 < (n : Int))) (g3 : kd ≠ 3) (g4 : kd ≠ 4) (g5 : ¬ kd = 5) (g : (kd == 6 && q.fmod 8 == 3) = false) (g9 : (kd == 6 && q.fmod 8 == 7) = false) : mq kd q n = false := by
 have a : (([0, 3, 4, 5] : List Int).any fun x => x == kd) = false := by
  rw [Bool.eq_false_iff]
  intro h
  obtain ⟨x, hx, e⟩ := List.any_eq_true.mp h
  rw [beq_iff_eq] at e
  subst e
  simp only [List.mem_cons, List.not_mem_nil, or_false] at hx
  rcases hx with h | h | h | h
  ·exact g0 h
  ·exact g3 h
  ·exact g4 h
  ·exact g5 h
 have b : (kd == 6 && q.fmod 4 == 3) = false := by
  rw [Bool.eq_false_iff]
  intro h
  rw [Bool.and_eq_true, beq_iff_eq, beq_iff_eq] at h
  obtain ⟨rfl, e⟩ := h
  have : q.fmod 8 = 3 ∨ q.fmod 8 = 7 := by
   rw [Int.fmod_eq_emod_of_nonneg _ (by decide)] at e ⊢
   lia
  rcases this with h | h
  ·rw [h] at g; exact absurd g (by decide)
  ·rw [h] at g9; exact absurd g9 (by decide)
 have c : (kd == 1 && decide (1 < (n : Int))) = false := by
  rw [Bool.eq_false_iff]
  intro h
  rw [Bool.and_eq_true, beq_iff_eq, decide_eq_true_eq] at h
  exact g1 h
 unfold mq
 rw [a, b, c]; rfl
section
variable {L OP sc W2 : Addr} {due held due' d0 h1 : Str} {dk hk u1 u2 kk : Tok} {r : List (Str × Value)} {ops : List Op9} {tx qv nv av : Option Value} {T T2 Z : az} {n k : Nat} {Q : FP}
theorem Nx9.mk' {ops : List Op9} {G0 V : az} (h : Nx9 prog w h0 o0 L OP sc i k ops V Q) : Nx9 prog w h0 o0 L OP sc i k ops (G0 ++ V) Q := by
 intro ops' T T2 t due held dk hk r tx qv nv av G h1 h2 h3 h4 h4b h5
 rw [show G ++ (G0 ++ V) = (G ++ G0) ++ V from (an _ _ _).symm]
 exact h ops' T T2 t due held dk hk r tx qv nv av (G ++ G0) h1 h2 h3 h4 h4b fun o ho => (h5 o ho).imp id fun q => ⟨q.1, q.2.app⟩
theorem Rt9.mk' {G0 V : az} (h : Rt9 prog w h0 o0 i V Q) : Rt9 prog w h0 o0 i (G0 ++ V) Q := by
 intro X T T2 t G h1 h2
 rw [show G ++ (G0 ++ V) = (G ++ G0) ++ V from (an _ _ _).symm]
 exact h X T T2 t (G ++ G0) h1 h2
theorem c9_br {kd q : Int} {kk qk : Tok} {tk1 wk1 wk2 : Tok} {QK : FP} (B : Base (KF w.params) h0) (LB : LamBase h0 cU be) (LB2 : LamBase h0 pZ dq) (W : kR i) (hroom : A.depth + 10 < recursionLimit) (hu : A.units + 2000 < cLine) (hh : A.handled = none) (hA : A.frames = some [aV w.params L])
  (hT : Tb be lamPos lamQ T) (hT2 : TbL dq lawQ T2) (hS : S9 (n + 1) k t d0 h1) (hk6 : k ≤ 660) (hl : ops.length = n + 1) (hop : ∀ o ∈ ops, OpOk V o) (hW : Has V W2 (ay [.str (ofString "TypeError") wk1, .str (bN (thR (dL q)) (ofString (thT (dL q)))) wk2]))
  (hmv : mq kd q ops.length = true → due = d0 ++ h1 ∧ held = ofString "") (hnv : mq kd q ops.length = false → due = d0 ∧ held = h1)
  (h : Nx9 prog w h0 o0 L OP sc i k ops V QK) (hr : Rt9 prog w h0 o0 i V QK) :
  Go h0 o0 (lawX (jd9 L OP sc i) due dk held hk [(ofString "kind", .int kd kk), (ofString "words", .ref W2)] ops (some (thV tk1 (dL q))) (some (.int q qk)) nv av (T ++ wr prog w i t (T2 ++ V))) (wpAny (model prog w) A (exec (lw0 w.params) (aV w.params L)) QK NoE) := by
 have bLen : bD h0 (ofString "len") (.builtin "len") := B.bltAt (by kernel_rfl!) (by kernel_rfl!) (by decide +kernel) (by decide +kernel)
 have hnz := hS.nz
 obtain ⟨Z, hZ⟩ : ∃ Z, Z = T ++ wr prog w i t (T2 ++ V) := ⟨_, rfl⟩
 rw [← hZ]
 refine bt ?_
 with_reducible refine bc (aG .here (.n4 (.n .here)) (aO fun _ => cP (aP ?_)))
 refine cA (fun g => ?_) fun g => ?_
 ·have g : kd = 0 := by simpa using g
  subst g
  obtain ⟨hD, rfl⟩ := hmv rfl
  clear hnv
  refine Go.thin (a := L) (m' := lawF (jd9 L OP sc i) due dk _ hk []) .here (.cons .here (.cons (.n .here) (.cons (.n (.n .here)) (.cons (.n (.n (.n .here))) (.cons (.n (.n (.n (.n .here)))) .nil))))) ?_
  rw [hZ]
  clear hZ Z
  refine fh (b' := ds (lw0 w.params)) ?_
  refine c9_S (d0 := d0) (h1 := h1) B LB W (by exact aX 4 (by with_reducible assumption)) (by lia) hh hA hT hS (by apply aD; with_reducible assumption; decide) hD hl fun o T' t' G dk' hp hG hT' hS' => ?_
  exact h _ T' T2 t' _ _ _ _ _ _ _ _ _ G hT' hT2 (by rw [ao, hl]; exact hS') (by simp) (by rw [ao]; exact ae _) fun o9 ho9 => by
   rcases List.mem_append.mp ho9 with ho9 | ho9
   ·exact .inl ho9
   ·rw [List.mem_singleton.mp ho9]; exact .inr ⟨hp, hG⟩
 have g0 : ¬ kd = 0 := by simpa using g
 refine aE ?_
 refine bt ?_
 refine Go.name fun C0 hC0 => ?_
 refine bH (fun b C => b = (kd == 1 && decide (1 < (ops.length : Int))) ∧ C = C0) ?_ ?_
 ·rw [hC0]
  clear hC0 C0 hZ h hr
  refine bZ (bB ?_)
  with_reducible refine bc (aG .here (.n4 (.n .here)) (aO fun _ => cP (aP ?_)))
  refine cA (fun g2 => ?_) fun g2 => ?_
  ·refine bB ?_
   with_reducible refine bc (aW (bG (gV (aA (aG .here (.n (.n (.n .here))) ?_))))); refine aH ?_; refine iK (.there .here) (by rw [ag, af]; (lia)) fun tn => ?_
   rw [ag]
   with_reducible refine aO fun _ => o_gti (aP ?_)
   exact cA (fun g3 => cM (jp ⟨by rw [g2, g3]; rfl, rfl⟩)) fun g3 => jp ⟨by rw [g2, g3]; rfl, rfl⟩
  ·exact jp ⟨by rw [g2]; rfl, rfl⟩
 rintro b C ⟨rfl, rfl⟩
 rw [hC0]
 clear hC0 C
 refine cA (fun g => ?_) fun g => ?_
 ·rw [Bool.and_eq_true, decide_eq_true_eq, beq_iff_eq] at g
  obtain ⟨g, g1⟩ := g
  subst g
  obtain ⟨hD, rfl⟩ := hmv (by unfold mq; rw [decide_eq_true g1]; simp)
  clear hnv
  refine Go.thin (a := L) (m' := lawF (jd9 L OP sc i) due dk _ hk []) .here (.cons .here (.cons (.n .here) (.cons (.n (.n .here)) (.cons (.n (.n (.n .here))) (.cons (.n (.n (.n (.n .here)))) .nil))))) ?_
  rw [hZ]
  clear hZ Z
  refine fh (b' := ds (lw1 w.params)) ?_
  obtain ⟨ops', o, rfl⟩ := ja (l := ops) fun e => by rw [e] at hl; cases hl
  have hl' : ops'.length = n := by rw [ao] at hl; exact Nat.succ.inj hl
  have ho := hop o (by simp)
  refine c9_E (d0 := d0) (h1 := h1) B W (by exact aX 4 (by with_reducible assumption)) hh hS (by apply aD; with_reducible assumption; decide) hD (by lia) ho.1 ho.2 fun t' dk' hS' => ?_
  refine aJ (aL (h ops' T T2 t' _ _ _ _ _ _ _ _ _ [] hT hT2 (by rw [hl']; exact hS') (fun e => ?_) (by rw [ao]; exact Nat.le_trans (Nat.le_add_right _ _) (Nat.le_succ _)) fun o9 ho9 => .inl (List.mem_append_left _ ho9)))
  rw [e, List.nil_append] at g1
  exact absurd g1 (show ¬ (1 : Int) < ((1 : Nat) : Int) from by decide)
 have g1 : ¬ (kd = 1 ∧ 1 < (ops.length : Int)) := by
  rintro ⟨e1, e2⟩
  rw [e1, decide_eq_true e2] at g
  cases g
 clear g
 refine aE ?_
 refine bt ?_
 refine Go.name fun C0 hC0 => ?_
 refine bH (fun b C => b = (kd == 3 || kd == 4) ∧ C = C0) ?_ ?_
 ·rw [hC0]
  clear hC0 C0 hZ h hr
  refine bZ (gr ?_)
  with_reducible refine bc (aG .here (.n4 (.n .here)) (aO fun _ => cP (aP ?_)))
  refine cA (fun g2 => jp ⟨by rw [g2]; rfl, rfl⟩) fun g2 => ?_
  refine gr ?_
  with_reducible refine bc (aG .here (.n4 (.n .here)) (aO fun _ => cP (aP ?_)))
  exact cA (fun g3 => jp ⟨by rw [g2, g3]; rfl, rfl⟩) fun g3 => jQ (jp ⟨by rw [g2, g3]; rfl, rfl⟩)
 rintro b C ⟨rfl, rfl⟩
 rw [hC0]
 clear hC0 C
 refine cA (fun g => ?_) fun g => ?_
 ·have hmt : mq kd q ops.length = true := by
   rw [Bool.or_eq_true, beq_iff_eq, beq_iff_eq] at g
   rcases g with rfl | rfl <;> rfl
  obtain ⟨hD, rfl⟩ := hmv hmt
  clear hnv
  rw [hZ]
  clear hZ Z
  refine fh (b' := ds (lw2 w.params)) ?_
  refine c9_C (d0 := d0) (h1 := h1) B LB2 W (by exact aX 4 (by with_reducible assumption)) (by lia) hh hA hT2 (fz _) hS (by apply aD; with_reducible assumption; decide) hD hW fun t' T2' hT2' hS' => ?_
  exact aJ (aL (aJ (aL (h ops T T2' t' _ _ _ _ _ _ _ _ _ [] hT hT2' (by rw [hl]; exact hS'.mono) (fun e => by rw [e] at hl; cases hl) (Nat.le_succ _) fun o9 ho9 => .inl ho9))))
 rw [Bool.or_eq_false_iff, beq_eq_false_iff_ne, beq_eq_false_iff_ne] at g
 obtain ⟨g3, g4⟩ := g
 refine aE ?_
 refine bt ?_
 with_reducible refine bc (aG .here (.n4 (.n .here)) (aO fun _ => cP (aP ?_)))
 refine Go.thin (a := L) (m' := lawF (jd9 L OP sc i) due dk held hk [(ofString "kind", .int kd kk)]) .here (.cons .here (.cons (.n .here) (.cons (.n (.n .here)) (.cons (.n (.n (.n .here))) (.cons (.n (.n (.n (.n .here)))) (.cons (.n4 (.n .here)) .nil)))))) ?_
 refine cA (fun g => ?_) fun g => ?_
 ·have g : kd = 5 := by simpa using g
  subst g
  obtain ⟨hD, rfl⟩ := hmv rfl
  clear hnv
  rw [hZ]
  clear hZ Z
  refine fh (b' := ds (lw3 w.params)) ?_
  refine c9_P (d0 := d0) (h1 := h1) B LB2 W (by exact aX 4 (by with_reducible assumption)) (by lia) hh hA hT2 hS (by apply aD; with_reducible assumption; decide) hD fun t' T2' hT2' hS' => ?_
  exact aJ (aL (aJ (aL (aJ (aL (h ops T T2' t' _ _ _ _ _ _ _ _ _ [] hT hT2' (by rw [hl]; exact hS'.mono) (fun e => by rw [e] at hl; cases hl) (Nat.le_succ _) fun o9 ho9 => .inl ho9))))))
 have g5 : ¬ kd = 5 := by simpa using g
 refine aE ?_
 refine bt ?_
 refine Go.name fun C0 hC0 => ?_
 refine bH (fun b C => b = (kd == 6 && q.fmod 8 == 3) ∧ C = C0) ?_ ?_
 ·rw [hC0]
  clear hC0 C0 hZ h hr
  refine bZ (bB ?_)
  with_reducible refine bc (aG .here (.n4 (.n .here)) (aO fun _ => cP (aP ?_)))
  refine cA (fun g2 => ?_) fun g2 => ?_
  ·refine bB ?_
   with_reducible refine bc (aY (bF (c := L + 1 + 1 + 1) (.t2 (.there (.there .here))) (aO ?_))); intro _; refine dn (by decide) ?_; intro _; refine aO fun _ => cP (aP ?_)
   exact cA (fun g3 => cM (jp ⟨by rw [g2, g3]; rfl, rfl⟩)) fun g3 => jp ⟨by rw [g2, g3]; rfl, rfl⟩
  ·exact jp ⟨by rw [g2]; rfl, rfl⟩
 rintro b C ⟨rfl, rfl⟩
 rw [hC0]
 clear hC0 C
 refine cA (fun g => ?_) fun g => ?_
 ·rw [Bool.and_eq_true, beq_iff_eq, beq_iff_eq] at g
  obtain ⟨g, g8⟩ := g
  subst g
  obtain ⟨hD, rfl⟩ := hmv (mv6 (.inl g8))
  clear hnv
  refine Go.thin (a := L) (m' := lawF (jd9 L OP sc i) due dk _ hk []) .here (.cons .here (.cons (.n .here) (.cons (.n (.n .here)) (.cons (.n (.n (.n .here))) (.cons (.n (.n (.n (.n .here)))) .nil))))) ?_
  refine fh (b' := ds (kg w.params)) ?_
  refine c9_V1 B hh hu fun unk a W9 dd j1 j2 j3 hun hdd => ?_
  rw [hZ]
  clear hZ Z
  refine Go.push1 (X := [_, _, _, _, _, _, _, _]) ?_
  refine Go.push1 (X := [_, _, _, _, _, _, _]) ?_
  refine c9_V2 (d0 := d0) (h1 := h1) B LB LB2 W hroom hu hh hA hT hT2 hS (by apply aD; with_reducible assumption; decide) hD hun hdd (.there .here) .here fun X T' T2' t' hT' hT2' => ?_
  exact bT (bT (bT (bT (hr X T' T2' t' [_, _] hT' hT2'))))
 refine aE ?_
 refine bt ?_
 refine Go.name fun C0 hC0 => ?_
 refine bH (fun b C => b = (kd == 6 && q.fmod 8 == 7) ∧ C = C0) ?_ ?_
 ·rw [hC0]
  clear hC0 C0 hZ h hr
  refine bZ (bB ?_)
  with_reducible refine bc (aG .here (.n4 (.n .here)) (aO fun _ => cP (aP ?_)))
  refine cA (fun g2 => ?_) fun g2 => ?_
  ·refine bB ?_
   with_reducible refine bc (aY (bF (c := L + 1 + 1 + 1) (.t2 (.there (.there .here))) (aO ?_))); intro _; refine dn (by decide) ?_; intro _; refine aO fun _ => cP (aP ?_)
   exact cA (fun g3 => cM (jp ⟨by rw [g2, g3]; rfl, rfl⟩)) fun g3 => jp ⟨by rw [g2, g3]; rfl, rfl⟩
  ·exact jp ⟨by rw [g2]; rfl, rfl⟩
 rintro b C ⟨rfl, rfl⟩
 rw [hC0]
 clear hC0 C
 refine Go.thin (a := L) (m' := lawF (jd9 L OP sc i) due dk held hk []) .here (.cons .here (.cons (.n .here) (.cons (.n (.n .here)) (.cons (.n (.n (.n .here))) (.cons (.n (.n (.n (.n .here)))) .nil))))) ?_
 refine cA (fun g9 => ?_) fun g9 => ?_
 ·rw [Bool.and_eq_true, beq_iff_eq, beq_iff_eq] at g9
  obtain ⟨g9, g8⟩ := g9
  subst g9
  obtain ⟨hD, rfl⟩ := hmv (mv6 (.inr g8))
  clear hnv
  refine fh (b' := ds (jC w.params)) ?_
  refine c9_T1 B hh hroom fun ks a W9 f kv j1 j2 rr Tn hks hbad => ?_
  rw [hZ]
  clear hZ Z
  refine Go.push1 (X := [_, _, _, _, _, _, _, _]) ?_
  refine Go.push1 (X := [_, _, _, _, _, _, _]) ?_
  refine c9_T2 (d0 := d0) (h1 := h1) B LB LB2 W hroom hu hh hA hT hT2 hS (by apply aD; with_reducible assumption; decide) hD hks hbad (.there .here) .here fun X T' T2' t' hT' hT2' => ?_
  exact bT (bT (bT (bT (bT (hr X T' T2' t' [_, _] hT' hT2')))))
 have hmf := mv_no g0 g1 g3 g4 g5 g g9
 obtain ⟨rfl, rfl⟩ := hnv hmf
 clear hmv
 rw [hZ]
 clear hZ Z
 refine fh (b' := ifE (jC w.params)) ?_
 refine c9_D B (by exact aX 4 (by with_reducible assumption)) hS (by apply aD; with_reducible assumption; decide) fun t' d hk' hS' => ?_
 exact aJ (aL (aJ (aL (aJ (aL (aJ (aL (aJ (aL (h ops T T2 t' _ _ _ _ _ _ _ _ _ [] hT hT2 (by rw [hl]; exact hS'.mono) (fun e => by rw [e] at hl; cases hl) (Nat.le_succ _) fun o9 ho9 => .inl ho9))))))))))
end
theorem pK {M : Model} {st st' : Stmt} {Q : FP} (e : st = st') (h : Go h0 o0 cs (wpAny M A (exec st' env) Q E)) : Go h0 o0 cs (wpAny M A (exec st env) Q E) := e ▸ h
section
variable {L OP sc W2 : Addr} {due held due' d0 h1 : Str} {dk hk u1 u2 kk : Tok} {r : List (Str × Value)} {ops : List Op9} {tx qv nv av : Option Value} {T T2 Z : az} {n k : Nat} {Q : FP}
theorem c9_turn {x : Int} {ux : Tok} {pos : Pos} (B : Base (KF w.params) h0) (LB : LamBase h0 cU be) (LB2 : LamBase h0 pZ dq) (W : kR i) (hroom : A.depth + 10 < recursionLimit) (hu : A.units + 2000 < cLine) (hh : A.handled = none) (hA : A.frames = some [aV w.params L])
  (hT : Tb be lamPos lamQ T) (hT2 : TbL dq lawQ T2) (hS : S9 (n + 1) k t due held) (hk6 : k ≤ 660) (hl : ops.length = n + 1) (hop : ∀ o ∈ ops, OpOk V o)
  (h : Nx9 prog w h0 o0 L OP sc i k ops V Q) (hr : Rt9 prog w h0 o0 i V Q) :
  Go h0 o0 (lawX (jd9 L OP sc i) due dk held hk [] ops tx qv nv av (T ++ wr prog w i t (T2 ++ V))) (wpAny (model prog w) A (assign (.Name (ofString "x") pos) (aV w.params L) (.int x ux)) (fun _ => wpAny (model prog w) A (execs (lwF w.params) (aV w.params L)) Q NoE) NoE) := by
 have gThing : bA h0 (ofString "_law_thing") (.ref gY) := B.glob (by kernel_rfl!) (by kernel_rfl!)
 obtain ⟨Z, hZ⟩ : ∃ Z, Z = T ++ wr prog w i t (T2 ++ V) := ⟨_, rfl⟩
 rw [← hZ]
 refine nn ?_
 with_reducible refine aR .here (.n4 (.n .new)) ?_
 refine aE ?_
 with_reducible refine jX (da (aA (aY (aG .here (.n4 (.n .here)) (aO ?_))))); intro _; refine dn (by decide) ?_; intro _; refine aA (aY (aG .here (.n4 (.n .here)) (aO ?_))); intro _; refine eK (by decide) (by decide) ?_; intro _; refine aH (cY fun _ => nT hh .here (aR (.there .here) (.n4 (.n (.n .new))) (fj (c := L + 1 + 1 + 1) (.t4 (.there .here)) (aJ ?_)))); refine aE (jX (aW (ch ?_))); refine dK (aA (bF (c := L + 1 + 1 + 1) (.t4 (.there .here)) (aH (ck ?_))))
 refine gj B (by lia) fun T9 W9 j0 j1 j2 => ?_
 skip
 with_reducible refine nT hh .here (fj (c := L + 1 + 1 + 1 + 1) (.t4 (.there (.there .here))) (aR (.t2 (.there .here)) (.n4 (.n (.n (.n .new)))) ?_))
 refine aJ ?_
 have hnz := hS.nz
 have hbz := hS.bz
 refine Go.thin (a := L) (m' := lawF (jd9 L OP sc i) due dk held hk [(ofString "kind", .int (x.fmod 8) _), (ofString "words", .ref W9)]) (.t2 (.there .here)) (.cons .here (.cons (.n .here) (.cons (.n (.n .here)) (.cons (.n (.n (.n .here))) (.cons (.n (.n (.n (.n .here)))) (.cons (.n4 (.n (.n .here))) (.cons (.n4 (.n (.n (.n .here)))) .nil))))))) ?_
 refine Go.sel (cs' := (W9, ay [.str (ofString "TypeError") j1, .str (bN (thR (dL (x.fdiv 8))) (ofString (thT (dL (x.fdiv 8))))) j2]) :: lawX (jd9 L OP sc i) due dk held hk [(ofString "kind", .int (x.fmod 8) _), (ofString "words", .ref W9)] ops (some (thV j0 (dL (x.fdiv 8)))) (some (.int (x.fdiv 8) _)) nv av Z) (.pick (.there .here) (.pick (.there (.there .here)) (.pick (.there (.there .here)) (.pick (.there (.there .here)) (.pick (.there (.there .here)) (.pick (.there (.there .here)) (.pick (.there (.there .here)) (.pick (.there (.there .here)) (.tail (.there (.there .refl))))))))))) ?_
 rw [hZ]
 clear hZ Z
 refine Go.push1 (X := [_, _, _, _, _, _, _]) ?_
 refine aE ?_
 refine pK (st' := oG (lwF w.params) 2) (by kernel_rfl!) ?_
 refine c9_mv B (by lia) (by lia) fun dk' hk' => ?_
 refine aJ (aE ?_)
 refine pK (st' := lw0 w.params) (by kernel_rfl!) ?_
 refine c9_br (d0 := due) (h1 := held) B LB LB2 W hroom hu hh hA hT hT2 hS hk6 hl (fun o ho => ⟨(hop o ho).1, .there (hop o ho).2⟩) .here (fun e => by rw [if_pos e, if_pos e]; exact ⟨rfl, rfl⟩) (fun e => by rw [e]; exact ⟨rfl, rfl⟩) ?_ ?_
 ·intro ops' T' T2' t' due' held' dk9 hk9 r' tx' qv' nv' av' G q1 q2 q3 q4 q4b q5
  exact aJ (aL (h.mk' (G0 := [_]) ops' T' T2' t' due' held' dk9 hk9 r' tx' qv' nv' av' G q1 q2 q3 q4 q4b q5))
 ·intro X T' T2' t' G q1 q2
  exact bT (hr.mk' (G0 := [_]) X T' T2' t' G q1 q2)
end
section
variable {L OP sc W2 : Addr} {due held due' d0 h1 : Str} {dk hk u1 u2 kk : Tok} {r : List (Str × Value)} {ops : List Op9} {tx qv nv av : Option Value} {T T2 Z : az} {n k : Nat} {Q : FP}
theorem c9_W {o : Op9} (B : Base (KF w.params) h0) (W : kR i) (hroom : A.depth + 6 < recursionLimit) (hh : A.handled = none)
  (hS : S9 (n + 1) k t due held) (hk6 : k ≤ 670) (hl : ops.length ≤ 1000) (hp : o.p ∈ na) (hG : Has V o.a (ay [.str o.p.1 o.k1, .str o.p.2 o.k2]))
  (h : ∀ t' due' dk' hk', S9 n (k + 2) t' due' (ofString "") → Go h0 o0 (lawX (jd9 L OP sc i) due' dk' (ofString "") hk' [] ops tx qv nv av (T ++ wr prog w i t' (T2 ++ V))) (Q .next)) :
  Go h0 o0 (lawX (jd9 L OP sc i) due dk held hk [] (ops ++ [o]) tx qv nv av (T ++ wr prog w i t (T2 ++ V))) (wpAny (model prog w) A (execs (forB (oG (nx w.params) 9)) (aV w.params L)) Q NoE) := by
 have z1 : (ofString "</").length = 2 := by decide +kernel
 have z2 : (ofString ">").length = 1 := by decide +kernel
 have hnz := hS.nz
 have hbz0 := hS.bz
 obtain ⟨o1, o2, o3, o4, _⟩ := fC o.p hp
 have hlast : (ops ++ [o]).map Op9.ref = ops.map Op9.ref ++ [.ref o.a] := by rw [ai]; rfl
 have hGo : ∀ op T t, Has (lawX (jd9 L OP sc i) due dk held hk [] op tx qv nv av (T ++ wr prog w i t (T2 ++ V))) o.a (ay [.str o.p.1 o.k1, .str o.p.2 o.k2]) := fun op T t => .t4 (.t2 (.there (.skip (bR (.skip hG)))))
 refine aE ?_
 with_reducible refine bf (bi (bF (.there (.there .here)) ?_)); refine pE (by assumption) (.t4 (.t2 (.there (.skip a9)))) (.t4 (.t2 (.there (.skip aS)))) ?_; refine fO (aA (bE (bE (aG .here (.n (.n (.n .here))) (d4 ?_))))); refine aO fun _ => dT ?_; intro _
 refine dU (ys := ops.map Op9.ref) (v := .ref o.a) (.there .here) hlast ?_
 with_reducible refine aO ?_; intro _
 refine df (v := .str o.p.1 o.k1) (.new (hGo _ _ _)) (by decide) (by decide) rfl (by with_unfolding_all rfl) ?_
 with_reducible refine aH (ck ?_)
 refine bv ?_
 show Go h0 o0 ([_, _, _, _, _, _, _] ++ (T ++ wr prog w i t (T2 ++ V))) _
 refine Go.sIn (oU (p := o.p) B hh (by exact aX 2 (by with_reducible assumption)) W.rw W.st hS (by apply aD; with_reducible assumption; decide) hp fun t' hS' => Go.sOut ?_)
 show Go h0 o0 (lawX (jd9 L OP sc i) due dk held hk [] (ops ++ [o]) tx qv nv av (T ++ wr prog w i t' (T2 ++ V))) _
 with_reducible refine aJ (aE (gx (oS .here .here (aY (aY ?_))))); refine aY (aG .here (.n .here) (aI ?_)); intro _ _; refine bu (by rw [z1, af]; (lia)) fun k3 => ?_; refine bE (bi (aG .here (.n (.n (.n .here))) (kC (.there .here) (fn ?_)))); refine kA (xs := (ops ++ [o]).map Op9.ref) (ys := ops.map Op9.ref) (y := .ref o.a) hlast (.there .here) (by rw [ag, ao, af]; simp; (apply aD; with_reducible assumption; decide)) ?_; refine aO ?_; intro _
 refine df (v := .str o.p.2 o.k2) (.new (hGo _ _ _)) (by decide) (by decide) rfl (by with_unfolding_all rfl) ?_
 with_reducible refine bu (by rw [ah, z1, af]; (lia)) fun k4 => ?_; refine aI ?_; intro _ _; refine bu (by rw [ah, ah, z1, z2, af]; (lia)) fun k5 => ?_; refine eX (by rw [ah, ah, ah, z1, z2, af]; (lia)) fun k6 => ?_
 have ed : due ++ (held ++ ofString "</" ++ o.p.2 ++ ofString ">") = due ++ held ++ (ofString "</" ++ o.p.2 ++ ofString ">") := by simp only [lR]
 rw [ed]
 with_reducible refine aR .here .here (aJ (aE (bK (aI fun _ _ => aR .here (.n .here) ?_)))); refine aJ (aL ?_)
 exact h t' _ k6 _ hS'
end
theorem ser_m1 : ofString "cannot serialize -1 (type int)" = bN (ofString (toString (-1 : Int))) (ofString "int") := by decide +kernel
theorem nl_nl (d : Str) : d ++ ofString "\n" ++ ofString "\n" = d ++ ofString "\n\n" := by
 rw [lR, show ofString "\n" ++ ofString "\n" = ofString "\n\n" from by decide +kernel]
section
variable {L OP sc W2 : Addr} {due held due' d0 h1 : Str} {dk hk u1 u2 kk : Tok} {r : List (Str × Value)} {ops : List Op9} {tx qv nv av : Option Value} {T T2 Z : az} {n k : Nat} {Q : FP}
theorem c9_f1 {scv : List Value} {QK : FP} (B : Base (KF w.params) h0) (LB2 : LamBase h0 pZ dq) (W : kR i) (hroom : A.depth + 6 < recursionLimit) (hu : A.units + 200 < cLine) (hh : A.handled = none) (hA : A.frames = some [aV w.params L])
  (hT2 : TbL dq lawQ T2) (hS : S9 0 k t due (ofString "")) (hk6 : k ≤ 660) (hsc : Has V sc (ay scv)) (hscl : scv.length ≤ 1000)
  (h : ∀ t' T2' W9 j1 j2 v1, TbL dq lawQ T2' → S9 0 (k + 1) t' (due ++ ofString "\n") (ofString "") → Go h0 o0 (lawX (jd9 L OP sc i) due dk (ofString "") hk [(ofString "words", .ref W9)] [] (some v1) qv nv av (T ++ wr prog w i t' (T2' ++ ((W9, ay [j1, j2]) :: V)))) (wpAny (model prog w) A (execs ((nx w.params).drop 12) (aV w.params L)) QK NoE)) :
  Go h0 o0 (lawX (jd9 L OP sc i) due dk (ofString "") hk [] [] tx qv nv av (T ++ wr prog w i t (T2 ++ V))) (wpAny (model prog w) A (execs ((nx w.params).drop 10) (aV w.params L)) QK NoE) := by
 have gThing : bA h0 (ofString "_law_thing") (.ref gY) := B.glob (by kernel_rfl!) (by kernel_rfl!)
 have gRef : bA h0 (ofString "_law_refused") (.ref bW) := B.glob (by kernel_rfl!) (by kernel_rfl!)
 have bLen : bD h0 (ofString "len") (.builtin "len") := B.bltAt (by kernel_rfl!) (by kernel_rfl!) (by decide +kernel) (by decide +kernel)
 have z1 : (ofString "\n").length = 1 := by decide +kernel
 have hbz := hS.bz
 refine aE ?_
 with_reducible refine jX (aW (ch ?_)); refine dK (aA (aW (bG (gV (aA ?_))))); refine aG .here (.n (.n (.n (.n .here)))) (aH ?_)
 refine iK (xs := scv) (.t4 (.t2 (.there (.skip (bR (.skip hsc)))))) (by rw [af]; (apply aD; with_reducible assumption; decide)) fun tl => ?_
 with_reducible refine aH (ck ?_)
 refine gj B (by exact aX 6 (by with_reducible assumption)) fun T9 W9 j0 j1 j2 => ?_
 skip
 with_reducible refine nT hh .here (fj (c := L + 1 + 1 + 1 + 1) (.t4 (.there .here)) (aR (.there (.there .here)) (.n4 (.n .new)) ?_))
 refine aJ ?_
 refine Go.sub (cs' := (W9, ay [.str (ofString "TypeError") j1, .str (bN (thR (dL scv.length)) (ofString (thT (dL scv.length)))) j2]) :: lawX (jd9 L OP sc i) due dk (ofString "") hk [(ofString "words", .ref W9)] [] (some (thV j0 (dL scv.length))) qv nv av (T ++ wr prog w i t (T2 ++ V))) (ak _ _) ?_
 refine Go.push1 (X := [_, _, _, _, _, _, _]) ?_
 refine aE (bt ?_)
 with_reducible refine bZ (gr (bc (aW (ch ?_)))); refine dK (aA ?_)
 show Go h0 o0 ([_, _, _, _, _, _, _] ++ (T ++ wr prog w i t (T2 ++ _))) _
 refine Go.lIn ?_
 refine fL (X := [_, _, _, _, _, _, _]) (clos := clC L) (qual := lawQ) LB2 hT2 fun f c' T2' hT2' hc' => ?_
 refine Go.lOut (X := [_, _, _, _, _, _, _, _]) ?_
 with_reducible refine aH (ck ?_)
 refine pn (due' := due ++ ofString "\n") B W hroom (by exact aX 100 (by with_reducible assumption)) hh hA (fun _ => ⟨_, by with_unfolding_all rfl⟩) hc' (fz _) hS (by apply aD; with_reducible assumption; decide) (fun u => hS.mid0) fun t' a j3 j4 hS' => ?_
 with_reducible refine aG (.there .here) (.n4 (.n .here)) ?_
 refine oB (xs := [(ofString "TypeError", j3), (bN (thR (dL scv.length)) (ofString (thT (dL scv.length))), j4)]) (ys := [(ofString "TypeError", j1), (bN (thR (dL scv.length)) (ofString (thT (dL scv.length))), j2)]) .here (.t4 (.t4 (.skip (bR (.skip .here))))) rfl rfl rfl (by lia) ?_
 with_reducible refine aP (dh (gr (bc (bi (aI ?_))))); intro _ _; refine dZ (cT (aA (aG (.there .here) (.n (.n .here)) (aH ?_))))
 refine dv (l := t'.out) (x := ofString "") (D := i.O) (.t4 (.t4 (.skip mT))) (cZ (hS'.join (by apply aD; apply aF; with_reducible assumption; exact ae _; decide))) fun ta => ?_
 rw [show Txt.join (ofString "") (t'.out.map (·.1)) = due ++ ofString "\n" from hS'.outE]
 with_reducible refine aY (aG (.there .here) .here (aI ?_)); intro _ _; refine bu (by rw [z1, af]; (lia)) fun tb => ?_; refine oA ?_
 rw [show (due ++ ofString "\n" != due ++ ofString "\n") = false from by simp]
 repeat ((fail_if_success (with_reducible show Go _ _ _ (wpAny _ _ (execs (_ :: _) _) _ _))); with_reducible refine aP ?_; with_reducible refine dh ?_; with_reducible refine jQ ?_; with_reducible refine dh ?_; with_reducible refine aL ?_; with_reducible refine aJ ?_)
 refine Go.sub (ak _ _) ?_
 exact h t' T2' W9 _ _ _ hT2' hS'
theorem c9_f2 (B : Base (KF w.params) h0) (LB2 : LamBase h0 pZ dq) (W : kR i) (hroom : A.depth + 6 < recursionLimit) (hu : A.units + 200 < cLine) (hh : A.handled = none) (hA : A.frames = some [aV w.params L])
  (hT2 : TbL dq lawQ T2) (hS : S9 0 k t (due ++ ofString "\n") (ofString "")) (hk6 : k ≤ 660)
  (h : ∀ X t' T2' V', TbL dq lawQ T2' → Go h0 o0 (X ++ (T ++ wr prog w i t' (T2' ++ V'))) (Q (.ret (.bool true)))) :
  Go h0 o0 (lawX (jd9 L OP sc i) due dk (ofString "") hk [] [] tx qv nv av (T ++ wr prog w i t (T2 ++ V))) (wpAny (model prog w) A (execs ((nx w.params).drop 12) (aV w.params L)) Q NoE) := by
 have gRef : bA h0 (ofString "_law_refused") (.ref bW) := B.glob (by kernel_rfl!) (by kernel_rfl!)
 have z1 : (ofString "\n\n").length = 2 := by decide +kernel
 have z0 : (ofString "\n").length = 1 := by decide +kernel
 have hbz := hS.bz
 rw [ah, z0] at hbz
 refine aE ?_
 repeat ((fail_if_success (with_reducible show Go _ _ _ (wpAny _ _ (execs _ _) _ _))); with_reducible refine bK ?_; with_reducible refine bq ?_; with_reducible refine aA ?_; with_reducible refine aI ?_; intro _ _; with_reducible refine aA ?_; with_reducible refine aI ?_; intro _ _; with_reducible refine aH ?_; with_reducible refine bn ?_; intro _; with_reducible refine aR (.there .here) (.n4 (.n .new)) ?_; with_reducible refine aJ ?_)
 rename_i j1 _ j2 _ W9
 rw [ser_m1]
 refine Go.push1 (X := [_, _, _, _, _, _, _]) ?_
 refine aE (dC (pN ?_))
 with_reducible refine gU (aW (ch ?_)); refine dK (aA ?_)
 show Go h0 o0 ([_, _, _, _, _, _, _] ++ (T ++ wr prog w i t (T2 ++ _))) _
 refine Go.lIn ?_
 refine fL (X := [_, _, _, _, _, _, _]) (clos := [(ofString "writer", L + 1 + 1 + 1 + 1 + 1)]) (qual := lawQ) LB2 hT2 fun f c' T2' hT2' hc' => ?_
 refine Go.lOut (X := [_, _, _, _, _, _, _, _]) ?_
 with_reducible refine aH (ck ?_)
 refine k9_pi (due' := due ++ ofString "\n" ++ ofString "\n") (vf := fun u => .int (-1) u) (rr := ofString (toString (-1 : Int))) (Tn := "int") (nms := [ofString "writer"]) B W hroom (by exact aX 100 (by with_reducible assumption)) hh hA (fun _ => ⟨_, by with_unfolding_all rfl⟩) hc' (fun _ => by kernel_rfl!) (by kernel_rfl!) (fun _ => by with_unfolding_all rfl) (fun _ => by with_unfolding_all rfl) (fun Ll A' cs Q' E' hq hQ => ?_) (fun u => fq) (fun u => fy (by decide)) hS (by apply aD; with_reducible assumption; decide) (fun u => hS.mid0) fun t' a j3 j4 hS' => ?_
 ·with_reducible refine d4 (aO fun _ => dT ?_); intro _
  exact hQ _
 with_reducible refine aG (.there .here) (.n4 (.n .here)) ?_
 refine oC (xs := [(ofString "TypeError", j3), (bN (ofString (toString (-1 : Int))) (ofString "int"), j4)]) (ys := [(ofString "TypeError", j1), (bN (ofString (toString (-1 : Int))) (ofString "int"), j2)]) .here (.t4 (.t4 (.skip (bR (.skip .here))))) rfl rfl rfl (by lia) ?_
 with_reducible refine aP (fF (gU (bi (aI fun _ _ => dZ ?_)))); refine cT (aA (aG (.there .here) (.n (.n .here)) (aH ?_)))
 refine dv (l := t'.out) (x := ofString "") (D := i.O) (.t4 (.t4 (.skip mT))) (cZ (hS'.join (by apply aD; apply aF; with_reducible assumption; exact ae _; decide))) fun ta => ?_
 rw [show Txt.join (ofString "") (t'.out.map (·.1)) = due ++ ofString "\n" ++ ofString "\n" from hS'.outE, nl_nl]
 with_reducible refine aY (aG (.there .here) .here (aI ?_)); intro _ _; refine bu (by rw [z1, af]; (lia)) fun tb => ?_; refine gE (bT ?_)
 rw [beq_self_eq_true]
 exact h [_, _, _, _, _, _, _, _] t' T2' _ hT2'
end
theorem Go.ints {a : Addr} {xs : List Value} {C : az} {P : GP} (h1 : (∀ v ∈ xs, ∃ x u, v = Value.int x u) ∧ xs.length ≤ 126) (h : ∀ ys : List Value, ((∀ v ∈ ys, ∃ x u, v = Value.int x u) ∧ ys.length ≤ 126) → Go h0 o0 ((a, ay ys) :: C) P) : Go h0 o0 ((a, ay xs) :: C) P := h xs h1
theorem fl_eq {target : Expr} {b b' : List Stmt} {Q : FP} {v : Value} (e : b = b') (h : Go h0 o0 cs (FL prog w A env target b' h0 o0 Q v)) : Go h0 o0 cs (FL prog w A env target b h0 o0 Q v) := e ▸ h
theorem OpOk.grow {o : Op9} {G V : az} {ops : List Op9} (h : ∀ o ∈ ops, OpOk V o) (q : o ∈ ops ∨ OpOk G o) : OpOk (G ++ V) o := by
 rcases q with q | q
 ·exact ⟨(h o q).1, .skip (h o q).2⟩
 ·exact ⟨q.1, q.2.app⟩
section
variable {L OP sc W2 : Addr} {due held due' d0 h1 : Str} {dk hk u1 u2 kk : Tok} {r : List (Str × Value)} {ops : List Op9} {tx qv nv av : Option Value} {T T2 Z : az} {n k : Nat} {Q : FP}
theorem c9_wh {scv : List Value} (B : Base (KF w.params) h0) (LB2 : LamBase h0 pZ dq) (W : kR i) (hroom : A.depth + 10 < recursionLimit) (hu : A.units + 2000 < cLine) (hh : A.handled = none) (hA : A.frames = some [aV w.params L])
  (hT2 : TbL dq lawQ T2) (hS : S9 (ops.length) k t due held) (hne : ops ≠ []) (hk6 : k + 2 * ops.length ≤ 640) (hop : ∀ o ∈ ops, OpOk V o) (hsc : Has V sc (ay scv)) (hscl : scv.length ≤ 1000)
  (h : ∀ X t' T2' V', TbL dq lawQ T2' → Go h0 o0 (X ++ (T ++ wr prog w i t' (T2' ++ V'))) (Q (.ret (.bool true)))) :
  Go h0 o0 (lawX (jd9 L OP sc i) due dk held hk [] ops tx qv nv av (T ++ wr prog w i t (T2 ++ V))) (wpAny (model prog w) A (execs ((nx w.params).drop 9) (aV w.params L)) Q NoE) := by
 have hfin : ∀ k t due dk hk, S9 0 k t due (ofString "") → k ≤ 640 → Go h0 o0 (lawX (jd9 L OP sc i) due dk (ofString "") hk [] [] tx qv nv av (T ++ wr prog w i t (T2 ++ V))) (wpAny (model prog w) A (execs ((nx w.params).drop 10) (aV w.params L)) Q NoE) := by
  intro k t due dk hk hS hk6
  refine c9_f1 B LB2 W (by exact aX 4 (by with_reducible assumption)) (by lia) hh hA hT2 hS (by apply aD; with_reducible assumption; decide) hsc hscl fun t' T2' W9 j1 j2 v1 hT2' hS' => ?_
  refine Go.thin (a := L) (m' := lawF (jd9 L OP sc i) due dk _ hk []) .here (.cons .here (.cons (.n .here) (.cons (.n (.n .here)) (.cons (.n (.n (.n .here))) (.cons (.n (.n (.n (.n .here)))) .nil))))) ?_
  exact c9_f2 B LB2 W (by exact aX 4 (by with_reducible assumption)) (by lia) hh hA hT2' hS' (by apply aD; apply aF; with_reducible assumption; exact ae _; decide) h
 obtain ⟨QK, hQK⟩ : ∃ QK, QK = KS (model prog w) A NoE (aV w.params L) ((nx w.params).drop 10) Q := ⟨_, rfl⟩
 refine s_two (QK := QK) (hQK.trans (by kernel_rfl!)) ?_
 have hfin : ∀ k t due dk hk, S9 0 k t due (ofString "") → k ≤ 640 → Go h0 o0 (lawX (jd9 L OP sc i) due dk (ofString "") hk [] [] tx qv nv av (T ++ wr prog w i t (T2 ++ V))) (QK .next) := by
  intro k t due dk hk hS hk6
  rw [hQK]
  exact aJ (hfin k t due dk hk hS hk6)
 clear hQK h
 refine s_while (n := ops.length) (fun m C => ∃ (ops : List Op9) (k : Nat) (t : eo) (due held : Str) (dk hk : Tok), m = ops.length ∧ S9 ops.length k t due held ∧ k + 2 * ops.length ≤ 640 ∧ (ops = [] → held = ofString "") ∧ (∀ o ∈ ops, OpOk V o) ∧ C = lawX (jd9 L OP sc i) due dk held hk [] ops tx qv nv av (T ++ wr prog w i t (T2 ++ V))) ?_ ⟨ops, k, t, due, held, dk, hk, rfl, hS, hk6, fun e => absurd e hne, hop, rfl⟩
 rintro m C ⟨ops, k, t, due, held, dk, hk, rfl, hS, hk6, he, hop, rfl⟩
 obtain ⟨Z, hZ⟩ : ∃ Z, Z = T ++ wr prog w i t (T2 ++ V) := ⟨_, rfl⟩
 rw [← hZ]
 with_reducible refine bc (aG .here (.n (.n (.n .here))) (bq (aH (bn ?_)))); intro _
 refine o_nen (.there (.there .here)) .here (by lia) ?_
 refine Go.sub (ak _ _) ?_
 rw [show (!(ops.map Op9.ref).isEmpty) = !ops.isEmpty from by cases ops <;> rfl]
 with_reducible refine aP ?_
 rw [hZ]
 clear hZ Z
 rcases List.eq_nil_or_concat ops with rfl | ⟨ops', o, rfl⟩
 ·refine dh ?_
  have hd := he rfl
  subst hd
  exact hfin k t due dk hk hS hk6
 ·rw [List.concat_eq_append] at *
  have hl : (ops' ++ [o]).length = ops'.length + 1 := by simp
  rw [show (!(ops' ++ [o]).isEmpty) = true from by cases ops' <;> rfl]
  refine fF ?_
  have ho := hop o (by simp)
  rw [hl] at hS hk6
  refine fh (b' := forB (oG (nx w.params) 9)) ?_
  refine c9_W B W (by exact aX 4 (by with_reducible assumption)) hh hS (by lia) (by lia) ho.1 ho.2 fun t' due' dk' hk' hS' => ?_
  intro s H
  exact ⟨ops'.length, _, by rw [hl]; exact Nat.lt_succ_self _, ⟨ops', k + 2, t', due', _, dk', hk', rfl, hS', by (lia), fun _ => rfl, fun o9 h9 => hop o9 (List.mem_append_left _ h9), rfl⟩, H⟩
theorem c9_for {ns : List (Int × Tok)} {o : Op9} (B : Base (KF w.params) h0) (LB : LamBase h0 cU be) (LB2 : LamBase h0 pZ dq) (W : kR i) (hroom : A.depth + 10 < recursionLimit) (hu : A.units + 2000 < cLine) (hh : A.handled = none) (hA : A.frames = some [aV w.params L])
  (hT : Tb be lamPos lamQ T) (hT2 : TbL dq lawQ T2) (hS : S9 1 1 t due held) (hns : ns.length ≤ 63) (ho : OpOk V o)
  (h : ∀ X T T2 t V, Tb be lamPos lamQ T → TbL dq lawQ T2 → Go h0 o0 (X ++ (T ++ wr prog w i t (T2 ++ V))) (Q (.ret (.bool true)))) :
  Go h0 o0 ((sc, ay (ns.map fun p => Value.int p.1 p.2)) :: lawX (jd9 L OP sc i) due dk held hk [] [o] tx qv nv av (T ++ wr prog w i t (T2 ++ V))) (wpAny (model prog w) A (execs ((nx w.params).drop 8) (aV w.params L)) Q NoE) := by
 have bLen : bD h0 (ofString "len") (.builtin "len") := B.bltAt (by kernel_rfl!) (by kernel_rfl!) (by decide +kernel) (by decide +kernel)
 obtain ⟨scv, hscv⟩ : ∃ scv, scv = ns.map fun p => Value.int p.1 p.2 := ⟨_, rfl⟩
 have hsi : ∀ v ∈ scv, ∃ x u, v = Value.int x u := by
  intro v hv
  rw [hscv] at hv
  obtain ⟨p, _, rfl⟩ := List.mem_map.mp hv
  exact ⟨_, _, rfl⟩
 have hz : scv.length ≤ 63 := by rw [hscv, ag]; exact hns
 rw [← hscv]
 clear hscv
 obtain ⟨QK, hQK⟩ : ∃ QK, QK = KS (model prog w) A NoE (aV w.params L) ((nx w.params).drop 9) Q := ⟨_, rfl⟩
 refine s_two (QK := QK) (hQK.trans (by kernel_rfl!)) ?_
 have hwh : ∀ ops T T2 t due held dk hk tx qv nv av V k, Tb be lamPos lamQ T → TbL dq lawQ T2 → S9 (ops.length) k t due held → ops ≠ [] → k + 2 * ops.length ≤ 640 → (∀ o ∈ ops, OpOk V o) → Has V sc (ay scv) → Go h0 o0 (lawX (jd9 L OP sc i) due dk held hk [] ops tx qv nv av (T ++ wr prog w i t (T2 ++ V))) (QK .next) := by
  intro ops T T2 t due held dk hk tx qv nv av V k hT hT2 hS hne hk6 hop hsc
  rw [hQK]
  exact aJ (c9_wh B LB2 W hroom hu hh hA hT2 hS hne hk6 hop hsc (by apply aD; with_reducible assumption; decide) fun X t' T2' V' hT2' => h X T T2' t' V' hT hT2')
 have hret : ∀ X T T2 t V, Tb be lamPos lamQ T → TbL dq lawQ T2 → Go h0 o0 (X ++ (T ++ wr prog w i t (T2 ++ V))) (QK (.ret (.bool true))) := by
  intro X T T2 t V hT hT2
  rw [hQK]
  exact bT (h X T T2 t V hT hT2)
 clear hQK h
 obtain ⟨Z, hZ⟩ : ∃ Z, Z = T ++ wr prog w i t (T2 ++ V) := ⟨_, rfl⟩
 rw [← hZ]
 refine s_for hh ?_ (fun _ => by with_unfolding_all rfl)
 with_reducible refine aY (aG (.there .here) (.n (.n (.n (.n .here)))) (aY (bq (aA (aO ?_))))); intro _; refine aH (bn fun _ => aW (bG (gV (aA ?_)))); refine aG (.there (.there .here)) (.n (.n (.n (.n .here)))) (aH ?_); refine iK (.there .here) (by rw [af]; (apply aD; with_reducible assumption; decide)) fun tn => ?_
 skip
 with_reducible refine o_mulL .here (by lia) (by lia) (by simp; (apply aD; with_reducible assumption; decide)) fun a3 => ?_; refine gF (.there (.there .here)) .here (by rw [af]; simp [List.length_flatten]; (apply aD; apply aF; with_reducible assumption; with_reducible assumption; decide)) fun XL => ?_
 refine Go.ints ⟨?_, ?_⟩ fun xs hxs => ?_
 ·intro v hv
  simp only [List.mem_append, List.mem_flatten, List.mem_replicate] at hv
  rcases hv with hv | ⟨l, ⟨_, rfl⟩, hv⟩
  ·exact hsi v hv
  ·exact ⟨_, _, by simpa using hv⟩
 ·simp [List.length_flatten]; (apply aD; apply aF; with_reducible assumption; with_reducible assumption; decide)
 refine Go.sub (cs' := (XL, ay xs) :: (sc, ay scv) :: lawX (jd9 L OP sc i) due dk held hk [] [o] tx qv nv av Z) (List.Sublist.cons_cons _ (.cons _ (.cons _ (List.Sublist.refl _)))) ?_
 rw [hZ]
 clear hZ Z
 refine Go.push1 (X := [_, _, _, _, _, _, _, _]) ?_
 refine Go.push1 (X := [_, _, _, _, _, _, _]) ?_
 refine fl_eq (b' := lwF w.params) (by kernel_rfl!) ?_
 refine fl0 (xs := xs) (fun n C => ∃ (ops : List Op9) (T T2 : az) (t : eo) (due held : Str) (dk hk : Tok) (tx qv nv av : Option Value) (V : az), Tb be lamPos lamQ T ∧ TbL dq lawQ T2 ∧ S9 ops.length (1 + 2 * n) t due held ∧ ops ≠ [] ∧ ops.length ≤ n + 1 ∧ (∀ o ∈ ops, OpOk V o) ∧ Has V XL (ay xs) ∧ Has V sc (ay scv) ∧ C = lawX (jd9 L OP sc i) due dk held hk [] ops tx qv nv av (T ++ wr prog w i t (T2 ++ V))) ⟨[o], T, T2, t, due, held, dk, hk, tx, qv, nv, av, _, hT, hT2, hS, by simp, ae _, fun o9 h9 => ?_, .there .here, .here, rfl⟩ ?_ ?_ ?_
 ·rw [List.mem_singleton.mp h9]
  exact ⟨ho.1, .there (.there ho.2)⟩
 ·rintro n C ⟨ops, T, T2, t, due, held, dk, hk, tx, qv, nv, av, V, _, _, _, _, _, _, hX, _, rfl⟩
  exact .t4 (.t2 (.there (Has.skip (bR (.skip hX)))))
 ·rintro n v C K' hv ⟨ops, T, T2, t, due, held, dk, hk, tx, qv, nv, av, V, hT, hT2, hS, hne, hlen, hop, hX, hsc, rfl⟩ _
  obtain ⟨x, ux, rfl⟩ := hxs.1 v (List.mem_of_getElem? hv)
  have hn : n < xs.length := (List.getElem?_eq_some_iff.mp hv).1
  have hx := hxs.2
  obtain ⟨m, hm⟩ : ∃ m, ops.length = m + 1 := by
   cases ops with
   | nil => exact absurd rfl hne
   | cons a l => exact ⟨l.length, rfl⟩
  simp only [List.cons_append, an, ← bP]
  refine c9_turn (n := m) B LB LB2 W hroom hu hh hA hT hT2 (by rw [← hm]; exact hS) (by lia) hm (fun o9 h9 => ⟨(hop o9 h9).1, (hop o9 h9).2.app⟩) ?_ ?_
  ·intro ops' T' T2' t' due' held' dk9 hk9 r' tx' qv' nv' av' G q1 q2 q3 q4 q4b q5
   refine Go.thin (a := L) (m' := lawF (jd9 L OP sc i) due' dk9 held' hk9 []) .here (.cons .here (.cons (.n .here) (.cons (.n (.n .here)) (.cons (.n (.n (.n .here))) (.cons (.n (.n (.n (.n .here)))) .nil))))) ?_
   exact tk_n ⟨ops', T', T2', t', due', held', dk9, hk9, tx', qv', nv', av', G ++ V, q1, q2, q3, q4, by (lia), fun o9 h9 => OpOk.grow hop (q5 o9 h9), .skip hX, .skip hsc, rfl⟩ (by simp only [List.cons_append, an, ← bP])
  ·intro X T' T2' t' G q1 q2
   exact tk_r (hret X T' T2' t' _ q1 q2)
 ·rintro C ⟨ops, T, T2, t, due, held, dk, hk, tx, qv, nv, av, V, hT, hT2, hS, hne, hlen, hop, hX, hsc, rfl⟩
  have hx := hxs.2
  exact hwh ops T T2 t due held dk hk tx qv nv av V _ hT hT2 hS hne (by lia) hop hsc
end
theorem tw9 (a : Args) : (Code.builtin "type.__call__" a).weight ≤ 2 := by
 have h1 : (Code.builtin "type.__call__" a).frames = 0 := by kernel_rfl!
 have h2 : (Code.builtin "type.__call__" a).isCaller = false := by kernel_rfl!
 unfold Code.weight
 rw [h1, h2]
 split <;> split <;> simp
section
variable {L : Addr} {Q : VP}
set_option maxHeartbeats 8000000 in
theorem c_law {l : Addr} {ns : List (Int × Tok)} (B : Base (KF w.params) h0) (LB : LamBase h0 cU be) (LB2 : LamBase h0 pZ dq) (H : St0 h0 o0 [(be, cTab #[]), (dq, cTab #[])] s) (hl : h0.IsList l (ns.map fun p => Value.int p.1 p.2).toArray) (hns : ns.length ≤ 1000)
  (hroom : A.depth + 14 < recursionLimit) (hu : A.units + 2100 < cLine) (hh : A.handled = none) (hA : A.frames = some [])
  (h : ∀ T T2 cs, Tb be lamPos lamQ T → TbL dq lawQ T2 → Go h0 o0 (T ++ (T2 ++ cs)) (Q (.bool true))) : wpAny (model prog w) A (call (.ref io) [.ref l]) Q E s := by
 have gCls : bA h0 (ofString "C14NWriterTarget") (.ref bX) := B.glob (by kernel_rfl!) (by kernel_rfl!)
 refine x_fnC (x := ofString "script") B H (by kernel_rfl!) (by lia) (by kernel_rfl!) (by kernel_rfl!) fun L r0 R0 => ?_
 rw [show (cellsFrom (L + 1) (aK (KF w.params) io).scope.names []) = [(ofString "writer", L + 1 + 1 + 1 + 1 + 1), (ofString "thing", L + 1 + 1 + 1 + 1), (ofString "q", L + 1 + 1 + 1), (ofString "name", L + 1 + 1), (ofString "attrs", L + 1)] from by kernel_rfl!] at R0
 replace R0 : St h0 o0 [(L, cNs [(ofString "script", .ref l)]), (L + 1 + 1 + 1 + 1 + 1, aN none), (L + 1 + 1 + 1 + 1, aN none), (L + 1 + 1 + 1, aN none), (L + 1 + 1, aN none), (L + 1, aN none), (be, cTab #[]), (dq, cTab #[])] r0 := R0
 refine (show Go h0 o0 _ (wpAny _ _ _ _ _) from ?_) r0 R0
 clear R0 r0 H
 obtain ⟨A1, hA1⟩ : ∃ A1, A1 = A.deeper (callEnvC (aK (KF w.params) io) L io) := ⟨_, rfl⟩
 have hh1 : A1.handled = none := by rw [hA1]; exact hh
 have hroom1 : A1.depth + 13 < recursionLimit := by rw [hA1]; show A.depth + 1 + 13 < _; (with_reducible assumption)
 have hu1 : A1.units + 2000 < cLine := by rw [hA1]; show A.units + _ + 2000 < _; (lia)
 have hf1 : A1.frames = some [aV w.params L] := by rw [hA1]; exact Around.frames_deeper hA
 show Go h0 o0 _ (wpAny (model prog w) (A.deeper (callEnvC (aK (KF w.params) io) L io)) (execs (aZ (KF w.params) io) (aV w.params L)) _ NoE)
 rw [← hA1]
 refine aE ?_
 with_reducible refine bK ?_
 refine e_upL ?_
 with_reducible refine aG .here .here ?_
 refine up ?_
 with_reducible refine aO ?_; intro _
 refine upk (n := 63) rfl ?_
 refine cp (.old hl) (by rw [ag, af]; (apply aD; with_reducible assumption; decide)) fun sc => ?_
 rw [← List.map_take]
 have hns3 : (ns.take 63).length ≤ 63 := List.length_take_le _ _
 generalize ns.take 63 = ns3 at hns3 ⊢
 with_reducible refine aR (.there .here) .here (aJ (aE (bK (bq (aH ?_))))); refine bn fun _ => aR (.there (.there .here)) (.n .new) (aJ (aE (bK ?_)))
 rename_i F
 with_reducible refine e_ckw ?_ (by with_unfolding_all rfl); refine ch ?_
 refine c_ckw B (by kernel_rfl!) (by with_unfolding_all rfl) ?_ (by with_unfolding_all rfl) (by with_unfolding_all rfl)
 with_reducible refine aA (dH (aG (.there (.there .here)) (.n .here) ?_)); refine g_app .here fun W1 => ?_; refine aH ?_
 refine kw2 rfl rfl ?_
 refine ea_c ?_
 with_reducible refine kH ?_
 refine ea_n ?_
 refine kw3 ?_
 refine k_make (fI := qc) B (by kernel_rfl!) (by kernel_rfl!) (by kernel_rfl!) fun x dx => ?_
 refine Go.sel (cs' := (x, bg bX dx) :: (dx, cAttrs []) :: (W1, bQ "list.append" F) :: (F, ay []) :: (sc, ay (ns3.map fun p => Value.int p.1 p.2)) :: (L, cNs [(ofString "script", .ref sc), (ofString "pieces", .ref F)]) :: (L + 1 + 1 + 1 + 1 + 1, aN none) :: (L + 1 + 1 + 1 + 1, aN none) :: (L + 1 + 1 + 1, aN none) :: (L + 1 + 1, aN none) :: (L + 1, aN none) :: (be, cTab #[]) :: (dq, cTab #[]) :: []) (.pick .here (.pick .here (.pick .here (.pick .here (.pick .here (.pick .here (.pick .here (.pick .here (.pick .here (.pick .here (.pick .here (.pick .here (.pick .here (.tail .refl)))))))))))))) ?_
 refine cx_init (O := F) B hh1 (Nat.lt_of_le_of_lt (Nat.add_le_add_left (tw9 _) _) (by show A1.depth + 2 < _; (lia))) ?_ (fun s X => by with_reducible refine kp_binds X ?_; intro S; kernel_rfl!)
 intro i t e1 e2 e3 e4 e5 e6 e7 hst
 refine ib ?_
 subst e1 e2
 obtain ⟨s1, s2, s3, s4, s5, s6, s7⟩ := hst
 have hI : I9 [bC, []] t := ⟨s1, s2, s3, s4, s5, s6, s7⟩
 clear s1 s2 s3 s4 s5 s6 s7
 have W : kR i := ⟨e3, e4, e5, e6, e7⟩
 obtain ⟨T, hTe⟩ : ∃ T, T = [((be : Addr), cTab #[])] := ⟨_, rfl⟩
 obtain ⟨T2, hTe2⟩ : ∃ T2, T2 = [((dq : Addr), cTab #[])] := ⟨_, rfl⟩
 have hT : Tb be lamPos lamQ T := by rw [hTe]; exact .zero
 have hT2 : TbL dq lawQ T2 := by rw [hTe2]; exact .zero
 show Go h0 o0 (wr prog w i t ([_, _, _, _, _, _, _] ++ ([(be, cTab #[])] ++ ([(dq, cTab #[])] ++ [])))) _
 rw [← hTe, ← hTe2]
 clear hTe hTe2
 refine Go.sOut (X := [_, _, _, _, _, _, _]) (T := T) ?_
 simp only [List.cons_append, List.nil_append]
 with_reducible refine fj (c := L + 1 + 1 + 1 + 1 + 1) (.there (.there .here)) ?_
 refine aJ (aE ?_)
 with_reducible refine bf (bi (bF (.there (.there .here)) ?_)); refine g_mns (by assumption) (.t4 (.t2 (.there (.skip a9)))) (.t4 (.t2 (.there (.skip aS)))) ?_; refine fO (aA (aI fun _ _ => aA (aI fun _ _ => aH ?_))); refine ck ?_
 refine bv ?_
 show Go h0 o0 ([_, _, _, _, _, _, _] ++ (T ++ wr prog w i t (T2 ++ _))) _
 refine Go.sIn (l9_ns B (by lia) hI fun t' hI' => Go.sOut ?_)
 show Go h0 o0 ([_, _, _, _, _, _, _] ++ (T ++ wr prog w i t' (T2 ++ _))) _
 simp only [List.cons_append, List.nil_append]
 clear hI t
 repeat ((fail_if_success (with_reducible show Go _ _ _ (wpAny _ _ (execs _ _) _ _))); with_reducible refine aJ ?_)
 refine aE ?_
 with_reducible refine bf (bi (bF (.there (.there .here)) (gM (.t4 (.t2 (.there (.skip a9)))) (.t4 (.t2 (.there (.skip aS)))) (fO (aA ?_))))); refine aI fun _ _ => aA (jr fun _ => aH (ck ?_))
 refine bv ?_
 show Go h0 o0 ([_, _, _, _, _, _, _, _] ++ (T ++ wr prog w i t' (T2 ++ _))) _
 refine Go.tIn (l9_st1 B LB hh1 (by lia) (by lia) hf1 (FrOk.cons (by kernel_rfl!) rfl (.there (.there .here)) FrOk.nil) W.rw W.et W.ea hT hI' .here fun T' t hT' hS => Go.tOut ?_)
 refine Go.sub (ak _ _) ?_
 show Go h0 o0 ([_, _, _, _, _, _, _] ++ (T' ++ wr prog w i t (T2 ++ _))) _
 simp only [List.cons_append, List.nil_append]
 clear hI' t' hT T
 repeat ((fail_if_success (with_reducible show Go _ _ _ (wpAny _ _ (execs _ _) _ _))); with_reducible refine aJ ?_)
 refine aE ?_
 repeat ((fail_if_success (with_reducible show Go _ _ _ (wpAny _ _ (execs _ _) _ _))); with_reducible refine bK ?_; with_reducible refine aI ?_; intro _ _; with_reducible refine aR (.there .here) (.n (.n .new)) ?_; with_reducible refine aJ ?_)
 refine aE ?_
 repeat ((fail_if_success (with_reducible show Go _ _ _ (wpAny _ _ (execs _ _) _ _))); with_reducible refine bK ?_; with_reducible refine aI ?_; intro _ _; with_reducible refine aR (.there .here) (.n (.n (.n .new))) ?_; with_reducible refine aJ ?_)
 refine aE ?_
 repeat ((fail_if_success (with_reducible show Go _ _ _ (wpAny _ _ (execs _ _) _ _))); with_reducible refine bK ?_; with_reducible refine bq ?_; with_reducible refine aA ?_; with_reducible refine bq ?_; with_reducible refine aA ?_; with_reducible refine aI ?_; intro _ _; with_reducible refine aA ?_; with_reducible refine aI ?_; intro _ _; with_reducible refine aH ?_; with_reducible refine bn ?_; intro _; with_reducible refine aH ?_; with_reducible refine bn ?_; intro _; with_reducible refine aR (.t2 (.there .here)) (.n (.n (.n (.n .new)))) ?_; with_reducible refine aJ ?_)
 rename_i dk _ hk _ k1 _ k2 _ a1 OP
 refine Go.thin (a := L) (m' := lawF (jd9 L OP sc i) (ofString "<p:r xmlns:p=\"urn:a\">") dk (ofString "") hk []) (.t2 (.there .here)) (.cons (.n (.n .here)) (.cons (.n (.n (.n .here))) (.cons (.n .here) (.cons (.n (.n (.n (.n .here)))) (.cons .here .nil))))) ?_
 rw [show ([Value.ref a1] : List Value) = List.map Op9.ref [⟨a1, (ofString "{urn:a}r", ofString "p:r"), k1, k2⟩] from rfl]
 refine Go.sel (cs' := (a1, ay [.str (ofString "{urn:a}r") k1, .str (ofString "p:r") k2]) :: (sc, ay (ns3.map fun p => Value.int p.1 p.2)) :: lawX (jd9 L OP sc i) (ofString "<p:r xmlns:p=\"urn:a\">") dk (ofString "") hk [] [⟨a1, (ofString "{urn:a}r", ofString "p:r"), k1, k2⟩] none none none none (T' ++ wr prog w i t (T2 ++ []))) (.pick (.there .here) (.pick (.there .here) (.pick (.there .here) (.pick .here (.pick .here (.pick .here (.pick .here (.pick .here (.pick .here (.tail .refl)))))))))) ?_
 refine Go.push1 (X := [_, _, _, _, _, _, _, _]) ?_
 refine fh (b' := (nx w.params).drop 8) ?_
 refine c9_for B LB LB2 W (by exact aX 3 (by with_reducible assumption)) hu1 hh1 hf1 hT' hT2 hS hns3 ⟨show (ofString "{urn:a}r", ofString "p:r") ∈ na from by decide +kernel, .here⟩ fun X T T2 t V hT hT2 => ?_
 refine Go.lIn ?_
 refine Go.perm ?_ (h T T2 (X ++ wr prog w i t V) hT hT2)
 exact perm3.trans ((List.Perm.append_left _ perm3).trans perm3)
end
end
theorem law_goodT {c : ClaimW} {cl : Str → Option Addr} {mean : ExcName → Option Value} {args : List WData} {s₁ s' : Shared} {cs : az} {tabs : List (Addr × Addr)} (hT : TabsAt tabs s₁.heap) (H : St (ghostOf s₁.heap tabs) s₁ cs s') (hgr : ∀ q ∈ tabs, ∃ ps, s'.heap.get? q.2 = some (tabObj ps)) (hg : s₁.gens = #[]) (hr : ∀ cls, c.raises args cls = false) (hp : c.post args (.bool true) args = true) :
  GoodWG c cl mean args s₁ (.ok (.ret (.bool true))) s' := by
 have keep : ∀ b o, b ∉ tabs.map (·.2) → s₁.heap.get? b = some o → s'.heap.get? b = some o := fun b o hb e => H.keep b o (ghost_ne e hb)
 have grown : ∀ b o, b ∈ tabs.map (·.2) → s₁.heap.get? b = some o → isCodeTable s₁.heap b ∧ o = tabObj #[] ∧ ∃ ps, s'.heap.get? b = some (tabObj ps) := fun b o hb e => by
  obtain ⟨q, hq, rfl⟩ := List.mem_map.mp hb
  have e2 := (hT q hq).2
  rw [e] at e2
  exact ⟨((hT q hq).1.tab (hT q hq).2).isCodeTable, Option.some.inj e2, hgr q hq⟩
 refine ⟨.inl ⟨.bool true, .bool true, [], rfl, hr, .bool true, hp, unshared_nil⟩, ⟨fun b o e => ?_, fun b o e => ?_⟩, H.os, H.gens.2 (.of_eq hg)⟩
 ·by_cases hb : b ∈ tabs.map (·.2)
  ·obtain ⟨ht, rfl, ps, hP⟩ := grown b o hb e
   exact .inr (.inl ⟨ht, rfl, #[], ps, rfl, by rw [Array.empty_append]; exact hP⟩)
  ·exact .inl (keep b o hb e)
 ·by_cases hb : b ∈ tabs.map (·.2)
  ·obtain ⟨_, _, ps, hP⟩ := grown b o hb e
   exact ⟨_, hP⟩
  ·exact ⟨o, keep b o hb e⟩
end Mine
open PySem PySem.W PyProof.Rows
theorem PySem.Challenge.cw_dn0277_09_holds : PySem.Challenge.rw_dn0277_09.Holds := by
 refine holds_law Mine.look fun _ => Mine.hd ?_
 intro w s₀ s₁ mg mb G Y fa o pm cd doc dV kV ho hd hcd hD hmg hg args vals as hpre hlay hrd hwl hlo
 have KX := km_in_of Y
 have hT0 : s₁.heap.get? 116 = some (tabObj #[]) := km_tabs_of Y 116 (by simp)
 have hT1 : s₁.heap.get? 177 = some (tabObj #[]) := km_tabs_of Y 177 (by simp)
 have T := G.T
 obtain ⟨tabs, htabs⟩ : ∃ tabs : List (Addr × Addr), tabs = [(118, 116), (179, 177)] := ⟨_, rfl⟩
 have hTabs : TabsAt tabs s₁.heap := by
  intro q hq
  rw [htabs] at hq
  rcases List.mem_cons.mp hq with rfl | hq
  ·exact ⟨codeHd_of_K KX (by kernel_rfl!), hT0⟩
  ·rw [List.mem_singleton.mp hq]
   exact ⟨codeHd_of_K KX (by kernel_rfl!), hT1⟩
 have KG := ghost_K hTabs KX (by kernel_rfl!)
 have T2 := ghost_top hTabs T
 have hno : ∀ b, b ∈ tabs.map (·.2) → (ghostOf s₁.heap tabs).get? b = none := fun b hb => hideAll_none _ hb
 have hn0 := hno 116 (by rw [htabs]; simp)
 have hn1 := hno 177 (by rw [htabs]; simp)
 have B : Mine.Base (Mine.hd.heap_1 w.params) (ghostOf s₁.heap tabs) := ⟨KG, T2.nolimit, mb, T2.b, T2.builtins⟩
 obtain ⟨bm, ob, b1, b2, b3, b4, b5, b6⟩ := T2.bmain
 have hbP : bm ≠ 116 := fun q => by rw [q, hn0] at b3; cases b3
 have hbP1 : bm ≠ 177 := fun q => by rw [q, hn1] at b3; cases b3
 have hbG : bm ≠ mainGlobals := fun q => by
  obtain ⟨o, es, ep, e, hd, _⟩ := T2.g
  rw [q, e] at b3; cases b3; rw [hd] at b6; cases b6
 have LB : Mine.LamBase (ghostOf s₁.heap tabs) 118 116 := ⟨(codeHd_of_K KG (by kernel_rfl!)), mg, T2.g, (by decide), bm, ob, b1, b2, hbG, hbP, b3, b4, b5, b6⟩
 have LB2 : Mine.LamBase (ghostOf s₁.heap tabs) 179 177 := ⟨(codeHd_of_K KG (by kernel_rfl!)), mg, T2.g, (by decide), bm, ob, b1, b2, hbG, hbP1, b3, b4, b5, b6⟩
 have B1 : Mine.Base (Mine.hd.heap_1 w.params) s₁.heap := ⟨KX, T.nolimit, mb, T.b, T.builtins⟩
 have efa : fa = 180 := B1.addr (by kernel_rfl!) T.g (by kernel_rfl!) hmg
 subst efa
 wrow_args hpre hlay hrd hwl hlo
 rename_i ns _ _ _ _ _ _ _ l vs _ hL _ _ _ hI _ hcond _
 obtain ⟨ps, rfl, hps⟩ := Mine.ints_pairs hI
 have hst : Mine.St0 (ghostOf s₁.heap tabs) s₁ [(116, Mine.cTab #[]), (177, Mine.cTab #[])] s₁ := by
  refine ⟨fun b o e => of_hideAll _ e, ?_, ?_, by simp, Mine.GensOk.refl, rfl, Nat.le_refl _, ?_, ?_⟩
  ·intro p hp
   rcases List.mem_cons.mp hp with rfl | hp
   ·exact ⟨_, hT0, rfl⟩
   ·rw [List.mem_singleton.mp hp]
    exact ⟨_, hT1, rfl⟩
  ·intro p hp
   rcases List.mem_cons.mp hp with rfl | hp
   ·exact hn0
   ·rw [List.mem_singleton.mp hp]
    exact hn1
  ·intro p hp
   rcases List.mem_cons.mp hp with rfl | hp
   ·decide
   ·rw [List.mem_singleton.mp hp]
    decide
  ·obtain ⟨o, _, _, ho, _⟩ := B.ns (by kernel_rfl!)
   exact ⟨o, ho⟩
 refine wpAny_mono (Q := fun v s' => v = .bool true ∧ ∃ T T2 cs, Mine.Tb 116 Mine.lamPos Mine.lamQ T ∧ Mine.TbL 177 Mine.lawQ T2 ∧ Mine.St (ghostOf s₁.heap tabs) s₁ (T ++ (T2 ++ cs)) s') (E := Mine.NoE) ?_ ?_ (fun _ _ q => q.elim)
 ·refine Mine.c_law B LB LB2 hst (ghost_list hTabs hL) (by rw [hps]; lia) (by decide) (by decide) rfl rfl fun T T2 cs hT hT2 s' H => ⟨rfl, T, T2, cs, hT, hT2, H⟩
 ·rintro v s' ⟨rfl, T, T2, cs, hT, hT2, H⟩
  refine Mine.law_goodT hTabs H ?_ hg (fun _ => rfl) (postW_of rfl (w_eq_bool (w_res rfl) w_lit) rfl)
  intro q hq
  rw [htabs] at hq
  rcases List.mem_cons.mp hq with rfl | hq
  ·cases hT with
   | zero => obtain ⟨o, ho, rfl⟩ := H.get .here; exact ⟨_, ho⟩
   | one => obtain ⟨o, ho, rfl⟩ := H.get (.there .here); exact ⟨_, ho⟩
  ·rw [List.mem_singleton.mp hq]
   obtain ⟨ps, c9, rfl, _⟩ := hT2
   obtain ⟨o, ho, rfl⟩ := H.get (.skip .here)
   exact ⟨_, ho⟩

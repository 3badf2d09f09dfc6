import PyProof.Rows.All
import Wide.All
import OpenK.AllK
import Wide.FinOn
import KE.KBoundM
import KE.KDictList
import KE.KDictOf
import KE.KEqDict
import KE.KFromBytes
import KE.KItemsList
import KE.KLam
import KE.KListMore
import KE.KPar
import KE.KRevIter
import KE.KRevSl
import KE.KSetDisp
import KE.KSortAsk
import KE.KSortKey
import KE.KSortTup
import KE.KTypeName
import KE.KxPercentT
import PyProof.RulesDelMore
import Lean
import PySem.Challenge.RW_dn0277_05
open PySem PySem.W PyProof.Rows
set_option linter.unusedVariables false
set_option linter.unusedSectionVars false
set_option linter.unusedSimpArgs false
set_option Elab.async false
set_option maxRecDepth 100000
set_option maxHeartbeats 8000000
set_option genSizeOf false
set_option genInjectivity false
namespace Mine
theorem look : PySem.Challenge.rw_dn0277_05.wellSaid = true := by
 delta OpenLaw.wellSaid
 repeat' (first | with_reducible refine look_both ?_ ?_ | delta OpenRow.wellSaid | delta OpenRow.partSaid | delta looksOpen | delta OpenScript.wellSaid)
 all_goals decide +kernel
open_top hd for PySem.Challenge.rw_dn0277_05.row
set_option maxHeartbeats 4000000
open PySem PySem.W PySem.Calls PyProof.Rows
open PySem.Str (ofString)
open _root_.List renaming dropLast_concat_getLast → rL, sublist_append_right → rM, getElem?_eq_some_iff → rO, drop_eq_getElem_cons → rP, getElem?_eq_getElem → rQ, length_eq_zero_iff → rT, mem_singleton_self → rV, take_of_length_le → rZ, length_singleton → r4, mem_append_right → r6, length_replicate → r7, mem_of_getElem? → se, mem_append_left → sg, map_eq_nil_iff → sq, mem_singleton → su, pairwise_cons → sz, getElem?_map → sD, take_add_one → sE, pairwise_map → sG, nodup_append → sH, size_toArray → sL, flatMap_cons → sM, cons_append → sN, length_cons → sO, perm_middle → sQ, lookup_cons → sR, getElem_mem → sS, mem_flatMap → sV, all_eq_true → sY, mem_reverse → sZ, append_nil → s7, mem_append → s8, nodup_cons → s9, nil_append → te, length_nil → tf, mem_filter → tw, mem_cons → tB, mem_map → tG, map_map → tI, map_nil → tJ, length → tQ, Perm → tY
open _root_.Array renaming getElem?_eq_getElem → rN, getElem?_toList → sd, length_toList → so
open PySem renaming wpAny_assignInOrder_more → rR, builtinLookup_eq_fast → r9, evalPart_none_step → sC, foldedSetIterable → sF, wpAny_assign_Name → sJ, wpAny_newObj_type → sK, wpAny_call_entry → sW, letOwnedTupleGo → td, wpAny_loadPart' → th, recursionLimit → ty, strKind → tC, wpAny_standAt → tD, wpAny_of_eq → tR, mainGlobals → tS, storeName → tX, getMethod → ua, Fin → ub, compareOp → uc, starEach → ue, sizeLine → ug, SetTable → uj, callEnvC → um, compEnvC → uq, callWith → ur, Builtin → uv, Program → uy, codeAny → uD, valueAt → uE, Shared → uF, assign → uG, rawInt → uH, backTo → uI, Around → uJ, wpAny → uL, model → uM, Value → uN, execs → uP, World → uQ, Addr → uR, eval → uU, Heap → uV, call → uW
open Option renaming isSome_iff_exists → rS, some → tU
open PySem.Builtin.List renaming listUpdate → rU
open PySem.Builtin.Range renaming rangeSize → rX
open List.Sublist renaming cons_cons → rY, append → sr, refl → sI
open PySem.Heap renaming get?_push_of_some → r3, get?_update_self → r5, get?_push_size → sm, SameBut → tK, lt_size → tM
open List.Perm renaming append_left → r8
open PySem.Around renaming under_plainId → sf
open Bool renaming and_eq_true_iff → sh, false_eq_true → sA, false_ne_true → sB, and_eq_true → sP
open PySem.Heap.SameBut renaming update → si
open Nat renaming add_le_add_left → sj, lt_of_lt_of_le → sw, lt_of_le_of_lt → sx, lt_of_le_of_ne → sy, le_add_right → sU, le_of_not_lt → sX, le_antisymm → to, lt_irrefl → tE, le_trans → tH, le_of_lt → tL, ne_of_lt → tN, zero_le → tO, le_succ → tP
open Option.some renaming inj → tq
open PySem.SetTable renaming below → tA, bits → tF
open PySem.Value renaming type → tV, ref → tW
open PySem.Str renaming empty → tZ, ofString → ud
open PyProof.Rows renaming wpS_bind → uh, wpS_pure → ul, SortKind → uu, SortSt → uK, Keyed → uO
open Prod renaming fst → uo
open Pure renaming pure → uT
abbrev ad := @wpAny_bind
abbrev ae := @wpAny_pure
abbrev af := @wpAny_mono
abbrev ah := @Nat.le_refl
abbrev aj := @sizeLine_eq
abbrev ak := @List.length_map
abbrev am := @Str.length_append
abbrev ao := @List.map_append
abbrev ap := @Nat.le_of_eq
abbrev aq := @List.sublist_cons_self
abbrev au := @List.mem_cons_of_mem
abbrev av := @List.append_assoc
abbrev aw := @List.length_append
abbrev az := @List.map_cons
abbrev aA := @List.mem_map_of_mem
abbrev aB := @List.mem_cons_self
abbrev aD := @wpAny_holding
abbrev VP := uN → uF → Prop
abbrev FP := Flow → uF → Prop
abbrev RP := Result → uF → Prop
abbrev GP := uF → Prop
variable {uX : uy} {w : uQ} {A : uJ} {E : VP} {s : uF} {env : Env} {h0 : uV} {o0 : uF}
namespace O
noncomputable def oG : List Nat → Nat → Nat
 | [], _ => 0
 | x :: _, 0 => x
 | _ :: xs, i + 1 => oG xs i
noncomputable abbrev OL := List Int
noncomputable def ji (c : Nat → Nat) : OL → Int
 | [] => 0
 | x :: xs => x * Int.ofNat (c 0) + ji (fun i => c (i + 1)) xs
noncomputable def iw : OL → OL → OL
 | [], ys => ys
 | x :: xs, [] => x :: xs
 | x :: xs, y :: ys => (x + y) :: iw xs ys
noncomputable def oX (m : Int) (xs : OL) : OL := xs.map (m * ·)
theorem f7 : ∀ (xs ys : OL) (c : Nat → Nat), ji c (iw xs ys) = ji c xs + ji c ys
 | [], ys, c => (Int.zero_add _).symm
 | x :: xs, [], c => (Int.add_zero _).symm
 | x :: xs, y :: ys, c => by
  show (x + y) * _ + ji _ (iw xs ys) = _;rw [f7 xs ys, Int.add_mul];exact (Int.add_assoc ..).trans ((congrArg (_ + ·) (Int.add_left_comm ..)).trans (Int.add_assoc ..).symm)
theorem kb (m : Int) : ∀ (xs : OL) (c : Nat → Nat), ji c (oX m xs) = m * ji c xs
 | [], c => (Int.mul_zero m).symm
 | x :: xs, c => by
  show m * x * _ + ji _ (oX m xs) = m * (_ + _);rw [kb m xs, Int.mul_add, Int.mul_assoc]
noncomputable def varO : Nat → OL
 | 0 => [1]
 | n + 1 => 0 :: varO n
theorem rq : ∀ (n : Nat) (c : Nat → Nat), ji c (varO n) = Int.ofNat (c n)
 | 0, c => (Int.add_zero _).trans (Int.one_mul _)
 | n + 1, c => (congrArg (· + _) (Int.zero_mul _)).trans ((Int.zero_add _).trans (rq n _))
noncomputable def npO : OL → Bool
 | [] => true
 | .ofNat 0 :: r => npO r
 | .negSucc _ :: r => npO r
 | _ => false
theorem qG : ∀ {l : OL} {c : Nat → Nat}, npO l = true → ji c l ≤ 0
 | [], c, _ => Int.le_refl 0
 | .ofNat 0 :: r, c, h => (Int.add_le_add (Int.le_of_eq (Int.zero_mul _)) (qG (l := r) h))
 | .negSucc n :: r, c, h => (Int.add_le_add (Int.mul_nonpos_of_nonpos_of_nonneg (Int.le_of_lt (Int.negSucc_lt_zero n)) (Int.natCast_nonneg _)) (qG (l := r) h))
noncomputable def cx (c : List Nat) : Nat → Nat
 | 0 => 1
 | n + 1 => oG c n
noncomputable def badO : OL → Bool
 | .negSucc _ :: r => npO r
 | _ => false
theorem bad_no {l : OL} {c : List Nat} (h : badO l = true) : ji (cx c) l < 0 := match l, h with
 | .negSucc n :: r, h => Int.lt_of_le_of_lt (Int.add_le_add_left (qG (l := r) h) (Int.negSucc n * 1)) (Int.lt_of_le_of_lt (Int.le_of_eq (Int.add_zero _)) (Int.lt_of_le_of_lt (Int.le_of_eq (Int.mul_one _)) (Int.negSucc_lt_zero n)))
noncomputable abbrev Wy := List OL
def lV (c : List Nat) (w : Wy) : Prop := ∀ l ∈ w, 0 ≤ ji (cx c) l
noncomputable def oS : List Nat → Wy → OL
 | m :: ms, l :: w => iw (oX (Int.ofNat m) l) (oS ms w)
 | _, l :: w => iw l (oS [] w)
 | _, [] => []
theorem mf {c : List Nat} : ∀ {w : Wy} {ms : List Nat}, lV c w → 0 ≤ ji (cx c) (oS ms w)
 | [], ms, h => by cases ms <;> exact Int.le_refl 0
 | l :: w, [], h => by
  show 0 ≤ ji _ (iw l (oS [] w));rw [f7];exact Int.add_nonneg (h l aB) (mf fun x W => h x (au _ W))
 | l :: w, m :: ms, h => by
  show 0 ≤ ji _ (iw (oX (Int.ofNat m) l) (oS ms w));rw [f7, kb];exact Int.add_nonneg (Int.mul_nonneg (Int.natCast_nonneg _) (h l aB)) (mf fun x W => h x (au _ W))
noncomputable def ckO : List Wy → List (List Nat) → Bool
 | [], _ => true
 | w :: ws, ms => (badO (oS (ms.headD []) w)).and (ckO ws ms.tail)
theorem ck_ok {c : List Nat} : ∀ {ws : List Wy} {ms : List (List Nat)}, ckO ws ms = true → ∀ w ∈ ws, ¬ lV c w
 | w :: ws, ms, h, x, hx => by
  obtain ⟨h1, h2⟩ := sh.mp h;rcases tB.mp hx with rfl | hx
  ·exact fun q => Int.not_le.mpr (bad_no h1) (mf q)
  ·exact ck_ok h2 x hx
theorem gA {c : List Nat} {a : OL} {s : Wy} (h : 0 ≤ ji (cx c) a) (hs : lV c s) : lV c (a :: s) := fun l hl => (tB.mp hl).elim (fun e => e ▸ h) (hs l)
theorem my {c : List Nat} {s t : Wy} (hs : lV c s) (W : lV c t) : lV c (s ++ t) := fun l hl => (s8.mp hl).elim (hs l) (W l)
noncomputable def leO (a b : OL) : OL := iw b (oX (-1) a)
noncomputable def ltO (a b : OL) : OL := leO (iw [1] a) b
section
variable {c : List Nat} {a b : OL} {m n : Nat}
noncomputable abbrev Is (c : List Nat) (l : OL) (n : Nat) : Prop := ji (cx c) l = Int.ofNat n
theorem ev_le (ha : Is c a m) (hb : Is c b n) : ji (cx c) (leO a b) = Int.ofNat n + -Int.ofNat m := by
 rw [leO, f7, kb, ha, hb, Int.neg_one_mul]
theorem le_i (ha : Is c a m) (hb : Is c b n) (h : m ≤ n) : 0 ≤ ji (cx c) (leO a b) := by
 rw [ev_le ha hb];exact Int.sub_nonneg_of_le (Int.ofNat_le.mpr h)
theorem is_succ (h : Is c a m) : Is c (iw [1] a) (m + 1) := (f7 ..).trans ((congrArg (_ + ·) h).trans (Int.add_comm 1 (Int.ofNat m)))
theorem lt_i (ha : Is c a m) (hb : Is c b n) (h : m < n) : 0 ≤ ji (cx c) (ltO a b) := le_i (is_succ ha) hb h
end
end O
namespace O
structure Tm where
 e : List Nat → Nat
 w : List (Wy × OL)
 ok : ∀ c, ∃ x ∈ w, lV c x.1 ∧ Is c x.2 (e c)
theorem mx {c : List Nat} : lV c [] := fun _ h => (List.not_mem_nil h).elim
noncomputable def tv (i : Nat) : Tm := ⟨fun c => oG c i, [([], varO (i + 1))], fun c => ⟨_, rV _, mx, rq _ _⟩⟩
noncomputable def tn (k : Nat) : Tm := ⟨fun _ => k, [([], [Int.ofNat k])], fun c => ⟨_, rV _, mx, (Int.add_zero _).trans (Int.mul_one _)⟩⟩
noncomputable def tml (k : Nat) (a : Tm) : Tm := ⟨fun c => k * a.e c, a.w.map fun x => (x.1, oX (Int.ofNat k) x.2), fun c => (a.ok c).elim fun x h => ⟨_, tG.mpr ⟨x, h.1, rfl⟩, h.2.1, (kb ..).trans (congrArg _ h.2.2)⟩⟩
noncomputable def tmr (k : Nat) (a : Tm) : Tm := ⟨fun c => a.e c * k, (tml k a).w, fun c => Nat.mul_comm k (a.e c) ▸ (tml k a).ok c⟩
noncomputable def crO {β : Type} (a b : Tm) (f : Wy → OL → OL → List β) : List β := a.w.flatMap fun x => b.w.flatMap fun y => f (x.1 ++ y.1) x.2 y.2
theorem nW {β : Type} {a b : Tm} {f : Wy → OL → OL → List β} {c : List Nat} {P : β → Prop} (h : ∀ s x y, lV c s → Is c x (a.e c) → Is c y (b.e c) → ∃ z ∈ f s x y, P z) : ∃ z ∈ crO a b f, P z :=
 (a.ok c).elim fun x W => (b.ok c).elim fun y hy => (h _ _ _ (my W.2.1 hy.2.1) W.2.2 hy.2.2).imp fun z hz => ⟨sV.mpr ⟨x, W.1, sV.mpr ⟨y, hy.1, hz.1⟩⟩, hz.2⟩
noncomputable def tad (a b : Tm) : Tm := ⟨fun c => a.e c + b.e c, crO a b fun s x y => [(s, iw x y)], fun c => nW fun s x y hs hx hy => ⟨_, rV _, hs, (f7 ..).trans (hx ▸ hy ▸ rfl)⟩⟩
noncomputable def tif (f : Nat → Nat → Nat) (r1 r2 : OL → OL → OL) (h1 : ∀ c x y m n, Is c x m → Is c y n → n ≤ m → Is c (r1 x y) (f m n)) (h2 : ∀ c x y m n, Is c x m → Is c y n → m ≤ n → Is c (r2 x y) (f m n)) (a b : Tm) : Tm :=
 ⟨fun c => f (a.e c) (b.e c), crO a b fun s x y => [(leO y x :: s, r1 x y), (leO x y :: s, r2 x y)], fun c => nW fun s x y hs hx hy => (Nat.le_total (b.e c) (a.e c)).elim
  (fun q => ⟨_, aB, gA (le_i hy hx q) hs, h1 c x y _ _ hx hy q⟩) fun q => ⟨_, au _ aB, gA (le_i hx hy q) hs, h2 c x y _ _ hx hy q⟩⟩
noncomputable def tsu : Tm → Tm → Tm := tif Nat.sub (fun x y => leO y x) (fun _ _ => []) (fun c x y m n hx hy q => (ev_le hy hx).trans (Int.ofNat_sub q).symm) fun c x y m n hx hy q => congrArg Int.ofNat (Nat.sub_eq_zero_of_le q).symm
noncomputable def tmi : Tm → Tm → Tm := tif min (fun _ y => y) (fun x _ => x) (fun c x y m n hx hy q => hy.trans (congrArg Int.ofNat (Nat.min_eq_right q).symm)) fun c x y m n hx hy q => hx.trans (congrArg Int.ofNat (Nat.min_eq_left q).symm)
noncomputable def tma : Tm → Tm → Tm := tif max (fun x _ => x) (fun _ y => y) (fun c x y m n hx hy q => hx.trans (congrArg Int.ofNat (Nat.max_eq_left q).symm)) fun c x y m n hx hy q => hy.trans (congrArg Int.ofNat (Nat.max_eq_right q).symm)
structure Fm where
 P : List Nat → Prop
 t : List Wy
 f : List Wy
 ok : ∀ c, (P c → ∃ w ∈ t, lV c w) ∧ (¬ P c → ∃ w ∈ f, lV c w)
noncomputable def Fm.as (F : Fm) (Q : List Nat → Prop) (h : ∀ c, Q c ↔ F.P c) : Fm := ⟨Q, F.t, F.f, fun c => ⟨fun q => (F.ok c).1 ((h c).mp q), fun q => (F.ok c).2 fun p => q ((h c).mpr p)⟩⟩
noncomputable def prO (xs ys : List Wy) : List Wy := xs.flatMap fun x => ys.map fun y => x ++ y
theorem pr_ok {c : List Nat} {xs ys : List Wy} (h1 : ∃ w ∈ xs, lV c w) (h2 : ∃ w ∈ ys, lV c w) : ∃ w ∈ prO xs ys, lV c w :=
 h1.elim fun x hx => h2.elim fun y W => ⟨x ++ y, sV.mpr ⟨x, hx.1, tG.mpr ⟨y, W.1, rfl⟩⟩, my hx.2 W.2⟩
noncomputable def fle (a b : Tm) : Fm := ⟨fun c => a.e c ≤ b.e c, crO a b fun s x y => [leO x y :: s], crO a b fun s x y => [ltO y x :: s], fun c =>
 ⟨fun q => nW fun s x y hs hx hy => ⟨_, rV _, gA (le_i hx hy q) hs⟩, fun q => nW fun s x y hs hx hy => ⟨_, rV _, gA (lt_i hy hx (Nat.lt_of_not_le q)) hs⟩⟩⟩
noncomputable def fno (p : Fm) : Fm := ⟨fun c => ¬ p.P c, p.f, p.t, fun c => ⟨(p.ok c).2, fun q => (p.ok c).1 (Classical.not_not.mp q)⟩⟩
noncomputable def fan (p q : Fm) : Fm := ⟨fun c => p.P c ∧ q.P c, prO p.t q.t, p.f ++ q.f, fun c => ⟨fun h => pr_ok ((p.ok c).1 h.1) ((q.ok c).1 h.2), fun h => (Classical.not_and_iff_not_or_not.mp h).elim
 (fun h => ((p.ok c).2 h).imp fun w z => ⟨sg _ z.1, z.2⟩) fun h => ((q.ok c).2 h).imp fun w z => ⟨r6 _ z.1, z.2⟩⟩⟩
noncomputable def fff : Fm := ⟨fun _ => False, [], [[]], fun c => ⟨False.elim, fun _ => ⟨[], rV _, mx⟩⟩⟩
noncomputable def flt (a b : Tm) : Fm := (fno (fle b a)).as (fun c => a.e c < b.e c) fun _ => Nat.not_le.symm
noncomputable def feq (a b : Tm) : Fm := (fan (fle a b) (fle b a)).as (fun c => a.e c = b.e c) fun _ => Nat.le_antisymm_iff
noncomputable def fim (p q : Fm) : Fm := (fno (fan p (fno q))).as (fun c => p.P c → q.P c) fun _ => ⟨fun h z => z.2 (h z.1), fun h p => Classical.byContradiction fun q => h ⟨p, q⟩⟩
noncomputable def for_ (p q : Fm) : Fm := (fim (fno p) q).as (fun c => p.P c ∨ q.P c) fun _ => ⟨fun h n => h.resolve_left n, fun h => Classical.byCases .inl fun n => .inr (h n)⟩
noncomputable def digO : Nat → Nat → List Nat
 | 0, _ => []
 | f + 1, n => bif Nat.beq n 0 then [] else (n % 34) :: digO f (n / 34)
noncomputable abbrev tt (st : List Tm) : Tm := st.headD (tn 0)
noncomputable abbrev ft (st : List Fm) : Fm := st.headD fff
noncomputable def stO (d n : Nat) (st : List Tm) : List Tm :=
 bif Nat.beq d 17 then tn n :: st else bif Nat.beq d 19 then tn 1 :: st else bif Nat.beq d 20 then tad (tt st.tail) (tt st) :: st.tail.tail else bif Nat.beq d 21 then tsu (tt st.tail) (tt st) :: st.tail.tail else
 bif Nat.beq d 22 then tml n (tt st) :: st.tail else bif Nat.beq d 23 then tmr n (tt st) :: st.tail else bif Nat.beq d 24 then tmi (tt st.tail) (tt st) :: st.tail.tail else bif Nat.beq d 25 then tma (tt st.tail) (tt st) :: st.tail.tail else tv d :: st
noncomputable def foO (d : Nat) (st : List Tm) (fs : List Fm) : List Fm :=
 bif Nat.beq d 26 then flt (tt st.tail) (tt st) :: fs else bif Nat.beq d 27 then fle (tt st.tail) (tt st) :: fs else bif Nat.beq d 28 then feq (tt st.tail) (tt st) :: fs else bif Nat.beq d 29 then fan (ft fs.tail) (ft fs) :: fs.tail.tail else
 bif Nat.beq d 30 then for_ (ft fs.tail) (ft fs) :: fs.tail.tail else bif Nat.beq d 31 then fim (ft fs.tail) (ft fs) :: fs.tail.tail else bif Nat.beq d 32 then fno (ft fs) :: fs.tail else fff :: fs
noncomputable def qq : List Nat → Bool → Nat → List Tm → List Fm → List Fm
 | [], _, _, _, fs => fs.reverse
 | d :: ds, md, n, st, fs => bif md then qq ds false (n * 34 + d) st fs else bif Nat.beq d 18 then qq ds true n st fs else
  bif Nat.ble 26 d then qq ds false 0 (bif Nat.ble 29 d then st else st.tail.tail) (foO d st fs) else qq ds false 0 (stO d n st) fs
noncomputable def decO (code : Nat) : List Fm := qq (digO 400 code) false 0 [] []
noncomputable def cerO : List Nat → List Nat → List (List Nat)
 | [], acc => [acc.reverse]
 | d :: ds, acc => bif Nat.beq d 33 then acc.reverse :: cerO ds [] else cerO ds (d :: acc)
noncomputable def wysO (g : Fm) : List Fm → List Wy
 | [] => g.f
 | h :: hs => prO h.t (wysO g hs)
noncomputable def impO (c : List Nat) (G : Prop) : List Fm → Prop
 | [] => G
 | h :: hs => h.P c → impO c G hs
noncomputable def chkO (code cert : Nat) : Bool := ckO (wysO (ft (decO code)) (decO code).tail) (cerO (digO 400 cert) [])
def sayO (c : List Nat) (code : Nat) : Prop := impO c ((ft (decO code)).P c) (decO code).tail
theorem imp_ok {c : List Nat} {g : Fm} : ∀ {hs : List Fm}, (∀ w ∈ wysO g hs, ¬ lV c w) → impO c (g.P c) hs
 | [], H => Classical.byContradiction fun n => ((g.ok c).2 n).elim fun w h => H w h.1 h.2
 | h :: hs, H => fun p => imp_ok fun w hw q => ((h.ok c).1 p).elim fun x W => H (x ++ w) (sV.mpr ⟨x, W.1, tG.mpr ⟨w, hw, rfl⟩⟩) (my W.2 q)
end O
theorem om (c : List Nat) (code cert : Nat) (h : O.chkO code cert = true) : O.sayO c code := O.imp_ok (O.ck_ok h)
theorem om0 (y z : Nat) (h : O.chkO y z = true := by kernel_rfl!) : O.sayO [] y := om _ _ _ h
theorem bD {a : Nat} (y z : Nat) (h : O.chkO y z = true := by kernel_rfl!) : O.sayO [a] y := om _ _ _ h
theorem a9 {a b : Nat} (y z : Nat) (h : O.chkO y z = true := by kernel_rfl!) : O.sayO [a, b] y := om _ _ _ h
theorem bZ {a b c : Nat} (y z : Nat) (h : O.chkO y z = true := by kernel_rfl!) : O.sayO [a, b, c] y := om _ _ _ h
theorem jP {a b c d : Nat} (y z : Nat) (h : O.chkO y z = true := by kernel_rfl!) : O.sayO [a, b, c, d] y := om _ _ _ h
theorem om5 {a b c d e : Nat} (y z : Nat) (h : O.chkO y z = true := by kernel_rfl!) : O.sayO [a, b, c, d, e] y := om _ _ _ h
theorem om6 {a b c d e f : Nat} (y z : Nat) (h : O.chkO y z = true := by kernel_rfl!) : O.sayO [a, b, c, d, e, f] y := om _ _ _ h
theorem om7 {a b c d e f g : Nat} (y z : Nat) (h : O.chkO y z = true := by kernel_rfl!) : O.sayO [a, b, c, d, e, f, g] y := om _ _ _ h
theorem oq0 {a b : Nat} : O.sayO [a, b] 0x132ef20555d2cdf2d76c := a9 0x132ef20555d2cdf2d76c 0x71e51fea224f7
theorem oq1 {a b c : Nat} : O.sayO [a, b, c] 0x7dd182ec9096b5f01e := bZ 0x7dd182ec9096b5f01e 0x35ebb868b51d29f2ac5269db53cfdf2b024f155883b1a87246c0497828a5f3b471b2eb6c04ba7553294ff4ef02d4bd813590c7c8d238088a51ab2d0906db9a084260f97e213ec51
theorem oq2 {a b : Nat} : O.sayO [a, b] 0x37f30c85d6c8ce23a := a9 0x37f30c85d6c8ce23a 0x1cf68290765cbf61cc08f3c852e97b2e44eb100063a348e9a5ab728ea45747f547e19302
theorem oq3 {a b : Nat} : O.sayO [a, b] 1420609388414 := a9 1420609388414 0
theorem oq4 {a : Nat} : O.sayO [a] 0x377df56fcf60182e6e8ad40b066a4c4 := bD 0x377df56fcf60182e6e8ad40b066a4c4 0
theorem oq5 {a : Nat} : O.sayO [a] 36889116 := bD 36889116 0
theorem oq6 {a : Nat} : O.sayO [a] 0x2b8d052410ee46cad8978124c4 := bD 0x2b8d052410ee46cad8978124c4 0
theorem oq7 {a b : Nat} : O.sayO [a, b] 0x3a04ed659672360d0 := a9 0x3a04ed659672360d0 44138427
theorem oq8 {a b c d e : Nat} : O.sayO [a, b, c, d, e] 0x9246092e018b9736a9808779ba6e73d77a57f863a07a3621022 := om5 0x9246092e018b9736a9808779ba6e73d77a57f863a07a3621022 0x71ffe0054dc55
theorem oq9 {a : Nat} : O.sayO [a] 0x7905aa2ba56b80a420 := bD 0x7905aa2ba56b80a420 0
theorem oV {a : Nat} : O.sayO [a] 0x79079f7b12049da73c := bD 0x79079f7b12049da73c 0
theorem mw {a b : Nat} : O.sayO [a, b] 0x59e5ebdc0f6aa := a9 0x59e5ebdc0f6aa 0
theorem oq12 {a b : Nat} : O.sayO [a, b] 0x147a4f97bbce9e2032b8aaf12 := a9 0x147a4f97bbce9e2032b8aaf12 44139549
theorem aP {a b c : Nat} (h : a ≤ b) (e : Nat.ble b c = true) : a ≤ c := tH h (Nat.le_of_ble_eq_true e)
theorem aU {a b c d : Nat} (h1 : a ≤ c) (h2 : b ≤ d) : a + b ≤ c + d := Nat.add_le_add h1 h2
theorem da (k : Nat) (h : a + k < r) : a < r := sx (sU a k) h
noncomputable abbrev cP := Obj → Prop
noncomputable abbrev aF := List (uR × cP)
noncomputable abbrev NoE : uN → uF → Prop := fun _ _ => False
noncomputable def aE (xs : List uN) : cP := fun o => ∃ n, o = { cls := .type "list", data := .seq xs.toArray n }
noncomputable def bn (xs : List uN) : cP := fun o => ∃ n, o = { cls := .type "tuple", data := .seq xs.toArray n }
noncomputable def cNs (m : List (Str × uN)) : cP := fun o => ∃ es ep, o.data = .dict es ep ∧ StrKeys es ∧ ∀ x v, m.lookup x = some v → nsFind es x = some v
noncomputable def aO (v : Option uN) : cP := fun o => o.data = .cell v
noncomputable def bA (l : uR) (i : Nat) : cP := fun o => o.cls = .type "list_iterator" ∧ o.data = .fields #[.ref l, .int i 0]
def GensOk (a b : Array GenState) : Prop := (∀ (g : Nat) (x : GenState), a[g]? = some x → b[g]? = some x) ∧ (AllBare a → AllBare b)
theorem GensOk.refl : GensOk a a := ⟨fun _ _ e => e, id⟩
theorem GensOk.trans (x : GensOk a b) (y : GensOk b c) : GensOk a c := ⟨fun g z e => y.1 g z (x.1 g z e), fun h => y.2 (x.2 h)⟩
structure St (h0 : uV) (o0 : uF) (cs : aF) (s : uF) : Prop where
 keep : ∀ b o, h0.get? b = some o → s.heap.get? b = some o
 cell : ∀ p ∈ cs, ∃ o, s.heap.get? p.1 = some o ∧ p.2 o
 new : ∀ p ∈ cs, h0.get? p.1 = none
 nodup : (cs.map uo).Nodup
 gens : GensOk o0.gens s.gens
 os : s.os = o0.os
 tok : s.toks ≠ 0
 flo : o0.toks ≤ s.toks
 big : ∀ p ∈ cs, 3 < p.1
 g3 : ∃ o, h0.get? 3 = some o
inductive Has : aF → uR → cP → Prop where
 | here {a c r} : Has ((a, c) :: r) a c
 | there {p a c r} : Has r a c → Has (p :: r) a c
inductive Put : aF → uR → cP → cP → aF → Prop where
 | here {a c c' r} : Put ((a, c) :: r) a c c' ((a, c') :: r)
 | there {p a c c' r r'} : Put r a c c' r' → Put (p :: r) a c c' (p :: r')
inductive Look : List (Str × uN) → Str → uN → Prop where
 | here {x v r} : Look ((x, v) :: r) x v
 | there {x y u v r} : (x == y) = false → Look r x v → Look ((y, u) :: r) x v
inductive SetN : List (Str × uN) → Str → uN → List (Str × uN) → Prop where
 | new {x v} : SetN [] x v [(x, v)]
 | here {x u v r} : SetN ((x, u) :: r) x v ((x, v) :: r)
 | there {x y u v r r'} : (x == y) = false → SetN r x v r' → SetN ((y, u) :: r) x v ((y, u) :: r')
inductive Pick : aF → uR → cP → aF → Prop where
 | here {a c r} : Pick ((a, c) :: r) a c r
 | there {p a c r r'} : Pick r a c r' → Pick (p :: r) a c (p :: r')
theorem Look.nx (h : Look r x v) (e : (x == y) = false := by decide +kernel) : Look ((y, u) :: r) x v := .there e h
theorem SetN.nx (h : SetN r x v r') (e : (x == y) = false := by decide +kernel) : SetN ((y, u) :: r) x v ((y, u) :: r') := .there e h
theorem Has.h1 : Has (p1 :: (a, c) :: r) a c := .there .here
theorem Put.h1 : Put (p1 :: (a, c) :: r) a c c' (p1 :: (a, c') :: r) := .there .here
theorem Pick.h1 : Pick (p1 :: (a, c) :: r) a c (p1 :: r) := .there .here
theorem Has.h2 : Has (p1 :: p2 :: (a, c) :: r) a c := .there .h1
theorem Put.h2 : Put (p1 :: p2 :: (a, c) :: r) a c c' (p1 :: p2 :: (a, c') :: r) := .there .h1
theorem Pick.h2 : Pick (p1 :: p2 :: (a, c) :: r) a c (p1 :: p2 :: r) := .there .h1
theorem Has.h3 : Has (p1 :: p2 :: p3 :: (a, c) :: r) a c := .there .h2
theorem Put.h3 : Put (p1 :: p2 :: p3 :: (a, c) :: r) a c c' (p1 :: p2 :: p3 :: (a, c') :: r) := .there .h2
theorem Pick.h3 : Pick (p1 :: p2 :: p3 :: (a, c) :: r) a c (p1 :: p2 :: p3 :: r) := .there .h2
theorem Has.h4 : Has (p1 :: p2 :: p3 :: p4 :: (a, c) :: r) a c := .there .h3
theorem Put.h4 : Put (p1 :: p2 :: p3 :: p4 :: (a, c) :: r) a c c' (p1 :: p2 :: p3 :: p4 :: (a, c') :: r) := .there .h3
theorem Pick.h4 : Pick (p1 :: p2 :: p3 :: p4 :: (a, c) :: r) a c (p1 :: p2 :: p3 :: p4 :: r) := .there .h3
theorem Has.h5 : Has (p1 :: p2 :: p3 :: p4 :: p5 :: (a, c) :: r) a c := .there .h4
theorem Put.h5 : Put (p1 :: p2 :: p3 :: p4 :: p5 :: (a, c) :: r) a c c' (p1 :: p2 :: p3 :: p4 :: p5 :: (a, c') :: r) := .there .h4
theorem Pick.h5 : Pick (p1 :: p2 :: p3 :: p4 :: p5 :: (a, c) :: r) a c (p1 :: p2 :: p3 :: p4 :: p5 :: r) := .there .h4
theorem Has.h6 : Has (p1 :: p2 :: p3 :: p4 :: p5 :: p6 :: (a, c) :: r) a c := .there .h5
theorem Put.h6 : Put (p1 :: p2 :: p3 :: p4 :: p5 :: p6 :: (a, c) :: r) a c c' (p1 :: p2 :: p3 :: p4 :: p5 :: p6 :: (a, c') :: r) := .there .h5
theorem Pick.h6 : Pick (p1 :: p2 :: p3 :: p4 :: p5 :: p6 :: (a, c) :: r) a c (p1 :: p2 :: p3 :: p4 :: p5 :: p6 :: r) := .there .h5
theorem Has.t2 (h : Has r a c) : Has (p1 :: p2 :: r) a c := .there (.there h)
theorem Put.t2 (h : Put r a c c' r') : Put (p1 :: p2 :: r) a c c' (p1 :: p2 :: r') := .there (.there h)
theorem Pick.t2 (h : Pick r a c r') : Pick (p1 :: p2 :: r) a c (p1 :: p2 :: r') := .there (.there h)
theorem Has.t3 (h : Has r a c) : Has (p1 :: p2 :: p3 :: r) a c := .there (.t2 h)
theorem Put.t3 (h : Put r a c c' r') : Put (p1 :: p2 :: p3 :: r) a c c' (p1 :: p2 :: p3 :: r') := .there (.t2 h)
theorem Pick.t3 (h : Pick r a c r') : Pick (p1 :: p2 :: p3 :: r) a c (p1 :: p2 :: p3 :: r') := .there (.t2 h)
theorem Has.t4 (h : Has r a c) : Has (p1 :: p2 :: p3 :: p4 :: r) a c := .there (.t3 h)
theorem Put.t4 (h : Put r a c c' r') : Put (p1 :: p2 :: p3 :: p4 :: r) a c c' (p1 :: p2 :: p3 :: p4 :: r') := .there (.t3 h)
theorem Pick.t4 (h : Pick r a c r') : Pick (p1 :: p2 :: p3 :: p4 :: r) a c (p1 :: p2 :: p3 :: p4 :: r') := .there (.t3 h)
theorem Has.t5 (h : Has r a c) : Has (p1 :: p2 :: p3 :: p4 :: p5 :: r) a c := .there (.t4 h)
theorem Put.t5 (h : Put r a c c' r') : Put (p1 :: p2 :: p3 :: p4 :: p5 :: r) a c c' (p1 :: p2 :: p3 :: p4 :: p5 :: r') := .there (.t4 h)
theorem Pick.t5 (h : Pick r a c r') : Pick (p1 :: p2 :: p3 :: p4 :: p5 :: r) a c (p1 :: p2 :: p3 :: p4 :: p5 :: r') := .there (.t4 h)
theorem Has.t6 (h : Has r a c) : Has (p1 :: p2 :: p3 :: p4 :: p5 :: p6 :: r) a c := .there (.t5 h)
theorem Put.t6 (h : Put r a c c' r') : Put (p1 :: p2 :: p3 :: p4 :: p5 :: p6 :: r) a c c' (p1 :: p2 :: p3 :: p4 :: p5 :: p6 :: r') := .there (.t5 h)
theorem Pick.t6 (h : Pick r a c r') : Pick (p1 :: p2 :: p3 :: p4 :: p5 :: p6 :: r) a c (p1 :: p2 :: p3 :: p4 :: p5 :: p6 :: r') := .there (.t5 h)
theorem cj (h : (a || b) = false) : a = false ∧ b = false := by cases a <;> cases b <;> first | exact ⟨rfl, rfl⟩ | cases h
theorem Look.i1 (e : (x == y1) = false := by kernel_rfl!) : Look ((y1, u1) :: (x, v) :: r) x v := .there e .here
theorem SetN.j1 (e : (x == y1) = false := by kernel_rfl!) : SetN [(y1, u1)] x vv [(y1, u1), (x, vv)] := .there e .new
theorem Look.i2 (e : (x == y1 || x == y2) = false := by kernel_rfl!) : Look ((y1, u1) :: (y2, u2) :: (x, v) :: r) x v := .there (cj e).1 (.i1 (cj e).2)
theorem SetN.j2 (e : (x == y1 || x == y2) = false := by kernel_rfl!) : SetN ((y1, u1) :: (y2, u2) :: []) x vv ((y1, u1) :: (y2, u2) :: (x, vv) :: []) := .there (cj e).1 (.j1 (cj e).2)
theorem Look.i3 (e : (x == y1 || (x == y2 || x == y3)) = false := by kernel_rfl!) : Look ((y1, u1) :: (y2, u2) :: (y3, u3) :: (x, v) :: r) x v := .there (cj e).1 (.i2 (cj e).2)
theorem SetN.j3 (e : (x == y1 || (x == y2 || x == y3)) = false := by kernel_rfl!) : SetN ((y1, u1) :: (y2, u2) :: (y3, u3) :: []) x vv ((y1, u1) :: (y2, u2) :: (y3, u3) :: (x, vv) :: []) := .there (cj e).1 (.j2 (cj e).2)
theorem Look.i4 (e : (x == y1 || (x == y2 || (x == y3 || x == y4))) = false := by kernel_rfl!) : Look ((y1, u1) :: (y2, u2) :: (y3, u3) :: (y4, u4) :: (x, v) :: r) x v := .there (cj e).1 (.i3 (cj e).2)
theorem SetN.j4 (e : (x == y1 || (x == y2 || (x == y3 || x == y4))) = false := by kernel_rfl!) : SetN ((y1, u1) :: (y2, u2) :: (y3, u3) :: (y4, u4) :: []) x vv ((y1, u1) :: (y2, u2) :: (y3, u3) :: (y4, u4) :: (x, vv) :: []) := .there (cj e).1 (.j3 (cj e).2)
theorem Look.i5 (e : (x == y1 || (x == y2 || (x == y3 || (x == y4 || x == y5)))) = false := by kernel_rfl!) : Look ((y1, u1) :: (y2, u2) :: (y3, u3) :: (y4, u4) :: (y5, u5) :: (x, v) :: r) x v := .there (cj e).1 (.i4 (cj e).2)
theorem SetN.j5 (e : (x == y1 || (x == y2 || (x == y3 || (x == y4 || x == y5)))) = false := by kernel_rfl!) : SetN ((y1, u1) :: (y2, u2) :: (y3, u3) :: (y4, u4) :: (y5, u5) :: []) x vv ((y1, u1) :: (y2, u2) :: (y3, u3) :: (y4, u4) :: (y5, u5) :: (x, vv) :: []) := .there (cj e).1 (.j4 (cj e).2)
theorem Look.i6 (e : (x == y1 || (x == y2 || (x == y3 || (x == y4 || (x == y5 || x == y6))))) = false := by kernel_rfl!) : Look ((y1, u1) :: (y2, u2) :: (y3, u3) :: (y4, u4) :: (y5, u5) :: (y6, u6) :: (x, v) :: r) x v := .there (cj e).1 (.i5 (cj e).2)
theorem SetN.j6 (e : (x == y1 || (x == y2 || (x == y3 || (x == y4 || (x == y5 || x == y6))))) = false := by kernel_rfl!) : SetN ((y1, u1) :: (y2, u2) :: (y3, u3) :: (y4, u4) :: (y5, u5) :: (y6, u6) :: []) x vv ((y1, u1) :: (y2, u2) :: (y3, u3) :: (y4, u4) :: (y5, u5) :: (y6, u6) :: (x, vv) :: []) := .there (cj e).1 (.j5 (cj e).2)
theorem Look.nx6 (h : Look r x v) (e : (x == y1 || (x == y2 || (x == y3 || (x == y4 || (x == y5 || x == y6))))) = false := by kernel_rfl!) : Look ((y1, u1) :: (y2, u2) :: (y3, u3) :: (y4, u4) :: (y5, u5) :: (y6, u6) :: r) x v := .there (cj e).1 (.there (cj (cj e).2).1 (.there (cj (cj (cj e).2).2).1 (.there (cj (cj (cj (cj e).2).2).2).1 (.there (cj (cj (cj (cj (cj e).2).2).2).2).1 (.there (cj (cj (cj (cj (cj e).2).2).2).2).2 h)))))
theorem SetN.nx6 (h : SetN r x v r') (e : (x == y1 || (x == y2 || (x == y3 || (x == y4 || (x == y5 || x == y6))))) = false := by kernel_rfl!) : SetN ((y1, u1) :: (y2, u2) :: (y3, u3) :: (y4, u4) :: (y5, u5) :: (y6, u6) :: r) x v ((y1, u1) :: (y2, u2) :: (y3, u3) :: (y4, u4) :: (y5, u5) :: (y6, u6) :: r') := .there (cj e).1 (.there (cj (cj e).2).1 (.there (cj (cj (cj e).2).2).1 (.there (cj (cj (cj (cj e).2).2).2).1 (.there (cj (cj (cj (cj (cj e).2).2).2).2).1 (.there (cj (cj (cj (cj (cj e).2).2).2).2).2 h)))))
theorem Pick.perm {cs a c r} (h : Pick cs a c r) : ((a, c) :: r).Perm cs := by
 induction h with
 | here => exact .refl _
 | there _ ih => exact (tY.swap _ _ _).trans (ih.cons _)
theorem Has.mem {cs a c} (h : Has cs a c) : (a, c) ∈ cs := by
 induction h with
 | here => exact aB
 | there _ ih => exact au _ ih
theorem Has.of_mem {a c} (h : (a, c) ∈ cs) : Has cs a c := by
 induction cs with
 | nil => cases h
 | cons p r ih =>
  rcases tB.mp h with rfl | h
  ·exact .here
  ·exact .there (ih h)
theorem Has.app {cs K : aF} {a c} (h : Has cs a c) : Has (cs ++ K) a c := .of_mem (sg _ h.mem)
theorem Put.has {cs a c c' cs'} (h : Put cs a c c' cs') : Has cs a c := by
 induction h with
 | here => exact .here
 | there _ ih => exact .there ih
theorem Put.addrs {cs a c c' cs'} (h : Put cs a c c' cs') : cs'.map uo = cs.map uo := by
 induction h with
 | here => rfl
 | there _ ih => simp [ih]
theorem Put.mem' {cs a c c' cs'} (h : Put cs a c c' cs') (nd : (cs.map uo).Nodup) : ∀ p ∈ cs', p = (a, c') ∨ (p ∈ cs ∧ p.1 ≠ a) := by
 induction h with
 | @here a c c' r =>
  intro p hp;rcases tB.mp hp with rfl | hp
  ·exact .inl rfl
  ·refine .inr ⟨au _ hp, fun e => ?_⟩;rw [az, s9] at nd;have q : p.1 ∈ r.map uo := aA hp;rw [e] at q;exact nd.1 q
 | @there p a c c' r r' hr ih =>
  rw [az, s9] at nd;intro q W;rcases tB.mp W with rfl | W
  ·refine .inr ⟨aB, fun e => nd.1 ?_⟩;rw [e];exact aA hr.has.mem
  ·rcases ih nd.2 q W with h | ⟨h, h'⟩
   ·exact .inl h
   ·exact .inr ⟨au _ h, h'⟩
theorem Has.skip {a c} (h : Has r a c) : Has (xs ++ r) a c := .of_mem (r6 _ h.mem)
theorem Put.skip {a c c'} (h : Put r a c c' r') : Put (xs ++ r) a c c' (xs ++ r') := by
 induction xs with
 | nil => exact h
 | cons p x ih => exact .there ih
theorem Pick.skip {a c} (h : Pick r a c r') : Pick (xs ++ r) a c (xs ++ r') := by
 induction xs with
 | nil => exact h
 | cons p x ih => exact .there ih
theorem Look.eq {m x v} (h : Look m x v) : m.lookup x = some v := by
 induction h with
 | here => simp
 | there hn _ ih => simp only [sR, hn]; exact ih
theorem SetN.eq {m x v m'} (h : SetN m x v m') : (fun y => if y = x then some v else m.lookup y) = fun y => m'.lookup y := by
 induction h with
 | @new x v =>
  funext y;by_cases W : y = x
  ·subst W; simp
  ·have : (y == x) = false := by simpa using W
   simp [sR, W, this]
 | @here x u v r =>
  funext y;by_cases W : y = x
  ·subst W; simp
  ·have : (y == x) = false := by simpa using W
   simp [sR, W, this]
 | @there x y u v r r' hn _ ih =>
  funext z;have ih := congrFun ih z;by_cases hz : z = y
  ·subst hz;have h7 : ¬ z = x := fun e => by subst e; simp at hn
   simp [h7]
  ·have h1 : (z == y) = false := by simpa using hz
   simp only [sR, h1];exact ih
inductive NsSub : List (Str × uN) → List (Str × uN) → Prop where
 | nil {m} : NsSub [] m
 | cons {x v r m} : Look m x v → NsSub r m → NsSub ((x, v) :: r) m
noncomputable def nsG : List (Str × uN) → Nat → Str × uN
 | [], _ => (tZ, .none)
 | p :: _, 0 => p
 | _ :: r, k + 1 => nsG r k
noncomputable def nsO : List (Str × uN) → Nat → Str → Bool
 | [], _, _ => false
 | _ :: _, 0, _ => true
 | p :: r, k + 1, x => bif x == p.1 then false else nsO r k x
theorem lb : ∀ {m : List (Str × uN)} {k : Nat}, nsO m k (nsG m k).1 = true → Look m (nsG m k).1 (nsG m k).2
 | _ :: _, 0, _ => .here
 | p :: r, k + 1, h => by
  have e : nsO (p :: r) (k + 1) (nsG r k).1 = true := h;unfold nsO at e;cases hx : (nsG r k).1 == p.1 with
  | true => rw [hx] at e; cases e
  | false => rw [hx] at e; exact .there hx (lb e)
noncomputable def nsS (m : List (Str × uN)) : Nat → Nat → List (Str × uN)
 | 0, _ => []
 | n + 1, c => bif nsO m (c % 16) (nsG m (c % 16)).1 then nsG m (c % 16) :: nsS m n (c / 16) else nsS m n (c / 16)
theorem jQ : ∀ {n c : Nat}, NsSub (nsS m n c) m
 | 0, _ => .nil
 | n + 1, c => by
  unfold nsS;cases h : nsO m (c % 16) (nsG m (c % 16)).1 with
  | true => exact .cons (lb h) jQ
  | false => exact jQ
theorem NsSub.ix (c : Nat) (h : nsS m (c % 16) (c / 16) = m' := by kernel_rfl!) : NsSub m' m := h ▸ jQ
theorem NsSub.look {m' m} (h : NsSub m' m) : ∀ x v, m'.lookup x = some v → m.lookup x = some v := by
 induction h with
 | nil => intro x v e; cases e
 | @cons y u r m hl _ ih =>
  intro x v e;rw [sR] at e;by_cases W : (x == y) = true
  ·rw [W] at e; cases e;rw [beq_iff_eq.mp W]; exact hl.eq
  ·rw [Bool.not_eq_true] at W;rw [W] at e;exact ih x v e
theorem cNs.sub (h : cNs m o) (hs : NsSub m' m) : cNs m' o := by
 obtain ⟨W, ep, h1, h2, h3⟩ := h;exact ⟨W, ep, h1, h2, fun x v e => h3 x v (hs.look x v e)⟩
section
variable {cs cs' : aF}
theorem St.get (H : St h0 o0 cs s) (h : Has cs a c) : ∃ o, s.heap.get? a = some o ∧ c o := H.cell _ h.mem
theorem St.grow (H : St h0 o0 cs s) (hk : ∀ b o, s.heap.get? b = some o → h'.get? b = some o) (W : s.toks ≤ k) : St h0 o0 cs { s with heap := h', toks := k } :=
 ⟨fun b o e => hk b o (H.keep b o e), fun p hp => let ⟨o, ho, hc⟩ := H.cell p hp; ⟨o, hk _ _ ho, hc⟩, H.new, H.nodup, H.gens, H.os, (by have := H.tok; show k ≠ 0; exact oq0 W this), tH H.flo W, H.big, H.g3⟩
theorem St.toks (H : St h0 o0 cs s) (W : s.toks ≤ k) : St h0 o0 cs { s with toks := k } := H.grow (h' := s.heap) (fun _ _ e => e) W
theorem St.fresh (H : St h0 o0 cs s) (ha : s.heap.objs.size ≤ a) : a ∉ cs.map uo ∧ h0.get? a = none ∧ 3 < a := by
 refine ⟨?_, ?_, ?_⟩
 ·intro hm;obtain ⟨p, hp, rfl⟩ := tG.mp hm;obtain ⟨o, W, _⟩ := H.cell p hp;exact tE _ (sw (tM W) ha)
 ·cases e : h0.get? a with
  | none => rfl
  | some o => exact absurd (tM (H.keep _ _ e)) (Nat.not_lt.mpr ha)
 ·obtain ⟨o, W⟩ := H.g3;exact sw (tM (H.keep _ _ W)) ha
theorem St.more (H : St h0 o0 cs s) (ha : s.heap.objs.size ≤ a) (hc : ∃ o, h'.get? a = some o ∧ c o)
  (hk : ∀ b o, s.heap.get? b = some o → h'.get? b = some o) (W : s.toks ≤ k) : St h0 o0 ((a, c) :: cs) { s with heap := h', toks := k } := by
 have f := H.fresh ha;have G := H.grow hk W;refine ⟨G.keep, fun p hp => ?_, fun p hp => ?_, ?_, G.gens, G.os, G.tok, G.flo, fun p hp => ?_, H.g3⟩
 ·rcases tB.mp hp with rfl | hp
  ·exact hc
  ·exact G.cell p hp
 ·rcases tB.mp hp with rfl | hp
  ·exact f.2.1
  ·exact G.new p hp
 ·rw [az, s9]; exact ⟨f.1, H.nodup⟩
 ·rcases tB.mp hp with rfl | hp
  ·exact f.2.2
  ·exact G.big p hp
theorem St.push (H : St h0 o0 cs s) (hc : c o) (W : s.toks ≤ k) (hf : o.isFreed = false := by rfl) :
  St h0 o0 ((s.heap.objs.size, c) :: cs) { s with heap := s.heap.push o, toks := k } :=
 H.more (ah _) ⟨o, sm _ hf, hc⟩ (fun b o e => r3 _ e) W
theorem St.upd (H : St h0 o0 cs s) (hp : Put cs a c c' cs') (hc : ∃ o, h'.get? a = some o ∧ c' o)
  (hk : ∀ b o, b ≠ a → s.heap.get? b = some o → h'.get? b = some o) (W : s.toks ≤ k) : St h0 o0 cs' { s with heap := h', toks := k } := by
 have hm := hp.mem' H.nodup;have hn : h0.get? a = none := H.new _ hp.has.mem;refine ⟨fun b o e => hk b o (fun q => by subst q; rw [hn] at e; cases e) (H.keep b o e), fun p q => ?_, fun p q => ?_, ?_, H.gens, H.os, (by have := H.tok; show k ≠ 0; exact oq0 W this), tH H.flo W, fun p q => ?_, H.g3⟩
 ·rcases hm p q with rfl | ⟨h1, h2⟩
  ·exact hc
  ·obtain ⟨o, ho, hc⟩ := H.cell p h1;exact ⟨o, hk _ _ h2 ho, hc⟩
 ·rcases hm p q with rfl | ⟨h1, h2⟩
  ·exact hn
  ·exact H.new p h1
 ·rw [hp.addrs]; exact H.nodup
 ·rcases hm p q with rfl | ⟨h1, h2⟩
  ·exact H.big (a, c) hp.has.mem
  ·exact H.big p h1
theorem St.updS (H : St h0 o0 cs s) (hp : Put cs a c c' cs') (hc : ∃ o, h'.get? a = some o ∧ c' o)
  (hk : tK a s.heap h') (W : s.toks ≤ k) : St h0 o0 cs' { s with heap := h', toks := k } :=
 H.upd hp hc (fun b o hb e => (hk.2 b hb).trans e) W
theorem St.sub (H : St h0 o0 cs s) (hs : cs'.Sublist cs) : St h0 o0 cs' s :=
 ⟨H.keep, fun p hp => H.cell p (hs.subset hp), fun p hp => H.new p (hs.subset hp), H.nodup.sublist (hs.map _), H.gens, H.os, H.tok, H.flo, fun p hp => H.big p (hs.subset hp), H.g3⟩
theorem St.perm (H : St h0 o0 cs s) (hs : cs'.Perm cs) : St h0 o0 cs' s :=
 ⟨H.keep, fun p hp => H.cell p (hs.mem_iff.mp hp), fun p hp => H.new p (hs.mem_iff.mp hp), ((hs.map uo).nodup_iff).mpr H.nodup, H.gens, H.os, H.tok, H.flo, fun p hp => H.big p (hs.mem_iff.mp hp), H.g3⟩
theorem St.weak (H : St h0 o0 cs s) (hp : Put cs a c c' cs') (hc : ∀ o, c o → c' o) : St h0 o0 cs' s := by
 obtain ⟨o, ho, W⟩ := H.get hp.has;exact H.upd (h' := s.heap) (k := s.toks) hp ⟨o, ho, hc o W⟩ (fun _ _ _ e => e) (ah _)
theorem St.pick {a c r} (H : St h0 o0 cs s) (h : Pick cs a c r) : St h0 o0 ((a, c) :: r) s := H.perm h.perm
theorem St.tail {p} (H : St h0 o0 (p :: cs) s) : St h0 o0 cs s := H.sub (aq _ _)
theorem St.rebase (H : St h0 o0 cs s) : St h0 s cs s := ⟨H.keep, H.cell, H.new, H.nodup, .refl, rfl, H.tok, ah _, H.big, H.g3⟩
theorem St.back (W : St h0 o0 cs s) (H : St h0 s cs' s') : St h0 o0 cs' s' := ⟨H.keep, H.cell, H.new, H.nodup, W.gens.trans H.gens, H.os.trans W.os, H.tok, tH W.flo H.flo, H.big, H.g3⟩
end
section
variable {M : Model} {cs cs' : aF}
theorem k9 {m} (H : St h0 o0 cs s) (h : Has cs a (cNs m)) : ∃ f, s.heap.Ns a f ∧ ∀ x v, m.lookup x = some v → f x = some v := by
 obtain ⟨o, ho, W, ep, hd, hk, hf⟩ := H.get h;exact ⟨nsFind W, ⟨o, W, ep, ho, hd, hk, fun _ => rfl⟩, hf⟩
theorem g1 {h : uV} {m : List (Str × uN)} {f : Str → Option uN} (W : h.Ns a f) (e : ∀ x v, m.lookup x = some v → f x = some v) : ∃ o, h.get? a = some o ∧ cNs m o := by
 obtain ⟨o, es, ep, ho, hd, hk, hf⟩ := W;exact ⟨o, ho, es, ep, hd, hk, fun x v q => (hf x).trans (e x v q)⟩
theorem aS {xs} (H : St h0 o0 cs s) (h : Has cs a (aE xs)) : s.heap.IsList a xs.toArray := by
 obtain ⟨o, W, n, rfl⟩ := H.get h;exact ⟨_, W, rfl, n, rfl⟩
theorem qy {xs} (H : St h0 o0 cs s) (h : Has cs a (aE xs)) : s.heap.PlainList a xs.toArray := by
 obtain ⟨o, W, n, rfl⟩ := H.get h;exact ⟨n, W⟩
theorem qB {h : uV} {xs : List uN} (hl : h.PlainList a ys) (e : ys = xs.toArray) : ∃ o, h.get? a = some o ∧ aE xs o := by
 obtain ⟨n, W⟩ := hl;exact ⟨_, W, n, by rw [e]⟩
theorem gN {xs} (H : St h0 o0 cs s) (h : Has cs a (bn xs)) : s.heap.IsTuple a xs.toArray := by
 obtain ⟨o, W, n, rfl⟩ := H.get h;exact ⟨_, W, rfl, n, rfl⟩
theorem m9 (H : St h0 o0 cs s) (h : ∀ s', St h0 o0 cs s' → s'.toks = s.toks + 1 → Q (.str x s.toks) s') :
  uL M A (uU (.Constant (.str x) k pos) env) Q E s := Calls.Constant_str (h _ (H.toks (tP _)) rfl)
theorem x_int (H : St h0 o0 cs s) (h : ∀ t s', St h0 o0 cs s' → s'.toks = s.toks + 1 → Q (.int i t) s') :
  uL M A (uU (.Constant (.int i) k pos) env) Q E s := wpAny_Constant_int (h _ _ (H.toks (tP _)) rfl)
theorem e8 {m} (H : St h0 o0 cs s) (hp : Has cs L (cNs m)) (hL : env.locals = L) (W : Look m x v) (hk : env.scope.kind = .function)
  (hl : env.kindOf x = some .local) (hd : (x == ("__debug__" : Str)) = false) (h : Q v s) : uL M A (uU (.Name x pos) env) Q E s := by
 obtain ⟨f, hf, hm⟩ := k9 H hp;subst hL;exact wpAny_Name (wpAny_loadName_local hk hl hf (hm _ _ W.eq) h) hd
def dh (h0 : uV) (x : Str) (v : uN) : Prop := ∃ mg, h0.Ns tS mg ∧ mg x = some v
def cD (h0 : uV) (x : Str) (v : uN) : Prop := ∃ mg mb, h0.Ns tS mg ∧ mg x = none ∧ h0.Ns builtinsNs mb ∧ mb x = some v
theorem x_glob (H : St h0 o0 cs s) (hg : dh h0 x v) (hk : env.scope.kind = .function) (hl : env.kindOf x = some .globalImplicit)
  (he : env.globals = tS) (hd : (x == ("__debug__" : Str)) = false) (h : Q v s) : uL M A (uU (.Name x pos) env) Q E s := by
 obtain ⟨mg, hn, W⟩ := hg;exact Name_function_global hk hl (loadGlobal_global (he ▸ hn.keeps H.keep) W h) hd
theorem x_blt (H : St h0 o0 cs s) (hg : cD h0 x v) (hk : env.scope.kind = .function) (hl : env.kindOf x = some .globalImplicit)
  (he : env.globals = tS) (hb : env.builtins = builtinsNs) (hd : (x == ("__debug__" : Str)) = false) (h : Q v s) : uL M A (uU (.Name x pos) env) Q E s := by
 obtain ⟨mg, mb, hn, hm, W, hv⟩ := hg;exact Name_function_global hk hl (loadGlobal_builtin (he ▸ hn.keeps H.keep) hm (hb ▸ W.keeps H.keep) hv h) hd
theorem js {m m'} (H : St h0 o0 cs s) (hp : Put cs L (cNs m) (cNs m') cs') (hL : env.locals = L) (hs : SetN m x v m') (hk : env.scope.kind = .function)
  (hl : env.kindOf x = some .local) (h : ∀ s', St h0 o0 cs' s' → Q () s') : uL M A (tX env x v) Q E s := by
 obtain ⟨f, hf, hm⟩ := k9 H hp.has;subst hL;refine wpAny_storeName_local hl hf (fun h' hn h7 => ?_) (by rw [hk]; rfl);refine h _ (H.updS hp (g1 hn fun y u q => ?_) h7 (tP _));have W : (if y = x then some v else m.lookup y) = some u := (congrFun hs.eq y).trans q;by_cases hy : y = x
 ·rw [if_pos hy] at W ⊢; exact W
 ·rw [if_neg hy] at W ⊢; exact hm _ _ W
theorem x_try
  (h : uL (uM uX w) A (uP body env) Q NoE s) (hQ : ∀ s', ¬ Q .next s' ∨ True) :
  uL (uM uX w) A (exec (.Try body (h₀ :: hs) [] [] pos) env) Q E s := by
 refine wpAny_Try_except (af h (fun f W q => ?_) fun _ _ q => q.elim);cases f <;> first | exact q | exact wpAny_execs_nil q
end
structure Base (K : Frag) (h0 : uV) : Prop where
 X : K.In h0
 lim : h0.NoLimit
 blt : ∃ mb, h0.Ns builtinsNs mb ∧ ∀ x : Str, x ≠ "__name__" → mb x = bootBuiltins x
noncomputable def eJ (K : Frag) : Array DictEntry := match K.lookup tS with
 | some ⟨_, _, .dict es _, _⟩ => es
 | _ => #[]
noncomputable def fJ (K : Frag) : Bool := (match K.lookup tS with | some ⟨_, _, .dict _ _, _⟩ => true | _ => false) && (eJ K).toList.all fun e => match e.key with | .str _ _ => true | _ => false
noncomputable def aZ (K : Frag) (a : uR) : FuncData := match K.lookup a with
 | some ⟨_, _, .func fd, _⟩ => fd
 | _ => default
noncomputable def a7 (K : Frag) (a : uR) : List Stmt := match (aZ K a).body with
 | .stmts b => b
 | _ => []
noncomputable def j7 : FuncBody → Bool
 | .stmts _ => true
 | _ => false
noncomputable def fnOk (K : Frag) (a : uR) : Bool := match K.lookup a with
 | some ⟨_, _, .func fd, _⟩ => codeIn K fd.code fd.qualname && !fd.scope.isCoroutine && !fd.scope.isGenerator && fd.scope.kind == .function && fd.scope.names.all (fun x => x.2 != .cell) && j7 fd.body
 | _ => false
section
variable {K : Frag}
theorem Base.ns (B : Base K h0) (ok : fJ K = true) : h0.Ns tS (nsFind (eJ K)) := by
 unfold fJ at ok;obtain ⟨W, h7⟩ := sh.mp ok;unfold eJ at *;split at W
 ·rename_i c d es ep sl ho;refine ⟨_, es, ep, B.X _ _ ho, rfl, ?_, fun _ => by simp only⟩;simp only [ho] at h7;intro e he;have := sY.mp h7 e (Array.mem_toList_iff.mpr he);split at this
  ·rename_i n t hk; exact ⟨n, t, hk⟩
  ·cases this
 ·cases W
theorem Base.glob (B : Base K h0) (ok : fJ K = true) (W : nsFind (eJ K) x = some v) : dh h0 x v := ⟨_, B.ns ok, W⟩
theorem Base.bltAt (B : Base K h0) (ok : fJ K = true) (hx : nsFind (eJ K) x = none) (W : x ≠ "__name__") (hb : bootBuiltins x = some v) : cD h0 x v := by
 obtain ⟨mb, h1, h2⟩ := B.blt;exact ⟨_, mb, B.ns ok, hx, h1, (h2 x W).trans hb⟩
end
section
variable {cs cs' : aF} {K : Frag}
theorem fb {α : Type} {t : Sem α} {Q : α → uF → Prop} {M : Model} (h : uL M A t (fun v s' => s.toks ≤ s'.toks → Q v s') E s) : uL M A t Q E s :=
 wpAny_with_toks (ah _) (af h (fun _ _ q => q) fun _ _ q _ => q)
theorem oy (H : St h0 o0 cs s) (hu : u ≠ 0) (hv : v ≠ 0) (h9 : u ≠ v) (h7 : (y == z) = false)
  (hb : x.length + (x.length + 1) * z.length ≤ 16777216) (h : ∀ W s', St h0 o0 cs s' → Q (.str (Txt.replace x y z) W) s') :
  uL (uM uX w) A (uW (.builtin "str.replace") [.str x t, .str y u, .str z v]) Q E s :=
 fb (SC.replace hu hv h9 h7 hb fun W k hk => h W _ (H.toks hk))
theorem gY (h : Txt.contains x y = false) : Txt.replace x y z = x := by
 unfold Txt.contains at h;have h1 : (uv.Str.occurrences x y 0 x.length 1).isEmpty = true := by simpa using h
 have h2 : (uv.Str.occurrences x y 0 x.length (x.length + 1)).isEmpty = true := by
  rcases StrLaws.occ_head_from x y 0 (x.length + 1) (by exact bD 36889135 0) with ⟨e, _⟩ | ⟨i, r, e, hi, ha, _⟩
  ·rw [e]; rfl
  ·rcases StrLaws.occ_head_from x y 0 1 (by exact om0 31877 0) with ⟨_, hn⟩ | ⟨i', r', W, _⟩
   ·exact absurd ha (hn i hi)
   ·rw [W] at h1; cases h1
 unfold Txt.replace;rw [h2]; rfl
theorem x_escIf
  (H : St h0 o0 ((L, cNs [(x, .str txt t)]) :: cs) s) (hL : env.locals = L) (hk : env.scope.kind = .function) (hl : env.kindOf x = some .local) (hd : (x == ("__debug__" : Str)) = false)
  (hb : txt.length + (txt.length + 1) * r.length ≤ 16777216) (h7 : (c == r) = false) (W : (p6.endLine == p9.line) = true)
  (h : ∀ t' s', St h0 o0 ((L, cNs [(x, .str (Txt.replace txt c r) t')]) :: cs) s' → Q .next s') :
  uL (uM uX w) A (exec (.If (.Compare (.Constant (.str c) k1 p1) [.In] [.Name x p2] p3)
   [.Assign [.Name x p4] (.Call (.Attribute (.Name x p5) (ud "replace") p6) [.Constant (.str c) k2 p7, .Constant (.str r) k3 p8] [] p9) p10] [] p11) env) Q E s := by
 refine wpAny_If (wpAny_isTrue_Compare1 ?_ (by rfl));refine m9 H fun s1 H e1 => ?_
 refine e8 H .here hL .here hk hl hd ?_;refine PyProof.Rows.in_str (wpAny_truthy_bool ?_);split
 ·refine wpAny_execs_cons (wpAny_Assign_Name ?_);refine wpAny_Call_method (T := "str") (id := "str.replace") rfl (by rfl) W F.plainAttrs_str F.slot_str_replace F.type_str_replace ?_;refine e8 H .here hL .here hk hl hd ?_;refine ⟨typeIs_str _ _ _, fun a e => (by cases e), ?_⟩;refine callWith_method1 (args_cons ?_);refine m9 H fun s2 H2 e2 => args_cons (m9 H2 fun s3 H3 e3 => args_nil ?_)
  have := H.tok; have := H2.tok;refine oy H3 (by omega) (by omega) (tN (by exact (a9 1502413234802 1298222) e2)) h7 hb fun t' s4 H4 => ?_
  exact js H4 .here hL .here hk hl fun s5 H5 => wpAny_execs_nil (h _ _ H5)
 ·rename_i hc;refine wpAny_execs_nil ?_;have h9 : Txt.contains txt c = false := by unfold Txt.contains; simpa using hc
  refine h t _ ?_;rw [gY h9];exact H
end
theorem lp1 (h : n - i = k + 1) : n - (i + 1) = k := by exact oq1 h
theorem lp2 (h : n - i = 0) (h2 : i ≤ n) : i = n := by exact oq2 h h2
theorem lp3 (h : n - i = k + 1) : i < n := by exact (bZ 0x62b9ac95551b2 0x4288f2d5e814a77c83591e68ec25fb4) h
theorem lp4 (h : i < n) : n - (i + 1) < n - i := by exact (a9 0x1953c45f1c13909e 0x34357f846afe88c2a22fdcbe92) h
theorem lp5 (h : ¬ j < k) (h2 : j < k + 1) : j = k := by exact (a9 0x19ea2b9d080598e2 1734817993726) h h2
section
variable {cs cs' : aF} {K : aF}
structure dK (uX : uy) (w : uQ) (A : uJ) (h0 : uV) (o0 : uF) (it : uN) (f : Nat → aF) (n : Nat) (V : Nat → uN → Prop) (Pre : aF → Prop) : Prop where
 next : ∀ i C s (Q : Option uN → uF → Prop) E, i < n → Pre C → St h0 o0 (f i ++ C) s → (∀ v s', V i v → St h0 o0 (f (i + 1) ++ C) s' → Q (some v) s') → uL (uM uX w) A (pyNext it) Q E s
 done : ∀ C s (Q : Option uN → uF → Prop) E, Pre C → St h0 o0 (f n ++ C) s → (∀ s', St h0 o0 C s' → Q none s') → uL (uM uX w) A (pyNext it) Q E s
 self : ∀ i C s (Q : VP) E, St h0 o0 (f i ++ C) s → Q it s → uL (uM uX w) A (pyIter it) Q E s
 mono : ∀ C C', Pre C → (∀ p ∈ C, p ∈ C') → Pre C'
 own : ∀ target i C v s (Q : Unit → uF → Prop) E, V i v → St h0 o0 (f (i + 1) ++ C) s → (∀ s', St h0 o0 (f (i + 1) ++ C) s' → Q () s') → uL (uM uX w) A (td target it v) Q E s
theorem ct (H : St h0 o0 cs s) (h : Has cs a (bA l i)) : s.heap.IsListIter a l i := by
 obtain ⟨o, W, hc, hd⟩ := H.get h;exact ⟨o, W, hc, hd⟩
theorem jb (P : Sem Unit → Prop) (h0 : P (uT ())) (h1 : ∀ r a, it = .ref r → v = .ref a → P (td (.List [] ⟨0, 0, 0, 0⟩) (.ref r) (.ref a))) : P (td t it v) := by
 have h2 : P (td (.List [] ⟨0, 0, 0, 0⟩) it v) := by
  cases it <;> first | exact h0 | skip
  cases v <;> first | exact h0 | exact h1 _ _ rfl rfl
 cases t <;> first | exact h0 | exact h2
noncomputable def ownL : List String := ["enumerate", "zip", "dict_itemiterator", "dict_reverseitemiterator", "odict_iterator", "itertools.zip_longest", "itertools.pairwise"]
theorem own_cls (ho : s.heap.get? it = some o) (hc : o.cls = .type n) (hd : o.data = .fields vs) (W : ownL.contains n = false) (h : Q () s) : uL (uM uX w) A (td target (.ref it) v) Q E s := by
 refine jb (fun m => uL (uM uX w) A m Q E s) (ae h) fun r a e _ => ?_
 cases e;refine ad (wpAny_load ho ?_);rw [hc, hd];show uL _ _ (if (ownL.contains n && _) = true then _ else _) _ _ _;rw [W, Bool.false_and];exact ae h
theorem cF {it l : uR} {xs : List uN} (hh : A.handled = none) : dK uX w A h0 o0 (.ref it) (fun i => [(it, bA l i)]) xs.length (fun i v => xs[i]? = some v) (fun C => Has C l (aE xs)) where
 next := fun i C s Q E hi hl H hQ => by
  have h7 : s.heap.IsList l xs.toArray := aS H (.there hl);have W : s.heap.IsListIter it l i := ct H .here;refine wpAny_pyNext_list_item W h7 (x := xs[i]) (by simp [hi]) fun h' x0 x1 => ?_
  refine hQ _ _ (by simp [hi]) (H.updS (k := s.toks) .here ?_ x1 (ah _));obtain ⟨o, a, b, c⟩ := x0;exact ⟨o, a, b, c⟩
 done := fun C s Q E hl H hQ => by
  have h7 : s.heap.IsList l xs.toArray := aS H (.there hl);have W : s.heap.IsListIter it l xs.length := ct H .here;refine wpAny_pyNext_list_end hh W h7 (by simp) fun h' h9 => hQ _ ?_
  have hn := H.new (it, bA l xs.length) (by simp);have hd := H.nodup;simp only [List.singleton_append, az, s9] at hd;refine ⟨fun b o e => h9 b o (fun q => ?_) (H.keep b o e), fun p hp => ?_, fun p hp => H.new p (by simp [hp]), hd.2, H.gens, H.os, H.tok, H.flo, fun p hp => H.big p (by simp [hp]), H.g3⟩
  ·subst q; simp only at hn; rw [hn] at e; cases e
  ·obtain ⟨o, ho, hc⟩ := H.cell p (by simp [hp]);exact ⟨o, h9 _ _ (fun q => hd.1 (q ▸ aA hp)) ho, hc⟩
 self := fun i C s Q E H h => wpAny_pyIter_listiter (ct H .here) h
 mono := fun C C' h hs => Has.of_mem (hs _ h.mem)
 own := fun target i C v s Q E hv H h => (ct H .here).elim fun _ z => own_cls z.1 z.2.1 z.2.2 (by decide) (h _ H)
noncomputable def n5 (I : uR) (S : Nat → uV → Prop) (i : Nat) : cP := fun o => ∀ h : uV, h.get? I = some o → S i h
theorem ja (W : ∀ a, v ≠ .ref a) (h : Q () s) : uL (uM uX w) A (td target it v) Q E s :=
 jb (fun m => uL (uM uX w) A m Q E s) (ae h) fun _ a _ e => absurd e (W a)
theorem kT {I : uR} {n : Nat} {P : Nat → uN → Prop} {S : Nat → uV → Prop} (W : Walks uX w A I [I] [I] n P S) (hv : ∀ i v, P i v → ∀ a, v ≠ .ref a) (x0 : ∀ i h, S i h → ∃ o, h.get? I = some o) :
  dK uX w A h0 o0 (.ref I) (fun i => [(I, n5 I S i)]) n P (fun _ => True) where
 next := fun i C s Q E hi _ H hQ => by
  obtain ⟨o, ho, hc⟩ := H.get .here;refine fb (W.item i s _ _ hi (hc _ ho) fun v h' tk hP hS hk h7 => ?_);have hn : h0.get? I = none := H.new (I, n5 I S i) (by simp);refine hQ v _ hP (H.upd .here ?_ (fun b o hb e => hk b o (by simpa using hb) e) h7);obtain ⟨o', h9⟩ := x0 _ _ hS;refine ⟨o', h9, fun h hh => W.frame _ _ _ hS fun b hb o e => ?_⟩;rw [su.mp hb] at e ⊢;rw [h9] at e; cases e;exact hh
 done := fun C s Q E _ H hQ => by
  obtain ⟨o, ho, hc⟩ := H.get .here;refine fb (W.done s _ _ (hc _ ho) fun h' tk hk h7 => hQ _ ?_);have hn := H.new (I, n5 I S n) (by simp);have hd := H.nodup;simp only [List.singleton_append, az, s9] at hd;refine ⟨fun b o e => hk b o (fun q => ?_) (H.keep b o e), fun p hp => ?_, fun p hp => H.new p (by simp [hp]), hd.2, H.gens, H.os, (by have := H.tok; simp only at h7 ⊢; exact oq0 h7 this), tH H.flo h7, fun p hp => H.big p (by simp [hp]), H.g3⟩
  ·rw [su.mp q] at e; simp only at hn; rw [hn] at e; cases e
  ·obtain ⟨o, ho, hc⟩ := H.cell p (by simp [hp]);refine ⟨o, hk _ _ (fun q => hd.1 ?_) ho, hc⟩;have := aA (f := uo) hp;rwa [su.mp q] at this
 self := fun i C s Q E H h => by
  obtain ⟨o, ho, hc⟩ := H.get .here;exact W.self i s Q E (hc _ ho) h
 mono := fun _ _ _ _ => trivial
 own := fun target i C v s Q E hP H h => ja (hv i v hP) (h _ H)
theorem St.swap (H : St h0 o0 (a ++ (b ++ c)) s) : St h0 o0 (b ++ (a ++ c)) s :=
 H.perm (by rw [← av, ← av]; exact tY.append_right _ List.perm_append_comm)
theorem St.drop (H : St h0 o0 (b ++ (a ++ c)) s) : St h0 o0 (b ++ c) s :=
 H.sub (sr (sI _) (rM _ _))
theorem lH {target : Expr} {it : uN} {body : List Stmt} {f : Nat → aF} {n : Nat} {V : Nat → uN → Prop} {Pre : aF → Prop} {R : FP} {R' : RP} (S : dK uX w A h0 o0 it f n V Pre) (P : Nat → aF → Prop)
  (W : ∀ i C, P i C → Pre (C ++ K))
  (turn : ∀ i v C K' s, i < n → V i v → P i C → (∀ C s, St h0 o0 (C ++ K') s → St h0 o0 (C ++ K) s) → St h0 o0 (C ++ K') s →
   uL (uM uX w) A (uG target env v) (fun _ s₂ => uL (uM uX w) A (uP body env) (fun f s₃ => match f with
    | .next | .cont => ∃ C', P (i + 1) C' ∧ St h0 o0 (C' ++ K') s₃
    | .brk => R .next s₃
    | .ret v => R (.ret v) s₃) NoE s₂) NoE s)
  (fin : ∀ C s, P n C → St h0 o0 (C ++ K) s → R .next s) (hR : ∀ f s, R f s → R' (.ok f) s) {C0 : aF} (h9 : P 0 C0) (H : St h0 o0 (f 0 ++ (C0 ++ K)) s) :
  uD (uM uX w) A (.forLoop target it body [] env) R' s := by
 refine codeAny_loop' rfl (fun k s => ∃ i C, i ≤ n ∧ k = n - i ∧ P i C ∧ St h0 o0 (f i ++ (C ++ K)) s) (fun k s hI => ?_) n ⟨0, C0, tO _, rfl, h9, H⟩;obtain ⟨i, C, hi, rfl, hP, H⟩ := hI;show uL _ _ ((forTurn target it body [] env).onRaise (fun x => do noteFrame x env; theTreesLotGoes x)) _ _ s;refine wpAny_noted ?_;simp only [forTurn];refine af (E := NoE) ?_ (fun _ _ q => q) (fun _ _ q => q.elim);refine ad (tD (ad (wpAny_onRaise (af (E := NoE) ?_ (fun _ _ q => q) (fun _ _ q => q.elim)))));rcases Nat.lt_or_ge i n with hlt | hge
 ·refine S.next i _ s _ _ hlt (W i C hP) H fun v s1 hv H1 => ?_
  refine ad (S.own target i _ v s1 _ _ hv H1 fun s2 H2 => ?_);refine ad (af (turn i v C (f (i + 1) ++ K) s2 hlt hv hP (fun C s q => q.drop) H2.swap) (fun _ s3 q3 => ?_) fun _ _ q => q);refine ad (af q3 (fun fl s4 q4 => ?_) fun _ _ q => q);cases fl with
  | next =>
   obtain ⟨C', h7, H'⟩ := q4;exact ae (.inl ⟨rfl, n - (i + 1), lp4 hlt, i + 1, C', hlt, rfl, h7, H'.swap⟩)
  | cont =>
   obtain ⟨C', h7, H'⟩ := q4;exact ae (.inl ⟨rfl, n - (i + 1), lp4 hlt, i + 1, C', hlt, rfl, h7, H'.swap⟩)
  | brk => exact ae (hR _ _ q4)
  | ret v => exact ae (hR _ _ q4)
 ·have e : i = n := to hi hge;subst e;exact S.done _ s _ _ (W i C hP) H fun s1 H1 => ae (.inr ⟨rfl, codeAny_block (wpAny_execs_nil (hR _ _ (fin C s1 hP H1)))⟩)
theorem l9 (hh : A.handled = none)
  (h : uL (uM uX w) A (uU iter env) (fun x W => ∃ l xs C0 K, ∃ P : Nat → aF → Prop, x = .ref l ∧ P 0 C0 ∧ St h0 o0 (C0 ++ K) W ∧ (∀ i C, P i C → Has (C ++ K) l (aE xs)) ∧
   (∀ i v C K' s, xs[i]? = some v → P i C → (∀ C s, St h0 o0 (C ++ K') s → St h0 o0 (C ++ K) s) → St h0 o0 (C ++ K') s →
    uL (uM uX w) A (uG target env v) (fun _ s₂ => uL (uM uX w) A (uP body env) (fun f s₃ => match f with
     | .next | .cont => ∃ C', P (i + 1) C' ∧ St h0 o0 (C' ++ K') s₃
     | .brk => Q .next s₃
     | .ret v => Q (.ret v) s₃) NoE s₂) NoE s) ∧
   (∀ C s, P xs.length C → St h0 o0 (C ++ K) s → Q .next s)) E s)
  (hs : ∀ x, sF iter env x = uT x) :
  uL (uM uX w) A (exec (.For target iter body [] pos) env) Q E s := by
 refine wpAny_For (af h (fun x W h₁ => ?_) fun _ _ q => q) hs;obtain ⟨l, xs, C0, K, P, rfl, h7, H, hl, turn, fin⟩ := h₁;have h9 := hl 0 C0 h7;refine wpAny_pyIter_list (aS H h9) ?_;have H2 : St h0 o0 ((W.heap.objs.size, bA l 0) :: (C0 ++ K)) { W with heap := W.heap.push { cls := .type "list_iterator", data := .fields #[.ref l, .int 0 0] } } :=
  H.push (k := W.toks) (c := bA l 0) ⟨rfl, rfl⟩ (ah _)
 refine lH (R := Q) (cF (l := l) (xs := xs) hh) P (fun i C hP => hl i C hP) (fun i v C K' s hi hv hP hK H => turn i v C K' s hv hP hK H) fin (fun f s q => q) h7 H2
theorem gK (H : St h0 o0 cs s) (hp : Put cs l (aE xs) (aE (xs ++ [v])) cs') (hsz : xs.length ≤ ug) (h : ∀ s', St h0 o0 cs' s' → Q .none s') :
  uL (uM uX w) A (uW (.builtin "list.append") [.ref l, v]) Q E s := by
 refine wpAny_list_append_plain (hsz := by simpa using hsz) (qy H hp.has) fun h' hl hs => h _ (H.updS (k := s.toks) hp (qB hl (by simp)) hs (ah _))
noncomputable abbrev bh (ifs : List Expr) (cenv : Env) : Sem Bool := forIn ifs true fun c r => if r = true then do let ok ← isTrue c cenv (uU c cenv); uT (ForInStep.yield ok) else uT (ForInStep.yield r)
theorem fv (h : Q true s) : uL (uM uX w) A (bh [] cenv) Q E s := by
 unfold bh; rw [List.forIn_nil]; exact ae h
theorem pC (h : uL (uM uX w) A (isTrue c cenv (uU c cenv)) Q E s) : uL (uM uX w) A (bh [c] cenv) Q E s := by
 unfold bh;rw [List.forIn_cons];refine ad (ad (af h (fun ok s' q => ae ?_) fun _ _ q => q));show uL _ _ (forIn [] ok _) _ _ _;rw [List.forIn_nil]; exact ae q
theorem St.unframe (H : St h0 o0 ((L, cNs m) :: cs) s) (W : tK L s.heap h') : St h0 o0 cs { s with heap := h' } := by
 have nL : h0.get? L = none := H.new (L, cNs m) (by simp);have hd := H.nodup;rw [az, s9] at hd;refine ⟨fun b o e => (W.2 b (fun q => ?_)).trans (H.keep b o e), fun p hp => ?_, fun p hp => H.new p (au _ hp), hd.2, H.gens, H.os, H.tok, H.flo, fun p hp => H.big p (au _ hp), H.g3⟩
 ·subst q; rw [nL] at e; cases e
 ·obtain ⟨o, ho, hc⟩ := H.cell p (au _ hp);refine ⟨o, (W.2 _ (fun q => hd.1 ?_)).trans ho, hc⟩;have : p.1 ∈ List.map uo cs := aA hp;rwa [q] at this
end
section
variable {cs cs' : aF} {K : aF} {Q : VP}
theorem x_mod (H : St h0 o0 cs s) (hb : b ≠ 0) (h : ∀ W s', St h0 o0 cs s' → Q (.int (a.fmod b) W) s') : uL (uM uX w) A (binaryOp .Mod (.int a t) (.int b u)) Q E s :=
 mod_int' hb (h _ _ (H.toks (tP _)))
theorem x_fdiv (H : St h0 o0 cs s) (hb : b ≠ 0) (hs : b.natAbs < 1073741824) (h : ∀ W s', St h0 o0 cs s' → Q (.int (a.fdiv b) W) s') : uL (uM uX w) A (binaryOp .FloorDiv (.int a t) (.int b u)) Q E s :=
 floordiv_int hb (h _ _ (H.toks (tP _))) (.inl (PyProof.noPylong_small hs))
theorem x_addi (H : St h0 o0 cs s) (h : ∀ W s', St h0 o0 cs s' → Q (.int (a + b) W) s') : uL (uM uX w) A (binaryOp .Add (.int a t) (.int b u)) Q E s :=
 PyProof.Rows.add_int (h _ _ (H.toks (tP _)))
theorem x_adds (H : St h0 o0 cs s) (hsz : x.length + y.length ≤ ug) (h : ∀ W s', St h0 o0 cs s' → Q (.str (x ++ y) W) s') : uL (uM uX w) A (binaryOp .Add (.str x t) (.str y u)) Q E s :=
 fb (SB.add (fun W k hk => h W _ (H.toks hk)) hsz)
theorem x_iadds (H : St h0 o0 cs s) (hsz : x.length + y.length ≤ ug) (h : ∀ W s', St h0 o0 cs s' → Q (.str (x ++ y) W) s') : uL (uM uX w) A (inplaceOp .Add (.str x t) (.str y u)) Q E s :=
 fb (SB.iadd (fun W k hk => h W _ (H.toks hk)) hsz)
theorem dF (H : St h0 o0 cs s) (hsz : vs.length ≤ ug) (h : ∀ a s', St h0 o0 ((a, aE vs) :: cs) s' → s'.toks = s.toks → Q (.ref a) s') : uL (uM uX w) A (newList vs) Q E s :=
 sK (h _ _ (H.push (k := s.toks) ⟨0, rfl⟩ (ah _)) rfl) (by show vs.toArray.size ≤ ug; rw [sL]; exact hsz)
theorem gI (H : St h0 o0 cs s) (hsz : vs.length ≤ ug) (h : ∀ a s', St h0 o0 ((a, bn vs) :: cs) s' → s'.toks = s.toks → Q (.ref a) s') : uL (uM uX w) A (newTuple vs) Q E s :=
 sK (h _ _ (H.push (k := s.toks) ⟨0, rfl⟩ (ah _)) rfl) (by show vs.toArray.size ≤ ug; rw [sL]; exact hsz)
theorem x_len (H : St h0 o0 cs s) (hl : Has cs l (aE xs)) (hz : xs.length ≤ ug) (h : ∀ W s', St h0 o0 cs s' → Q (.int xs.length W) s') : uL (uM uX w) A (uW (.builtin "len") [.ref l]) Q E s := by
 refine len_list (aS H hl) (by rw [sL]; rw [aj] at hz; omega) ?_;rw [sL];exact h _ _ (H.toks (sU _ 2))
theorem bt {xs} (H : St h0 o0 cs s) (h : Has cs a (aE xs)) : ∃ n, s.heap.get? a = some { cls := .type "list", data := .seq xs.toArray n } := by
 obtain ⟨o, W, n, rfl⟩ := H.get h;exact ⟨n, W⟩
theorem x_lmeth {name : Str} {id : String} {pl : Sem Bool} {l : uR} {xs : List uN} {Q : uN × List uN → uF → Prop} (W : Slot "list" name id) (h7 : typeOf (.builtin id) = uT (.type "method_descriptor"))
  (H : St h0 o0 cs s) (hl : Has cs l (aE xs)) (h : Q (.builtin id, [.ref l]) s) : uL (uM uX w) A (ua (.ref l) name pl) Q E s := by
 obtain ⟨n, ho⟩ := bt H hl;exact getMethod_builtin (aS H hl).typeIs PySem.F.plainAttrs_list W h7 (fun a e => by cases e; exact ⟨_, ho, rfl⟩) h
theorem bC {f : Array uN → Array uN} {xs ys : List uN} (e : f xs.toArray = ys.toArray) : aE ys (Obj.mapSeq f { cls := .type "list", data := .seq xs.toArray n }) :=
 ⟨if (f xs.toArray).size == xs.toArray.size then n else n + 1, congrArg (fun z => ({ cls := .type "list", data := .seq z (if (f xs.toArray).size == xs.toArray.size then n else n + 1) } : Obj)) e⟩
theorem x_slice
  (h : uL (uM uX w) A (uU value env) (fun o s₁ => uL (uM uX w) A (evalPart lower env) (fun vl s₂ => uL (uM uX w) A (evalPart upper env) (fun vu s₃ =>
   ∃ l xs lo hi cs ys, o = .ref l ∧ St h0 o0 cs s₃ ∧ s₃.heap.IsList l xs ∧ xs.size ≤ ug ∧ IsPart vl lo ∧ IsPart vu hi ∧ slicePick xs lo hi none = List.toArray ys ∧ ∀ a s', St h0 o0 ((a, aE ys) :: cs) s' → Q (.ref a) s') E s₂) E s₁) E s) :
  uL (uM uX w) A (uU (.Subscript value (.Slice lower upper none p) pos) env) Q E s := by
 refine Subscript_ (af h (fun o s1 h1 => ?_) fun _ _ q => q);refine wpAny_Slice (af h1 (fun vl s2 h2 => af h2 (fun vu W h3 => ?_) fun _ _ q => q) fun _ _ q => q);obtain ⟨l, xs, lo, hi, cs, ys, rfl, H, hl, hz, p1, p2, e, hq⟩ := h3;refine ae ?_;have H1 : St h0 o0 cs { W with heap := W.heap.push { cls := .type "slice", data := .fields #[vl, vu, .none] } } := H.grow (k := W.toks) (fun b o e => r3 _ e) (ah _);have H2 := H1.push (k := W.toks) (o := { cls := .type "list", data := .seq (slicePick xs lo hi none) }) (c := aE ys) ⟨0, by rw [e]⟩ (ah _);refine tail_any (uV.IsList.typeIs (hl.push _)) slot_list_getitem.lookup (wpAny_getItem_list_slice (hl.push _) (uV.IsSliceOf.new ..) p1 p2 .none (by simp) (hq _ _ H2) hz) rfl
theorem x_join (H : St h0 o0 cs s) (hl : Has cs D (aE (strValues l))) (W : JoinOk x (l.map (·.1)) = true) (h : ∀ t' s', St h0 o0 cs s' → Q (.str (Txt.join x (l.map (·.1))) t') s') :
  uL (uM uX w) A (uW (.builtin "str.join") [.str x t, .ref D]) Q E s :=
 fb (SC.join (aS H hl) rfl W fun t' k hk => h t' _ (H.toks hk))
theorem x_eqNil (H : St h0 o0 cs s) (ha : Has cs a (aE xs)) (hb : Has cs b (aE [])) (W : A.units < cLine) (h : Q (.bool xs.isEmpty) s) : uL (uM uX w) A (uc .Eq (.ref a) (.ref b)) Q E s := by
 refine cmp_ofEq ?_;cases xs with
 | nil => exact SeqAt.RcAt.lists (e := fun _ => true) (aS H ha) (aS H hb) rfl W (fun j h1 _ => absurd h1 (by simp)) _ _ _ _ h
 | cons x r => exact SeqAt.RcAt.lists_lengths (aS H ha) (aS H hb) (by simp) W _ _ _ _ h
theorem x_neNil (H : St h0 o0 cs s) (ha : Has cs a (aE xs)) (hb : Has cs b (aE [])) (W : A.units < cLine) (h : Q (.bool (!xs.isEmpty)) s) : uL (uM uX w) A (uc .NotEq (.ref a) (.ref b)) Q E s := by
 refine cmp_ofNotEq ?_;cases xs with
 | nil => exact SeqAt.RcNeAt.lists (e := fun _ => true) (aS H ha) (aS H hb) rfl W (fun j h1 _ => absurd h1 (by simp)) _ _ _ _ h
 | cons x r => exact SeqAt.RcNeAt.lists_lengths (aS H ha) (aS H hb) (by simp) W _ _ _ _ h
end
section
variable {cs cs' : aF} {K : Frag} {Q : VP}
theorem nY (H : St h0 o0 cs s) (h : Has cs c (aO v)) : s.heap.IsCell c v := by
 obtain ⟨o, W, hd⟩ := H.get h;exact ⟨o, W, hd⟩
theorem x_cell (H : St h0 o0 cs s) (hp : Has cs c (aO (some v))) (hk : env.scope.kind = .function) (hl : env.kindOf x = some .cell) (hc : env.cells.lookup x = some c)
  (hd : (x == ("__debug__" : Str)) = false) (h : Q v s) : uL (uM uX w) A (uU (.Name x pos) env) Q E s := wpAny_Name (wpAny_loadName_cell hk hl hc (nY H hp) h) hd
theorem pD {x : Str} {c : uR} {v : uN} {u : Option uN} {Q : Unit → uF → Prop} (H : St h0 o0 cs s) (hp : Put cs c (aO u) (aO (some v)) cs') (hk : env.scope.kind = .function) (hl : env.kindOf x = some .cell)
  (hc : env.cells.lookup x = some c) (h : ∀ s', St h0 o0 cs' s' → Q () s') : uL (uM uX w) A (tX env x v) Q E s := by
 refine wpAny_storeName_cell hk hl hc (nY H hp.has) fun h' hn W => h _ (H.updS (k := s.toks) hp ?_ W (ah _))
 obtain ⟨o, ho, hd⟩ := hn;exact ⟨o, ho, hd⟩
noncomputable def lK (K : Frag) (a : uR) : Bool := match K.lookup a with
 | some ⟨_, _, .func fd, _⟩ => codeIn K fd.code fd.qualname && !fd.scope.isCoroutine && !fd.scope.isGenerator && fd.scope.kind == .function && j7 fd.body && fd.closure.isEmpty
 | _ => false
structure St0 (h0 : uV) (o0 : uF) (cs : aF) (s : uF) : Prop where
 keep : ∀ b o, h0.get? b = some o → s.heap.get? b = some o
 cell : ∀ p ∈ cs, ∃ o, s.heap.get? p.1 = some o ∧ p.2 o
 new : ∀ p ∈ cs, h0.get? p.1 = none
 nodup : (cs.map uo).Nodup
 gens : GensOk o0.gens s.gens
 os : s.os = o0.os
 flo : o0.toks ≤ s.toks
 big : ∀ p ∈ cs, 3 < p.1
 g3 : ∃ o, h0.get? 3 = some o
theorem x_fnC (B : Base K h0) (H : St0 h0 o0 cs s) (hf : lK K fa = true) (x1 : A.depth < ty)
  (h9 : bindArgs (aZ K fa) ⟨[v], []⟩ = uT [(x, v)]) (x0 : (aZ K fa).scope.names.lookup x = some .local)
  (h : ∀ L s', St h0 o0 ((L, cNs [(x, v)]) :: ((cellsFrom (L + 1) (aZ K fa).scope.names []).map (fun p => (p.2, aO none)) ++ cs)) s' →
   uL (uM uX w) (A.deeper (um (aZ K fa) L fa)) (uP (a7 K fa) (um (aZ K fa) L fa)) (fun f y0 => Q (match f with | .ret v => v | _ => .none) y0) NoE s') :
  uL (uM uX w) A (uW (.ref fa) [v]) Q E s := by
 unfold lK at hf;split at hf
 ·rename_i c d fd sl ho;simp only [sP, Bool.not_eq_true', beq_iff_eq] at hf;obtain ⟨⟨⟨⟨⟨h1, h2⟩, h3⟩, h4⟩, h6⟩, h7⟩ := hf;have e : aZ K fa = fd := by unfold aZ; rw [ho]
  have eb : fd.body = .stmts (a7 K fa) := by
   unfold a7; rw [e];cases hb : fd.body with
   | stmts b => rfl
   | expr _ => rw [hb] at h6; cases h6
  rw [e] at h9 x0 h;refine wpAny_call (codeAny_call_function x1 (H.keep _ _ (B.X _ _ ho)) rfl h2 h3 eb ((codeRec_of B.X h1).keeps H.keep) ?_);rw [h9, List.isEmpty_iff.mp h7];refine ae ?_;simp only [newFunctionEnv, Option.isSome_none, sA, if_false];refine ad (wpAny_alloc ?_);refine ad (wpAny_layCells _ (fun name kind cells => by cases hkc : kind == NameKind.cell <;> simp) _ _ _ _ ?_);have ok := cellsFrom_ok fd.scope.names (s.heap.push { cls := .type "frame", data := .dict #[] }) (s.heap.objs.size + 1) [] ⟨fun _ _ hm => (nomatch hm), List.Pairwise.nil⟩ (by rw [uV.size_push]; exact ah _);rw [uV.size_push] at ok;rw [show ({ s with heap := s.heap.push { cls := .type "frame", data := .dict #[] } } : uF).heap.objs.size = s.heap.objs.size + 1 from uV.size_push ..];have x4 : ∀ b o, s.heap.get? b = some o → (pushCells (s.heap.push { cls := .type "frame", data := .dict #[] }) fd.scope.names).get? b = some o := fun b o q => pushCells_keeps _ _ b o (r3 _ q)
  have x7 : (pushCells (s.heap.push { cls := .type "frame", data := .dict #[] }) fd.scope.names).Ns s.heap.objs.size (fun _ => none) := (uV.Ns.new s.heap (.type "frame")).keeps (pushCells_keeps _ _);rw [List.forIn_cons];refine ad (ad (ad ?_));refine wpAny_storeName_local (s := { s with heap := pushCells (s.heap.push { cls := .type "frame", data := .dict #[] }) fd.scope.names }) (env := { scope := fd.scope, locals := s.heap.objs.size, globals := fd.globals, cells := cellsFrom (s.heap.objs.size + 1) fd.scope.names [], qual := fd.qualname ++ ".<locals>.", func := some fa, code := fd.code, frame := some s.heap.objs.size, builtins := fd.builtins }) x0 x7 (fun h' hn x5 => ?_) (by rw [h4]; rfl);refine ae ?_;show uL _ _ (forIn [] PUnit.unit _) _ _ _;rw [List.forIn_nil];refine ae (ae ?_);have x3 : ∀ b o, s.heap.get? b = some o → h'.get? b = some o := fun b o q => (x5.2 b (tN (tM q))).trans (x4 b o q)
  refine ⟨(B.lim.keeps H.keep).keeps x3, codeAny_func (af (h s.heap.objs.size _ ?_) (fun f s' q => q) fun _ _ q => q.elim)⟩;have W : ∀ a, s.heap.objs.size ≤ a → 3 < a := fun a ha => by
   obtain ⟨o, ho⟩ := H.g3;exact sw (tM (H.keep _ _ ho)) ha
  have fresh : ∀ a, s.heap.objs.size ≤ a → a ∉ cs.map uo ∧ h0.get? a = none := fun a ha => by
   constructor
   ·intro hm;obtain ⟨p, hp, rfl⟩ := tG.mp hm;obtain ⟨o, ho, _⟩ := H.cell p hp;exact tE _ (sw (tM ho) ha)
   ·cases e : h0.get? a with
    | none => rfl
    | some o => exact absurd (tM (H.keep _ _ e)) (Nat.not_lt.mpr ha)
  refine ⟨fun b o q => x3 b o (H.keep b o q), fun p hp => ?_, fun p hp => ?_, ?_, H.gens, H.os, Nat.succ_ne_zero _, tH H.flo (tP _), fun p hp => ?_, H.g3⟩
  ·rcases tB.mp hp with rfl | hp
   ·exact g1 hn (m := [(x, v)]) fun y u q => by
     simp only [sR] at q;by_cases hy : y = x
     ·subst hy; simpa using q
     ·have : (y == x) = false := by simpa using hy
      rw [this] at q; cases q
   ·rcases s8.mp hp with hp | hp
    ·obtain ⟨⟨n, c⟩, hm, rfl⟩ := tG.mp hp;obtain ⟨⟨o, x2, x8⟩, x6⟩ := ok.empty n c hm;exact ⟨o, (x5.2 c (Nat.ne_of_gt x6)).trans x2, x8⟩
    ·obtain ⟨o, x2, x9⟩ := H.cell p hp;exact ⟨o, x3 _ _ x2, x9⟩
  ·rcases tB.mp hp with rfl | hp
   ·exact (fresh _ (ah _)).2
   ·rcases s8.mp hp with hp | hp
    ·obtain ⟨⟨n, c⟩, hm, rfl⟩ := tG.mp hp;exact (fresh c (by have := (ok.empty n c hm).2; exact oq3 this)).2
    ·exact H.new p hp
  ·rw [az, ao, s9, sH];refine ⟨fun hm => ?_, ?_, H.nodup, ?_⟩
   ·rcases s8.mp hm with hm | hm
    ·rw [tI] at hm;obtain ⟨⟨n, c⟩, hm, e⟩ := tG.mp hm;have := (ok.empty n c hm).2;have e' : c = s.heap.objs.size := e;rw [e'] at this;exact tE _ this
    ·exact (fresh _ (ah _)).1 hm
   ·rw [tI, List.nodup_iff_pairwise_ne, sG];exact ok.apart
   ·intro a ha b hb e;rw [tI] at ha;obtain ⟨⟨n, c⟩, hm, e'⟩ := tG.mp ha;have := (ok.empty n c hm).2;have e2 : c = a := e';subst e e2;exact (fresh c (by exact oq3 this)).1 hb
  ·rcases tB.mp hp with rfl | hp
   ·exact W _ (ah _)
   ·rcases s8.mp hp with hp | hp
    ·obtain ⟨⟨n, c⟩, hm, rfl⟩ := tG.mp hp;exact W c (by have := (ok.empty n c hm).2; exact oq3 this)
    ·exact H.big p hp
 ·cases hf
theorem Base.addr (B : Base K h0) (ok : fJ K = true) (hn : h0.Ns tS mg) (hx : nsFind (eJ K) x = some (.ref b)) (hm : mg x = some (.ref a)) : a = b := by
 obtain ⟨o, es, ep, ho, hd, _, hf⟩ := hn;obtain ⟨o', x0, x1, h7, W, _, h9⟩ := B.ns ok;rw [ho] at h7; cases h7;rw [hd] at W; cases W;have := (hf x).symm.trans ((h9 x).trans hx);rw [hm] at this;exact tW.inj (tq this)
end
theorem ints_pairs (h : IntsAre vs ns) : ∃ ps : List (Int × Tok), vs = ps.map (fun p => uN.int p.1 p.2) ∧ ps.length = ns.length := by
 induction h with
 | nil => exact ⟨[], rfl, rfl⟩
 | cons n t _ ih =>
  obtain ⟨ps, e1, W⟩ := ih;exact ⟨(n, t) :: ps, by rw [e1]; rfl, by simp [W]⟩
section
variable {cs cs' : aF} {K : Frag} {Q : VP}
noncomputable def q9 (K : Frag) (a : uR) : Bool := match K.lookup a with | some ⟨_, _, .func _, _⟩ => true | _ => false
theorem x_callF (B : Base K h0) (hf : q9 K fa = true)
  (h : uL (uM uX w) A (spliced (uI pos (ue (e :: rest) env))) (fun vs W => (∃ o0 cs, St h0 o0 cs W) ∧ uL (uM uX w) A (uW (.ref fa) vs) Q E W) E s)
  (he : ue (e :: rest) env = (false, uU e env) :: ue rest env := by rfl) :
  uL (uM uX w) A (ur pos (.ref fa) [] (uI pos (ue (e :: rest) env)) []) Q E s := by
 unfold q9 at hf;split at hf
 ·rename_i c d fd sl ho;refine callWith_def (o := ⟨c, d, .func fd, sl⟩) (fd := fd) rfl (af h (fun vs W q => ?_) fun _ _ q => q) he;obtain ⟨⟨o0, cs, H⟩, q⟩ := q;exact ⟨H.keep _ _ (B.X _ _ ho), q⟩
 ·cases hf
theorem oq {Q : Unit → uF → Prop} (hh : A.handled = none) (H : St h0 o0 cs s) (ht : Has cs t (bn [u, v]))
  (h : ∀ s', St h0 o0 cs s' → uL (uM uX w) A (tX env a u) (fun _ W => uL (uM uX w) A (tX env b v) Q E W) E s') :
  uL (uM uX w) A (uG (.Tuple [.Name a pa, .Name b pb] k pos) env (.ref t)) Q E s := by
 refine wpAny_assign_Tuple hh (gN H ht) (by rfl) (by rfl) fun h' he => ?_
 have H' : St h0 o0 cs { s with heap := h' } := H.grow (k := s.toks) (fun b o e => he b o (tN (tM e)) e) (ah _);refine rR (t := uG (.Name a pa) env) (ts := [uG (.Name b pb) env]) (x := u) (xs := [v]) ?_;refine sJ (af (h _ H') (fun _ W q => ?_) fun _ _ q => q);refine rR (t := uG (.Name b pb) env) (ts := []) (x := v) (xs := []) ?_;refine sJ (af q (fun _ s2 q => ?_) fun _ _ q => q);exact wpAny_assignInOrder_none q
theorem St.ne (H : St h0 o0 cs s) (h1 : Pick cs a c r) (h2 : Has r b d) : a ≠ b := by
 have := (H.pick h1).nodup;rw [az, s9] at this;intro e; subst e;have q : (a, d).1 ∈ List.map uo r := aA h2.mem;exact this.1 q
theorem x_eqstr (h : Q (.bool (x == y)) s) : uL (uM uX w) A (uc .Eq (.str x t) (.str y u)) Q E s := cmp_ofEq (SeqAt.RcAt.str_str x t y u _ _ _ _ h)
theorem x_nestr (h : Q (.bool (x != y)) s) : uL (uM uX w) A (uc .NotEq (.str x t) (.str y u)) Q E s := by
 refine P.ne_str ?_;have : (x.cps.toList != y.cps.toList) = (x != y) := by
  unfold bne;rw [SeqAt.str_beq]
 rw [this]; exact h
end
section
variable {cs cs' : aF} {K : aF} {Q : VP}
inductive LAt (h0 : uV) (cs : aF) (l : uR) (xs : List uN) : Prop where
 | old : h0.IsList l xs.toArray → LAt h0 cs l xs
 | new : Has cs l (aE xs) → LAt h0 cs l xs
theorem LAt.isList (h : LAt h0 cs l xs) (H : St h0 o0 cs s) : s.heap.IsList l xs.toArray := by
 cases h with
 | old h => obtain ⟨o, W, r⟩ := h; exact ⟨o, H.keep _ _ W, r⟩
 | new h => exact aS H h
noncomputable def ej (a b c : Int) : cP := fun o => ∃ t u v, o = { cls := .type "range", data := .fields #[.int a t, .int b u, .int c v] }
theorem kH {target iter : Expr} {body : List Stmt} {pos : Pos} {Q : FP} (hh : A.handled = none)
  (h : uL (uM uX w) A (uU iter env) (fun x W => ∃ r a b c n C0 K, ∃ P : Nat → aF → Prop, x = .ref r ∧ P 0 C0 ∧ St h0 o0 (C0 ++ K) W ∧ Has (C0 ++ K) r (ej a b c) ∧ uv.Range.small a b c = true ∧ rX a b c = (n : Nat) ∧
   (∀ i u C K' s, i < n → P i C → (∀ C s, St h0 o0 (C ++ K') s → St h0 o0 (C ++ K) s) → St h0 o0 (C ++ K') s →
    uL (uM uX w) A (uG target env (.int (a + (i : Nat) * c) u)) (fun _ s₂ => uL (uM uX w) A (uP body env) (fun f s₃ => match f with
     | .next | .cont => ∃ C', P (i + 1) C' ∧ St h0 o0 (C' ++ K') s₃
     | .brk => Q .next s₃
     | .ret v => Q (.ret v) s₃) NoE s₂) NoE s) ∧
   (∀ C s, P n C → St h0 o0 (C ++ K) s → Q .next s)) E s)
  (hs : ∀ x, sF iter env x = uT x) :
  uL (uM uX w) A (exec (.For target iter body [] pos) env) Q E s := by
 refine wpAny_For (af h (fun x W h₁ => ?_) fun _ _ q => q) hs;obtain ⟨r, a, b, c, n, C0, K, P, rfl, x0, H, hr, h9, hn, turn, fin⟩ := h₁;obtain ⟨o, ho, t, u, v, rfl⟩ := H.get hr;refine wpAny_pyIter_range ho h9 ?_;have H2 : St h0 o0 ((W.heap.objs.size, n5 W.heap.objs.size (fun i h => IsRangeIter h W.heap.objs.size (a + (i : Nat) * c) ((n : Int) - (i : Nat)) c) 0) :: (C0 ++ K)) _ :=
  H.push (k := W.toks) (o := { cls := .type "range_iterator", data := .fields #[uH a, uH (rX a b c), uH c] }) (fun h h7 => by
   show IsRangeIter _ _ _ _ _;rw [hn] at h7;simpa using h7) (ah _)
 refine lH (R := Q) (kT (Walks.range hh W.heap.objs.size a c n) (fun i v ⟨t, e⟩ q q2 => by rw [e] at q2; cases q2) (fun i h q => ⟨_, q⟩)) P (fun _ _ _ => trivial) ?_ fin (fun f s q => q) x0 H2;rintro i v C K' s hi ⟨u, rfl⟩ hP hK H;exact turn i u C K' s hi hP hK H
theorem pH (H : St h0 o0 cs s) (h : ∀ a s', St h0 o0 ((a, ej 0 n 1) :: cs) s' → Q (.ref a) s') : uL (uM uX w) A (uW (.type "range") [.int n t]) Q E s :=
 call_range_1 (h _ _ (H.push (k := s.toks + 1 + 1) ⟨_, _, _, rfl⟩ (by exact bD 42644626140 0)))
theorem x_itemG (H : St h0 o0 cs s) (hl : LAt h0 cs l xs) (W : 0 ≤ k) (h7 : k < 2 ^ 63) (hx : xs[k.toNat]? = some v)
  (hs : subscripted slice false (.ref l) (.int k u) = operate [.ref l, .int k u] (getItem (.ref l) (.int k u))) (h : Q v s) : uL (uM uX w) A (subscriptTail value slice (.ref l) (.int k u)) Q E s :=
 tail_any (hl.isList H).typeIs slot_list_getitem.lookup (wpAny_getItem_list (hl.isList H) W h7 (by simpa using hx) h) hs
noncomputable def aL (uX : uy) (w : uQ) (kvs : List (Str × uN)) : cP := fun o => o.IsDictOf (tC uX w) kvs
theorem bW (H : St h0 o0 cs s) (h : Has cs d (aL uX w kvs)) : s.heap.DictOf (tC uX w) d kvs := by
 obtain ⟨o, W, hc⟩ := H.get h;exact uV.dictOf_iff.mpr ⟨o, W, hc⟩
theorem x_dict0 (H : St h0 o0 cs s) (h : ∀ d s', St h0 o0 ((d, aL uX w []) :: cs) s' → Q (.ref d) s') : uL (uM uX w) A (uU (.Dict [] [] pos) env) Q E s :=
 wpAny_Dict_empty (h _ _ (H.push (k := s.toks) (let ⟨o, ho, hc⟩ := uV.dictOf_iff.mp (uV.DictOf.new (knd := tC uX w) s.heap); by
  rw [sm _ rfl] at ho; cases ho; exact hc) (ah _)))
theorem x_dget (H : St h0 o0 cs s) (hl : Has cs d (aL uX w kvs)) (W : uE kvs k = some v)
  (hs : subscripted slice false (.ref d) (.str k u) = operate [.ref d, .str k u] (getItem (.ref d) (.str k u))) (h : ∀ s', St h0 o0 cs s' → Q v s') : uL (uM uX w) A (subscriptTail value slice (.ref d) (.str k u)) Q E s :=
 tail_any (bW H hl).typeIs slot_dict_getitem.lookup (wpAny_getItem_of (strKind_is uX w k u) (bW H hl).mapOf W (h _ (H.toks (tP _)))) hs
theorem x_dset {d : uR} {kvs : List (Str × uN)} {k : Str} {u : Tok} {v : uN} {Q : Unit → uF → Prop} (H : St h0 o0 cs s) (hp : Put cs d (aL uX w kvs) (aL uX w (stored kvs k v)) cs') (hz : kvs.length ≤ ug)
  (h : ∀ s', St h0 o0 cs' s' → Q () s') : uL (uM uX w) A (setItem (.ref d) (.str k u) v) Q E s := by
 refine wpAny_setItem_pairs (strKind_is uX w k u) (bW H hp.has) (fun h' hm hs => h _ (H.updS (k := s.toks + 1) hp ?_ hs (tP _))) hz;exact uV.dictOf_iff.mp hm
theorem pG {value step : Expr} {lower upper : Option Expr} {p pos : Pos}
  (h : uL (uM uX w) A (uU value env) (fun o s₁ => uL (uM uX w) A (evalPart lower env) (fun vl s₂ => uL (uM uX w) A (evalPart upper env) (fun vu s₃ => uL (uM uX w) A (uU step env) (fun vs s₄ =>
   ∃ l xs lo hi st cs ys, o = .ref l ∧ St h0 o0 cs s₄ ∧ s₄.heap.IsList l xs ∧ xs.size ≤ ug ∧ IsPart vl lo ∧ IsPart vu hi ∧ IsPart vs st ∧ st ≠ some 0 ∧ slicePick xs lo hi st = List.toArray ys ∧ ∀ a s', St h0 o0 ((a, aE ys) :: cs) s' → Q (.ref a) s') E s₃) E s₂) E s₁) E s) :
  uL (uM uX w) A (uU (.Subscript value (.Slice lower upper (some step) p) pos) env) Q E s := by
 refine Subscript_ (af h (fun o s1 h1 => ?_) fun _ _ q => q);refine wpAny_Slice (af h1 (fun vl s2 h2 => af h2 (fun vu s3 h3 => af h3 (fun vs W h4 => ?_) fun _ _ q => q) fun _ _ q => q) fun _ _ q => q);obtain ⟨l, xs, lo, hi, st, cs, ys, rfl, H, hl, hz, p1, p2, p3, h7, e, hq⟩ := h4;have H1 : St h0 o0 cs { W with heap := W.heap.push { cls := .type "slice", data := .fields #[vl, vu, vs] } } := H.grow (k := W.toks) (fun b o e => r3 _ e) (ah _);have H2 := H1.push (k := W.toks) (o := { cls := .type "list", data := .seq (slicePick xs lo hi st) }) (c := aE ys) ⟨0, by rw [e]⟩ (ah _);refine tail_any (uV.IsList.typeIs (hl.push _)) slot_list_getitem.lookup (wpAny_getItem_list_slice (hl.push _) (uV.IsSliceOf.new ..) p1 p2 p3 h7 (hq _ _ H2) hz) rfl
theorem x_neg (H : St h0 o0 cs s) (h : ∀ W s', St h0 o0 cs s' → Q (.int (-a) W) s') : uL (uM uX w) A (unaryOp .USub (.int a t)) Q E s :=
 neg_int (h _ _ (H.toks (tP _)))
end
section
open PySem PyProof.Rows Builtin Builtin.Str
noncomputable def gu (y : List Nat) : Nat → List Nat → List (List Nat)
 | _, [] => [[]]
 | k + 1, _ :: r => gu y k r
 | 0, c :: r => if y.isPrefixOf (c :: r) then [] :: gu y (y.length - 1) r else
  match gu y 0 r with
  | p :: ps => (c :: p) :: ps
  | [] => [[c]]
noncomputable def rp (y z : List Nat) : Nat → List Nat → List Nat
 | _, [] => []
 | k + 1, _ :: r => rp y z k r
 | 0, c :: r => if y.isPrefixOf (c :: r) then z ++ rp y z (y.length - 1) r else c :: rp y z 0 r
noncomputable def jn (z : List Nat) : List (List Nat) → List Nat
 | [] => []
 | [x] => x
 | x :: y :: r => x ++ z ++ jn z (y :: r)
noncomputable def eK (u : List Nat) : List (List Nat) → List (List Nat)
 | p :: ps => (u ++ p) :: ps
 | [] => [u]
theorem jL (y : List Nat) : ∀ (l : List Nat) (k : Nat), gu y k l ≠ []
 | [], _ => by simp [gu]
 | c :: r, k + 1 => by rw [gu]; exact jL y r k
 | c :: r, 0 => by
  rw [gu];split
  ·simp
  ·split <;> simp
theorem k6 (y : List Nat) : ∀ (k : Nat) (l : List Nat), gu y k l = gu y 0 (l.drop k)
 | 0, l => by simp
 | k + 1, [] => by simp [gu]
 | k + 1, c :: r => by rw [gu, k6 y k r, List.drop_succ_cons]
theorem ny (y z : List Nat) : ∀ (k : Nat) (l : List Nat), rp y z k l = rp y z 0 (l.drop k)
 | 0, l => by simp
 | k + 1, [] => by simp [rp]
 | k + 1, c :: r => by rw [rp, ny y z k r, List.drop_succ_cons]
theorem jk {α : Type} (c : α) (r : List α) (h : 1 ≤ n) : r.drop (n - 1) = (c :: r).drop n := by
 obtain ⟨m, rfl⟩ : ∃ m, n = m + 1 := ⟨n - 1, by exact (bD 0x5d3ef9b301424 0x28f77402d3072e29d0f8a) h⟩;simp
theorem nC (W : 1 ≤ y.length) (h : y.isPrefixOf l = true) : gu y 0 l = [] :: gu y 0 (l.drop y.length) := by
 cases l with
 | nil => cases y with
  | nil => simp at W
  | cons a b => simp at h
 | cons c r => rw [gu, if_pos h, k6, jk c r W]
theorem mu (W : 1 ≤ y.length) (h : y.isPrefixOf l = true) : rp y z 0 l = z ++ rp y z 0 (l.drop y.length) := by
 cases l with
 | nil => cases y with
  | nil => simp at W
  | cons a b => simp at h
 | cons c r => rw [rp, if_pos h, ny, jk c r W]
theorem k7 (h : y.isPrefixOf (c :: r) = false) : gu y 0 (c :: r) = eK [c] (gu y 0 r) := by
 rw [gu, if_neg (by rw [h]; exact sB)];cases gu y 0 r <;> rfl
theorem jI (h : y.isPrefixOf (c :: r) = false) : rp y z 0 (c :: r) = c :: rp y z 0 r := by
 rw [rp, if_neg (by rw [h]; exact sB)]
theorem nJ (z x : List Nat) (ps : List (List Nat)) (h : ps ≠ []) : jn z (x :: ps) = x ++ z ++ jn z ps := by
 cases ps with
 | nil => exact absurd rfl h
 | cons p r => rfl
theorem mG (z u : List Nat) (ps : List (List Nat)) (h : ps ≠ []) : jn z (eK u ps) = u ++ jn z ps := by
 cases ps with
 | nil => exact absurd rfl h
 | cons p r =>
  cases r with
  | nil => rfl
  | cons q r => simp only [eK, jn, av]
theorem mF (y z : List Nat) (W : 1 ≤ y.length) : ∀ (n : Nat) (l : List Nat), l.length ≤ n → jn z (gu y 0 l) = rp y z 0 l
 | 0, l, hl => by
  have : l = [] := rT.mp (by exact (bD 0x5ee9fd64581ac 0) hl);subst this; rfl
 | n + 1, [], hl => rfl
 | n + 1, c :: r, hl => by
  simp only [sO] at hl;cases h : y.isPrefixOf (c :: r) with
  | true =>
   rw [nC W h, mu W h, nJ _ _ _ (jL _ _ _), mF y z W n _ (by rw [List.length_drop, sO]; exact (bZ 0x48d1bf3528b79a62beaf2e 0x71e5ddd310537) W hl)];rfl
  | false =>
   rw [k7 h, jI h, mG _ _ _ (jL _ _ _), mF y z W n _ (by exact (a9 0x5f461a545e57e 0) hl)];rfl
theorem jM (y : List Nat) : ∀ (n : Nat) (l : List Nat), n ≤ l.length → (∀ k, k < n → y.isPrefixOf (l.drop k) = false) → gu y 0 l = eK (l.take n) (gu y 0 (l.drop n))
 | 0, l, _, _ => by
  simp only [List.take_zero, List.drop_zero];cases h : gu y 0 l with
  | nil => exact absurd h (jL _ _ _)
  | cons p r => rfl
 | n + 1, [], h, _ => by simp at h
 | n + 1, c :: r, h, hn => by
  have h0 := hn 0 (by exact bD 41099033350 0);rw [List.drop_zero] at h0;rw [k7 h0, jM y n r (by simpa using h) (fun k hk => by simpa using hn (k + 1) (by exact (a9 0x59d6d8bbc198e 0) hk))];simp only [List.take_succ_cons, List.drop_succ_cons];cases gu y 0 (List.drop n r) <;> rfl
theorem m3 (x y : Str) (i : Nat) (hy : 1 ≤ y.length) : StrLaws.At x y x.length i ↔ y.cps.toList.isPrefixOf (x.cps.toList.drop i) = true := by
 unfold StrLaws.At;rw [StrLaws.subAt_eq, List.isPrefixOf_iff_prefix, List.prefix_iff_eq_take, beq_iff_eq];have W : y.length = y.cps.toList.length := by simp [Str.length]
 have e2 : x.length = x.cps.toList.length := by simp [Str.length]
 constructor
 ·rintro ⟨h1, h2⟩; rw [← W]; exact h2.symm
 ·intro h;rw [← W] at h;refine ⟨?_, h.symm⟩;have := congrArg tQ h;rw [List.length_take, List.length_drop] at this;exact (om5 0x6090e8b4039b036cfba17085052 0x46f92304368b662f226e56bbc69368704cd386b6f652297f2575df522755a32afb45c0a6b3ac9210c367b6dd931e4e3ef2e4cd898fa54e1bf054930eb7cc945a00e3b6f1b5fc8ef46ed2fd51f935d3baf26e861fa6a890e29c7bb3c0055ecf9a0c3548964236065c053ceb868c192ff2fe0a35a4e704ea5a9759f4f6d1ce543b6d2174652) hy W e2 this
theorem i8 (x y : Str) (hy : 1 ≤ y.length) : ∀ (W : List Nat) (a f : Nat), a ≤ x.length → StrLaws.ChainG x y x.length a W f → (∀ k, f ≤ k → ¬ StrLaws.At x y x.length k) →
  (StrLaws.partsFrom x y.length a W).map (·.cps.toList) = gu y.cps.toList 0 (x.cps.toList.drop a)
 | [], a, f, ha, hc, hn => by
  have hf : f = a := hc;subst hf;have e2 : x.length = x.cps.toList.length := by simp [Str.length]
  have hg := jM y.cps.toList (x.cps.toList.drop f).length (x.cps.toList.drop f) (ah _) (fun k _ => by
   rw [List.drop_drop];have := hn (f + k) (by exact a9 36868308 0);rw [m3 x y _ hy] at this;exact Bool.not_eq_true _ ▸ this)
  rw [hg];simp only [List.take_length, List.drop_length, gu, eK, s7, StrLaws.partsFrom, az, tJ, StrLaws.strSub_toList];rw [rZ (by rw [List.length_drop]; exact (bZ 0x60a5822520276 0x4288f2d5e83edc2aa691ed3032e1846) e2)]
 | c :: r, a, f, ha, hc, hn => by
  obtain ⟨h1, h2, h3, h4⟩ := hc;have e2 : x.length = x.cps.toList.length := by simp [Str.length]
  have ey : y.length = y.cps.toList.length := by simp [Str.length]
  have h7 : c + y.length ≤ x.length := h2.1;have hg := jM y.cps.toList (c - a) (x.cps.toList.drop a) (by rw [List.length_drop]; exact (om5 0xfd5a2d9131c72523cf6 0x54cb4a01290ad47d1a22f6288283eab60ccd) e2 h7) (fun k hk => by
   rw [List.drop_drop];have := h3 (a + k) (by exact a9 36868308 0) (by exact (bZ 0x5bde07734bac2 1733273189277) hk);rw [m3 x y _ hy] at this;exact Bool.not_eq_true _ ▸ this)
  have h9 := (m3 x y c hy).mp h2;rw [hg, List.drop_drop, show a + (c - a) = c from by exact (a9 0x5d4a6d75871aa 0x2900cabbe5a82bd69cb5a) h1, nC (by exact (a9 50005003012295 44138427) hy ey) h9, List.drop_drop, ← ey];have ih := i8 x y hy r (c + y.length) f h7 h4 hn;simp only [StrLaws.partsFrom, az, StrLaws.strSub_toList, eK, s7, ih]
theorem fH (z : Str) : ∀ W : List Str, (glued z W).cps.toList = jn z.cps.toList (W.map (·.cps.toList)) := by
 intro W;rw [StrLaws.glued_eq_join];induction W with
 | nil => rfl
 | cons x r ih =>
  cases r with
  | nil => rfl
  | cons q r =>
   show (x ++ z ++ Str.join z (q :: r)).cps.toList = _;simp only [Str.cps_append, Array.toList_append, ih];rfl
theorem gX (x y z : Str) (W : 1 ≤ y.length) : (Txt.replace x y z).cps.toList = rp y.cps.toList z.cps.toList 0 x.cps.toList := by
 obtain ⟨f, hc, hn⟩ := StrLaws.occ_tight x y W;have hp := i8 x y W _ 0 f (tO _) hc hn;rw [List.drop_zero] at hp;have ey : y.length = y.cps.toList.length := by simp [Str.length]
 unfold Txt.replace;have h0 : (y.length == 0) = false := by simp; exact (bD 48247278735852 1297067) W
 rw [h0, Bool.false_and, Bool.or_false];rw [← mF y.cps.toList z.cps.toList (by exact (a9 50005003012295 44138427) W ey) _ _ (ah _), ← hp];cases he : (occurrences x y 0 x.length (x.length + 1)).isEmpty
 ·rw [if_neg sB, fH, StrLaws.partsBetween_eq]
 ·rw [if_pos rfl];rw [List.isEmpty_iff.mp he];simp only [StrLaws.partsFrom, az, tJ, jn, StrLaws.sub_whole]
theorem kZ (x y z : Str) (W : 1 ≤ y.length) : (Txt.replace x y z).length ≤ x.length * (z.length + 1) := by
 have key : ∀ (n : Nat) (l : List Nat), l.length ≤ n → (rp y.cps.toList z.cps.toList 0 l).length ≤ l.length * (z.cps.toList.length + 1) := by
  intro n;induction n with
  | zero => intro l hl; have : l = [] := rT.mp (by exact (bD 0x5ee9fd64581ac 0) hl); subst this; simp [rp]
  | succ n ih =>
   intro l hl;cases l with
   | nil => simp [rp]
   | cons c r =>
    simp only [sO] at hl;have ey : y.length = y.cps.toList.length := by simp [Str.length]
    cases h : y.cps.toList.isPrefixOf (c :: r) with
    | true =>
     rw [mu (by exact (a9 50005003012295 44138427) W ey) h, aw];have := ih ((c :: r).drop y.cps.toList.length) (by rw [List.length_drop, sO]; exact (jP 0x2c595f4cc41ce98fd73fc1b12e 0x9127a3a28be3fef0f7) W hl ey);rw [List.length_drop, sO] at this;rw [sO, Nat.add_mul];have h2 : (r.length + 1 - y.cps.toList.length) * (z.cps.toList.length + 1) ≤ r.length * (z.cps.toList.length + 1) := Nat.mul_le_mul_right _ (by exact (bZ 0x3a05d69bfd2c493ee 0x20251fcf4c16d1cb) W ey);exact (jP 0x97b3054c3eac55bdc83b0e2 0) this h2
    | false =>
     rw [jI h, sO, sO, Nat.add_mul];have := ih r (by exact (a9 0x5f461a545e57e 0) hl);exact (bZ 0xfca576a0d431e4a11de 0) this
 have := key _ x.cps.toList (ah _);rw [← gX x y z W] at this;simpa [Str.length] using this
end
section
variable {cs cs' : aF} {Q : VP}
theorem oD (H : St h0 o0 cs s) (hl : Has cs l (aE (ys ++ [v]))) (h : Q v s) : uL (uM uX w) A (getItem (.ref l) (.int (-1) u)) Q E s := by
 refine wpAny_getItem_list_neg (aS H hl) (by decide) (by simp; omega) (by decide) (x := v) ?_ h;rw [sL, aw, r4, show (-1 + ((ys.length + 1 : Nat) : Int)).toNat = ys.length from by omega];simp
theorem x_last (H : St h0 o0 cs s) (hl : Has cs l (aE (ys ++ [v])))
  (hs : subscripted slice false (.ref l) (.int (-1) u) = operate [.ref l, .int (-1) u] (getItem (.ref l) (.int (-1) u))) (h : Q v s) : uL (uM uX w) A (subscriptTail value slice (.ref l) (.int (-1) u)) Q E s :=
 tail_any (aS H hl).typeIs slot_list_getitem.lookup (oD H hl h) hs
theorem x_pop0 (H : St h0 o0 cs s) (hp : Put cs l (aE (ys ++ [y])) (aE ys) cs') (hz : (ys ++ [y]).length ≤ ug) (h : ∀ s', St h0 o0 cs' s' → Q y s') :
  uL (uM uX w) A (uW (.builtin "list.pop") [.ref l]) Q E s := by
 obtain ⟨n, ho⟩ := bt H hp.has;have W : (ys ++ [y]).toArray.size ≤ ug := by rw [sL]; exact hz
 have hsz : (ys ++ [y]).toArray.size - 1 = ys.length := by simp
 have hy : (ys ++ [y]).toArray[(ys ++ [y]).toArray.size - 1]? = some y := by rw [hsz]; simp
 have e : (ys ++ [y]).toArray.eraseIdxIfInBounds ((ys ++ [y]).toArray.size - 1) = ys.toArray := by
  rw [hsz];apply Array.toList_inj.mp;simp [List.eraseIdx_append_of_length_le]
 exact call_meets PySem.F.slot_list_pop ⟨_, ho, rfl⟩ PySem.F.entry_list_pop (PySem.F.args_list_pop_1 _)
  (PySem.MeetsSeq.list_pop_last l _ n y hy W) ⟨ho, h _ (H.updS (k := s.toks) hp ⟨_, r5 _ ho rfl, bC e⟩ (si ..) (ah _))⟩
theorem on {Q : Unit → uF → Prop} (hh : A.handled = none) (H : St h0 o0 cs s) (ht : Has cs t (bn [u, v, x]))
  (h : ∀ s', St h0 o0 cs s' → uL (uM uX w) A (tX env a u) (fun _ W => uL (uM uX w) A (tX env b v) (fun _ s2 => uL (uM uX w) A (tX env c x) Q E s2) E W) E s') :
  uL (uM uX w) A (uG (.Tuple [.Name a pa, .Name b pb, .Name c pc] k pos) env (.ref t)) Q E s := by
 refine wpAny_assign_Tuple hh (gN H ht) (by rfl) (by rfl) fun h' he => ?_
 have H' : St h0 o0 cs { s with heap := h' } := H.grow (k := s.toks) (fun b o e => he b o (tN (tM e)) e) (ah _);refine rR (t := uG (.Name a pa) env) (ts := [uG (.Name b pb) env, uG (.Name c pc) env]) (x := u) (xs := [v, x]) ?_;refine sJ (af (h _ H') (fun _ W q => ?_) fun _ _ q => q);refine rR (t := uG (.Name b pb) env) (ts := [uG (.Name c pc) env]) (x := v) (xs := [x]) ?_;refine sJ (af q (fun _ s2 q => ?_) fun _ _ q => q);refine rR (t := uG (.Name c pc) env) (ts := []) (x := x) (xs := []) ?_;refine sJ (af q (fun _ s3 q => ?_) fun _ _ q => q);exact wpAny_assignInOrder_none q
end
inductive Ents : List DictEntry → List (Str × uN) → Prop where
 | nil : Ents [] []
 | cons {e es x v m} : (∃ t, e.key = .str x t) → e.val = v → Ents es m → Ents (e :: es) ((x, v) :: m)
noncomputable def be (C dx : uR) : cP := fun o => o = instObj C dx
noncomputable def cAttrs (m : List (Str × uN)) : cP := fun o => ∃ es n, o = dictOf es n ∧ Ents es m
theorem Ents.length {es m} (h : Ents es m) : es.length = m.length := by
 induction h with
 | nil => rfl
 | cons _ _ _ ih => simp [ih]
theorem Ents.find {es m} (h : Ents es m) (name : Str) : (es.find? (·.key.isStr name)).map (·.val) = m.lookup name := by
 induction h with
 | nil => rfl
 | @cons e es x v m hk hv _ ih =>
  obtain ⟨t, hk⟩ := hk;rw [List.find?_cons, sR, hk];simp only [uN.isStr];by_cases q : x = name
  ·subst q; simp [hv]
  ·have q1 : (x == name) = false := by simpa using q
   have W : (name == x) = false := by simpa using Ne.symm q
   rw [q1, W]; exact ih
theorem Ents.noRef {es m} (h : Ents es m) : es.any (·.refKey) = false := by
 induction h with
 | nil => rfl
 | @cons e es x v m hk hv _ ih =>
  obtain ⟨t, hk⟩ := hk;rw [List.any_cons, ih, Bool.or_false];unfold DictEntry.refKey;rw [hk]
theorem cAttrs.look (h : cAttrs m o) (name : Str) : lookIn name o = some (m.lookup name) := by
 obtain ⟨es, n, rfl, W⟩ := h;unfold lookIn dictOf;dsimp only;have hf := W.find name;cases e : es.find? (·.key.isStr name) with
 | some en => rw [e] at hf; simpa using hf
 | none => rw [e] at hf; rw [W.noRef]; simpa using hf
theorem Ents.put {es m m'} (h : Ents es m) (hs : SetN m x v m') : Ents (putL x hsh (.str x t) v es) m' := by
 induction hs generalizing es with
 | new => cases h; exact .cons ⟨t, rfl⟩ rfl .nil
 | @here x u v r =>
  cases h with
  | @cons e es _ _ _ hk hv hr =>
   obtain ⟨W, hk⟩ := hk;rw [putL, if_pos (by rw [hk]; simp [uN.isStr])];exact .cons ⟨W, hk⟩ rfl hr
 | @there x y u v r r' hne _ ih =>
  cases h with
  | @cons e es _ _ _ hk hv hr =>
   obtain ⟨W, hk⟩ := hk;have q : (y == x) = false := by
    have := hne;simp only [beq_eq_false_iff_ne] at this ⊢;exact Ne.symm this
   rw [putL, if_neg (by rw [hk]; simp only [uN.isStr, q]; decide)];exact .cons ⟨W, hk⟩ hv (ih hr)
section
variable {cs cs' : aF} {K : Frag} {x dx C : uR} {m m' : List (Str × uN)} {name : Str}
theorem eI (H : St h0 o0 cs s) (hx : Has cs x (be C dx)) (hd : Has cs dx (cAttrs m)) : ∃ od, cAttrs m od ∧ PySem.W.InstAt s.heap x (instObj C dx) C (some od) := by
 obtain ⟨o, ho, rfl⟩ := H.get hx;obtain ⟨od, h7, hc⟩ := H.get hd;exact ⟨od, hc, ho, rfl, rfl, h7⟩
noncomputable def dR (K : Frag) (C : uR) (name : Str) : Bool :=
 findIn K (.ref C) "__getattribute__" == some (some (.builtin "object.__getattribute__")) && (match clsIn K C with | some cd => cd.hasDict | none => false) &&
  (match findIn K (.ref C) name with
  | some none => true
  | some (some a) => (match specialIn K a "__get__" with | some none => true | some (some _) => takesIn K a == some false | none => false)
  | none => false)
theorem pv (ok : dR K C name = true) (hc : cAttrs m od) (hv : m.lookup name = some v) : findObj K C (some od) name = some (.value v) := by
 unfold dR at ok;rw [sP, sP] at ok;obtain ⟨⟨_, h9⟩, h7⟩ := ok;unfold findObj;cases e1 : clsIn K C with
 | none => rw [e1] at h9; cases h9
 | some cd =>
  rw [e1] at h9;have ow : PySem.W.ownOf cd (some od) name = some (some v) := by
   unfold PySem.W.ownOf;rw [if_pos h9];show lookIn name od = _;rw [hc.look, hv]
  rw [Option.bind_some];cases e2 : findIn K (.ref C) name with
  | none => rw [e2] at h7; cases h7
  | some a =>
   rw [e2] at h7;rw [Option.bind_some];cases a with
   | none =>
    simp only [Option.bind_some, ow]
   | some a =>
    dsimp only at h7 ⊢;cases e3 : specialIn K a "__get__" with
    | none => rw [e3] at h7; cases h7
    | some g =>
     rw [e3] at h7;cases g with
     | none => simp only [Option.bind_some, ow]
     | some g =>
      have e4 : takesIn K a = some false := by simpa using h7
      simp only [Option.bind_some, e4, ow]
theorem pS (B : Base K h0) (H : St h0 o0 cs s) (W : Has cs x (be C dx)) (hd : Has cs dx (cAttrs m)) (hv : Look m name v) (ok : dR K C name = true) (hh : handedIn v = true)
  (h : ∀ s', St h0 o0 cs s' → Q v s') : uL (uM uX w) A (getAttr (.ref x) name expr) Q E s := by
 obtain ⟨od, hc, I⟩ := eI H W hd;have ga : findIn K (.ref C) "__getattribute__" = some (some (.builtin "object.__getattribute__")) := by
  unfold dR at ok;rw [sP, sP] at ok;exact eq_of_beq ok.1.1
 exact get_value (B.X.keeps H.keep) I ga (pv ok hc hv.eq) hh (h _ (H.toks (tP _)))
noncomputable def g8 (K : Frag) (C : uR) (name : Str) (f : uR) : Bool :=
 findIn K (.ref C) "__getattribute__" == some (some (.builtin "object.__getattribute__")) && findIn K (.ref C) "__getattr__" == some none && findIn K (.ref C) name == some (some (.ref f)) && typeIn K (.ref f) == some (.type "function")
theorem x_meth (B : Base K h0) (H : St h0 o0 cs s) (hx : Has cs x (be C dx)) (hd : Has cs dx (cAttrs m)) (hv : m.lookup name = none) (ok : g8 K C name f = true)
  (h : Q (.ref f, [.ref x]) s) : uL (uM uX w) A (ua (.ref x) name pl) Q E s := by
 obtain ⟨od, hc, I⟩ := eI H hx hd;unfold g8 at ok;simp only [sP] at ok;obtain ⟨⟨⟨o1, o2⟩, W⟩, o4⟩ := ok;refine method_fn (B.X.keeps H.keep) I (eq_of_beq o1) (eq_of_beq o2) (eq_of_beq W) (eq_of_beq o4) ?_ h;show (lookIn name od).map _ = _;rw [hc.look, hv]; rfl
noncomputable def kW (K : Frag) (C : uR) (name : Str) : Bool :=
 findIn K (.ref C) "__setattr__" == some (some (.builtin "object.__setattr__")) && plainOver K C && takerIn K C name == some none && (clsIn K C).any (·.hasDict)
theorem ou (B : Base K h0) (H : St h0 o0 cs s) (hx : Has cs x (be C dx)) (hp : Put cs dx (cAttrs m) (cAttrs m') cs') (hs : SetN m name v m') (hz : m.length ≤ 900) (ok : kW K C name = true)
  (h : ∀ s', St h0 o0 cs' s' → Q () s') : uL (uM uX w) A (setAttr (.ref x) name v) Q E s := by
 unfold kW at ok;simp only [sP] at ok;obtain ⟨⟨⟨o1, o2⟩, o3⟩, o4⟩ := ok;obtain ⟨od, hc, I⟩ := eI H hx hp.has;refine set_plain (B.X.keeps H.keep) I (eq_of_beq o1) ?_;have H1 : St h0 o0 cs { s with toks := s.toks + 1 } := H.toks (tP _);obtain ⟨x4, x0, I1⟩ := eI H1 hx hp.has;have X1 : K.In s.heap := B.X.keeps H.keep;refine osa_open X1 I1 o2 (eq_of_beq o3) fun b => ?_
 obtain ⟨cd, x1, x3⟩ := any_some o4;obtain ⟨es, n, rfl, he⟩ := x0;have D : s.heap.get? dx = some (dictOf es n) := I1.dict;have x2 : s.heap.get? x = some (instObj C dx) := I1.at_;refine ad (ae (ad (ad (wpAny_loadPart x2 (ad (Looks.here (s := { s with toks := s.toks + 1 }) (looks_clsIn X1 x1) ?_))))));rw [x3];refine ae (a := some dx) (ad (ae (ad ?_)));unfold nsSet;refine ad (ad (wpAny_askSetting (ae (ad (wpAny_mkText (ad (wpAny_loadPart D ?_)))))));dsimp only;have c : (!es.toArray.any (·.key.isStr name) && es.toArray.any (·.refKey)) = false := by
  rw [List.any_toArray, List.any_toArray, he.noRef, Bool.and_false]
 rw [aRefKeyMayBeTheName_at, c];refine wpAny_updatePart D ?_;have W : ∀ (l : List DictEntry) (h7 : Int) (k u : uN), (putL name h7 k u l).length ≤ l.length + 1 := by
  intro l h7 k u;induction l with
  | nil => simp [putL]
  | cons e r ih =>
   rw [putL];split
   ·simp
   ·simp only [sO]; exact (a9 0x796b7211a03e197bce 0) ih
 have h9 := he.length;have D' := r5 (Obj.putName name (PyData.keyHash w.params name) (.str name (s.toks + 1)) v) D (by rw [putName_dict]; rfl);rw [putName_dict] at D';refine ad (wpAny_lookBehind D' (pastItsLine_dict (by rw [sL, aj]; have := W es (PyData.keyHash w.params name) (.str name (s.toks + 1)) v; exact (bZ 0x1404bfb84f598c2fe0203ba5602f32a533ce4c4 1500744667) hz h9 this)) ?_);refine ae ?_;refine h _ (H.updS (k := s.toks + 1 + 1) hp ⟨_, D', _, _, rfl, he.put hs⟩ (si ..) (by exact bD 42644626140 0))
theorem x_fnB (B : Base K h0) (H : St h0 o0 cs s) (hf : fnOk K fa = true) (h9 : A.depth < ty)
  (W : BindsTo s (aZ K fa) ar m.reverse) (h7 : (m.all fun x => (aZ K fa).scope.names.lookup x.1 == some .local) = true)
  (h : ∀ L s', St h0 o0 ((L, cNs m) :: cs) s' → uL (uM uX w) (A.deeper (callEnv (aZ K fa) L fa)) (uP (a7 K fa) (callEnv (aZ K fa) L fa)) (fun f x2 => R (.ok (.ret (match f with | .ret v => v | _ => .none))) x2) NoE s') :
  uD (uM uX w) A (.call (.ref fa) ar) R s := by
 unfold fnOk at hf;split at hf
 ·rename_i c d fd sl ho;simp only [sP, Bool.not_eq_true', beq_iff_eq] at hf;obtain ⟨⟨⟨⟨⟨h1, h2⟩, h3⟩, h4⟩, h5⟩, h6⟩ := hf;have e : aZ K fa = fd := by unfold aZ; rw [ho]
  have eb : fd.body = .stmts (a7 K fa) := by
   unfold a7; rw [e];cases hb : fd.body with
   | stmts b => rfl
   | expr _ => rw [hb] at h6; cases h6
  rw [e] at W h7 h;refine codeAny_call_def (fd := fd) (body := a7 K fa) (binds := m.reverse) h9 (H.keep _ _ (B.X _ _ ho)) rfl (B.lim.keeps H.keep) ((codeRec_of B.X h1).keeps H.keep) eb W (fun x hx => ?_) (fun x hx => ?_) (fun h₁ x0 x1 => ?_) h2 h3 h4
  ·simpa using sY.mp h5 x hx
  ·simpa using sY.mp h7 x (sZ.mp hx)
  ·rw [List.reverse_reverse] at x0;exact af (h s.heap.objs.size _ (H.more (ah _) (g1 x0 fun _ _ q => q) x1 (sU _ _))) (fun f s' q => q) fun _ _ q => q.elim
 ·cases hf
theorem x_make (B : Base K h0) (H : St h0 o0 cs s) (hm : makesIn K C = true) (hi : findIn K (.ref C) "__init__" = some (some (.ref fI))) (hf : typeIn K (.ref fI) = some (.type "function"))
  (h : ∀ x dx s', St h0 o0 ((x, be C dx) :: (dx, cAttrs []) :: cs) s' → uD (uM uX w) (A.under (.builtin "type.__call__" ⟨.ref C :: rest, kw⟩)) (.call (.ref fI) ⟨.ref x :: rest, kw⟩) (InitBack x R) s') :
  uD (uM uX w) A (.call (.ref C) ⟨rest, kw⟩) R s := by
 have X : K.In s.heap := B.X.keeps H.keep;obtain ⟨hh, g, d, t, os⟩ := s;refine make_core (makes_of X hm) (looks_findIn X hi) (fun self => bind_fn X self hf) (.inl rfl) ?_;have H1 := H.push (k := t) (o := emptyDict) (c := cAttrs []) ⟨[], 0, rfl, .nil⟩ (ah _);have H2 := H1.push (k := t) (o := instObj C hh.objs.size) (c := be C hh.objs.size) rfl (ah _);have e : (hh.push emptyDict).objs.size = hh.objs.size + 1 := uV.size_push ..;have W : St h0 o0 (((hh.push emptyDict).objs.size, be C hh.objs.size) :: (hh.objs.size, cAttrs []) :: cs) ⟨(hh.push emptyDict).push (instObj C hh.objs.size), g, d, t, os⟩ := H2;rw [e] at W;exact h _ _ _ W
end
section
open PySem PySem.W PySem.Calls PyProof.Rows Builtin Builtin.ObjectAttr Builtin.Getset_descriptor
theorem oY : typeLookup (.type "list") "append" = uT (some (.builtin "list.append")) := PySem.F.slot_list_append.lookup
theorem md_get : typeLookup (.type "method_descriptor") "__get__" = uT (some (.builtin "method_descriptor.__get__")) := by rw [typeLookup_type, r9]; kernel_rfl
theorem md_set : typeLookup (.type "method_descriptor") "__set__" = uT none := by rw [typeLookup_type, r9]; kernel_rfl
theorem md_del : typeLookup (.type "method_descriptor") "__delete__" = uT none := by rw [typeLookup_type, r9]; kernel_rfl
theorem slot_md : Slot "method_descriptor" "__get__" "method_descriptor.__get__" :=
 .of (owner := "method_descriptor") (n := "__get__") (by rw [typeLookup_type, r9]; kernel_rfl) (by decide +kernel) (by decide +kernel) (by decide +kernel)
  (by first | exact .inl (by decide +kernel) | exact .inr (by decide +kernel)) (by rw [isSubtype_type]; kernel_rfl)
theorem rr : entryFor table "method_descriptor.__get__" = some uv.«method_descriptor.__get__» := entryFor_of_tree (by kernel_rfl)
theorem args_md (a b c : uN) : argsOk "method_descriptor.__get__" ⟨[a, b, c], []⟩ := by unfold argsOk; kernel_rfl
noncomputable abbrev eo (id : String) (l : uR) : Obj := { cls := .type "builtin_function_or_method", data := .fields #[.builtin id, .ref l] }
noncomputable def bO (id : String) (l : uR) : cP := fun o => o = eo id l
theorem md_call (hx : s.heap.get? a = some { cls := .type "list", dict := none, data := .seq xs k, slots := #[] })
  (h : R (.ok (.ret (.ref s.heap.objs.size))) { s with heap := s.heap.push (eo "list.append" a) }) :
  uD (uM uX w) A (.call (.builtin "method_descriptor.__get__") ⟨[.builtin "list.append", .ref a, .type "list"], []⟩) R s := by
 obtain ⟨hp, g, d, W, os⟩ := s;have hT : (⟨hp, g, d, W, os⟩ : uF).TypeIs (.ref a) "list" := ⟨_, hx, rfl⟩;have f2 := PySem.F.type_list_append;refine codeAny_call_builtin slot_md.plain rr (slot_md.check _ _ _ _ _ _ _ _ (by exact f2) (args_md _ _ _) ?_);unfold uv.«method_descriptor.__get__»;refine ad (tR (a := (.builtin "list.append", some (.ref a), some (.type "list"))) (by kernel_rfl) ?_);dsimp only;rw [if_neg (by decide +kernel)];refine ad ?_;refine ad (tR (a := (ud "append", .type "list")) (by kernel_rfl) ?_);dsimp only;refine ad (wpAny_isInstance hT (b := true) (by rw [isSubtype_type]; kernel_rfl) ?_);rw [if_neg (by decide)];refine ae ?_;exact ad (sK (ae h))
theorem gv (a : uR) (xs : Array uN) (k : Nat) (u : Tok) :
  Meets (uv.«object.__getattribute__» ⟨[.ref a, .str (ud "append") u], []⟩) (fun A R s => s.heap.get? a = some { cls := .type "list", dict := none, data := .seq xs k, slots := #[] } ∧
   R (.ok (.ret (.ref s.heap.objs.size))) { s with heap := s.heap.push (eo "list.append" a) }) :=
 Meets.of_wp fun uX w A R s hs => by
  obtain ⟨hp, g, d, tk, os⟩ := s;obtain ⟨W, hs⟩ := hs;have hT : (⟨hp, g, d, tk, os⟩ : uF).TypeIs (.ref a) "list" := ⟨_, W, rfl⟩;have f1 := oY;have f2 := PySem.F.type_list_append;have f3 := md_get;have f4 := md_set;have f5 := md_del;unfold uv.«object.__getattribute__»;repeat (any_goals (first | assumption | wp_step))
  refine md_call W ?_;exact ae ⟨_, rfl, hs⟩
theorem pe : typeLookup (.type "list") "__getattribute__" = uT (some (.builtin "list.__getattribute__")) := by rw [typeLookup_type, r9]; kernel_rfl
theorem ga_type : typeOf (.builtin "list.__getattribute__") = uT (.type "wrapper_descriptor") := by show builtinType _ = _; rw [builtinType_eq_fast]; kernel_rfl
section
variable {cs cs' : aF} {K : Frag} {Q : VP}
theorem kG (H : St h0 o0 cs s) (hl : Has cs l (aE xs)) (h : ∀ a s', St h0 o0 ((a, bO "list.append" l) :: cs) s' → Q (.ref a) s') :
  uL (uM uX w) A (getAttr (.ref l) (ud "append") ex) Q E s := by
 unfold getAttr;refine ad (wpAny_mkText ?_);unfold getAttrBy;have W := H.toks (k := s.toks + 1) (tP _);obtain ⟨n, ho⟩ := bt W hl;refine aD (ad ?_);refine wpAny_typeOf (aS W hl).typeIs ?_;refine ad (tR pe ?_);dsimp only;rw [if_neg (by decide)];unfold getAttrByItsOwn;refine ad (tR (a := none) rfl ?_);refine ad (wpAny_attempt (aD ?_));unfold callGetattribute;rw [if_neg (by cases ex <;> decide)];unfold boundAndCalled bindSpecial;refine ad (ad (tR ga_type (ae ?_)));show uL _ _ (uW (.builtin "list.__getattribute__") [.ref l, .str (ud "append") s.toks]) _ _ _;refine call_meets F.slot_list_getattribute (aS W hl).typeIs am_entry_list_getattribute (F.args_list_getattribute_2 _ _) (gv l xs.toArray n s.toks) ⟨ho, ?_⟩;refine ae ?_;exact h _ _ (H.push (k := s.toks + 1) rfl (tP _))
theorem gp {b : uR} {id : String} {self : uN} {vs : List uN} {B : uv} {S : PySem.Spec} (hb : s.heap.get? b = some { cls := .type "builtin_function_or_method", data := .fields #[.builtin id, self] })
  (h7 : ∀ (A : uJ) (E : VP) (P : Unit → uF → Prop), P () s → uL (uM uX w) A (checkBoundCall id ⟨self :: vs, []⟩) P E s) (plain : plainId id = true) (W : entryFor table id = some B) (g : Meets (B ⟨self :: vs, []⟩) S) (h : S A (wants Q E) s) :
  uL (uM uX w) A (uW (.ref b) vs) Q E s := by
 refine wpAny_call (codeAny_of_tree ?_);show uL _ A.in1 (callAny (.ref b) ⟨vs, []⟩) _ _ s;simp only [callAny];refine ad (wpAny_load hb ?_);simp only [show (tV "builtin_function_or_method" == tV "method" || tV "builtin_function_or_method" == tV "builtin_function_or_method" || tV "builtin_function_or_method" == tV "method-wrapper") = true by decide, if_true];refine KFB.if_so (by decide) ?_;refine ad (h7 _ _ _ ?_);refine ad (ae (ae ?_));exact ⟨plainId_quiet plain _, codeAny_builtin W (by rw [sf plain _]; exact g uX w A (wants Q E) s h)⟩
theorem mU (ho : s.heap.get? l = some { cls := .type "list", data := .seq xs n }) (P : Unit → uF → Prop) (h : P () s) : uL (uM uX w) A (checkBoundCall "list.append" ⟨[.ref l, v], []⟩) P E s := by
 have hT : s.TypeIs (.ref l) "list" := ⟨_, ho, rfl⟩;unfold checkBoundCall;rw [show builtinKind "list.append" = some .method from by decide +kernel];split
 ·rename_i W hs;dsimp only;rw [if_neg (by decide)];refine ad (wpAny_isInstance hT (b := false) (by rw [isSubtype_type]; kernel_rfl) ?_);rw [if_neg (by decide +kernel)];refine ad ?_;unfold isType;refine ad (wpAny_loadPart ho (ae ?_));rw [if_neg (fun q => by cases q)];refine ad (wpAny_typeOf hT ?_);dsimp only;have key : (Manifest.signature? "list.append").map (fun W => Bind.checkArgs "list.append" { W with full := s!"{Bind.lastOf "list"}.{Bind.lastOf "list.append"}" } ⟨[.ref l, v], []⟩) = some (uT ()) := by kernel_rfl
  rw [hs] at key;exact tR (tq key) h
 ·exact ae h
theorem jw (H : St h0 o0 cs s) (hb : Has cs b (bO "list.append" l)) (hp : Put cs l (aE xs) (aE (xs ++ [v])) cs') (hsz : xs.length ≤ ug) (h : ∀ s', St h0 o0 cs' s' → Q .none s') :
  uL (uM uX w) A (uW (.ref b) [v]) Q E s := by
 obtain ⟨o, W, rfl⟩ := H.get hb;obtain ⟨n, hl⟩ := bt H hp.has;refine gp W (fun A E P q => mU hl P q) (by decide +kernel) F.entry_list_append (PySem.AutoListH.list_append_list_val_0 l xs.toArray n v (by simpa using hsz)) ⟨hl, ?_⟩;exact h _ (H.updS (k := s.toks) hp ⟨_, r5 _ hl rfl, bC (by simp)⟩ (si ..) (ah _))
theorem rx (P : Unit → uF → Prop) (h : P () s) : uL (uM uX w) A (checkBoundCall "str.join" ⟨[.str x t, v], []⟩) P E s := by
 have e : checkBoundCall "str.join" ⟨[.str x t, v], []⟩ = uT () := by kernel_rfl
 rw [e]; exact ae h
theorem ma (H : St h0 o0 cs s) (hb : h0.get? b = some { cls := .type "builtin_function_or_method", data := .fields #[.builtin "str.join", .str x t] }) (hl : Has cs D (aE (strValues l))) (W : JoinOk x (l.map (·.1)) = true)
  (h : ∀ t' s', St h0 o0 cs s' → Q (.str (Txt.join x (l.map (·.1))) t') s') : uL (uM uX w) A (uW (.ref b) [.ref D]) Q E s := by
 refine fb ?_;unfold JoinOk at W;rw [Bool.not_eq_true'] at W;exact gp (H.keep _ _ hb) (fun A E P q => rx P q) (by decide +kernel) F.entry_str_join (meets_str_join_list x t D l W) ⟨aS H hl, post_join l ⟨joinFit_length W, fun t' k hk => h t' _ (H.toks hk)⟩⟩
theorem lp {b l : uR} {id : String} (hp : uV) (hb : hp.get? b = some (eo id l)) : ∃ k, (k = Keeper.frame ∨ k = Keeper.machine ∨ k = Keeper.boundFrame) ∧ Looks (uM uX w) hp (keeperOf (.ref b)) k :=
 ⟨.machine, .inr (.inl rfl), (Looks.ld (part := none) hb).andThen .now⟩
theorem kI {pos : Pos} {b l : uR} {id : String} {e : Expr} {rest : List Expr} {first : List uN}
  (h : uL (uM uX w) A (spliced (uI pos (ue (e :: rest) env))) (fun vs s₁ => ∃ o0 cs, St h0 o0 cs s₁ ∧ Has cs b (bO id l) ∧ uL (uM uX w) A (uW (.ref b) (first ++ vs)) Q E s₁) E s)
  (he : ue (e :: rest) env = (false, uU e env) :: ue rest env := by rfl) (W : (uI pos (ue rest env)).any (·.1) = false := by rfl) :
  uL (uM uX w) A (ur pos (.ref b) first (uI pos (ue (e :: rest) env)) []) Q E s := by
 rw [he] at h ⊢;refine callWith_of (P := fun hp => hp.get? b = some (eo id l)) (by show ((false || (uI pos (ue rest env)).any (·.1)) || false) = false; rw [W]; rfl) (fun hp => lp hp) (evalArgs_plain (af h (fun vs s₁ q => ?_) fun _ _ q => q));obtain ⟨o0, cs, H, hb, q⟩ := q;obtain ⟨o, ho, rfl⟩ := H.get hb;exact ⟨ho, q⟩
end
end
section
open PySem.Sem (wp)
def m5 (F : RP) (Y : uN → GenState → uF → Prop) (e : End) (s : uF) : Prop :=
 match e with
 | .ret r => F r s
 | .susp v g l k c p fs => (End.susp v g l k c p fs).quiet = true ∧ Y v (End.susp v g l k c p fs).genState s
def Leg (M : Model) (A : uJ) (F : RP) (Y : uN → GenState → uF → Prop) (c : Code) (t : Sem ub) (fs : List Frame) (s : uF) : Prop :=
 ∀ Γ p, Γ.code = c → Γ.Woken A → ∃ e s', Runs M Γ p t fs s e s' ∧ m5 F Y e s'
section
variable {M : Model} {F : RP} {Y : uN → GenState → uF → Prop} {c : Code} {fs : List Frame}
theorem Leg.over {α : Type} {m : Sem α} {K : α → Sem ub} {H : uN → Sem ub} {gd : Bool → Bool} {lv : List uN → List uN}
  (h : uL M (A.over c fs) m (fun a s' => Leg M A F Y c (K a) fs s') NoE s) : Leg M A F Y c (m.wrap K H gd lv) fs s := by
 intro Γ p hc W;subst hc;exact runs_wrap_of_wp K H gd lv m (h (Γ.over fs) p (W.over fs)) (fun a p' s' q => q Γ p' rfl W) fun _ _ _ q => q.elim
theorem Leg.bindw {α β : Type} {m : Sem α} {K : α → Sem β} {K' : β → Sem ub} {H : uN → Sem ub} {gd : Bool → Bool} {lv : List uN → List uN}
  (h : uL M (A.over c fs) m (fun a s' => Leg M A F Y c ((K a).wrap K' H gd lv) fs s') NoE s) : Leg M A F Y c ((m >>= K).wrap K' H gd lv) fs s := by
 rw [Sem.bind_eq_wrap', Sem.wrap_wrap]; exact Leg.over h
theorem Leg.bind {α : Type} {m : Sem α} {K : α → Sem ub} (h : uL M (A.over c fs) m (fun a s' => Leg M A F Y c (K a) fs s') NoE s) : Leg M A F Y c (m >>= K) fs s := by
 rw [Sem.bind_eq_wrap']; exact Leg.over h
theorem Leg.point (h : Leg M A F Y c (k ()) fs s) : Leg M A F Y c (.point l k) fs s :=
 Leg.over (m := PySem.point) (K := k) (H := .raise) (gd := id) (lv := fun _ => l) (wpAny_point h)
theorem Leg.call {h g l} (hc : ∀ p, Leg M A F Y c' (M.den c') (.ret k h g l c p [] :: fs) s) : Leg M A F Y c (.call c' h g l k) fs s := by
 intro Γ p e hΓ;subst e;obtain ⟨e, s', W, he⟩ := hc p (Γ.goto c') p rfl (hΓ.goto c');exact ⟨e, s', runs_call_seg W, he⟩
theorem Leg.leaf {k h g l c₁ p₁ kp} (r : Result) (hk : Leg M A F Y c₁ (k r) fs s) : Leg M A F Y c (leafOf r) (.ret k h g l c₁ p₁ kp :: fs) s := by
 intro Γ p e hΓ;subst e;obtain ⟨e, s', W, he⟩ := hk (Γ.goto c₁) p₁ rfl (hΓ.goto c₁);exact ⟨e, s', Runs.pop r W, he⟩
theorem Leg.again (hq : c'.quiet = true) (hc : Leg M A F Y c' (M.den c') fs s) : Leg M A F Y c (.pure (.again c')) fs s := by
 intro Γ p e hΓ;subst e;obtain ⟨e, s', W, he⟩ := hc (Γ.goto c') p rfl (hΓ.goto c');exact ⟨e, s', Runs.head (c₁ := c') (fun _ _ x => .again hq x) W, he⟩
theorem Leg.fin (r : Result) (h : F r s) : Leg M A F Y c (leafOf r) [] s := by
 intro Γ p e _;exact ⟨.ret r, s, Runs.leaf r, h⟩
theorem Leg.yield {v g l} (h7 : splitAtGen fs = none) (hg : g = false) (W : fs.any Frame.guarded = false)
  (h : ∀ p, Y v (.suspended k l c p fs false) s) : Leg M A F Y c (.yield v g l k) fs s := by
 intro Γ p e _;subst e;subst hg;refine ⟨_, s, Runs.yield' fs h7, ?_, ?_⟩
 ·simp [End.quiet, W]
 ·have := h p;simp only [End.genState, Bool.false_or, W];exact this
def fP (M : Model) (A : uJ) (F : RP) (Y : uN → GenState → uF → Prop) (gs : GenState) (s : uF) : Prop :=
 match gs with
 | .fresh c => Leg M A F Y c (M.den c) [] s
 | .suspended k _ c _ fs _ => Leg M A F Y c (k (.send .none)) fs s
 | _ => False
theorem kL {α : Type} {k : GenResult → Sem α} {Q : α → uF → Prop} (hg : s.gens[g]? = some gs)
  (h7 : fP M A F Y gs (s.setGen g .running))
  (hF : ∀ r W, F r W → uL M A (k (End.ret r).result) Q E (W.setGen g .finished))
  (hY : ∀ v h9 W, h9.bare = true → Y v h9 W → uL M A (k (.yielded v)) Q E (W.setGen g h9)) : uL M A (.resume g (.send .none) l k) Q E s := by
 intro Γ p hΓ;rw [Sem.wp_resume];have hB : ∀ c, (Γ.wake c p).Woken A := fun c => hΓ.wake c p
 have fin : ∀ e₁ W, m5 F Y e₁ W → wp M Γ (k e₁.result) (fun a _ s' => Q a s') (fun e _ s' => E e s') p (W.setGen g e₁.genState) := by
  intro e₁ W he;cases e₁ with
  | ret x => exact hF x W he Γ p hΓ
  | susp v g₀ l₀ k₀ c₀ p₀ fs₀ => exact hY v _ W (End.bare_of_quiet he.1) he.2 Γ p hΓ
 have x0 : ∀ e₁ W, m5 F Y e₁ W → e₁.quiet = true := by
  intro e₁ W he;cases e₁ with
  | ret x => rfl
  | susp v g₀ l₀ k₀ c₀ p₀ fs₀ => exact he.1
 cases gs with
 | fresh c =>
  obtain ⟨e₁, W, hr, he⟩ := h7 (Γ.wake c p) p rfl (hB c);exact ⟨_, _, by unfold Wakes; rw [hg]; exact ⟨e₁, W, hr, x0 e₁ W he, rfl, rfl⟩, fin e₁ W he⟩
 | suspended k₀ l₀ c₀ p₀ fs₀ cl =>
  obtain ⟨e₁, W, hr, he⟩ := h7 (Γ.wake c₀ p) p₀ rfl (hB c₀);exact ⟨_, _, by unfold Wakes; rw [hg]; exact ⟨e₁, W, hr, x0 e₁ W he, rfl, rfl⟩, fin e₁ W he⟩
 | running => exact h7.elim
 | finished => exact h7.elim
end
section
theorem iV {a : uR} {g : Nat} {gs : GenState} {F : GP} {Y : uN → GenState → uF → Prop} {Q : Option uN → uF → Prop} (hh : A.handled = none) (hl : s.heap.NoLimit) (x0 : A.depth < ty)
  (hg : s.heap.IsGen a g) (x1 : s.gens[g]? = some gs) (h9 : fP (uM uX w) A.in1 (fun r W => r = .ok (.ret .none) ∧ F W) Y gs (s.setGen g .running))
  (hY : ∀ v h7 W, h7.bare = true → Y v h7 W → Q (some v) (W.setGen g h7))
  (hF : ∀ W, F W → ∀ h', (∀ b o, W.heap.get? b = some o → h'.get? b = some o) → Q none { W.setGen g .finished with heap := h' }) : uL (uM uX w) A (pyNext (.ref a)) Q E s := by
 unfold pyNext;refine ad (wpAny_attempt (wpAny_callSpecial?_slot (name := ud "__next__") hg.typeIs slot_gen_next (sW slot_gen_next hg.typeIs entry_gen_next ?_ (args_gen_next _))));show uL _ A.in1 (uv.Generator.genWake (.ref a) (.send .none)) _ _ s;unfold uv.Generator.genWake;refine ad (aD (wpAny_genNumber hg (ad (wpAny_genState x1 ?_))));cases gs with
 | running => exact h9.elim
 | finished => exact h9.elim
 | _ =>
  refine ad (wpAny_roomToWake hl x0 ?_);show uL _ A.in1 (.resume g (.send .none) [] _) _ _ s;refine kL x1 h9 (fun x W hx => ?_) fun v h7 W hb hv => ?_
  ·obtain ⟨rfl, hp⟩ := hx;show uL _ A.in1 (newExc (.type "StopIteration") [] >>= _) _ _ _;refine ad ?_;simp only [newExc, newTuple];refine ad (sK ?_ (by size_fits));refine ad (m := firstArgMember _ _) (tR (a := uN.none) (by first | rfl | (simp only [firstArgMember]; rfl)) ?_);refine sK ?_ (by size_fits);simp only [raiseNew];refine ad (ad (wpAny_handled ?_));first | rw [show A.in1.handled = none from hh] | rw [hh]
   refine wpAny_throw ?_;refine ad (wpAny_isInstance (T := "StopIteration") (b := true) ⟨_, sm _ rfl, rfl⟩ isSubtype_stop ?_);exact ae (hF W hp _ fun b o hb => r3 _ (r3 _ hb))
  ·exact ae ⟨v, rfl, ae (hY v h7 W hb hv)⟩
end
end
noncomputable abbrev mX (lI : uR) : Code := .builtin "proto.yield_from" ⟨[.ref lI, .bool false, .none], []⟩
theorem lO : entryFor table "proto.yield_from" = some uv.«proto.yield_from» := entryFor_of_tree (by kernel_rfl)
theorem Leg.builtin {F : RP} {Y : uN → GenState → uF → Prop} {fs : List Frame} {id : String} {args : Args} {b : uv} (hb : entryFor table id = some b)
  (h : Leg (uM uX w) A F Y (.builtin id args) (b args) fs s) : Leg (uM uX w) A F Y (.builtin id args) ((uM uX w).den (.builtin id args)) fs s := by
 show Leg _ _ _ _ _ (match entryFor table id with | some b => b args | none => unsupported ((withoutEnding? id "#data").getD id)) _ _;rw [hb]; exact h
theorem mC : typeLookup (.type "list_iterator") "close" = uT none := by rw [typeLookup_type, r9]; kernel_rfl
theorem qe : isSubtype (.type "StopIteration") (.type "StopIteration") = uT true := by rw [isSubtype_type]; kernel_rfl
section
theorem li_item (W : s.heap.IsListIter it l i) (hl : s.heap.IsList l items) (hx : items[i]? = some x)
  (hQ : ∀ h', h'.IsListIter it l (i + 1) → tK it s.heap h' → Q (some x) { s with heap := h' }) : uL (uM uX w) A (callSpecial? (.ref it) (ud "__next__")) Q E s := by
 obtain ⟨o, ho, hc, hd⟩ := id W;obtain ⟨ol, h7, _, nl, h9⟩ := hl;refine wpAny_callSpecial?_slot (name := ud "__next__") W.typeIs slot_listiter_next (sW slot_listiter_next W.typeIs entry_listiter_next ?_ (args_listiter_next _));show uL _ _ (field (.ref it) 0 >>= _) _ _ s;refine ad (wpAny_field ho hd (x := .ref l) rfl ?_);show uL _ _ (if (tW l == uN.none) = true then _ else _) _ _ s;rw [if_neg (show ¬ ((tW l == uN.none) = true) from sB)];show uL _ _ (field (.ref it) 1 >>= _) _ _ s;refine ad (wpAny_field ho hd (x := .int i 0) rfl ?_);show uL _ _ (seqItems? (.ref l) >>= _) _ _ s;refine ad (wpAny_seqItems h7 h9 ?_);simp only [Int.toNat_natCast, hx];refine ad (wpAny_setField ho hd (by simp) (ae ⟨x, rfl, hQ _ ?_ (si ..)⟩));exact ⟨_, r5 _ ho (Obj.isFreed_of_fields (Obj.data_mapFields hd _)), (Obj.cls_mapFields ..).trans hc, by
  rw [Obj.data_mapFields hd]; simp [uH]⟩
theorem li_end (hh : A.handled = none) (W : s.heap.IsListIter it l i) (hl : s.heap.IsList l items) (hx : items[i]? = none)
  (hE : ∀ e h' oe vs, uV.ExtBut it s.heap h' → h'.get? e = some oe → oe.cls = .type "StopIteration" → oe.data = .fields vs → vs[5]? = some .none → E (.ref e) { s with heap := h' }) : uL (uM uX w) A (callSpecial? (.ref it) (ud "__next__")) Q E s := by
 obtain ⟨o, ho, hc, hd⟩ := id W;obtain ⟨ol, h7, _, nl, h9⟩ := hl;refine wpAny_callSpecial?_slot (name := ud "__next__") W.typeIs slot_listiter_next (sW slot_listiter_next W.typeIs entry_listiter_next ?_ (args_listiter_next _));show uL _ _ (field (.ref it) 0 >>= _) _ _ s;refine ad (wpAny_field ho hd (x := .ref l) rfl ?_);show uL _ _ (if (tW l == uN.none) = true then _ else _) _ _ s;rw [if_neg (show ¬ ((tW l == uN.none) = true) from sB)];show uL _ _ (field (.ref it) 1 >>= _) _ _ s;refine ad (wpAny_field ho hd (x := .int i 0) rfl ?_);show uL _ _ (seqItems? (.ref l) >>= _) _ _ s;refine ad (wpAny_seqItems h7 h9 ?_);simp only [Int.toNat_natCast, hx];refine ad (wpAny_rule (ad (wpAny_setField ho hd (by simp) ?_)));show uL _ _ (newExc (.type "StopIteration") [] >>= _) _ _ _;refine ad ?_;simp only [newExc, newTuple];refine ad (sK ?_ (by size_fits));refine ad (m := firstArgMember _ _) (tR (a := uN.none) (by first | rfl | (simp only [firstArgMember]; rfl)) ?_);refine sK ?_ (by size_fits);simp only [raiseNew];refine ad (wpAny_handled ?_);rw [show A.in1.handled = none from hh];refine ad (ae (wpAny_throw ?_));exact hE _ _ _ _ (((si ..).extBut.push _).push _) (sm _ rfl) rfl rfl (by rfl)
end
section
variable {F : RP} {Y : uN → GenState → uF → Prop} {fs : List Frame}
theorem slept (W : s.heap.IsListIter it l k) (h : Q () s) : uL (uM uX w) B (uv.Generator.sleptOver (.ref it) b) Q E s := by
 obtain ⟨o, ho, hc, hd⟩ := W;unfold uv.Generator.sleptOver;refine ad (wpAny_load ho ?_);rw [hc];exact ae h
theorem lj (x3 : splitAtGen fs = none) (x0 : fs.any Frame.guarded = false) (x1 : s.heap.IsListIter it l k) (hl : s.heap.IsList l items) (hx : items[k]? = some x)
  (h : ∀ h' kk p, h'.IsListIter it l (k + 1) → tK it s.heap h' →
   (∀ F' Y' h7 k', h7.heap.IsListIter it l k' → Leg (uM uX w) A F' Y' (mX it) ((uM uX w).den (mX it)) fs h7 → Leg (uM uX w) A F' Y' (mX it) (kk (.send .none)) fs h7) →
   Y x (.suspended kk [] (mX it) p fs false) { s with heap := h' }) : Leg (uM uX w) A F Y (mX it) ((uM uX w).den (mX it)) fs s := by
 refine Leg.builtin lO ?_;unfold uv.«proto.yield_from»;dsimp only;refine Leg.bind (ae ?_);refine Leg.bind (wpAny_attempt (aD ?_));simp only [sA, if_false];rw [if_pos (by rfl)];refine ad (wpAny_rule ?_);refine ad (li_item x1 hl hx fun h' W h9 => ?_);refine ae ?_;have hT : (⟨h', s.gens, s.drawn, s.toks, s.os⟩ : uF).TypeIs (.ref it) "list_iterator" := W.typeIs;refine Leg.bind (wpAny_typeOf hT ?_);refine Leg.bind (tR mC ?_);refine Leg.bind (ae ?_);refine Leg.bind (slept W ?_);refine Leg.yield x3 rfl x0 fun p => ?_
 refine h h' _ p W h9 fun F' Y' h7 k' x2 x4 => ?_
 refine Leg.bind (ae ?_);refine Leg.bind (slept x2 ?_);refine Leg.bind (ae ?_);exact Leg.again (plainId_quiet (by decide +kernel) _) x4
theorem mD (hh : A.handled = none) (h7 : (A.over (mX it) fs).handled = none) (W : s.heap.IsListIter it l k) (hl : s.heap.IsList l items) (hx : items[k]? = none)
  (h : ∀ h', uV.ExtBut it s.heap h' → Leg (uM uX w) A F Y (mX it) (leafOf (.ok (.ret .none))) fs { s with heap := h' }) : Leg (uM uX w) A F Y (mX it) ((uM uX w).den (mX it)) fs s := by
 refine Leg.builtin lO ?_;unfold uv.«proto.yield_from»;dsimp only;refine Leg.bind (ae ?_);refine Leg.bind (wpAny_attempt (aD ?_));simp only [sA, if_false];rw [if_pos (by rfl)];refine ad (wpAny_rule ?_);refine ad (li_end h7 W hl hx fun e h' oe vs h9 he hc hd hv => ?_);have hT : (⟨h', s.gens, s.drawn, s.toks, s.os⟩ : uF).TypeIs (.ref e) "StopIteration" := ⟨oe, he, hc⟩;refine Leg.bind ?_;unfold uv.Generator.endsTheTurnAsAValue uv.Generator.isStopAndMetaclass;refine ad (ad (wpAny_typeOf hT ?_));refine ad (tR qe ?_);refine ad (tR (a := tV "type") (by rfl) ?_);refine ae ?_;dsimp only;rw [if_neg sB];refine ae ?_;rw [if_pos rfl];refine Leg.bind (wpAny_rule ?_);refine Leg.bind (wpAny_field he hd hv ?_);exact h h' h9
end
section
variable {F : RP} {Y : uN → GenState → uF → Prop} {fs : List Frame} {c : Code}
theorem qO (h : ∀ (K : Flow → Sem ub) (H : uN → Sem ub), K .next = leafOf (.ok (.ret .none)) → Leg (uM uX w) A F Y (.func body env) ((uP body env).wrap K H id id) fs s) :
  Leg (uM uX w) A F Y (.func body env) ((uM uX w).den (.func body env)) fs s := by
 show Leg _ _ _ _ _ (.point [] fun _ => ((uP body env).onRaise (leaving env)) >>= _) fs s;refine Leg.point ?_;rw [Sem.onRaise_eq_wrap, Sem.bind_eq_wrap', Sem.wrap_wrap];exact h _ _ rfl
theorem lm (h : uL (uM uX w) (A.over (.forLoop (.Name x px) it body [] env) fs) (pyNext it) (fun r W => match r with
   | none => ∀ c, Leg (uM uX w) A F Y c (leafOf (.ok .next)) fs W
   | some v => uL (uM uX w) (A.over (.forLoop (.Name x px) it body [] env) fs) (tX env x v) (fun _ s₂ => ∀ (K : Flow → Sem ub) (H : uN → Sem ub), K .next = .pure (.again (.forLoop (.Name x px) it body [] env)) →
     Leg (uM uX w) A F Y (.forLoop (.Name x px) it body [] env) ((uP body env).wrap K H id id) fs s₂) NoE W) NoE s) :
  Leg (uM uX w) A F Y (.forLoop (.Name x px) it body [] env) ((uM uX w).den (.forLoop (.Name x px) it body [] env)) fs s := by
 show Leg _ _ _ _ _ ((forTurn (.Name x px) it body [] env).onRaise (fun x => do noteFrame x env; theTreesLotGoes x)) fs s;unfold forTurn;rw [Sem.onRaise_eq_wrap];refine Leg.bindw (tD ?_);refine Leg.bindw (wpAny_onRaise (af (E := NoE) h (fun r W q => ?_) fun _ _ q => q.elim));cases r with
 | none =>
  show Leg _ _ _ _ _ (.pure (.again (.block [] env))) fs W;refine Leg.again rfl ?_;show Leg _ _ _ _ _ ((uP [] env).onRaise (fun x => do noteFrame x env; theTreesLotGoes x) >>= fun f => uT (.done f)) fs W;exact q _
 | some v =>
  refine Leg.bindw (ae ?_);refine Leg.bindw (sJ (af q (fun _ s₂ q => ?_) fun _ _ q => q.elim));rw [Sem.bind_eq_wrap', Sem.wrap_wrap];exact q _ _ rfl
theorem leg_for {K : Flow → Sem ub} {H : uN → Sem ub} {gd : Bool → Bool} {lv : List uN → List uN} (W : gd false = false)
  (h : uL (uM uX w) (A.over c fs) (uU iter env) (fun x s₁ => uL (uM uX w) (A.over c fs) (pyIter x) (fun it s₂ => ∀ k l p,
   (∀ F' Y' c' s', Leg (uM uX w) A F' Y' c (K .next) fs s' → Leg (uM uX w) A F' Y' c' (leafOf (.ok .next)) (.ret k none false l c p [] :: fs) s') →
   Leg (uM uX w) A F Y (.forLoop target it body [] env) ((uM uX w).den (.forLoop target it body [] env)) (.ret k none false l c p [] :: fs) s₂) NoE s₁) NoE s)
  (hs : ∀ x, sF iter env x = uT x) : Leg (uM uX w) A F Y c ((exec (.For target iter body [] pos) env).wrap K H gd lv) fs s := by
 rw [arm_exec_For];refine Leg.bindw (tD ?_);refine Leg.bindw (af h (fun x s₁ q => ?_) fun _ _ q => q.elim);refine Leg.bindw (tR (hs x) ?_);refine Leg.bindw (tD ?_);refine Leg.bindw (aD (af q (fun it s₂ q => ?_) fun _ _ q => q.elim));unfold runOwn;rw [Sem.onRaise_eq_wrap, Sem.wrap_wrap];refine Leg.call fun p => ?_
 have e : (fun g => gd (id g)) false = false := W;rw [e];exact q _ _ p fun F' Y' c' s' q => Leg.leaf (.ok .next) q
theorem qN {K : Flow → Sem ub} {H : uN → Sem ub} {gd : Bool → Bool} {lv : List uN → List uN} (h7 : gd false = false) (hi : interactive env = false)
  (h : uL (uM uX w) (A.over c fs) (isTrue (.Name x p5) env (uU (.Name x p5) env)) (fun b s₁ =>
   if b = true then uL (uM uX w) (A.over c fs) (uU (.Name x p6) env) (fun v s₂ => s₂.TypeIs v "list" ∧ uL (uM uX w) (A.over c fs) (pyIter v) (fun it s₃ => ∃ W, it = .ref W ∧ ∀ k l p,
    (∀ F' Y' c' s', Leg (uM uX w) A F' Y' c (K .next) fs s' → Leg (uM uX w) A F' Y' c' (leafOf (.ok (.ret .none))) (.ret k none false l c p [] :: fs) s') →
    Leg (uM uX w) A F Y (mX W) ((uM uX w).den (mX W)) (.ret k none false l c p [] :: fs) s₃) NoE s₂) NoE s₁
   else Leg (uM uX w) A F Y c (K .next) fs s₁) NoE s) :
  Leg (uM uX w) A F Y c ((uP [.If (.Name x p5) [.Expr (.YieldFrom (.Name x p6) p7) p8] [] p9] env).wrap K H gd lv) fs s := by
 rw [execs_cons_wrap, arm_exec_If];refine Leg.bindw (tD ?_);refine Leg.bindw (af h (fun b s₁ q => ?_) fun _ _ q => q.elim);cases b with
 | false =>
  simp only [sA, if_false] at q ⊢;exact q
 | true =>
  simp only [if_true] at q ⊢;rw [execs_cons_wrap, exec_Expr env _ _ hi rfl];refine Leg.bindw (tD ?_);rw [arm_eval_YieldFrom, bind_assoc];refine Leg.bindw (af q (fun v s₂ q => ?_) fun _ _ q => q.elim);rw [bind_assoc];refine Leg.bindw (tD ?_);unfold yieldFrom;rw [bind_assoc];refine Leg.bindw (wpAny_typeOf q.1 ?_);rw [if_neg (by decide)];rw [bind_assoc];refine Leg.bindw (aD (af q.2 (fun it s₃ q => ?_) fun _ _ q => q.elim));obtain ⟨W, rfl, q⟩ := q;unfold runValue;rw [bind_assoc];show Leg _ _ _ _ _ (.call (mX W) none (gd false) (lv []) _) fs s₃;refine Leg.call fun p => ?_
  rw [h7];exact q _ _ p fun F' Y' c' s' q => Leg.leaf (.ok (.ret .none)) q
end
noncomputable def dQ (w : uQ) : Bool := w.params.followText "set-order"
noncomputable def jC (e : Int × uN) : Str := PyProof.Rows.strOf e.2
structure SetIs (b : Bool) (w : uQ) (ks : List Str) (es : Array (Int × uN)) (t : uj) : Prop where
 el : ∀ e ∈ es.toList, ∃ x u, e = (hashStr w x, .str x u)
 perm : (es.toList.map jC).Perm ks
 nodup : ks.Nodup
 fits : t.fits es.size = true
 led : b = true → t.led = true ∨ dQ w = true
 plain : b = true → es.size = 0 ∨ t.plain = false
 small : es.size < scanBound
 first : b = true → es.size ≤ 1 → t.dummies = #[] ∧ (t.mask = 7 ∨ (es.size = 1 ∧ t.mask = 15))
noncomputable def a8 (b : Bool) (w : uQ) (ks : List Str) : cP := fun o => ∃ es ep t, o = { cls := .type "set", data := .set es ep t } ∧ SetIs b w ks es t
theorem SetIs.elems {ks es t} (h : SetIs b w ks es t) : ElemsOf (tC uX w) es.toList := by
 intro e W;obtain ⟨x, u, rfl⟩ := h.el e W;exact ⟨⟨x, by simp [tC, uN.isStrOf], rfl⟩, rfl⟩
theorem SetIs.mem {ks es t} (h : SetIs b w ks es t) (k : Str) : k ∈ ks ↔ ∃ e ∈ es.toList, (tC uX w).is k e.2 = true := by
 rw [← h.perm.mem_iff, tG];constructor
 ·rintro ⟨e, W, rfl⟩;obtain ⟨x, u, rfl⟩ := h.el e W;exact ⟨_, W, by simp [tC, uN.isStrOf, jC, PyProof.Rows.strOf]⟩
 ·rintro ⟨e, W, q⟩;obtain ⟨x, u, rfl⟩ := h.el e W;refine ⟨_, W, ?_⟩;simpa [tC, uN.isStrOf, jC, PyProof.Rows.strOf] using q
theorem SetIs.length {ks es t} (h : SetIs b w ks es t) : es.size = ks.length := by
 rw [← h.perm.length_eq, ak, so]
section
variable {b : Bool} {cs cs' : aF} {K : Frag} {Q : VP}
theorem d9 (H : St h0 o0 cs s) (h : Has cs a (a8 b w ks)) : s.heap.SetOf (tC uX w) a (fun k => decide (k ∈ ks)) ks.length := by
 obtain ⟨o, ho, W, ep, t, rfl, hs⟩ := H.get h;exact ⟨_, W, ep, t, ho, ⟨rfl, rfl, rfl⟩, rfl, hs.elems, fun k => by rw [decide_eq_true_eq]; exact hs.mem k, hs.small, hs.fits, hs.length⟩
theorem de (x : Str) (u : Tok) : (tC uX w).is x (.str x u) = true := by simp [tC, uN.isStrOf]
theorem l6 (H : St h0 o0 cs s) (h : Has cs a (a8 b w ks)) (W : ∀ s', St h0 o0 cs s' → Q (.bool (!decide (x ∈ ks))) s') : uL (uM uX w) A (uc .NotIn (.str x u) (.ref a)) Q E s :=
 wpAny_notInSet_of (de x u) rfl (d9 H h) (W _ (H.toks (tP _)))
theorem SetIs.fresh (led : Bool) (hl : b = true → led = !dQ w) : SetIs b w [] #[] (.fresh 0 0 led) := by
 refine ⟨by simp, by simp, List.nodup_nil, rfl, fun q => ?_, fun _ => .inl rfl, by decide, fun _ _ => ⟨rfl, .inl rfl⟩⟩;rw [hl q];cases h : dQ w
 ·exact .inl rfl
 ·exact .inr rfl
theorem pI (H : St h0 o0 cs s) (W : ∀ a s', St h0 o0 ((a, a8 b w []) :: cs) s' → Q (.ref a) s') : uL (uM uX w) A (newSet (.type "set")) Q E s := by
 unfold newSet setsByText;refine ad (ad (wpAny_askSetting (ae ?_)));dsimp only;simp only [newObj];exact ad (wpAny_alloc (ae (W _ _ (H.push (k := s.toks) ⟨_, _, _, rfl, SetIs.fresh _ fun _ => rfl⟩ (ah _)))))
theorem mE (t : uj) (W : Array (Int × uN)) (h : Int) (x : uN) : (layNew t W h x).2.1.led = t.led ∧ (t.plain = false → (layNew t W h x).2.1.plain = false) := by
 unfold layNew;split
 ·dsimp only;unfold uj.orStandIn;split
  ·exact ⟨rfl, fun q => q⟩
  ·exact ⟨rfl, fun _ => rfl⟩
 ·exact ⟨rfl, fun _ => rfl⟩
theorem jo (j : Nat) : tA #[] j = 0 := rfl
theorem jX (t : uj) (es : Array (Int × uN)) (h : Int) (x : uN) (h1 : t.mask = 7) (h2 : t.dummies = #[]) (h3 : t.place = #[]) (h4 : es.size = 0) : (layNew t es h x).2.1.mask = 7 ∧ (layNew t es h x).2.1.dummies = #[] ∧ (layNew t es h x).2.1.tooFull = false := by
 obtain ⟨mask, place, dummies, finger, led, moves, plain⟩ := t;dsimp only at h1 h2 h3;subst h1 h2 h3;have e : es = #[] := Array.eq_empty_of_size_eq_zero h4;subst e;have : (uj.mk 7 #[] #[] finger led moves plain).freeSlot h = some ((uj.mk 7 #[] #[] finger led moves plain).probeStart h |>.j, false) := by
  unfold uj.freeSlot uj.probe;rfl
 unfold layNew;rw [this];generalize (uj.probeStart _ h).j = j;have W : uj.put (uj.mk 7 #[] #[] finger led moves plain) j = (uj.mk 7 #[j] #[] finger led moves plain, 0) := by
  unfold uj.put;have e1 : uj.insertAt #[] 0 j = #[j] := by simp [uj.insertAt]
  have e2 : uj.has #[] j = false := by unfold uj.has; rw [jo]; rfl
  dsimp only;rw [jo, e1, e2]; rfl
 dsimp only;rw [W];dsimp only;have e3 : (uj.insertAt #[] 0 (h, x) : Array (Int × uN)).size = 1 := by simp [uj.insertAt]
 rw [e3];have e4 : (uj.mk 7 #[j] #[] finger led moves plain).orStandIn 1 = uj.mk 7 #[j] #[] finger led moves plain := by
  unfold uj.orStandIn;rw [if_pos (by rfl)]
 rw [e4];exact ⟨rfl, rfl, rfl⟩
theorem qP {mask finger moves : Nat} {led plain : Bool} {hs : Array Int} {r} (h : uj.laid mask finger moves led plain hs = some r) : r.1.led = led ∧ r.1.plain = plain := by
 unfold uj.laid at h;cases e : uj.layClean mask hs with
 | none => rw [e] at h; cases h
 | some o => rw [e] at h; cases h; exact ⟨rfl, rfl⟩
theorem jJ (t : uj) (es : Array (Int × uN)) (W : Nat) : (relayAll t es W).2.1.led = t.led ∧ (t.plain = false → (relayAll t es W).2.1.plain = false) := by
 unfold relayAll;split
 ·rename_i t' order e;have := qP e;dsimp only at this ⊢;split
  ·exact ⟨this.1, fun q => this.2.trans q⟩
  ·exact ⟨rfl, fun _ => rfl⟩
 ·exact ⟨rfl, fun _ => rfl⟩
theorem SetIs.add {ks es t x u} (h : SetIs b w ks es t) (hx : x ∉ ks) (hp : es'.toList.Perm (es.toList ++ [(hashStr w x, .str x u)])) (hf : t'.fits es'.size = true) (hl : t'.led = t.led) (h9 : t'.plain = false) (hz : ks.length + 1 < scanBound) (W : b = true → es.size = 0 → t'.mask = 7 ∧ t'.dummies = #[]) :
  SetIs b w (ks ++ [x]) es' t' := by
 have hsz : es'.size = es.size + 1 := by rw [← so, hp.length_eq]; simp
 refine ⟨fun e he => ?_, ?_, ?_, hf, fun q => by rw [hl]; exact h.led q, fun _ => .inr h9, by rw [hsz, h.length]; exact hz, fun hb h7 => let f := W hb (by exact (a9 0x390c0a286693539cc 0x71ff16c2b673e) hsz h7); ⟨f.2, .inl f.1⟩⟩
 ·rcases s8.mp (hp.mem_iff.mp he) with q | q
  ·exact h.el e q
  ·rw [su] at q; exact ⟨x, u, q⟩
 ·refine (hp.map jC).trans ?_;rw [ao];exact h.perm.append (by simp [jC, PyProof.Rows.strOf])
 ·rw [sH];exact ⟨h.nodup, by simp, fun a ha b hb q => by rw [su] at hb; subst hb q; exact hx ha⟩
theorem f0 {Q' : Unit → uF → Prop} (W : Q' () s₁) : uL (uM uX w) A (match b with | true => rule "set.scan.the-table-gave-way" | false => uT ()) Q' E s₁ := by
 cases b <;> first | exact ae W | exact wpAny_rule W
theorem ge {a : uR} {ks : List Str} {x : Str} {u : Tok} {Q : Bool → uF → Prop} (H : St h0 o0 cs s) (hz : ks.length + 1 < scanBound) (hp : Put cs a (a8 b w ks) (a8 b w (if x ∈ ks then ks else ks ++ [x])) cs')
  (hq : ∀ b s', St h0 o0 cs' s' → Q b s') : uL (uM uX w) A (setAddHashed a (.str x u) (hashStr w x)) Q E s := by
 obtain ⟨o, ho, es, ep, t, rfl, hs⟩ := H.get hp.has;have hb := hs.small;have x9 := hs.elems (uX := uX);have y3 := de (uX := uX) (w := w) x u;unfold setAddHashed setAddHashedIn;refine aD (ad (wpAny_setState_of ho rfl hs.fits ?_));dsimp only;rw [byScan_of rfl hb x9];simp only [↓reduceIte];unfold setAddByScan;refine ad ?_;refine ad (wpAny_rule ?_);refine ad (wpAny_setScan_of (knd := tC uX w) (k := x) y3 ho rfl hs.fits x9 ?_);cases hr : List.findIdx? (fun e => (tC uX w).is x e.2) es.toList with
 | some j =>
  dsimp only;obtain ⟨hj, y6, _⟩ := List.findIdx?_eq_some_iff_getElem.mp hr;have x2 : x ∈ ks := (hs.mem (uX := uX) x).mpr ⟨es.toList[j], sS hj, y6⟩;rw [if_pos x2] at hp;refine ae (ae (hq _ _ ?_));exact H.weak hp fun o q => q
 | none =>
  dsimp only;have x2 : x ∉ ks := fun q => by
   obtain ⟨e, he, q⟩ := (hs.mem (uX := uX) x).mp q;have := List.findIdx?_eq_none_iff.mp hr e he;rw [q] at this; cases this
  rw [if_neg x2] at hp;have h7 := layNew_perm t es (hashStr w x) (.str x u);have h9 := layNew_fits t es (hashStr w x) (.str x u);have x0 := mE t es (hashStr w x) (.str x u);show uL _ _ (_ >>= fun _ => _) _ _ _;generalize hL : layNew t es (hashStr w x) (.str x u) = L at h7 h9 x0;obtain ⟨W, t1, x1, z1⟩ := L;dsimp only at h7 h9 x0 ⊢;rw [Array.toList_push] at h7;refine ad (f0 ?_);have x6 : b = true → es.size = 0 → t1.mask = 7 ∧ t1.dummies = #[] ∧ t1.tooFull = false := fun hb hz => by
   have f := hs.first hb (by apply aP; exact ap (by assumption); decide);have y8 : t.place = #[] := Array.eq_empty_of_size_eq_zero (by have := hs.fits; simp only [uj.fits, sP, beq_iff_eq] at this; (exact (a9 0x3a04f0d5508d335cc 0x202c3e20ec1802b5) hz this.1));have q := jX t es (hashStr w x) (.str x u) (f.2.resolve_right fun q => by have := q.1; (exact (bD 51001467920249 44138393) hz q.1)) f.1 y8 hz;rw [hL] at q;exact q
  have fin : ∀ t2 : uj, t2.fits W.size = true → t2.led = t.led → t2.plain = false → (b = true → es.size = 0 → t2.mask = 7 ∧ t2.dummies = #[] ∧ t2.tooFull = false) → ∀ (g : Bool → Sem Unit), (∀ (b : Bool) (s₁ : uF) (Q' : Unit → uF → Prop), Q' () s₁ → uL (uM uX w) A (g b) Q' E s₁) →
    uL (uM uX w) A (do
     storeSet a W t2
     if (!x1 && t2.tooFull) = true then do
       g (relayAll t2 W (uj.grown W.size)).2.2
       storeSet a (relayAll t2 W (uj.grown W.size)).1 (relayAll t2 W (uj.grown W.size)).2.1
       uT (some true)
      else uT (some true)) (fun r s' => r = some true ∧ St h0 o0 cs' s') E s := by
   intro t2 z0 y4 y2 x8 g hg;have hsz : W.size = ks.length + 1 := by rw [← so, h7.length_eq, aw, so, hs.length]; rfl
   have y5 : W.size ≤ ug := fits_of_scanBound (by rw [hsz]; exact hz);have o1 := r5 (Obj.putSet W t2) ho (by rw [putSet_of W t2 rfl]; rfl);rw [putSet_of W t2 rfl] at o1;refine ad (wpAny_storeSet_of ho rfl ?_ y5);split
   ·rename_i y1;have x3 := relayAll_perm t2 W (uj.grown W.size);have x7 := relayAll_fits t2 W (uj.grown W.size);have x4 := jJ t2 W (uj.grown W.size);generalize relayAll t2 W (uj.grown W.size) = Rl at x3 x7 x4 ⊢;obtain ⟨x5, t3, y7⟩ := Rl;dsimp only at x3 x7 x4 ⊢;refine ad (hg _ _ _ ?_);have y0 : x5.size = W.size := by rw [← so, x3.length_eq, so]
    refine ad (wpAny_storeSet_of o1 rfl ?_ (by rw [y0]; exact y5));have o2 := r5 (Obj.putSet x5 t3) o1 (by rw [putSet_of x5 t3 rfl]; rfl);rw [putSet_of x5 t3 rfl] at o2;refine ae ⟨rfl, ?_⟩;exact H.updS (k := s.toks) hp ⟨_, o2, _, _, _, rfl, hs.add x2 (x3.trans h7) x7 (x4.1.trans y4) (x4.2 y2) hz (fun hb h0 => by rw [(x8 hb h0).2.2, Bool.and_false] at y1; cases y1)⟩ ((si ..).trans (si ..)) (ah _)
   ·refine ae ⟨rfl, ?_⟩;exact H.updS (k := s.toks) hp ⟨_, o1, _, _, _, rfl, hs.add x2 h7 z0 y4 y2 hz (fun hb h0 => ⟨(x8 hb h0).1, (x8 hb h0).2.1⟩)⟩ (si ..) (ah _)
  split
  ·refine ad ?_;rw [hashByValue_scannable 8 rfl];refine ae ?_;simp only [plainKind, sA, if_false];refine af (fin _ (uj.fits_plain_off h9) x0.1 rfl x6 _ (fun b s₁ Q' hq => f0 hq)) (fun r s' q => ?_) fun _ _ q => q
   obtain ⟨rfl, q⟩ := q;exact ae (hq _ _ q)
  ·rename_i y9;refine ad (ae ?_);simp only [↓reduceIte];refine af (fin _ h9 x0.1 (by simpa using y9) x6 _ (fun b s₁ Q' hq => f0 hq)) (fun r s' q => ?_) fun _ _ q => q
   obtain ⟨rfl, q⟩ := q;exact ae (hq _ _ q)
theorem gH {a : uR} {ks : List Str} {x : Str} {u : Tok} {Q : Bool → uF → Prop} (H : St h0 o0 cs s) (hz : ks.length + 1 < scanBound) (hp : Put cs a (a8 b w ks) (a8 b w (if x ∈ ks then ks else ks ++ [x])) cs')
  (W : ∀ b s', St h0 o0 cs' s' → Q b s') : uL (uM uX w) A (setAdd a (.str x u)) Q E s := by
 unfold setAdd;refine aD (ad ((tC uX w).pyHash (de x u) ?_));exact ge (H.toks (tP _)) hz hp W
theorem x_addM {a : uR} {ks : List Str} {pl : Sem Bool} {Q : uN × List uN → uF → Prop} (H : St h0 o0 cs s) (h : Has cs a (a8 b w ks)) (W : Q (.builtin "set.add", [.ref a]) s) :
  uL (uM uX w) A (ua (.ref a) (ud "add") pl) Q E s := getMethod_set_add (d9 (uX := uX) H h) W
theorem x_add (H : St h0 o0 cs s) (hz : ks.length + 1 < scanBound) (hp : Put cs a (a8 b w ks) (a8 b w (if x ∈ ks then ks else ks ++ [x])) cs')
  (hq : ∀ s', St h0 o0 cs' s' → Q .none s') : uL (uM uX w) A (uW (.builtin "set.add") [.ref a, .str x u]) Q E s := by
 refine sW F.slot_set_add (d9 (uX := uX) H hp.has).typeIs F.entry_set_add ?_ (F.args_set_add_2 _ _);unfold uv.«set.add» uv.Frozenset.oneOther;simp only [List.isEmpty_nil, bind_assoc];unfold uv.Frozenset.addrOf;refine ad (ae ?_)
 try dsimp only
 refine ad (ae ?_)
 try dsimp only
 refine ad (gH H hz hp fun b s' W => ?_);exact ae ⟨_, rfl, hq _ W⟩
theorem x_set0 (H : St h0 o0 cs s) (W : ∀ a s', St h0 o0 ((a, a8 false w []) :: cs) s' → Q (.ref a) s') : uL (uM uX w) A (uW (.type "set") []) Q E s :=
 call_set_0 fun led => W _ _ (H.push (k := s.toks) ⟨_, _, _, rfl, SetIs.fresh led fun q => by cases q⟩ (ah _))
noncomputable def bU (ks : List Str) : List Str → List Str
 | [] => ks
 | x :: r => bU (if x ∈ ks then ks else ks ++ [x]) r
theorem iu : ∀ (r ks : List Str), (bU ks r).length ≤ ks.length + r.length
 | [], ks => ah _
 | x :: r, ks => by
  have := iu r (if x ∈ ks then ks else ks ++ [x]);rw [bU, sO];split at this
  ·rename_i q; rw [if_pos q]; (exact (bZ 0x1adfdd379dd345c2 0) this)
  ·rename_i q; rw [if_neg q]; simp only [aw, r4] at this; (exact (bZ 0x795b723674889edfc2 0) this)
theorem cM : ∀ (r ks : List Str) (k : Str), k ∈ bU ks r ↔ k ∈ ks ∨ k ∈ r
 | [], ks, k => by simp [bU]
 | x :: r, ks, k => by
  rw [bU, cM r];split
  ·rename_i q;rw [tB];constructor
   ·rintro (h | h) <;> simp [h]
   ·rintro (h | rfl | h)
    ·exact .inl h
    ·exact .inl q
    ·exact .inr h
  ·rw [s8, su, tB, or_assoc]
theorem ql (W : dK uX w A.in1 h0 o0 it f n V Pre) (xs : List Str) (hx : xs.length = n) (hV : ∀ i v, V i v → ∃ x u, xs[i]? = some x ∧ v = .str x u)
  (x3 : Pre C) :
  ∀ (k i : Nat) (ks : List Str) (s : uF), n - i = k → i ≤ n → ks.length + (n - i) + 1 < scanBound → St h0 o0 (f i ++ ((S, a8 b w ks) :: C)) s → (∀ s', St h0 o0 ((S, a8 b w (bU ks (xs.drop i))) :: C) s' → R (.ok (.ret .none)) s') →
   uD (uM uX w) A (.builtin "set.update.loop" ⟨[.ref S, it], []⟩) R s := by
 have x0 : ∀ c, Pre ((S, c) :: C) := fun c => W.mono _ _ x3 fun p hp => au _ hp
 intro k;induction k with
 | zero =>
  intro i ks s hk hi h7 H hR;have x4 : i = n := lp2 hk hi;subst x4;refine codeAny_builtin F.entry_set_update_loop ?_;rw [sf F.plain_set_update_loop _];show uL _ A.in1 (pyNext it >>= _) _ _ s;refine ad (W.done _ s _ _ (x0 _) H fun s' H' => ?_);show uL _ A.in1 (ret uN.none) _ _ s';refine ae (hR s' ?_);rw [← hx, List.drop_length];exact H'
 | succ k ih =>
  intro i ks s hk hi h7 H hR;have h9 : i < n := lp3 hk;refine codeAny_builtin F.entry_set_update_loop ?_;rw [sf F.plain_set_update_loop _];show uL _ A.in1 (pyNext it >>= _) _ _ s;refine ad (W.next i _ s _ _ h9 (x0 _) H fun v s' hv H' => ?_);obtain ⟨x, u, x2, rfl⟩ := hV i v hv;show uL _ A.in1 (holding [uN.str x u] (setAdd S (.str x u)) >>= _) _ _ s';refine ad (aD ?_);refine gH H' (by exact (jP 0x7291af7049985df2fe 1734817993727) h7) (Put.skip .here) fun bb s2 H2 => ?_
  refine ae ⟨plainId_quiet F.plain_set_update_loop _, ih (i + 1) _ _ (lp1 hk) h9 ?_ H2 fun s3 H3 => hR s3 ?_⟩
  ·split
   ·(exact (jP 0x294d0f87efb19c7b1602005ca2 0x34357f846f4461ad777db48f75) h7)
   ·simp only [aw, r4]; (exact (jP 0x6f88260988d6b21f96936dfb8ca2a85e 0x4288f2ef3826ebba4f6da2993138ae9) h7 h9)
  ·have x1 : i < xs.length := by (exact (bZ 46536963161522 44139582) hx h9)
   rw [rQ x1] at x2;rw [rP x1, tq x2, bU];exact H3
theorem St.drawn (H : St h0 o0 cs s) (d : Drawn) : St h0 o0 cs { s with drawn := d } := ⟨H.keep, H.cell, H.new, H.nodup, H.gens, H.os, H.tok, H.flo, H.big, H.g3⟩
theorem pX {Q : Nat → uF → Prop} (W : n ≠ 0) (h : ∀ i d, i < n → Q i { s with drawn := d }) : uL M A (choose src n) Q E s := by
 intro Γ p hΓ;unfold choose;rw [Sem.wp_choose];exact ⟨W, h _ _ (Nat.mod_lt _ (Nat.pos_of_ne_zero W))⟩
theorem ij {α : Type} {l : List α} (h : i < l.length) : (l[i] :: l.eraseIdx i).Perm l := by
 rw [List.eraseIdx_eq_take_drop_succ]
 conv => rhs; rw [← List.take_append_drop i l, rP h]
 exact sQ.symm
theorem gg {α : Type} : ∀ (n : Nat) (xs : List α) (s : uF) (Q : List α → uF → Prop), xs.length = n → (∀ ys d, ys.Perm xs → Q ys { s with drawn := d }) → uL M A (drawOrder n xs) Q E s
 | 0, xs, s, Q, hx, h => by
  have : xs = [] := rT.mp hx;subst this;exact ae (h [] s.drawn (.refl _))
 | n + 1, [], s, Q, hx, h => by cases hx
 | n + 1, x :: r, s, Q, hx, h => by
  show uL M A (choose .order (x :: r).length >>= _) Q E s;refine ad (pX (by simp) fun i d hi => ?_);rw [rQ hi];dsimp only;refine ad (gg n _ _ _ (by rw [List.length_eraseIdx_of_lt hi]; simp only [sO] at hx ⊢; (exact (a9 0x7dd17b7d0993817f5e 0x34416b85df975609523dc9dd15) hx)) fun ys W hp => ae ?_);exact h _ W ((hp.cons _).trans (ij hi))
theorem i7 {α : Type} (next : Nat → Nat) : ∀ (W k : Nat) (left : List α) (out : Array α), left.length = W → (pickOrder.go next W k left out).toList.Perm (out.toList ++ left)
 | 0, k, left, out, h => by
  have : left = [] := rT.mp h;subst this;rw [pickOrder.go, s7]
 | W + 1, k, left, out, h => by
  have hi : next k % left.length < left.length := Nat.mod_lt _ (by exact (a9 0x62b9a3673cc36 1298222) h)
  rw [pickOrder.go, rQ hi];dsimp only;refine (i7 next W (k + 1) _ _ (by rw [List.length_eraseIdx_of_lt hi]; (exact (a9 0x62b9a369d4262 0x34416b85df975609523dc9dd15) h))).trans ?_;rw [Array.toList_push, av];exact r8 _ (ij hi)
theorem cq {α : Type} (next : Nat → Nat) (xs : Array α) : (pickOrder next xs).toList.Perm xs.toList := by
 unfold pickOrder;have := i7 next xs.size 0 xs.toList #[] (by simp)
 simpa using this
noncomputable def ip (es : Array (Int × uN)) (ep : Nat) (t : uj) : cP := fun o => o = { cls := .type "set", data := .set es ep t }
noncomputable def cR (first : uN) (i : Nat) (a : uR) (n ep : Nat) : cP := fun o => o.cls = .type "set_iterator" ∧ o.data = .fields #[first, .int i 0, .ref a, .int n 0, .int ep 0]
theorem slot_si_next : Slot "set_iterator" "__next__" "set_iterator.__next__" :=
 .of (owner := "set_iterator") (n := "__next__") (by rw [typeLookup_type, r9]; kernel_rfl) (by decide +kernel) (by decide +kernel) (by decide +kernel)
  (by first | exact .inl (by decide +kernel) | exact .inr (by decide +kernel)) (by rw [isSubtype_type]; kernel_rfl)
theorem iP : entryFor table "set_iterator.__next__" = some uv.«set_iterator.__next__» := entryFor_of_tree (by kernel_rfl)
theorem km (a : uN) : argsOk "set_iterator.__next__" ⟨[a], []⟩ := by unfold argsOk; kernel_rfl
theorem fB : Slot "set_iterator" "__iter__" "set_iterator.__iter__" :=
 .of (owner := "set_iterator") (n := "__iter__") (by rw [typeLookup_type, r9]; kernel_rfl) (by decide +kernel) (by decide +kernel) (by decide +kernel)
  (by first | exact .inl (by decide +kernel) | exact .inr (by decide +kernel)) (by rw [isSubtype_type]; kernel_rfl)
theorem ik : entryFor table "set.__iter__" = some uv.«frozenset.__iter__» :=
 entryFor_alias (id' := "frozenset.__iter__") (by kernel_rfl) rfl (by decide +kernel) (by kernel_rfl)
theorem nu (H : St h0 o0 cs s) (hI : Has cs I (cR first i a n ep)) : ∃ o, s.heap.get? I = some o ∧ o.data = .fields #[first, .int i 0, .ref a, .int n 0, .int ep 0] ∧ s.TypeIs (.ref I) "set_iterator" := by
 obtain ⟨o, W, hc, hd⟩ := H.get hI;exact ⟨o, W, hd, o, W, hc⟩
theorem bg {a : uR} {es : Array (Int × uN)} {ep : Nat} {t : uj} {Q : (Array (Int × uN) × Nat × uj) → uF → Prop} (H : St h0 o0 cs s) (ha : Has cs a (ip es ep t)) (hf : t.fits es.size = true) (h : Q (es, ep, t) s) :
  uL (uM uX w) A (setState a) Q E s := by
 obtain ⟨o, W, rfl⟩ := H.get ha;exact wpAny_setState_of W rfl hf h
theorem St.dropBut (H : St h0 o0 ((I, c) :: C) s) (hk : ∀ b o, b ≠ I → s.heap.get? b = some o → h'.get? b = some o) (W : s.toks ≤ k) : St h0 o0 C { s with heap := h', toks := k } := by
 have hn := H.new (I, c) (by simp);have hd := H.nodup;simp only [az, s9] at hd;refine ⟨fun b o e => hk b o (fun q => ?_) (H.keep b o e), fun p hp => ?_, fun p hp => H.new p (by simp [hp]), hd.2, H.gens, H.os, (by have := H.tok; show k ≠ 0; (exact oq0 W this)), tH H.flo W, fun p hp => H.big p (by simp [hp]), H.g3⟩
 ·subst q; simp only at hn; rw [hn] at e; cases e
 ·obtain ⟨o, ho, hc⟩ := H.cell p (by simp [hp]);exact ⟨o, hk _ _ (fun q => hd.1 (q ▸ aA hp)) ho, hc⟩
theorem gS {Q : Option uN → uF → Prop} (hh : A.handled = none) (H : St h0 o0 ((I, c) :: C) s) (hs : tK I s.heap h') (h : ∀ s', St h0 o0 C s' → Q none s') :
  uL (uM uX w) A.in1 (newExc (.type "StopIteration") [] >>= fun x => raiseNew x) (fun (fin : ub) s' => False)
   (fun e s' => uL (uM uX w) A (do if ← isInstance e (.type "StopIteration") then uT none else throw e) Q E s') { s with heap := h' } := by
 refine ad ?_;simp only [newExc, newTuple];refine ad (sK ?_ (by size_fits));refine ad (m := firstArgMember _ _) (tR (a := uN.none) (by first | rfl | (simp only [firstArgMember]; rfl)) ?_);refine sK ?_ (by size_fits);simp only [raiseNew];refine ad (wpAny_handled ?_);rw [show A.in1.handled = none from hh];refine ad (ae (wpAny_throw ?_));refine ad (wpAny_isInstance (T := "StopIteration") (b := true) ⟨_, sm _ rfl, rfl⟩ isSubtype_stop ?_);refine ae (h _ ?_);exact H.dropBut (fun b o hb e => r3 _ (r3 _ ((hs.2 b hb).trans e))) (ah _)
theorem eB {es : Array (Int × uN)} {t : uj} {Q : Option uN → uF → Prop} (H : St h0 o0 cs s) (hI : Has cs I (cR first i a n ep)) (ha : Has cs a (ip es ep t)) (hf : t.fits es.size = true) (hn : es.size = n)
  (h : uL (uM uX w) A.in1 (if let .int slot _ := first then do
    match ← setNext a slot.toNat i ep with
    | some (x, next) =>
     setField (.ref I) 0 (uH next)
     setField (.ref I) 1 (uH (((i : Nat) : Int) + 1))
     ret x
    | none => do
     setField (.ref I) 2 .none
     raiseNew (← newExc (.type "StopIteration") [])
   else do
    let some places ← seqItems? first | unsupported "internal:set_iterator"
    match places[i]? with
    | some (.int place _) =>
     let x ← setNextDrawn a place.toNat ep
     setField (.ref I) 1 (uH (((i : Nat) : Int) + 1))
     ret x
    | some _ => unsupported "internal:set_iterator"
    | none => do
     setField (.ref I) 0 (uH 0)
     setField (.ref I) 2 .none
     raiseNew (← newExc (.type "StopIteration") []))
   (fun fin s' => ∃ v, fin = .done (.ret v) ∧ Q (some v) s') (fun e s' => uL (uM uX w) A (do if ← isInstance e (.type "StopIteration") then uT none else throw e) Q E s') s) :
  uL (uM uX w) A (pyNext (.ref I)) Q E s := by
 obtain ⟨o, ho, hd, W⟩ := nu H hI;unfold pyNext;refine ad (wpAny_attempt (wpAny_callSpecial?_slot (name := ud "__next__") W slot_si_next
  (sW slot_si_next W iP ?_ (km _))))
 unfold uv.«set_iterator.__next__»;refine ad (ae ?_);refine ad (wpAny_fieldsOf ho hd ?_);show uL _ _ (setEntries a >>= _) _ _ _;unfold setEntries;refine ad (ad (bg H ha hf (ae ?_)));rw [if_neg (by rw [hn]; simp)];simp only [Int.toNat_natCast];refine af h (fun fin s' q => ?_) fun _ _ q => q
 obtain ⟨v, rfl, q⟩ := q;exact ⟨v, rfl, ae q⟩
theorem iQ : entryFor table "set_iterator.__iter__" = some uv.«dict_keyiterator.__iter__» :=
 entryFor_alias (id' := "dict_keyiterator.__iter__") (by kernel_rfl) rfl (by decide +kernel) (by kernel_rfl)
theorem ko (a : uN) : argsOk "set_iterator.__iter__" ⟨[a], []⟩ := by unfold argsOk; kernel_rfl
theorem jH (H : St h0 o0 cs s) (hI : Has cs I (cR first i a n ep)) (h : Q (.ref I) s) : uL (uM uX w) A (pyIter (.ref I)) Q E s := by
 obtain ⟨o, ho, hd, W⟩ := nu H hI;refine wpAny_pyIter_slot W fB (sW fB W iQ ?_ (ko _));show uL _ _ (ret (.ref I)) _ _ s;exact ae ⟨_, rfl, "set_iterator", _, W, slot_si_next.lookup, h⟩
theorem mq {I a : uR} {first : uN} {target : Expr} {i n ep : Nat} {v : uN} {Q : Unit → uF → Prop} (H : St h0 o0 cs s) (W : Has cs I (cR first i a n ep)) (h : Q () s) : uL (uM uX w) A (td target (.ref I) v) Q E s := by
 obtain ⟨o, ho, hc, hd⟩ := H.get W;unfold td;split
 all_goals first
  | exact ae h
  | (cases v with
   | ref a =>
    refine ad (wpAny_load ho ?_);rw [hc, hd];show uL _ _ (if (["enumerate", "zip", "dict_itemiterator", "dict_reverseitemiterator", "odict_iterator", "itertools.zip_longest", "itertools.pairwise"].contains "set_iterator" && _) = true then _ else _) _ _ _;rw [show (["enumerate", "zip", "dict_itemiterator", "dict_reverseitemiterator", "odict_iterator", "itertools.zip_longest", "itertools.pairwise"].contains "set_iterator") = false from by decide, Bool.false_and];exact ae h
   | _ => exact ae h)
theorem gT {I a : uR} {first first' : uN} {i i' n ep k : Nat} {v : uN} {Q : Unit → uF → Prop} (H : St h0 o0 cs s) (hp : Put cs I (cR first i a n ep) (cR first' i' a n ep) cs')
  (e : (#[first, .int i 0, .ref a, .int n 0, .int ep 0] : Array uN).setIfInBounds k v = #[first', .int i' 0, .ref a, .int n 0, .int ep 0]) (hk : k < 5) (h : ∀ s', St h0 o0 cs' s' → Q () s') : uL (uM uX w) A (setField (.ref I) k v) Q E s := by
 obtain ⟨o, W, hc, hd⟩ := H.get hp.has;refine wpAny_setField W hd (by simpa using hk) (h _ (H.updS (k := s.toks) hp ⟨_, r5 _ W (Obj.isFreed_of_fields (Obj.data_mapFields hd _)), (Obj.cls_mapFields ..).trans hc, ?_⟩ (si ..) (ah _)));rw [Obj.data_mapFields hd, e]
theorem mi {I tup a : uR} {es : Array (Int × uN)} {ep : Nat} {t : uj} {places : List Nat} (hh : A.handled = none) (hf : t.fits es.size = true) (hp : ∀ p ∈ places, p < es.size) (hl : places.length = es.size) :
  dK uX w A h0 o0 (.ref I) (fun i => [(I, cR (.ref tup) i a es.size ep), (tup, bn (places.map fun (p : Nat) => uH p))]) es.size (fun i v => ∃ p x, places[i]? = some p ∧ es[p]? = some (x, v)) (fun C => Has C a (ip es ep t)) where
 next := fun i C s Q E hi ha H hQ => by
  refine eB H .here (.t2 ha) hf rfl ?_;obtain ⟨o, ho, n, rfl⟩ := H.get (a := tup) .h1;have W : i < places.length := by (exact (bZ 46536963161522 44139582) hl hi)
  have h7 := hp _ (sS W);dsimp only;refine ad (wpAny_seqItems ho rfl ?_);dsimp only;have e1 : (places.map fun (p : Nat) => uH p).toArray[i]? = some (.int (places[i] : Nat) 0) := by simp [W, uH]
  rw [e1];dsimp only;unfold setNextDrawn;refine ad (ad (bg H (.t2 ha) hf ?_));dsimp only;rw [if_neg (by simp)];rw [Int.toNat_natCast, rN h7];dsimp only;refine ae ?_;refine ad (gT (first' := .ref tup) (i' := i + 1) H .here (by simp [uH]) (by decide) fun s' H' => ?_);refine ae ⟨_, rfl, hQ _ _ ⟨places[i], es[places[i]].1, by simp [W], by simp [h7]⟩ H'⟩
 done := fun C s Q E ha H hQ => by
  refine eB H .here (.t2 ha) hf rfl ?_;obtain ⟨o, ho, n, rfl⟩ := H.get (a := tup) .h1;dsimp only;refine ad (wpAny_seqItems ho rfl ?_);dsimp only;have e1 : (places.map fun (p : Nat) => uH p).toArray[es.size]? = none := by simp [hl]
  rw [e1];dsimp only;obtain ⟨oI, h9, hc, hd⟩ := H.get (a := I) .here;refine ad (wpAny_setField h9 hd (by simp) ?_);refine ad (wpAny_setField (r5 _ h9 (Obj.isFreed_of_fields (Obj.data_mapFields hd _))) (Obj.data_mapFields hd _) (by simp) ?_);exact af (gS (s := s) hh H ((si s.heap I _).trans (si _ I _)) fun s' H' => hQ s' H'.tail) (fun _ _ q => q.elim) fun _ _ q => q
 self := fun i C s Q E H h => jH H .here h
 mono := fun C C' h hs => Has.of_mem (hs _ h.mem)
 own := fun target i C v s Q E hv H h => mq H .here (h _ H)
theorem cZ {Q : Bool → uF → Prop} (h : Q (dQ w) s) : uL (uM uX w) A setsByText Q E s := by
 unfold setsByText;exact ad (wpAny_askSetting (ae h))
theorem mh {I a : uR} {es : Array (Int × uN)} {ep : Nat} {t : uj} (hb : dQ w = true) (hh : A.handled = none) (hf : t.fits es.size = true) :
  dK uX w A h0 o0 (.ref I) (fun i => [(I, cR (uH 0) i a es.size ep)]) es.size (fun i v => ∃ x, (pickOrder (w.params.setOrder a ep) es)[i]? = some (x, v)) (fun C => Has C a (ip es ep t)) where
 next := fun i C s Q E hi ha H hQ => by
  refine eB H .here (.there ha) hf rfl ?_;have hsz : (pickOrder (w.params.setOrder a ep) es).size = es.size := by
   have := (cq (w.params.setOrder a ep) es).length_eq;simpa using this
  show uL _ _ (setNext a (Int.toNat 0) i ep >>= _) _ _ _;unfold setNext setWalk;refine ad (ad (bg H (.there ha) hf ?_));dsimp only;refine ad (cZ ?_);rw [if_pos hb, if_neg (by simp)];refine ad (ad (bg H (.there ha) hf ?_));dsimp only;refine ad (cZ ?_);rw [if_pos hb];refine ad (wpAny_askSetting (ae ?_));dsimp only;have W : i < (pickOrder (w.params.setOrder a ep) es).size := by (exact (bZ 50110004865578 44139549) hi hsz)
  have e1 : (pickOrder ((uM uX w).w.params.setOrder a ep) es)[i]? = some (pickOrder (w.params.setOrder a ep) es)[i] := rN W;rw [e1];refine ae ?_;show uL _ _ (setField (.ref I) 0 (uH ((Int.toNat 0 : Nat) : Int)) >>= _) _ _ _;refine ad (gT (first' := uH 0) (i' := i) H .here (by simp [uH]) (by decide) fun s' H' => ?_);refine ad (gT (first' := uH 0) (i' := i + 1) H' .here (by simp [uH]) (by decide) fun s' H' => ?_);refine ae ⟨_, rfl, hQ _ _ ⟨(pickOrder (w.params.setOrder a ep) es)[i].1, by simp [W]⟩ H'⟩
 done := fun C s Q E ha H hQ => by
  refine eB H .here (.there ha) hf rfl ?_;have hsz : (pickOrder (w.params.setOrder a ep) es).size = es.size := by
   have := (cq (w.params.setOrder a ep) es).length_eq;simpa using this
  show uL _ _ (setNext a (Int.toNat 0) es.size ep >>= _) _ _ _;unfold setNext setWalk;refine ad (ad (bg H (.there ha) hf ?_));dsimp only;refine ad (cZ ?_);rw [if_pos hb, if_neg (by simp)];refine ad (ad (bg H (.there ha) hf ?_));dsimp only;refine ad (cZ ?_);rw [if_pos hb];refine ad (wpAny_askSetting (ae ?_));dsimp only;have e1 : (pickOrder ((uM uX w).w.params.setOrder a ep) es)[es.size]? = none := Array.getElem?_eq_none (ap hsz);rw [e1];refine ae ?_;dsimp only [Option.map];obtain ⟨oI, h7, hc, hd⟩ := H.get (a := I) .here;refine ad (wpAny_setField h7 hd (by simp) ?_);exact af (gS (s := s) hh H (si s.heap I _) fun s' H' => hQ s' H') (fun _ _ q => q.elim) fun _ _ q => q
 self := fun i C s Q E H h => jH H .here h
 mono := fun C C' h hs => Has.of_mem (hs _ h.mem)
 own := fun target i C v s Q E hv H h => mq H .here (h _ H)
theorem jm (j k : Nat) : tA #[j] k = if j < k then 1 else 0 := by
 unfold tA;show tA.go #[j] k 1 0 1 = _;unfold tA.go;rw [if_pos (by decide)];show (if #[j].getD 0 k < k then tA.go #[j] k 0 1 1 else tA.go #[j] k 0 0 0) = _;show (if j < k then tA.go #[j] k 0 1 1 else tA.go #[j] k 0 0 0) = _;split <;> rfl
theorem mj {I a : uR} {e : Int × uN} {ep j : Nat} {t : uj} (hb : dQ w = false) (hh : A.handled = none) (hf : t.fits 1 = true) (hl : t.led = true) (hj : t.place = #[j]) :
  dK uX w A h0 o0 (.ref I) (fun i => [(I, cR (uH (if i = 0 then 0 else (j + 1 : Nat))) i a 1 ep)]) 1 (fun i v => v = e.2) (fun C => Has C a (ip #[e] ep t)) where
 next := fun i C s Q E hi ha H hQ => by
  have h9 : i = 0 := by (exact (bD 1394996473836 0) hi)
  subst h9;refine eB H .here (.there ha) hf rfl ?_;show uL _ _ (setNext a (Int.toNat 0) 0 ep >>= _) _ _ _;unfold setNext;refine ad (ad (bg H (.there ha) hf ?_));dsimp only;refine ad (cZ ?_);rw [if_neg (by rw [hb]; decide)];refine KFB.if_not (by show (!t.plain && decide ((#[e] : Array (Int × uN)).size > 1)) = false; simp) ?_;refine ad (tR (a := ()) (by show (if (!t.led && !(#[e] : Array (Int × uN)).isEmpty) = true then _ else _) = _; rw [hl]; rfl) ?_);rw [hj, show tA #[j] (Int.toNat 0) = 0 from by rw [jm, if_neg (by simp)]];refine ae ?_;show uL _ _ (setField (.ref I) 0 (uH ((j + 1 : Nat) : Int)) >>= _) _ _ _;refine ad (gT (first' := uH ((j + 1 : Nat) : Int)) (i' := 0) H .here (by simp [uH]) (by decide) fun s' W => ?_);refine ad (gT (first' := uH ((j + 1 : Nat) : Int)) (i' := 1) W .here (by simp [uH]) (by decide) fun s' W => ?_);exact ae ⟨_, rfl, hQ _ _ rfl W⟩
 done := fun C s Q E ha H hQ => by
  refine eB H .here (.there ha) hf rfl ?_;show uL _ _ (setNext a (Int.toNat ((j + 1 : Nat) : Int)) 1 ep >>= _) _ _ _;unfold setNext;refine ad (ad (bg H (.there ha) hf ?_));dsimp only;refine ad (cZ ?_);rw [if_neg (by rw [hb]; decide)];refine KFB.if_not (by show (!t.plain && decide ((#[e] : Array (Int × uN)).size > 1)) = false; simp) ?_;refine ad (tR (a := ()) (by show (if (!t.led && !(#[e] : Array (Int × uN)).isEmpty) = true then _ else _) = _; rw [hl]; rfl) ?_);rw [hj, show tA #[j] (Int.toNat ((j + 1 : Nat) : Int)) = 1 from by rw [jm, if_pos (by rw [Int.toNat_natCast]; (exact bD 35552780 0))]];refine ae ?_;obtain ⟨oI, h7, hc, hd⟩ := H.get (a := I) .here;show uL _ _ (setField (.ref I) 2 .none >>= _) _ _ _;refine ad (wpAny_setField h7 hd (by simp) ?_);exact af (gS (s := s) hh H (si s.heap I _) fun s' W => hQ s' W) (fun _ _ q => q.elim) fun _ _ q => q
 self := fun i C s Q E H h => jH H .here h
 mono := fun C C' h hs => Has.of_mem (hs _ h.mem)
 own := fun target i C v s Q E hv H h => mq H .here (h _ H)
theorem Has.put (h : Has cs a c) (c' : cP) : ∃ cs', Put cs a c c' cs' ∧ Put cs' a c' c cs := by
 induction h with
 | here => exact ⟨_, .here, .here⟩
 | there _ ih =>
  obtain ⟨cs', h1, h2⟩ := ih;exact ⟨_, .there h1, .there h2⟩
theorem Put.has' {cs a c c' cs'} (h : Put cs a c c' cs') : Has cs' a c' := by
 induction h with
 | here => exact .here
 | there _ ih => exact .there ih
def rJ (uX : uy) (w : uQ) (h0 : uV) (o0 : uF) (cs : aF) (r : uR) (Res : List uN → Prop) : Prop :=
 ∀ (A : uJ) (pre : aF) (s : uF) (Q : VP) (E : VP), A.handled = none → St h0 o0 (pre ++ cs) s →
  (∀ I f n V Pre cs1 s', (∀ A2 : uJ, A2.handled = none → dK uX w A2 h0 o0 (.ref I) f n V Pre) → Pre cs1 → (∀ pre s, St h0 o0 (pre ++ cs1) s → St h0 o0 (pre ++ cs) s) → n ≤ 4096 → St h0 o0 (f 0 ++ (pre ++ cs1)) s' →
   (∀ vs : List uN, vs.length = n → (∀ (j : Nat) v, vs[j]? = some v → V j v) → Res vs) → Q (.ref I) s') → uL (uM uX w) A (pyIter (.ref r)) Q E s
theorem d6 {es ord : List (Int × uN)} (el : ∀ e ∈ es, ∃ x u, e = (hashStr w x, .str x u)) (hp : (es.map jC).Perm ks) (ho : ord.Perm es) (vs : List uN) (hl : vs.length = ord.length) (hv : ∀ (j : Nat) v, vs[j]? = some v → ∃ x, ord[j]? = some (x, v)) :
  ∃ xs : List (Str × Tok), vs = xs.map (fun p => .str p.1 p.2) ∧ (xs.map (·.1)).Perm ks := by
 have h7 : vs = ord.map (·.2) := by
  apply List.ext_getElem?;intro j;by_cases W : j < vs.length
  ·obtain ⟨x, hx⟩ := hv j vs[j] (rQ W);rw [rQ W, sD, hx]; rfl
  ·rw [List.getElem?_eq_none (by exact (a9 50615132886 0) W), List.getElem?_eq_none (by rw [ak]; (exact (bZ 0x7116c70386bde 44139582) hl W))]
 have key : ∀ l : List (Int × uN), (∀ e ∈ l, ∃ x u, e = (hashStr w x, uN.str x u)) → ∃ xs : List (Str × Tok), l.map (·.2) = xs.map (fun p => .str p.1 p.2) ∧ xs.map (·.1) = l.map jC := by
  intro l;induction l with
  | nil => intro _; exact ⟨[], rfl, rfl⟩
  | cons e r ih =>
   intro h;obtain ⟨xs, h1, h2⟩ := ih fun e he => h e (au _ he)
   obtain ⟨x, u, rfl⟩ := h e aB;exact ⟨(x, u) :: xs, by simp [h1], by simp [h2, jC, PyProof.Rows.strOf]⟩
 obtain ⟨xs, h1, h2⟩ := key ord fun e he => el e (ho.mem_iff.mp he)
 refine ⟨xs, by rw [h7, h1], ?_⟩;rw [h2];exact (ho.map jC).trans hp
theorem q7 (ha : Has cs a (a8 true w ks)) (hk : ks ≠ []) : rJ uX w h0 o0 cs a (fun vs => ∃ xs : List (Str × Tok), vs = xs.map (fun p => .str p.1 p.2) ∧ (xs.map (·.1)).Perm ks) := by
 intro A h7 s Q E hh H hQ;obtain ⟨o, ho, W, ep, t, rfl, hs⟩ := H.get (a := a) (Has.skip ha);obtain ⟨cs1, p1, p2⟩ := ha.put (ip W ep t);have H1 : St h0 o0 (h7 ++ cs1) s := H.upd (h' := s.heap) (k := s.toks) (Put.skip p1) ⟨_, ho, rfl⟩ (fun _ _ _ e => e) (ah _);have back : ∀ h7 s, St h0 o0 (h7 ++ cs1) s → St h0 o0 (h7 ++ cs) s := fun h7 s q => q.weak (Put.skip p2) fun o e => ⟨W, ep, t, e, hs⟩
 have hT := (d9 (uX := uX) H (Has.skip ha)).typeIs;have h9 : Has (h7 ++ cs1) a (ip W ep t) := Has.skip p1.has';have hz : W.size ≤ 4096 := by have := hs.small; unfold scanBound at this; (exact (bD 0x94a0ea972d77e6ebb453a60 0) this)
 refine wpAny_pyIter_slot hT F.slot_set_iter (sW F.slot_set_iter hT ik ?_ (F.args_set_iter_1 _));unfold uv.«frozenset.__iter__»;show uL _ _ (uv.Frozenset.sizeOf a >>= _) _ _ _;unfold uv.Frozenset.sizeOf setEntries;refine ad (ad (ad (bg H1 h9 hs.fits (ae (ae ?_)))));unfold setDrawn;refine ad (ad (bg H1 h9 hs.fits ?_));dsimp only;refine ad (cZ (ae ?_));cases hb : dQ w with
 | true =>
  refine KFB.if_not (by simp) ?_;refine ad (ae ?_);unfold setEpoch;refine ad (ad (bg H1 h9 hs.fits (ae ?_)));have H2 := H1.push (k := s.toks) (o := { cls := .type "set_iterator", data := .fields #[uH 0, uH 0, .ref a, uH W.size, uH ep] }) (c := cR (uH 0) 0 a W.size ep) ⟨rfl, rfl⟩ (ah _);refine ad (sK (ae ⟨_, rfl, "set_iterator", _, ⟨_, sm _ rfl, rfl⟩, slot_si_next.lookup, ?_⟩));refine hQ _ _ _ _ _ cs1 _ (fun A2 h2 => mh (t := t) hb h2 hs.fits) p1.has' back hz H2 fun vs hl hv => ?_
  refine d6 hs.el hs.perm (cq (w.params.setOrder a ep) W) vs (by rw [hl, (cq _ W).length_eq]; simp) fun j v e => ?_
  obtain ⟨x, hx⟩ := hv j v e;exact ⟨x, by rw [sd]; exact hx⟩
 | false =>
  by_cases h1 : W.size > 1
  ·refine KFB.if_so (by
    show (!false && (!t.plain && decide (W.size > 1))) = true;rcases hs.plain rfl with q | q
    ·(omega)
    ·simp [q, h1]) ?_
   refine ad (gg W.size (List.range W.size) _ _ (by simp) fun places d hp => ?_);have x9 := H1.drawn d;refine ad (wpAny_newTuple ?_ (by show (List.map _ places).length ≤ _; rw [ak, hp.length_eq, List.length_range]; exact fits_of_scanBound hs.small));have H3 := x9.push (k := s.toks) (o := { cls := .type "tuple", data := .seq (places.map fun (p : Nat) => uH p).toArray }) (c := bn (places.map fun (p : Nat) => uH p)) ⟨0, rfl⟩ (ah _);unfold setEpoch;refine ad (ad (bg H3 (.there h9) hs.fits (ae ?_)));have H4 := H3.push (k := s.toks) (o := { cls := .type "set_iterator", data := .fields #[.ref s.heap.objs.size, uH 0, .ref a, uH W.size, uH ep] }) (c := cR (.ref s.heap.objs.size) 0 a W.size ep) ⟨rfl, rfl⟩ (ah _);refine ad (sK (ae ⟨_, rfl, "set_iterator", _, ⟨_, sm _ rfl, rfl⟩, slot_si_next.lookup, ?_⟩));have x3 : ∀ p ∈ places, p < W.size := fun p x4 => by have := hp.mem_iff.mp x4; simpa using this
   refine hQ _ _ _ _ _ cs1 _ (fun A2 h2 => mi (t := t) (tup := s.heap.objs.size) (places := places) h2 hs.fits x3 (by rw [hp.length_eq]; simp)) p1.has' back hz H4 fun vs hl hv => ?_
   have ho : (places.filterMap fun p => W.toList[p]?).Perm W.toList := by
    refine (hp.filterMap _).trans ?_;have := filterMap_getElem?_range W;simp only [← sd] at this;rw [this]
   have x1 : ∀ l : List Nat, (∀ p ∈ l, p < W.size) → ∀ (j p : Nat), l[j]? = some p → (l.filterMap fun p => W.toList[p]?)[j]? = W.toList[p]? := by
    intro l;induction l with
    | nil => intro _ j p e; simp at e
    | cons q r ih =>
     intro hq j p e;have x0 : q < W.toList.length := by simpa using hq q aB
     rw [List.filterMap_cons, rQ x0];cases j with
     | zero => simp only [List.getElem?_cons_zero, tU.injEq] at e ⊢; subst e; rw [rQ x0]
     | succ j => simp only [List.getElem?_cons_succ] at e ⊢; exact ih (fun p hp => hq p (au _ hp)) j p e
   refine d6 hs.el hs.perm ho vs (by rw [hl, ho.length_eq]; simp) fun j v e => ?_
   obtain ⟨p, x, x6, x8⟩ := hv j v e;exact ⟨x, by rw [x1 places x3 j p x6, sd]; exact x8⟩
  ·have x5 : W.size = 1 := by
    have := hs.length;have : ks.length ≠ 0 := fun q => hk (rT.mp q)
    (omega)
   obtain ⟨e, rfl⟩ := Array.size_eq_one_iff.mp x5;obtain ⟨j, hj⟩ := Array.size_eq_one_iff.mp (show t.place.size = 1 from by
    have := hs.fits;simp only [uj.fits, sP, beq_iff_eq] at this;simpa using this.1)
   have x2 : t.led = true := (hs.led rfl).resolve_right (by rw [hb]; decide);refine KFB.if_not (by show (!false && (!t.plain && decide ((#[e] : Array (Int × uN)).size > 1))) = false; simp) ?_;refine ad (ae ?_);unfold setEpoch;refine ad (ad (bg H1 h9 hs.fits (ae ?_)));have H2 := H1.push (k := s.toks) (o := { cls := .type "set_iterator", data := .fields #[uH 0, uH 0, .ref a, uH 1, uH ep] }) (c := cR (uH 0) 0 a 1 ep) ⟨rfl, rfl⟩ (ah _);refine ad (sK (ae ⟨_, rfl, "set_iterator", _, ⟨_, sm _ rfl, rfl⟩, slot_si_next.lookup, ?_⟩));refine hQ _ _ _ _ _ cs1 _ (fun A2 h2 => mj (t := t) (e := e) (j := j) hb h2 hs.fits x2 hj) p1.has' back hz H2 fun vs hl hv => ?_
   refine d6 hs.el hs.perm (.refl _) vs (by rw [hl]; rfl) fun k v ev => ?_
   have x7 : k = 0 := by have := (rO.mp ev).1; (exact (a9 0xbee8a47992350c 0x71ff16c2b671d) hl this)
   subst x7;exact ⟨e.1, by rw [hv 0 v ev]; rfl⟩
theorem lM (W : dK uX w A.in1 h0 o0 it f n V Pre) (x1 : Pre C) (hz : n ≤ ug) :
  ∀ (k i : Nat) (h7 : List uN) (s : uF), n - i = k → i ≤ n → h7.length = i → (∀ (j : Nat) v, h7[j]? = some v → V j v) → St h0 o0 (f i ++ ((S, aE h7) :: C)) s →
   (∀ vs s', vs.length = n → (∀ (j : Nat) v, vs[j]? = some v → V j v) → St h0 o0 ((S, aE vs) :: C) s' → R (.ok (.ret res)) s') →
   uD (uM uX w) A (.builtin "list.extend.loop" ⟨[.ref S, it, res], []⟩) R s := by
 have x0 : ∀ c, Pre ((S, c) :: C) := fun c => W.mono _ _ x1 fun p hp => au _ hp
 intro k;induction k with
 | zero =>
  intro i h7 s hk hi hl hv H hR;have x2 : i = n := lp2 hk hi;subst x2;refine codeAny_builtin PySem.F.entry_extend_loop ?_;rw [sf PySem.F.plain_extend_loop _];show uL _ A.in1 (pyNext it >>= _) _ _ s;refine ad (W.done _ s _ _ (x0 _) H fun s' H' => ?_);show uL _ A.in1 (ret res) _ _ s';exact ae (hR h7 s' hl hv H')
 | succ k ih =>
  intro i h7 s hk hi hl hv H hR;have h9 : i < n := lp3 hk;refine codeAny_builtin PySem.F.entry_extend_loop ?_;rw [sf PySem.F.plain_extend_loop _];show uL _ A.in1 (pyNext it >>= _) _ _ s;refine ad (W.next i _ s _ _ h9 (x0 _) H fun v s' x3 H' => ?_);have hp : Put (f (i + 1) ++ ((S, aE h7) :: C)) S (aE h7) (aE (h7 ++ [v])) (f (i + 1) ++ ((S, aE (h7 ++ [v])) :: C)) := Put.skip .here;obtain ⟨n1, ho⟩ := bt H' hp.has;show uL _ A.in1 (rU (.ref S) (·.push v) >>= _) _ _ s';refine ad (listUpdate_at ho rfl ?_ (by rw [sL]; (exact (jP 0x1962e048d643660e 1500744667) hz hl h9)) (by rw [Array.size_push, sL]; (exact (jP 0x205a5bb7b3583e624bcce 1500744667) hz hl h9)));have H2 := H'.updS (k := s'.toks) (h' := s'.heap.update S (Obj.mapSeq (·.push v))) hp ⟨_, r5 _ ho rfl, bC (f := (·.push v)) (List.push_toArray _ _)⟩ (si ..) (ah _);refine ae ⟨plainId_quiet PySem.F.plain_extend_loop _, ih (i + 1) (h7 ++ [v]) _ (lp1 hk) h9 (by simp [hl]) (fun j u e => ?_) H2 hR⟩;by_cases hj : j < h7.length
  ·rw [List.getElem?_append_left hj] at e; exact hv j u e
  ·have x4 : j = h7.length := by
    have := (rO.mp e).1;simp only [aw, r4] at this;exact lp5 hj this
   subst x4;rw [List.getElem?_append_right (ah _), Nat.sub_self] at e;simp only [List.getElem?_cons_zero, tU.injEq] at e;subst e;rw [hl]; exact x3
theorem oE (H : St h0 o0 cs s) (hh : A.handled = none) (hr : Has cs r c) (hT : ∀ x3 s, St h0 o0 (x3 ++ cs) s → s.TypeIs (.ref r) T) (n1 : (tV T == tV "list") = false) (n2 : (tV T == tV "tuple") = false)
  (hint : ∀ (A : uJ) (E : VP) (s : uF) (Q : Bool → uF → Prop), s.TypeIs (.ref r) T → Q false s → uL (uM uX w) A (uv.List.listLengthHint (.ref r)) Q E s)
  (iter : rJ uX w h0 o0 cs r Res) (h : ∀ vs s', Res vs → vs.length ≤ 4096 → St h0 o0 cs s' → R vs s') : uL (uM uX w) A (collect (.ref r)) R E s := by
 unfold collect;refine ad (wpAny_runValue (codeAny_builtin entry_proto_collect' ?_));rw [sf PySem.F.plain_proto_collect _];show uL _ A.in1 (newList [] >>= fun l => again (.builtin "list.__iadd__" ⟨[l, .ref r], []⟩)) _ _ s;refine ad (dF H (tO _) fun S s1 H1 _ => ?_);refine ae ⟨plainId_quiet PySem.F.plain_list_iadd _, codeAny_builtin entry_list_iadd' ?_⟩;rw [sf PySem.F.plain_list_iadd _];show uL _ A.in1 (uv.List.listExtendWith (.ref S) (.ref r) (.ref S)) _ _ _;have x7 : S ≠ r := H1.ne .here hr;have main : uL (uM uX w) A.in1 (uv.List.listExtendWith (.ref S) (.ref r) (.ref S))
   (fun fin s' => match fin with
    | .done f => ∃ vs, (.ok f : Result) = .ok (.ret (.ref S)) ∧ Res vs ∧ vs.length ≤ 4096 ∧ St h0 o0 ((S, aE vs) :: cs) s'
    | .again c' => c'.quiet = true ∧ uD (uM uX w) A c' (fun (q : Result) (s' : uF) => ∃ vs, q = .ok (.ret (.ref S)) ∧ Res vs ∧ vs.length ≤ 4096 ∧ St h0 o0 ((S, aE vs) :: cs) s') s') (fun e s' => False) s1 := by
  unfold uv.List.listExtendWith;have x4 := hT [(S, aE [])] s1 H1;refine ad (wpAny_typeOf x4 ?_);have h1 : uv.List.listSameRef (.ref S) (.ref r) = false := by simp [uv.List.listSameRef, x7]
  simp only [h1, n1, n2, Bool.or_false, sA, if_false];refine ad (iter A.in1 [(S, aE [])] s1 _ _ hh H1 fun I f n V Pre cs1 s2 W x1 back hn H2 x0 => ?_);have x5 : St h0 o0 ((f 0 ++ [(S, aE [])]) ++ cs1) s2 := by rw [av]; exact H2
  have x8 := hT _ s2 (back _ _ x5);have hz : n ≤ ug := by rw [aj]; (apply aP; with_reducible assumption; decide)
  have key : ∀ s3, St h0 o0 (f 0 ++ ((S, aE []) :: cs1)) s3 → uD (uM uX w) A (.builtin "list.extend.loop" ⟨[.ref S, .ref I, .ref S], []⟩) (fun (q : Result) (s' : uF) => ∃ vs, q = .ok (.ret (.ref S)) ∧ Res vs ∧ vs.length ≤ 4096 ∧ St h0 o0 ((S, aE vs) :: cs) s') s3 := by
   intro s3 H3;refine lM (W A.in1 hh) x1 hz n 0 [] s3 rfl (tO _) rfl (by simp) H3 fun vs s' hl hv H' => ⟨vs, rfl, x0 vs hl hv, by (exact (a9 0x5e3bae3bfd1d41eebde27785c60 44138427) hn hl), back [(S, aE vs)] s' H'⟩
  refine ad (aD (hint _ _ _ _ x8 ?_));have hp : ∀ c c', Put (f 0 ++ ((S, c) :: cs1)) S c c' (f 0 ++ ((S, c') :: cs1)) := fun c c' => Put.skip .here
  refine wpAny_ite_split (fun _ => ?_) (fun _ => ae ⟨plainId_quiet PySem.F.plain_extend_loop _, key _ H2⟩);refine ad (wpAny_rule ?_);refine ad ?_;show uL _ _ (updateSeq S (·.push .none) >>= fun _ => updateSeq S (·.pop)) _ _ _;obtain ⟨n2, ho⟩ := bt H2 (hp _ (aE [])).has;refine ad (wpAny_updateSeq ho rfl ?_);have x9 := r5 (Obj.mapSeq (·.push uN.none)) ho rfl;have H3 := H2.updS (k := s2.toks) (hp _ (aE [uN.none])) ⟨_, x9, bC rfl⟩ (si ..) (ah _);obtain ⟨n3, h7⟩ := bt H3 (hp _ (aE [])).has;refine wpAny_updateSeq (hz := by seq_fits) h7 rfl ?_;have x2 := r5 (Obj.mapSeq (·.pop)) h7 rfl;have H4 := H3.updS (k := s2.toks) (hp _ (aE [])) ⟨_, x2, bC rfl⟩ (si ..) (ah _);exact ae ⟨plainId_quiet PySem.F.plain_extend_loop _, key _ H4⟩
 have fin : ∀ (q : Result) (s' : uF), (∃ vs, q = .ok (.ret (.ref S)) ∧ Res vs ∧ vs.length ≤ 4096 ∧ St h0 o0 ((S, aE vs) :: cs) s') → ∃ vs, q = .ok (.ret (.ref S)) ∧ ∃ n, s'.heap.get? S = some { cls := .type "list", data := .seq vs.toArray n } ∧ R vs s' := by
  rintro q s' ⟨vs, rfl, hr, hl, H'⟩;obtain ⟨n3, ho⟩ := bt H' .here;exact ⟨vs, rfl, n3, ho, h vs s' hr hl H'.tail⟩
 refine af main (fun h9 s' x => ?_) fun e s' x => x.elim
 cases h9 with
 | done f =>
  obtain ⟨vs, e, n3, ho, hR⟩ := fin _ _ x;cases e;show uL _ A (load S >>= _) _ _ _;refine ad (wpAny_load ho ?_);refine ae ?_;show R vs.toArray.toList s';rw [List.toList_toArray];exact hR
 | again c' =>
  refine ⟨x.1, codeAny_mono x.2 fun q x6 y => ?_⟩;obtain ⟨vs, rfl, n3, ho, hR⟩ := fin _ _ y;show uL _ A (load S >>= _) _ _ _;refine ad (wpAny_load ho ?_);refine ae ?_;show R vs.toArray.toList x6;rw [List.toList_toArray];exact hR
theorem ra {r : uR} {Q : Bool → uF → Prop} (hT : s.TypeIs (.ref r) "set") (h : Q false s) : uL (uM uX w) A (uv.List.listLengthHint (.ref r)) Q E s := by
 unfold uv.List.listLengthHint;refine ad (wpAny_specialOf hT PySem.F.slot_set_len.lookup ?_);generalize h7 : ("set.__len__" : String) = id0
 wp_delta
 rw [show splitId id0 = some ("set", "__len__") from by subst h7; decide +kernel];subst h7;refine ad (wpAny_isInstance (T := "set") (b := true) hT (by rw [isSubtype_type]; kernel_rfl) ?_);refine wpAny_ite_split (fun W => absurd W (by decide)) (fun _ => ?_);refine wpAny_ite_split (fun _ => ?_) (fun W => absurd (by decide +kernel) W);refine ad (wpAny_typeOf hT ?_);exact ae h
theorem jv (H : St h0 o0 cs s) (hh : A.handled = none) (ha : Has cs a (a8 true w ks)) (hk : ks ≠ [])
  (h : ∀ (xs : List (Str × Tok)) s', (xs.map (·.1)).Perm ks → St h0 o0 cs s' → R (xs.map fun p => .str p.1 p.2) s') : uL (uM uX w) A (collect (.ref a)) R E s := by
 refine oE (T := "set") H hh ha (fun W s H => (d9 (uX := uX) H (Has.skip ha)).typeIs) (by decide) (by decide) (fun A E s Q hT q => ra hT q) (q7 ha hk) fun vs s' q _ H' => ?_
 obtain ⟨xs, rfl, hp⟩ := q;exact h xs s' hp H'
noncomputable def mY (uX : uy) (w : uQ) (kvs : List (Str × uN)) (ep : Nat) : cP := fun o => ∃ es, o.ExactDict ∧ o.data = .dict es ep ∧ PySem.KeysOf (tC uX w) es ∧ Pairs (tC uX w) es.toList kvs ∧ (kvs.map (·.1)).Nodup
noncomputable def rC (d : uR) (i n ep : Nat) : cP := fun o => o.cls = .type "dict_keyiterator" ∧ o.data = .fields #[.ref d, .int i 0, .int n 0, .int ep 0]
theorem f9 (H : St h0 o0 cs s) (h : Has cs d (mY uX w kvs ep)) : s.heap.DictAt (tC uX w) d kvs ep := by
 obtain ⟨o, ho, W, h1, h2, h3, h4, h5⟩ := H.get h;exact ⟨o, W, ho, h1, h2, h3, h4, h5⟩
theorem mm {I d : uR} {kvs : List (Str × uN)} {ep : Nat} (hh : A.handled = none) :
  dK uX w A h0 o0 (.ref I) (fun i => [(I, rC d i kvs.length ep)]) kvs.length (fun i v => ∃ k x u, kvs[i]? = some (k, x) ∧ v = .str k u) (fun C => Has C d (mY uX w kvs ep)) where
 next := fun i C s Q E hi hd H hQ => by
  obtain ⟨o, ho, hc, W⟩ := H.get (a := I) .here;obtain ⟨⟨k, x⟩, hx⟩ : ∃ p, kvs[i]? = some p := ⟨kvs[i], by simp [hi]⟩;refine wpAny_pyNext_dict_item ⟨o, ho, hc, W⟩ (f9 H (.there hd)) hx fun key h' h9 h7 x3 => ?_
  obtain ⟨u, rfl⟩ := uN.isStrOf_shape h9;obtain ⟨o', x0, x4, x2⟩ := h7;exact hQ _ _ ⟨k, x, u, hx, rfl⟩ (H.updS (k := s.toks) .here ⟨o', x0, x4, x2⟩ x3 (ah _))
 done := fun C s Q E hd H hQ => by
  obtain ⟨o, ho, hc, W⟩ := H.get (a := I) .here;exact wpAny_pyNext_dict_end hh ⟨o, ho, hc, W⟩ (f9 H (.there hd)) (by simp) fun h' x1 => hQ _ (H.dropBut (fun b o hb e => x1 b o hb e) (ah _))
 self := fun i C s Q E H h => by
  obtain ⟨o, ho, hc, W⟩ := H.get (a := I) .here;exact wpAny_pyIter_keyiter ⟨o, ho, hc, W⟩ h
 mono := fun C C' h hs => Has.of_mem (hs _ h.mem)
 own := fun target i C v s Q E hv H h => by
  obtain ⟨k, x, u, _, rfl⟩ := hv;exact ja (fun a q => by cases q) (h _ H)
theorem eC (H : St h0 o0 cs s) (h : Has cs d c) : (d == sysModules) = false := by
 have := H.big _ h.mem;simp only [beq_eq_false_iff_ne, ne_eq];intro e;have W : d = 1 := e;subst W;exact absurd (show (3 : Nat) < 1 from this) (by decide)
theorem jB : isSubtype (.type "dict") (.type "set") = uT false := by rw [isSubtype_type]; kernel_rfl
theorem iI : isSubtype (.type "dict") (.type "frozenset") = uT false := by rw [isSubtype_type]; kernel_rfl
theorem mL {P : Nat → uF → Prop} {f : Nat → PUnit → Sem (ForInStep PUnit)} {Q : PUnit → uF → Prop} (step : ∀ i s, i < n → P i s → uL (uM uX w) A (f i ⟨⟩) (fun r s' => r = .yield ⟨⟩ ∧ P (i + 1) s') E s) (fin : ∀ s, P n s → Q ⟨⟩ s) (h : P 0 s) :
  uL (uM uX w) A (forIn [0:n] PUnit.unit f) Q E s := by
 rw [Std.Legacy.Range.forIn_eq_forIn_range'];have : ∀ (k i : Nat) (s : uF), i + k = n → P i s → uL (uM uX w) A (forIn (List.range' i k 1) PUnit.unit f) Q E s := by
  intro k;induction k with
  | zero =>
   intro i s hi W;rw [List.range'_zero, List.forIn_nil];have : i = n := by (exact (a9 0x60cd03b1386f2 1734862092781) hi)
   subst this;exact ae (fin _ W)
  | succ k ih =>
   intro i s hi W;rw [List.range'_succ, List.forIn_cons];refine ad (af (step i s (by exact (bZ 0x60cd1817d460a 1298189) hi) W) (fun r s' q => ?_) fun _ _ q => q);obtain ⟨rfl, q⟩ := q;exact ih (i + 1) s' (by exact (bZ 0x7b7edf04cf42fd99de 1734862092781) hi) q
 simpa [Std.Legacy.Range.size] using this n 0 s (by exact bD 43281270038 0) h
theorem jr : ∀ (xs ks : List Str) (x : Str), bU ks (xs ++ [x]) = if x ∈ bU ks xs then bU ks xs else bU ks xs ++ [x]
 | [], ks, x => rfl
 | y :: r, ks, x => by rw [sN, bU, bU]; exact jr r _ x
noncomputable def cEq (o : Obj) : cP := fun o' => o' = o
theorem oU (h : Pairs (tC uX w) es kvs) : ∀ {i : Nat} {e : DictEntry}, es[i]? = some e → ∃ k u v, kvs[i]? = some (k, v) ∧ e.key = .str k u := by
 induction h with
 | nil => intro i e W; simp at W
 | @cons e0 kv es kvs h1 h2 _ ih =>
  intro i e W;cases i with
  | zero =>
   simp only [List.getElem?_cons_zero, tU.injEq] at W;subst W;obtain ⟨u, hu⟩ := uN.isStrOf_shape h1;exact ⟨kv.1, u, kv.2, rfl, hu⟩
  | succ j => simpa using ih (by simpa using W)
theorem relay1 (t : uj) (h : Int) (hw : uj.sizeAbove wanted = 16) :
  ∃ j, t.relaid #[h] wanted = some ({ mask := 15, place := #[j], dummies := #[], finger := t.finger, led := t.led, moves := t.movedTo 15, plain := t.plain }, #[0]) := by
 have hi : tF h % 16 < 16 := Nat.mod_lt _ (by decide);have e1 : ∀ i : _root_.Fin 16, (List.range (uj.runEnd 15 i.val + 1 - i.val)).find? (fun k => ((Array.replicate 16 none : Array (Option Nat)).getD (i.val + k) (some 0)).isNone) = some 0 := by decide +kernel
 have e2 : ∀ i : _root_.Fin 16, (List.range 16).filterMap (fun j => ((((Array.replicate 16 none).setIfInBounds i.val (some 0) : Array (Option Nat)).getD j none).map (j, ·))) = [(i.val, 0)] := by decide +kernel
 have q1 := e1 ⟨_, hi⟩;have q2 := e2 ⟨_, hi⟩;refine ⟨tF h % 16, ?_⟩;unfold uj.relaid;rw [hw];have q3 : uj.layClean.free 15 (Array.replicate 16 none) (uj.turns 15) (tF h % 16) (tF h) = some (tF h % 16) := by
  show (match (List.range (uj.runEnd 15 (tF h % 16) + 1 - tF h % 16)).find? (fun k => ((Array.replicate 16 none : Array (Option Nat)).getD (tF h % 16 + k) (some 0)).isNone) with
   | some k => some (tF h % 16 + k)
   | none => _) = _
  rw [q1]; rfl
 have W : uj.layClean 15 #[h] = some ((Array.replicate 16 none).setIfInBounds (tF h % 16) (some 0)) := by
  show Option.map (·.1) (Option.bind (uj.layClean.free 15 (Array.replicate 16 none) (uj.turns 15) (tF h % 16) (tF h)) fun j => some ((Array.replicate 16 none : Array (Option Nat)).setIfInBounds j (some 0), 0 + 1)) = _;rw [q3]; rfl
 show (Option.bind (uj.layClean 15 #[h]) _) = _;rw [W];show some (_, _) = _;rw [q2];rfl
theorem sizeAb : ∀ n, n < 7 → 4 ≤ n → uj.sizeAbove ((1 + n) * 2) = 16 := by decide +kernel
theorem x_room {a : uR} {k : Str} {n : Nat} {Q : Unit → uF → Prop} (H : St h0 o0 ((a, a8 true w [k]) :: cs) s) (hn : n ≤ 6) (h : ∀ s', St h0 o0 ((a, a8 true w [k]) :: cs) s' → Q () s') : uL (uM uX w) A (setRoomFor a n) Q E s := by
 unfold setRoomFor;obtain ⟨oa, h7, x2, x3, W, rfl, hs⟩ := H.get (a := a) .here;have h9 : x2.size = 1 := by rw [hs.length]; rfl
 refine ad (wpAny_setState_of h7 rfl hs.fits ?_);have x0 : W.place.size = 1 := by have := hs.fits; simp only [uj.fits, sP, beq_iff_eq] at this; (exact (a9 50056050341806 0x202c7565ed83dd35) h9 this.1)
 have f := hs.first rfl (by apply aP; exact ap (by assumption); decide);dsimp only;by_cases hm : (W.fill + n) * 5 ≥ W.mask * 3
 ·have hr : W.roomFor n = some ((W.place.size + n) * 2) := by unfold uj.roomFor; rw [if_pos hm]
  have x1 : 4 ≤ n := by
   unfold uj.fill at hm;rw [f.1, x0] at hm;rcases f.2 with q | ⟨_, q⟩ <;> rw [q] at hm <;> simp at hm <;> ((first | exact (bD 0x102bb8aa090ee22c720e 38319) hm | exact (bD 0x49056ddfd0d6ee481abb8e 38319) hm))
  rw [hr, x0];dsimp only;unfold setRelay;refine ad (wpAny_setState_of h7 rfl hs.fits ?_);dsimp only;have hw : uj.sizeAbove ((1 + n) * 2) = 16 := sizeAb n (by exact (bD 0x5eee935ed2c28 0) hn) x1;rw [hw, if_neg (by rw [aj]; (exact om0 0x28b131dae5c7bceb1c642 0))];obtain ⟨e, he⟩ := Array.size_eq_one_iff.mp h9;subst he;obtain ⟨j, hj⟩ := relay1 W e.1 hw;rw [show (Array.map (fun x : Int × uN => x.1) #[e]) = #[e.1] from by simp, hj];refine ad (ae ?_);show uL _ _ (storeSet a #[e] _) _ _ _;have o1 := r5 (Obj.putSet #[e] { mask := 15, place := #[j], dummies := #[], finger := W.finger, led := W.led, moves := W.movedTo 15, plain := W.plain }) h7 (by rw [putSet_of _ _ rfl]; rfl);rw [putSet_of _ _ rfl] at o1;refine wpAny_storeSet_of h7 rfl (h _ (H.upd (k := s.toks) .here ⟨_, o1, _, _, _, rfl, ?_⟩ (fun b o hb q => (si ..).extBut b o hb q) (ah _))) (by simp [aj]);exact ⟨hs.el, hs.perm, hs.nodup, rfl, hs.led, fun _ => .inr ((hs.plain rfl).resolve_left (by simp)), by simp [scanBound], fun _ _ => ⟨rfl, .inr ⟨rfl, rfl⟩⟩⟩
 ·have hr : W.roomFor n = none := by unfold uj.roomFor; rw [if_neg hm]
  rw [hr];exact ae (h _ H)
noncomputable def mo (s : uR) (v : uN) : Sem Unit := do
 let _ ← runValue (.builtin "set.update.loop" ⟨[.ref s, ← pyIter v], []⟩)
noncomputable def nr (s a : uR) (epoch : Nat) (i : Nat) : Sem (ForInStep PUnit) := do
 match (← dictEntries a)[i]? with
 | some e =>
  holding [e.key] (setAddHashed s e.key e.hash >>= fun _ => uT ())
  if (← dictEpoch a) != epoch then unsupported "dict.changed-during-merge" >>= fun (_ : PUnit) => uT (.yield ⟨⟩) else uT (.yield ⟨⟩)
 | _ => unsupported "dict.changed-during-merge" >>= fun (_ : PUnit) => uT (.yield ⟨⟩)
noncomputable def qg (s a : uR) : Sem Unit := do
 let epoch ← dictEpoch a
 let n := (← dictEntries a).size
 setRoomFor s n
 let _ ← forIn [0:n] PUnit.unit fun i _ => nr s a epoch i
 uT ()
noncomputable def starK (s : uR) (v : uN) (isSet : Bool) (dQ : Bool) : Sem Unit := match (if dQ then uN.none else v) with
 | .ref a => if isSet then do
   rule "set.display.star-of-a-set"
   setMerge s a
   uT ()
  else do
   let T ← typeOf v
   if (T == .type "dict") = true then do
    rule "set.display.star-of-a-dict"
    if (a == sysModules) = true then unsupported "sys.modules:all-start-up-values-wanted" >>= fun (_ : PUnit) => qg s a else qg s a
   else mo s v
 | _ => mo s v
theorem star_eq (s : uR) (v : uN) : setDisplayStar s v = (do
 let x ← isInstance v (.type "set")
 if x = true then ask >>= fun p => starK s v true (p.params.followText "set-display-star-reads-storage")
 else isInstance v (.type "frozenset") >>= fun y => ask >>= fun p => starK s v y (p.params.followText "set-display-star-reads-storage")) := by
 kernel_rfl!
section
variable {a d : uR} {k : Str} {kvs : List (Str × uN)} {Q : Unit → uF → Prop}
theorem pE (H : St h0 o0 ((a, a8 true w [k]) :: cs) s) (hh : A.handled = none) (hd : Has cs d (aL uX w kvs)) (hz : kvs.length ≤ 6)
  (h : ∀ s', St h0 o0 ((a, a8 true w (bU [k] (kvs.map (·.1)))) :: cs) s' → Q () s') : uL (uM uX w) A (mo a (.ref d)) Q E s := by
 obtain ⟨o, ho, W, ep, h1⟩ := H.get (a := d) (.there hd);obtain ⟨cs1, p1, p2⟩ := hd.put (mY uX w kvs ep);have H1 : St h0 o0 ((a, a8 true w [k]) :: cs1) s := H.upd (h' := s.heap) (k := s.toks) (.there p1) ⟨_, ho, W, h1⟩ (fun _ _ _ e => e) (ah _);refine ad (wpAny_pyIter_dict (eC H (.there hd)) (f9 H1 (.there p1.has')) (ad (wpAny_runValue ?_)));have H2 := H1.push (k := s.toks) (o := { cls := .type "dict_keyiterator", data := .fields #[.ref d, .int 0 0, .int kvs.length 0, .int ep 0] }) (c := rC d 0 kvs.length ep) ⟨rfl, rfl⟩ (ah _);refine ql (mm (d := d) (kvs := kvs) (ep := ep) hh) (kvs.map (·.1)) (ak _) (fun i v hv => ?_) p1.has' _ 0 [k] _ rfl (tO _) (sx (Nat.succ_le_succ (sj hz 1)) (show (1 + 6).succ < scanBound by decide)) H2 fun s' H' => ae (h _ (H'.weak (.there p2) fun o ⟨W, a1⟩ => ⟨W, ep, a1⟩))
 obtain ⟨k', x, u, hk, rfl⟩ := hv;exact ⟨k', u, by rw [sD, hk]; rfl, rfl⟩
theorem x_starD (H : St h0 o0 ((a, a8 true w [k]) :: cs) s) (hd : Has cs d (aL uX w kvs)) (hz : kvs.length ≤ 6)
  (h : ∀ s', St h0 o0 ((a, a8 true w (bU [k] (kvs.map (·.1)))) :: cs) s' → Q () s') : uL (uM uX w) A (qg a d) Q E s := by
 obtain ⟨o, ho, es, ep, h7⟩ := H.get (a := d) (.there hd);obtain ⟨h1, h2, h3, h4, h5⟩ := h7;obtain ⟨cs1, p1, p2⟩ := hd.put (cEq o);have at_ : ∀ {c s}, St h0 o0 ((a, c) :: cs1) s → s.heap.get? d = some o := fun q => (q.get (.there p1.has')).elim fun o' q => q.1.trans (congrArg some q.2)
 have H1 : St h0 o0 ((a, a8 true w [k]) :: cs1) s := H.upd (h' := s.heap) (k := s.toks) (.there p1) ⟨_, ho, rfl⟩ (fun _ _ _ e => e) (ah _);have hsz : es.size = kvs.length := h4.length.symm ▸ rfl;have h9 : (kvs.map (·.1)).length = kvs.length := ak _;refine ad (wpAny_dictEpoch ho h2 (ad (wpAny_dictEntries ho h2 (ad (x_room H1 (hsz ▸ hz) fun s1 H1 => ad ?_)))));refine mL (P := fun i s => St h0 o0 ((a, a8 true w (bU [k] ((kvs.map (·.1)).take i))) :: cs1) s) (fun i s' hi H' => ?_) (fun s' H' => ae (h s' ?_)) H1
 ·unfold nr;refine ad (wpAny_dictEntries (at_ H') h2 ?_);rw [rN hi];obtain ⟨k', u, v, hk, W⟩ := oU h4 (i := i) (e := es[i]) ((sd ..).trans (rN hi));obtain ⟨k2, x1, hash⟩ := h3 es[i] (Array.getElem_mem hi);rw [W] at x1;cases (tC uX w).inj _ _ _ x1 (de (uX := uX) (w := w) k' u);have x0 : i < (kvs.map (·.1)).length := h9.symm ▸ hsz ▸ hi;have ei : (kvs.map (·.1))[i] = k' := tq ((rQ x0).symm.trans (by rw [sD, hk]; rfl));show uL _ _ (holding [es[i].key] _ >>= _) _ _ _;rw [W, hash];refine ad (aD (ad (ge H' (sx (Nat.succ_le_succ (tH (iu _ _) (sj (tH (List.length_take_le' _ _) (h9 ▸ hz)) 1))) (show (1 + 6).succ < scanBound by decide)) .here fun bb s2 H2 => ae (ad (wpAny_dictEpoch (at_ H2) h2 ?_)))));rw [bne_self_eq_false];refine ae ⟨rfl, ?_⟩;rw [List.take_succ_eq_append_getElem x0, ei, jr];exact H2
 ·rw [rZ (hsz ▸ ap h9)] at H';exact H'.weak (.there p2) fun o' e => (show o' = o from e) ▸ ⟨es, ep, h1, h2, h3, h4, h5⟩
theorem x_star (H : St h0 o0 ((a, a8 true w [k]) :: cs) s) (hh : A.handled = none) (hd : Has cs d (aL uX w kvs)) (hz : kvs.length ≤ 6)
  (h : ∀ s', St h0 o0 ((a, a8 true w (bU [k] (kvs.map (·.1)))) :: cs) s' → Q () s') : uL (uM uX w) A (setDisplayStar a (.ref d)) Q E s := by
 have W := (bW (uX := uX) (w := w) H (.there hd)).typeIs;rw [star_eq];refine ad (wpAny_isInstance W jB ?_);rw [if_neg (by decide)];refine ad (wpAny_isInstance W iI (ad (wpAny_askSetting ?_)));cases hb : (uM uX w).w.params.followText "set-display-star-reads-storage" with
 | true => exact pE H hh hd hz h
 | false =>
  refine ad (wpAny_typeOf W ?_);rw [if_pos (by decide)];refine ad (wpAny_rule ?_);rw [if_neg (by rw [eC H (.there hd)]; decide)];exact x_starD H hd hz h
end
theorem ox (X : K.In s.heap) (hc : kdsCode K env.code = true) (hk : (k > 0) = False) (H : St h0 o0 cs s) (hh : A.handled = none) (he : ue [e1, .Starred e2 p2] env = [(false, uU e1 env), (true, uU e2 env)])
  (h : ∀ a W, St h0 o0 ((a, a8 true w []) :: cs) W → uL (uM uX w) A (uU e1 env) (fun v1 s2 => ∃ x u, v1 = .str x u ∧ St h0 o0 ((a, a8 true w []) :: cs) s2 ∧ ∀ s3, St h0 o0 ((a, a8 true w [x]) :: cs) s3 →
   uL (uM uX w) A (uU e2 env) (fun v2 s4 => ∃ d kvs, v2 = .ref d ∧ St h0 o0 ((a, a8 true w [x]) :: cs) s4 ∧ Has cs d (aL uX w kvs) ∧ kvs.length ≤ 6 ∧ ∀ s5, St h0 o0 ((a, a8 true w (bU [x] (kvs.map (·.1)))) :: cs) s5 → Q (.ref a) s5) E s3) E W) :
  uL (uM uX w) A (uU (.Set [e1, .Starred e2 p2] k pos) env) Q E s := by
 rw [arm_eval_Set];refine ad (tD ?_);refine ad (kds_main X hc fun b => ?_);rw [he];have hr : displayRoad k [e1, .Starred e2 p2] = .oneByOne := by
  unfold displayRoad;rw [if_neg (by rw [hk]; exact id)];exact if_pos (show [e1, Expr.Starred e2 p2].length ≤ 2 from ah 2)
 rw [hr];unfold setDisplay;rw [if_neg (by decide)];refine ad (pI (b := true) H fun a W H1 => ?_);dsimp only;refine ad (aD ?_);show uL _ _ (evalAll [do let v ← uU e1 env; standAt pos; uT v] >>= _) _ _ _;refine ad (wpAny_evalAll_cons ?_);refine ad (af (h a W H1) (fun v1 s2 q => ?_) fun _ _ q => q);obtain ⟨x, u, rfl, H2, q⟩ := q;refine ad (tD (ae ?_));refine wpAny_evalAll_nil ?_;refine ad (aD ?_);rw [List.forIn_cons];refine ad (ad (ad (gH H2 (by unfold scanBound; decide) .here fun bb s3 H3 => ae ?_)));rw [if_neg (by simp)] at H3;dsimp only;rw [List.forIn_nil];refine ae ?_;rw [if_neg (by decide)];refine ae ?_;show uL _ _ (forIn [(true, do let v ← uU e2 env; standAt pos; uT v)] PUnit.unit _ >>= _) _ _ _;rw [List.forIn_cons];refine ad (ad (ad ?_));refine ad (af (q s3 H3) (fun v2 s4 q => ?_) fun _ _ q => q);obtain ⟨d, kvs, rfl, H4, hd, hz, q⟩ := q;refine ad (tD (ae ?_));refine KFB.if_so rfl ?_;refine ad (aD ?_);refine x_star H4 hh hd hz fun s5 H5 => ?_
 refine ae ?_;dsimp only;rw [List.forIn_nil];refine ae (ae (ae (q _ H5)))
end
noncomputable def im (l : List (Nat × Nat)) (a b : Nat) : List (Nat × Nat) :=
 l ++ ((a :: (l.filter fun q => q.2 == a).map (·.1)).flatMap fun x => (b :: (l.filter fun q => q.1 == b).map (·.2)).map fun y => (x, y))
noncomputable def qj (l : List (Nat × Nat)) (p : List Nat) : Bool := match p with
 | a :: b :: r => l.contains (a, b) && qj l (b :: r)
 | _ => true
noncomputable def io (n : Nat) : KasT (Array Nat) → List (Nat × Nat) → Bool
 | .ret p, l => p.toList.isPerm (List.range n) && qj l p.toList
 | .ask i j k, l => decide (i < n) && decide (j < n) && i != j && (if l.contains (i, j) then io n (k true) l else if l.contains (j, i) then io n (k false) l
  else io n (k true) (im l i j) && io n (k false) (im l j i))
theorem chk_to6 (h2 : 2 ≤ n) (h6 : n ≤ 6) : io n (kas_sort n) [] = true := by
 have key : ∀ n, n < 7 → 2 ≤ n → io n (kas_sort n) [] = true := by decide +kernel
 exact key n (Nat.lt_succ_of_le h6) h2
theorem lt2 {α : Type} {l : List α} (h : l.length < 2) : l = [] ∨ ∃ v, l = [v] := by
 cases l with
 | nil => exact .inl rfl
 | cons v r => cases r with
  | nil => exact .inr ⟨v, rfl⟩
  | cons u r => exact absurd h (Nat.not_lt.mpr (Nat.le_add_left 2 _))
structure Ord (n : Nat) (c : Nat → Nat → Bool) : Prop where
 tot : ∀ i j, i < n → j < n → i ≠ j → c i j = !c j i
 tr : ∀ i j k, i < n → j < n → k < n → c i j = true → c j k = true → c i k = true
noncomputable def bP {α : Type} (c : α → α → Bool) : List α → Prop
 | a :: b :: r => c a b = true ∧ bP c (b :: r)
 | _ => True
noncomputable abbrev Adj (c : Nat → Nat → Bool) : List Nat → Prop := bP c
theorem rF (hp : ∀ q ∈ l, c q.1 q.2 = true) : ∀ p : List Nat, qj l p = true → Adj c p
 | [], _ => trivial
 | [_], _ => trivial
 | a :: b :: r, h => by
  have h := sh.mp (show (l.contains (a, b) && qj l (b :: r)) = true from h);exact ⟨hp _ (List.contains_iff_mem.mp h.1), rF hp (b :: r) h.2⟩
def InT (n : Nat) (c : Nat → Nat → Bool) (l : List (Nat × Nat)) : Prop := ∀ q ∈ l, q.1 < n ∧ q.2 < n ∧ c q.1 q.2 = true
theorem InT.close (O : Ord n c) (h : InT n c l) (ha : a < n) (hb : b < n) (h9 : c a b = true) : InT n c (im l a b) := fun q W => by
 rcases s8.mp W with W | W
 ·exact h q W
 obtain ⟨x, hx, W⟩ := sV.mp W;obtain ⟨y, hy, rfl⟩ := tG.mp W;have h7 : x < n ∧ c x b = true := (tB.mp hx).elim (fun e => e ▸ ⟨ha, h9⟩) fun hx => (tG.mp hx).elim fun q W => by
  have e := beq_iff_eq.mp (tw.mp W.1).2;have g := h q (tw.mp W.1).1;exact W.2 ▸ ⟨g.1, O.tr _ _ _ g.1 ha hb (e ▸ g.2.2) h9⟩
 have x0 : y < n ∧ c x y = true := (tB.mp hy).elim (fun e => e ▸ ⟨hb, h7.2⟩) fun hy => (tG.mp hy).elim fun q W => by
  have e := beq_iff_eq.mp (tw.mp W.1).2;have g := h q (tw.mp W.1).1;exact W.2 ▸ ⟨g.2.1, O.tr _ _ _ h7.1 hb g.2.1 h7.2 (e ▸ g.2.2)⟩
 exact ⟨h7.1, x0.1, x0.2⟩
section
variable {b : Bool} {cs cs' : aF} {K : Frag} {Q : VP}
theorem ec (O : Ord n c)
  (W : ∀ i j C s, i < n → j < n → i ≠ j → St h0 o0 cs s → (∀ s', St h0 o0 cs s' → C (c i j) s') → kas_ask uX w A κ ks i j C s) :
  ∀ (t : KasT (Array Nat)) (l : List (Nat × Nat)) (s : uF), io n t l = true → InT n c l → St h0 o0 cs s →
   (∀ p s', p.toList.Perm (List.range n) → Adj c p.toList → St h0 o0 cs s' → G p s') → t.kasWp (kas_ask uX w A κ ks) G s
 | .ret p, l, s, h, hp, H, hG => by
  have h := sh.mp (show (p.toList.isPerm (List.range n) && qj l p.toList) = true from h);exact hG p s (List.isPerm_iff.mp h.1) (rF (fun q hq => (hp q hq).2.2) _ h.2) H
 | .ask i j k, l, s, h, hp, H, hG => by
  obtain ⟨h, hr⟩ := sh.mp (show (decide (i < n) && decide (j < n) && i != j && (if l.contains (i, j) then io n (k true) l else if l.contains (j, i) then io n (k false) l else io n (k true) (im l i j) && io n (k false) (im l j i))) = true from h);obtain ⟨h, h7⟩ := sh.mp h;obtain ⟨hi, hj⟩ := sh.mp h;have hi := of_decide_eq_true hi;have hj := of_decide_eq_true hj;have h7 := bne_iff_ne.mp h7;refine W i j _ s hi hj h7 H fun s' H' => ?_
  split at hr
  ·rename_i q;have := (hp _ (List.contains_iff_mem.mp q)).2.2;rw [this];exact ec O W (k true) _ s' hr hp H' hG
  ·split at hr
   ·rename_i q;have := (hp _ (List.contains_iff_mem.mp q)).2.2;rw [O.tot i j hi hj h7, this];exact ec O W (k false) _ s' hr hp H' hG
   ·rw [sP] at hr;cases hc : c i j with
    | true => exact ec O W (k true) _ s' hr.1 (hp.close O hi hj hc) H' hG
    | false =>
     have h9 : c j i = true := by rw [O.tot j i hj hi (Ne.symm h7), hc]; rfl
     exact ec O W (k false) _ s' hr.2 (hp.close O hj hi h9) H' hG
noncomputable def gb (xs : List uN) (e : Nat) : cP := fun o => o = { cls := .type "list", data := .seq xs.toArray e }
theorem qL (H : St h0 o0 cs s) (h : Has cs a (gb xs e)) : s.heap.get? a = some { cls := .type "list", data := .seq xs.toArray e } := by
 obtain ⟨o, W, rfl⟩ := H.get h;exact W
noncomputable def jD (a : uR) (body : Array uN → Nat → uN → Sem ub) : Sem ub := do
 let items ← uv.List.listItems (.ref a)
 rU (.ref a) fun _ => #[]
 let before ← seqEpoch a
 let held ← newTuple items.toList
 let keyStore ← newList []
 holding [held, keyStore] (body items before keyStore)
noncomputable def jE (a : uR) (before : Nat) (sorted : Array uN) (failed : Option uN) : Sem ub := do
 let touched := (← seqEpoch a) != before
 rU (.ref a) fun _ => sorted
 if let some e := failed then rule "list.sort.comparison-raised"; throw e
 if touched then rule "list.sort.modified"; raiseError "ValueError" "list modified during sort"
 ret .none
noncomputable def eA (n : Nat) (keys : Array uN) (pairs : Array uO) (K : uK → Sem ub) : Sem ub := do
 let kind ← if n < 2 then uT general' else keyKind' keys
 let ((), s) ← (if n < 2 then uT () else sortRuns').run (uK.mk' kind pairs #[] 7 none)
 K s
theorem kU (a : uR) : uv.«list.sort» ⟨[.ref a], []⟩ = jD a fun items W _ => eA items.size items (items.zip items) fun s => jE a W ((arrOf s).map (·.2)) (failedOf s) := by
 kernel_rfl!
noncomputable def kBody (a : uR) (f : uN) (items : Array uN) (keyStore : uN) (x : uN) : Sem (ForInStep PUnit) := do
 match ← (uW f [x]).attempt with
 | .ok k =>
  rU keyStore (·.push k)
  uT (.yield ⟨⟩)
 | .error e =>
  rule "list.sort.key-raised"
  let made ← uv.List.listItems keyStore
  rU keyStore fun _ => #[]
  letGo made.toList.reverse [e]
  rU (.ref a) fun _ => items
  throw e
noncomputable def kTail (a : uR) (before : Nat) (keyStore : uN) (s : uK) : Sem ub := do
 rU keyStore fun _ => #[]
 letGo ((arrOf s).map (·.1)).toList (failedOf s).toList
 jE a before ((arrOf s).map (·.2)) (failedOf s)
theorem qi (q a : uR) : uv.«list.sort» ⟨[.ref a], [(ud "key", .ref q)]⟩ = jD a fun items h7 W => (do
  rule "list.sort.key"
  let _ ← forIn items PUnit.unit fun x _ => kBody a (.ref q) items W x
  let keys ← uv.List.listItems W
  eA items.size keys (keys.zip items) (kTail a h7 W)) := by
 kernel_rfl!
variable {r : aF} {a : uR} {P : ub → uF → Prop}
theorem d8 (H : St h0 o0 ((a, aE vs) :: r) s) (hz : vs.length ≤ ug)
  (h : ∀ e kS s, St h0 o0 ((kS, aE []) :: (a, gb [] e) :: r) s → uL (uM uX w) A (body vs.toArray e (.ref kS)) P E s) : uL (uM uX w) A (jD a body) P E s := by
 obtain ⟨n, ho⟩ := bt H .here;have W := get?_update_seq ho fun _ => (#[] : Array uN)
 have H1 := H.updS (k := s.toks) (c' := gb [] _) .here ⟨_, W, rfl⟩ (si s.heap a (Obj.mapSeq fun _ => (#[] : Array uN))) (ah _);exact ad (listItems_at ho rfl (ad (listUpdate_at ho rfl (ad (seqEpoch_at W rfl (ad (gI H1 hz fun ht s2 H2 _ => ad (dF H2.tail (tO _) fun ks s3 H3 _ => aD (h _ ks s3 H3)))))) hz (tO _))))
theorem fh (H : St h0 o0 ((a, gb [] e) :: r) s) (hz : vs.length ≤ ug) (ex : x = vs.toArray) (ef : f = none) (h : ∀ s, St h0 o0 ((a, aE vs) :: r) s → P (.done (.ret .none)) s) : uL (uM uX w) A (jE a e x f) P E s := by
 subst ex ef;have W := qL H .here;unfold jE;refine ad (seqEpoch_at W rfl ?_);rw [bne_self_eq_false];exact ad (listUpdate_at W rfl (ae (h _ (H.updS (k := s.toks) .here ⟨_, r5 _ W rfl, bC (f := fun _ => vs.toArray) rfl⟩ (si ..) (ah _)))) (tO _) (Nat.le_succ_of_le hz))
structure OrdL {α : Type} (ps : List α) (lt : α → α → Bool) : Prop where
 nd : ps.Nodup
 tot : ∀ x ∈ ps, ∀ y ∈ ps, x ≠ y → lt x y = !lt y x
 tr : ∀ x ∈ ps, ∀ y ∈ ps, ∀ z ∈ ps, lt x y = true → lt y z = true → lt x z = true
theorem dH {α β : Type} {c : α → α → Bool} {f : β → α} : ∀ p : List β, bP (fun i j => c (f i) (f j)) p → bP c (p.map f)
 | [], _ => trivial
 | [_], _ => trivial
 | a :: b :: r, h => ⟨h.1, dH (b :: r) h.2⟩
theorem g0 {α : Type} (xs : List α) (d : α) {p : List Nat} (h : p.Perm (List.range xs.length)) : (p.map fun i => xs.getD i d).Perm xs := by
 refine (h.map _).trans (.of_eq (List.ext_getElem (by simp) fun i h1 h2 => by simp [h2]))
theorem jd {α : Type} {l : List α} (h : l.Nodup) (hi : i < l.length) (W : j < l.length) (e : l[i] = l[j]) : i = j := by
 rcases Nat.lt_trichotomy i j with q | q | q
 ·exact absurd e (List.pairwise_iff_getElem.mp h i j hi W q)
 ·exact q
 ·exact absurd e.symm (List.pairwise_iff_getElem.mp h j i W hi q)
theorem bV {α : Type} {ps : List α} {d : α} {i : Nat} (hi : i < ps.length) : ps.getD i d = ps[i] := by rw [List.getD_eq_getElem?_getD, rQ hi]; rfl
theorem OrdL.ord {α : Type} {ps : List α} {lt : α → α → Bool} (O : OrdL ps lt) (d : α) : Ord ps.length fun i j => lt (ps.getD i d) (ps.getD j d) :=
 ⟨fun i j hi W h7 => by
  rw [bV hi, bV W];exact O.tot _ (sS hi) _ (sS W) fun e => h7 (jd O.nd hi W e), fun i j k hi W hk h1 h2 => by
  rw [bV hi, bV W] at h1;rw [bV W, bV hk] at h2;rw [bV hi, bV hk];exact O.tr _ (sS hi) _ (sS W) _ (sS hk) h1 h2⟩
theorem gi {α : Type} {ps : List α} {kf vf : α → uN} {lt : α → α → Bool} {K : uK → Sem ub} (O : OrdL ps lt) (h6 : ps.length ≤ 6) (H : St h0 o0 cs s)
  (W : ∀ Q : uu → uF → Prop, 2 ≤ ps.length → Q κ s → uL (uM uX w) A (keyKind' (ps.map kf).toArray) Q E s)
  (x4 : ∀ x ∈ ps, ∀ y ∈ ps, x ≠ y → ∀ (C : Bool → uF → Prop) s, St h0 o0 cs s → (∀ s', St h0 o0 cs s' → C (lt x y) s') → uL (uM uX w) A (keyLt' κ (kf x) (kf y)) C (fun _ _ => False) s)
  (h : ∀ h9 st s', h9.Perm ps → bP lt h9 → (arrOf st).map (·.2) = (h9.map vf).toArray → failedOf st = none → St h0 o0 cs s' → uL (uM uX w) A (K st) P E s') :
  uL (uM uX w) A (eA ps.length (ps.map kf).toArray ((ps.map kf).toArray.zip (ps.map vf).toArray) K) P E s := by
 unfold eA;by_cases hs : ps.length < 2
 ·rw [if_pos hs, if_pos hs];refine ad (ae (ad (ae (h ps _ s (.refl _) ?_ ?_ rfl H))))
  ·rcases lt2 hs with rfl | ⟨v, rfl⟩ <;> exact trivial
  ·show ((ps.map kf).toArray.zip (ps.map vf).toArray).map (·.2) = _;rcases lt2 hs with rfl | ⟨v, rfl⟩ <;> simp
 ·have h2 := sX hs;rw [if_neg hs, if_neg hs];refine ad (W _ h2 ?_);have d : α := ps[0]'(sw Nat.two_pos h2);have hk : (ps.map kf).length = (ps.map vf).length := (ak _).trans (ak _).symm;have hl : (ps.map vf).length = ps.length := ak _;have q2 : ∀ i j (C : Bool → uF → Prop) s, i < ps.length → j < ps.length → i ≠ j → St h0 o0 cs s → (∀ s', St h0 o0 cs s' → C (lt (ps.getD i d) (ps.getD j d)) s') → kas_ask uX w A κ (ps.map kf) i j C s := fun i j C s hi hj h7 HH q => by
   unfold kas_ask;rw [bV (ps := ps.map kf) (by rw [ak]; exact hi), bV (ps := ps.map kf) (by rw [ak]; exact hj), List.getElem_map, List.getElem_map];rw [bV hi, bV hj] at q;exact x4 _ (sS hi) _ (sS hj) (fun e => h7 (jd O.nd hi hj e)) C s HH q
  refine ad (af (kat_run (ks := ps.map kf) (vs := ps.map vf) (Q := fun st s' => ∃ p : Array Nat, arrOf st = p.map (kas_item ((ps.map kf).toArray.zip (ps.map vf).toArray)) ∧ failedOf st = none ∧ p.toList.Perm (List.range ps.length) ∧ Adj (fun i j => lt (ps.getD i d) (ps.getD j d)) p.toList ∧ St h0 o0 cs s')
   (G := fun p s' => p.toList.Perm (List.range ps.length) ∧ Adj (fun i j => lt (ps.getD i d) (ps.getD j d)) p.toList ∧ St h0 o0 cs s') hk (hl ▸ h2) (hl ▸ sx h6 (by decide)) (fun p' x5 s' a1 a2 a3 a4 => ⟨p', a2, a3, a4⟩)
   (by rw [hl]; refine ec (O.ord d) (fun i j C s hi hj h7 HH q => ?_) (kas_sort ps.length) [] s (chk_to6 h2 h6) (fun _ q => absurd q List.not_mem_nil) H fun p s' a1 a2 a3 => ⟨a1, a2, a3⟩; exact q2 i j C s hi hj h7 HH q)) (fun q s' h' => ?_) fun _ _ e => e)
  ·obtain ⟨p, x3, hf, x1, x0, H5⟩ := h';refine h (p.toList.map fun i => ps.getD i d) q.2 s' (g0 ps d x1) (dH _ x0) ((kat_snds hk x3).trans (congrArg List.toArray ?_)) hf H5;rw [tI];refine List.map_congr_left fun i hi => ?_
   have x2 : i < ps.length := List.mem_range.mp (x1.mem_iff.mp hi);rw [bV (ps := ps.map vf) (by rw [ak]; exact x2), List.getElem_map];exact congrArg vf (bV x2).symm
theorem pF {α : Type} {ps : List α} {vf : α → uN} {lt : α → α → Bool} (O : OrdL ps lt) (h6 : ps.length ≤ 6) (H : St h0 o0 ((a, aE (ps.map vf)) :: r) s)
  (h7 : ∀ (Q : uu → uF → Prop) s, 2 ≤ ps.length → St h0 o0 r s → Q κ s → uL (uM uX w) A (keyKind' (ps.map vf).toArray) Q E s)
  (x0 : ∀ x ∈ ps, ∀ y ∈ ps, x ≠ y → ∀ (C : Bool → uF → Prop) s, St h0 o0 r s → (∀ s', s' = s → C (lt x y) s') → uL (uM uX w) A (keyLt' κ (vf x) (vf y)) C (fun _ _ => False) s)
  (h : ∀ W s', W.Perm ps → bP lt W → St h0 o0 ((a, aE (W.map vf)) :: r) s' → P (.done (.ret .none)) s') : uL (uM uX w) A (uv.«list.sort» ⟨[.ref a], []⟩) P E s := by
 have hz : ∀ l : List α, l.length ≤ 6 → (l.map vf).length ≤ ug := fun l hl => by rw [ak, aj]; exact tH hl (by decide)
 rw [kU];refine d8 H (hz ps h6) fun e kS s3 H3 => ?_
 rw [show (ps.map vf).toArray.size = ps.length from ak _];exact gi O h6 H3.tail (fun Q h2 q => h7 Q _ h2 H3.tail.tail q) (fun x hx y hy ne C s HH q => x0 x hx y hy ne C s HH.tail fun s' e => q s' (e ▸ HH)) fun W st s' hp hr ha hf H' =>
  fh H' (hz W (hp.length_eq ▸ h6)) ha hf fun h9 x1 => h W h9 hp hr x1
end
noncomputable def d3 : List Str → List Str → Bool
 | [], [] => false
 | [], _ :: _ => true
 | _ :: _, [] => false
 | x :: xs, y :: ys => if x = y then d3 xs ys else decide (x.cps.toList < y.cps.toList)
noncomputable def dX (xs : List Str) : cP := fun o => ∃ l : List (Str × Tok), l.map (·.1) = xs ∧ aE (l.map fun p => .str p.1 p.2) o
noncomputable abbrev tv (xs : List (Str × Tok)) : List uN := xs.map fun p => .str p.1 p.2
noncomputable abbrev rK (x y : uN) (r : Bool) : Prop := ∀ (uX : uy) (w : uQ) (A : uJ) (E : VP) (s : uF) (Q : Bool → uF → Prop), Q r s → uL (uM uX w) A (eqBool x y) Q E s
noncomputable abbrev LtOk (x y : uN) (r : Bool) : Prop := ∀ (uX : uy) (w : uQ) (A : uJ) (E : VP) (s : uF) (Q : VP), Q (.bool r) s → uL (uM uX w) A (richCompare .Lt x y) Q E s
noncomputable def iy : List uN → List uN → Bool → Prop
 | [], [], r => r = false
 | [], _ :: _, r => r = true
 | _ :: _, [], r => r = false
 | x :: xs, y :: ys, r => rK x y true ∧ iy xs ys r ∨ rK x y false ∧ LtOk x y r
noncomputable abbrev lsO (xs : List uN) (n : Nat) : Obj := { cls := .type "list", dict := none, data := .seq xs.toArray n, slots := #[] }
section
variable {xs ys xr : List uN} {i : Nat} {x : uN}
theorem rE (h : xs.drop i = x :: xr) : xs.toArray[((i : Nat) : Int).toNat]? = some x ∧ xs.drop (i + 1) = xr ∧ i < xs.length := by
 have hi : i < xs.length := Nat.lt_of_not_le fun q => by rw [List.drop_eq_nil_of_le q] at h; cases h
 rw [rP hi] at h;have h := List.cons.inj h;exact ⟨h.1 ▸ (List.getElem?_toArray ..).trans (rQ hi), h.2, hi⟩
theorem lc (h : xs.drop i = []) : xs.toArray[((i : Nat) : Int).toNat]? = none ∧ xs.length ≤ i := ⟨(List.getElem?_toArray ..).trans (List.getElem?_eq_none (List.drop_eq_nil_iff.mp h)), List.drop_eq_nil_iff.mp h⟩
end
set_option maxHeartbeats 1000000 in
theorem qM : ∀ (xr W : List uN) (i : Nat), i ≤ xs.length → xs.drop i = xr → ys.drop i = W → iy xr W r → Meets (uv.«list.__eq__.loop» ⟨[.ref l, .ref b, uH i, uH 0], []⟩)
  (fun A R s => s.heap.get? l = some (lsO xs n) ∧ s.heap.get? b = some (lsO ys n2) ∧ R (.ok (.ret (.bool r))) s) := by
 intro xr;induction xr with
 | nil =>
  intro W i h7 hx hy hr uX w A R s h;obtain ⟨hp, g, d, tk, os⟩ := s; obtain ⟨hl, hb, h⟩ := h
  wp_walk using th hl, th hb
  rw [(lc hx).1]
  wp_walk using th hl, th hb
  show R (.ok (.ret (.bool (decide (xs.length < ys.length))))) _;have e : decide (xs.length < ys.length) = r := by
   cases W with
   | nil => exact (decide_eq_false (Nat.not_lt.mpr (tH (lc hy).2 h7))).trans (Eq.symm hr)
   | cons y W => exact (decide_eq_true (sx (lc hx).2 (rE hy).2.2)).trans (Eq.symm hr)
  rw [e]; exact h
 | cons x xr ih =>
  intro W i h7 hx hy hr uX w A R s h;obtain ⟨hp, g, d, tk, os⟩ := s; obtain ⟨hl, hb, h⟩ := h
  wp_walk using th hl, th hb
  have ax := rE hx;cases W with
  | nil =>
   rw [ax.1, (lc hy).1]
   wp_walk using th hl, th hb
   show R (.ok (.ret (.bool (decide (xs.length < ys.length))))) _;rw [decide_eq_false (Nat.not_lt.mpr (tH (lc hy).2 h7)), ← show r = false from hr]; exact h
  | cons y W =>
   have ay := rE hy;rw [ax.1, ay.1];rcases hr with ⟨he, hr⟩ | ⟨he, h9⟩
   ·refine ad (he uX w _ _ _ _ ?_)
    wp_walk
    exact ⟨plainId_quiet PySem.MeetsSeq3.plain_eq_loop _, codeAny_builtin PySem.MeetsSeq3.entry_eq_loop (by
     rw [sf PySem.MeetsSeq3.plain_eq_loop _];exact ih W (i + 1) ax.2.2 ax.2.1 ay.2.1 hr uX w A R _ ⟨hl, hb, h⟩)⟩
   ·refine ad (he uX w _ _ _ _ ?_)
    wp_walk using th hl, th hb
    rw [ax.1, ay.1];exact ad (h9 uX w _ _ _ _ (ae h))
theorem iJ : Slot "list" "__lt__" "list.__lt__" := F.slot_list_lt
theorem iO (W : iy xs ys r) : Meets (uv.«list.__lt__» ⟨[.ref l, .ref b], []⟩)
  (fun A R s => s.heap.get? l = some (lsO xs n) ∧ s.heap.get? b = some (lsO ys n2) ∧ R (.ok (.ret (.bool r))) s) := by
 intro uX w A R s h;obtain ⟨hp, g, d, tk, os⟩ := s; obtain ⟨hl, hb, h⟩ := h;have f3 := AutoSeq1.sub_list_list
 wp_walk using th hl, th hb
 exact ⟨plainId_quiet PySem.MeetsSeq3.plain_eq_loop _, codeAny_builtin PySem.MeetsSeq3.entry_eq_loop (by
  rw [sf PySem.MeetsSeq3.plain_eq_loop _];exact qM xs ys 0 (tO _) rfl rfl W uX w A R _ ⟨hl, hb, h⟩)⟩
theorem jW : ∀ {xs ys : List (Str × Tok)}, iy (tv xs) (tv ys) (d3 (xs.map (·.1)) (ys.map (·.1)))
 | [], [] => rfl
 | [], _ :: _ => rfl
 | _ :: _, [] => rfl
 | x :: xs, y :: ys => by
  show rK _ _ true ∧ iy (tv xs) (tv ys) (if x.1 = y.1 then _ else _) ∨ rK _ _ false ∧ LtOk _ _ (if x.1 = y.1 then _ else _);by_cases e : x.1 = y.1
  ·rw [if_pos e];exact .inl ⟨fun _ _ _ _ _ _ q => wpAny_eqBool_str (by rw [decide_eq_true e]; exact q), jW⟩
  ·rw [if_neg e];exact .inr ⟨fun _ _ _ _ _ _ q => wpAny_eqBool_str (by rw [decide_eq_false e]; exact q), fun _ _ _ _ _ _ q => P.lt_str q⟩
section
variable {b : Bool} {cs cs' : aF} {K : Frag} {Q : VP}
theorem ju {x y : uR} {xs ys : List uN} {n n2 : Nat} {r : Bool} {Q : Bool → uF → Prop} (hu : A.units < cLine) (ho : s.heap.get? x = some (lsO xs n)) (W : s.heap.get? y = some (lsO ys n2)) (hr : iy xs ys r) (h : Q r s) :
  uL (uM uX w) A (keyLt' oneType' (.ref x) (.ref y)) Q E s := by
 have hT : s.TypeIs (.ref x) "list" := ⟨_, ho, rfl⟩;rw [keyLt'_oneType, oneLt'_eq, if_pos rfl];exact ad (wpAny_cRoomFor hu (ad (wpAny_callSpecialIfBound?_slot hT iJ (call_meets F.slot_list_lt hT F.entry_list_lt (F.args_list_lt_2 _ _) (iO hr) ⟨ho, W, wpAny_truthy_bool h⟩))))
theorem oA {x y : uR} {xs ys : List (Str × Tok)} {Q : Bool → uF → Prop} (H : St h0 o0 cs s) (hu : A.units < cLine) (hx : Has cs x (aE (tv xs))) (hy : Has cs y (aE (tv ys))) (h : Q (d3 (xs.map (·.1)) (ys.map (·.1))) s) :
  uL (uM uX w) A (keyLt' oneType' (.ref x) (.ref y)) Q E s :=
 (bt H hx).elim fun n ho => (bt H hy).elim fun n2 W => ju hu ho W jW h
theorem jy (H : St h0 o0 cs s) (h : Has cs a (dX xs)) : ∃ (l : List (Str × Tok)) (n : Nat), l.map (·.1) = xs ∧ s.heap.get? a = some (lsO (tv l) n) :=
 (H.get h).elim fun o h => h.2.elim fun l q => q.2.elim fun n e => ⟨l, n, q.1, h.1.trans (congrArg some e)⟩
theorem pJ {x y : uR} {xs ys : List Str} {Q : Bool → uF → Prop} (H : St h0 o0 cs s) (hu : A.units < cLine) (hx : Has cs x (dX xs)) (hy : Has cs y (dX ys)) (h : Q (d3 xs ys) s) :
  uL (uM uX w) A (keyLt' oneType' (.ref x) (.ref y)) Q E s := by
 obtain ⟨l, n, rfl, ho⟩ := jy H hx;obtain ⟨l2, n2, rfl, W⟩ := jy H hy;exact ju hu ho W jW h
def Kh {α : Type} (κ : α → List Str) (C : aF) (ks : List uR) (xs : List α) : Prop := ks.length = xs.length ∧ ∀ p ∈ ks.zip xs, Has C p.1 (dX (κ p.2))
theorem qT {α : Type} {vf : α → uN} {κ : α → List Str} {Q : PUnit → uF → Prop}
  (xs : List α) : ∀ (ks : List uR) (C : aF) (s : uF), ks.length + xs.length ≤ 6 → St h0 o0 ((kS, aE (ks.map .ref)) :: (C ++ cs1)) s →
  (∀ x ∈ xs, ∀ C s (R : VP), St h0 o0 (C ++ cs1) s → (∀ k s', St h0 o0 ((k, dX (κ x)) :: (C ++ cs1)) s' → R (.ref k) s') → uL (uM uX w) A (uW (.ref q) [vf x]) R (fun _ _ => False) s) →
  (∀ W C' s', Kh κ C' W xs → (∀ p ∈ C, p ∈ C') → St h0 o0 ((kS, aE ((ks ++ W).map .ref)) :: (C' ++ cs1)) s' → Q ⟨⟩ s') →
  uL (uM uX w) A (forIn (xs.map vf) PUnit.unit fun x _ => kBody a (.ref q) items (.ref kS) x) Q E s := by
 induction xs with
 | nil => intro ks C s _ H _ hQ; exact ae (hQ [] C s ⟨rfl, fun _ h => absurd h List.not_mem_nil⟩ (fun _ h => h) (by rw [s7]; exact H))
 | cons x xs ih =>
  intro ks C s hz H hk hQ;have h7 : ks.length + 1 + xs.length ≤ 6 := Nat.add_right_comm ks.length 1 xs.length ▸ hz;have hs : (ks.map tW).length < ug := by rw [ak, aj]; exact sx (tH (Nat.le_of_succ_le (Nat.le_of_add_right_le h7)) (ah 6)) (by decide)
  rw [az, List.forIn_cons];refine ad (ad (wpAny_attempt (af (hk x aB ((kS, aE (ks.map .ref)) :: C) s (fun k s' => ∃ k', k = .ref k' ∧ St h0 o0 ((k', dX (κ x)) :: (kS, aE (ks.map .ref)) :: (C ++ cs1)) s') H fun k s' H' => ⟨k, rfl, H'⟩) (fun k s' h' => ?_) fun _ _ h => h.elim)));obtain ⟨k, rfl, H'⟩ := h';obtain ⟨n, ho⟩ := bt H' .h1;refine ad (listUpdate_at ho rfl (ae ?_) (tL hs) (by rw [Array.size_push]; exact Nat.succ_le_succ (tL hs)));have H2 : St h0 o0 ((kS, aE ((ks ++ [k]).map .ref)) :: ((k, dX (κ x)) :: C ++ cs1)) { s' with heap := s'.heap.update kS (Obj.mapSeq (·.push (.ref k))) } :=
   (H'.updS (k := s'.toks) .h1 ⟨_, r5 _ ho rfl, bC (f := (·.push (.ref k))) ((List.push_toArray _ _).trans (congrArg List.toArray (ao (l₂ := [k])).symm))⟩ (si ..) (ah _)).perm (tY.swap _ _ _)
  refine ih (ks ++ [k]) ((k, dX (κ x)) :: C) _ (by rw [aw]; exact h7) H2 (fun y hy => hk y (au _ hy)) fun W C' x0 h1 h2 h9 => hQ (k :: W) C' x0 ⟨congrArg (· + 1) h1.1, fun p hp => (tB.mp hp).elim (fun e => e ▸ .of_mem (h2 _ aB)) (h1.2 p)⟩ (fun p hp => h2 p (au _ hp)) ?_
  rw [av] at h9;exact h9
theorem m6 {α β γ : Type} {f : α → γ} {l : List α} {r : List β} (h : l.length = r.length) : (l.zip r).map (fun p => f p.1) = l.map f :=
 (tI (f := uo) (g := f)).symm.trans (congrArg (List.map f) (List.map_fst_zip (ap h)))
theorem zip_snd {α β γ : Type} {f : β → γ} {l : List α} {r : List β} (h : l.length = r.length) : (l.zip r).map (fun p => f p.2) = r.map f :=
 (tI (f := Prod.snd) (g := f)).symm.trans (congrArg (List.map f) (List.map_snd_zip (ap h.symm)))
theorem fn {α β : Type} {f : α → β} {x y : α} : ∀ {l : List α}, (l.map f).Nodup → x ∈ l → y ∈ l → f x = f y → x = y := by
 intro l;induction l with
 | nil => intro _ h; exact absurd h List.not_mem_nil
 | cons a l ih =>
  intro nd hx hy e;have nd := s9.mp nd;have key : ∀ z ∈ l, f z ≠ f a := fun z hz q => nd.1 (q ▸ aA hz)
  exact (tB.mp hx).elim (fun e1 => (tB.mp hy).elim (fun W => e1.trans W.symm) fun h2 => absurd (e1 ▸ e).symm (key y h2)) fun h1 => (tB.mp hy).elim (fun W => absurd (W ▸ e) (key x h1)) fun h2 => ih nd.2 h1 h2 e
theorem OrdL.zip {α β : Type} {xs : List β} {lt : β → β → Bool} {l : List α} (O : OrdL xs lt) (h : l.length = xs.length) : OrdL (l.zip xs) fun p q => lt p.2 q.2 := by
 have e : (l.zip xs).map Prod.snd = xs := List.map_snd_zip (ap h.symm);have nd : ((l.zip xs).map Prod.snd).Nodup := e.symm ▸ O.nd;have m : ∀ p ∈ l.zip xs, p.2 ∈ xs := fun p hp => (List.of_mem_zip hp).2
 exact ⟨List.Pairwise.of_map Prod.snd (fun _ _ n q => n (congrArg _ q)) nd, fun x W y hy ne => O.tot _ (m x W) _ (m y hy) fun q => ne (fn nd W hy q), fun x W y hy z hz => O.tr _ (m x W) _ (m y hy) _ (m z hz)⟩
theorem x_sortK {α : Type} {xs : List α} {vf : α → uN} {κ : α → List Str} {P : ub → uF → Prop} (O : OrdL xs fun x y => d3 (κ x) (κ y)) (h6 : xs.length ≤ 6) (hu : A.units < cLine) (H : St h0 o0 ((a, aE (xs.map vf)) :: r) s)
  (h9 : ∀ x ∈ xs, ∀ C s (R : VP), St h0 o0 (C ++ r) s → (∀ k s', St h0 o0 ((k, dX (κ x)) :: (C ++ r)) s' → R (.ref k) s') → uL (uM uX w) A (uW (.ref q) [vf x]) R (fun _ _ => False) s)
  (h : ∀ h7 s', h7.Perm xs → bP (fun x y => d3 (κ x) (κ y)) h7 → St h0 o0 ((a, aE (h7.map vf)) :: r) s' → P (.done (.ret .none)) s') : uL (uM uX w) A (uv.«list.sort» ⟨[.ref a], [(ud "key", .ref q)]⟩) P E s := by
 have hz : ∀ {β : Type} (f : β → uN) (l : List β), l.length ≤ 6 → (l.map f).length ≤ ug := fun f l hl => by rw [ak, aj]; exact tH hl (by decide)
 rw [qi];refine d8 H (hz vf xs h6) fun e kS s3 H3 => ad (wpAny_rule (ad ?_))
 rw [List.forIn_toArray];refine qT (cs1 := (a, gb [] e) :: r) xs [] [] s3 (by rw [tf, Nat.zero_add]; exact h6) H3 (fun x hx C s R H hR => h9 x hx (C ++ [(a, _)]) s R (by rw [av]; exact H) fun k s' H' => hR k s' (by rw [av] at H'; exact H')) fun ks C s4 hK _ H4 => ?_
 have hl : ks.length = xs.length := hK.1;have x3 : ks.length ≤ 6 := hl ▸ h6;obtain ⟨n, ho⟩ := bt H4 .here;refine ad (listItems_at ho rfl ?_);have e1 := m6 (f := tW) hl;have e2 := zip_snd (f := vf) hl;have e3 : (ks.zip xs).length = xs.length := by rw [List.length_zip, hl, Nat.min_self]
 have W := gi (uX := uX) (w := w) (A := A) (P := P) (E := E) (kf := fun p => tW p.1) (vf := fun p => vf p.2) (κ := oneType') (K := kTail a e (.ref kS)) (O.zip hl) (e3 ▸ h6) H4 (fun Q h2 q => ?_) (fun x hx y hy _ C s HH q => pJ HH hu (.there (hK.2 x hx).app) (.there (hK.2 y hy).app) (q s HH)) fun x0 st s' hp hr ha hf H' => ?_
 ·rw [e1, e2, e3] at W;rw [show (xs.map vf).toArray.size = xs.length from ak _];exact W
 ·refine kas_kind (T := .type "list") (by rw [ak]; exact h2) (fun v hv => ?_) (by decide) (by decide) q;obtain ⟨p, hp, rfl⟩ := tG.mp hv;obtain ⟨l7, n7, e7, x1⟩ := jy H4 (.there (hK.2 p hp).app);exact (Looks.ld x1).andThen .now
 ·obtain ⟨n6, x2⟩ := bt H' .here;have H5 := (H'.dropBut (k := s'.toks) (fun b o hb e => ((si s'.heap kS (Obj.mapSeq fun _ => (#[] : Array uN))).2 b hb).trans e) (ah _)).sub (rM _ _);exact ad (listUpdate_at x2 rfl (ad (wpAny_letGo (fh H5 (hz _ x0 ((hp.length_eq.trans e3) ▸ h6)) ha hf fun s H => h (x0.map Prod.snd) s ((hp.map _).trans (.of_eq (List.map_snd_zip (ap hl.symm)))) (dH _ hr) (by rw [tI]; exact H)))) (hz _ ks x3) (tO _))
end
noncomputable def cTab (ps : Array uN) : cP := fun o => o = tabObj ps
noncomputable def eZ (qual : Str) : cP := fun o => ∃ vs t, o.data = .fields vs ∧ vs[1]? = some (.str qual t)
noncomputable def po (name qual : Str) (params : Arguments) (body : Expr) (scope : Scope) (clos : List (Str × uR)) (c' : uR) : cP := fun o => ∃ pm ctv, o = kla_obj name qual params body scope clos pm c' ctv
structure LamBase (h0 : uV) (c P : uR) : Prop where
 code : CodeHd h0 c P
 main : ∃ mg, h0.Ns tS mg ∧ tS ≠ P ∧ h0.BuiltinsAt mg P
section
variable {b : Bool} {cs cs' r : aF} {K : Frag} {Q : VP}
theorem jq {h h' : uV} {mg : Str → Option uN} (x : h.BuiltinsAt mg P) (k : ∀ b o, h.get? b = some o → h'.get? b = some o) : h'.BuiltinsAt mg P := by
 obtain ⟨bm, ob, b1, b2, b3, b4, W, b6⟩ := x;exact ⟨bm, ob, b1, b2, b3, b4, k _ _ W, b6⟩
theorem oC (LB : LamBase h0 c P) (H : St h0 o0 cs s) (hP : Pick cs P (cTab #[]) r) (h9 : defaultsOf params env = ([], [])) (x7 : closureFor scope env = uT []) (x8 : env.globals = tS) (h7 : env.code = .ref c)
  (h : ∀ f c' s', St h0 o0 ((f, po "<lambda>" (env.qual ++ "<lambda>") params body scope [] c') :: (c', eZ (env.qual ++ "<lambda>")) :: (P, cTab #[uH pos.line, uH pos.col, .ref c']) :: r) s' → Q (.ref f) s') :
  uL (uM uX w) A (uU (.Lambda params body scope pos) env) Q E s := by
 obtain ⟨mg, hg, x5, hb⟩ := LB.main;have H1 := H.pick hP;obtain ⟨o, ho, rfl⟩ := H1.get .here;refine fb (kla_eval h9 (kla_makeFunction (ps := #[]) (mg := mg) x7 x8 (hg.keeps H.keep) h7 (LB.code.keeps H.keep) ho (by simp [TriplesOk]) rfl x5 (jq hb H.keep) fun c' x6 h' tk hx x0 x9 x1 x4 x3 => ?_));obtain ⟨c₂, oc, vs, t, e2, x2, hd, hv⟩ := x1;cases e2;have W : St h0 o0 ((P, cTab #[uH pos.line, uH pos.col, .ref c']) :: r) { s with heap := h', toks := tk } := H1.upd (k := tk) .here ⟨_, x4, by simp [cTab]⟩ (fun b o hb e => hx b o hb e) x3;have f := H1.fresh x0;have H3 : St h0 o0 ((c', eZ (env.qual ++ "<lambda>")) :: (P, cTab #[uH pos.line, uH pos.col, .ref c']) :: r) { s with heap := h', toks := tk } := by
  refine ⟨W.keep, fun p hp => ?_, fun p hp => ?_, ?_, W.gens, W.os, W.tok, W.flo, fun p hp => ?_, W.g3⟩
  ·rcases tB.mp hp with rfl | hp
   ·exact ⟨oc, x2, vs, t, hd, hv⟩
   ·exact W.cell p hp
  ·rcases tB.mp hp with rfl | hp
   ·exact f.2.1
   ·exact W.new p hp
  ·rw [az, s9]; exact ⟨f.1, W.nodup⟩
  ·rcases tB.mp hp with rfl | hp
   ·exact f.2.2
   ·exact W.big p hp
 exact h _ c' _ (H3.push (k := tk) ⟨_, x6, rfl⟩ (ah _))
theorem oB (LB : LamBase h0 c P) (H : St h0 o0 cs s) (hP : Has cs P (cTab #[uH pos.line, uH pos.col, .ref c'])) (h7 : defaultsOf params env = ([], [])) (x1 : closureFor scope env = uT []) (x2 : env.globals = tS) (W : env.code = .ref c)
  (h : ∀ f s', St h0 o0 ((f, po "<lambda>" (env.qual ++ "<lambda>") params body scope [] c') :: cs) s' → Q (.ref f) s') :
  uL (uM uX w) A (uU (.Lambda params body scope pos) env) Q E s := by
 obtain ⟨mg, hg, x3, hb⟩ := LB.main;obtain ⟨o, ho, rfl⟩ := H.get hP;refine fb (kla_eval h7 (kla_makeFunctionHit (mg := mg) (cv := .ref c') x1 x2 (hg.keeps H.keep) W (LB.code.keeps H.keep) ho (by simp [TriplesOk, uH]) (by simp [codeAmong, uH]) (jq hb H.keep) fun h9 h' tk hk hsz x0 => ?_));have H1 : St h0 o0 cs { s with heap := h', toks := tk } := H.grow hk x0;exact h _ _ (H1.push (k := tk) ⟨_, h9, rfl⟩ (ah _))
theorem oH (lim : h0.NoLimit) (H : St h0 o0 cs s) (hf : Has cs f (po name qual params body scope [] c')) (hc : Has cs c' (eZ qual)) (W : A.depth < ty)
  (h9 : ∀ pm x3, bindArgs (kla_fn name qual params body scope [] pm (.ref c') x3) ⟨[v], []⟩ = uT [(x, v)]) (x2 : scope.names.lookup x = some .local) (x6 : scope.isCoroutine = false) (x0 : scope.isGenerator = false) (hk : scope.kind = .function) (h7 : ∀ x ∈ scope.names, x.2 ≠ .cell)
  (h : ∀ L s', St h0 o0 ((L, cNs [(x, v)]) :: cs) s' → uL (uM uX w) (A.deeper (envX qual scope L f (.ref c') [])) (uU body (envX qual scope L f (.ref c') [])) Q NoE s') : uL (uM uX w) A (uW (.ref f) [v]) Q E s := by
 obtain ⟨o, ho, pm, x3, rfl⟩ := H.get hf;obtain ⟨oc, x4, vs, t, hd, hv⟩ := H.get hc;refine wpAny_call (kla_callFunE W ho rfl x6 x0 rfl ⟨c', oc, vs, t, rfl, x4, hd, hv⟩ ?_);rw [h9];refine ae (wpAny_newFunctionEnv h7 (fun y hy => by rw [su] at hy; subst hy; exact x2) (fun h₁ x7 x1 => ⟨(lim.keeps H.keep).fresh _ x1, ?_⟩) hk);show uD _ _ (.expr body (envX qual scope s.heap.objs.size f (.ref c') [])) _ _;have x5 : ∀ b o, s.heap.get? b = some o → h₁.get? b = some o := fun b o e => x1.extBut b o (tN (tM e)) (r3 _ e)
 refine kla_codeExpr (af (h s.heap.objs.size _ (H.more (k := s.toks + 1) (ah _) (g1 x7 fun y u q => ?_) x5 (tP _))) (fun v s' q => q) fun _ _ y => y.elim);simpa using q
end
theorem str_ext {x y : Str} (h : x.cps.toList = y.cps.toList) : x = y := by
 obtain ⟨⟨a⟩⟩ := x; obtain ⟨⟨b⟩⟩ := y;simp only at h;rw [h]
theorem mB {x y : Str} (h : x ≠ y) : decide (x.cps.toList < y.cps.toList) = !decide (y.cps.toList < x.cps.toList) := by
 by_cases h1 : x.cps.toList < y.cps.toList
 ·have h2 : ¬ y.cps.toList < x.cps.toList := fun q => List.lt_irrefl _ (List.lt_trans h1 q)
  simp [h1, h2]
 ·by_cases h2 : y.cps.toList < x.cps.toList
  ·simp [h1, h2]
  ·exact absurd (str_ext (List.le_antisymm (List.not_lt.mp h2) (List.not_lt.mp h1))) h
theorem jV : ∀ {xs ys : List Str}, xs ≠ ys → d3 xs ys = !d3 ys xs
 | [], [], h => absurd rfl h
 | [], _ :: _, _ => rfl
 | _ :: _, [], _ => rfl
 | x :: xs, y :: ys, h => by
  show (if x = y then d3 xs ys else decide (x.cps.toList < y.cps.toList)) = !(if y = x then d3 ys xs else decide (y.cps.toList < x.cps.toList));by_cases e : x = y
  ·subst e;rw [if_pos rfl, if_pos rfl];exact jV fun q => h (by rw [q])
  ·rw [if_neg e, if_neg (Ne.symm e)];exact mB e
theorem eG : ∀ {xs ys zs : List Str}, d3 xs ys = true → d3 ys zs = true → d3 xs zs = true
 | [], [], _, h, _ => by cases h
 | [], _ :: _, [], _, h => by cases h
 | [], _ :: _, _ :: _, _, _ => rfl
 | _ :: _, [], _, h, _ => by cases h
 | _ :: _, _ :: _, [], _, h => by cases h
 | x :: xs, y :: ys, z :: zs, h1, h2 => by
  have h1 : (if x = y then d3 xs ys else decide (x.cps.toList < y.cps.toList)) = true := h1;have h2 : (if y = z then d3 ys zs else decide (y.cps.toList < z.cps.toList)) = true := h2;show (if x = z then d3 xs zs else decide (x.cps.toList < z.cps.toList)) = true;by_cases e1 : x = y
  ·subst e1;rw [if_pos rfl] at h1;by_cases W : x = z
   ·subst W;rw [if_pos rfl] at h2 ⊢;exact eG h1 h2
   ·rw [if_neg W] at h2 ⊢; exact h2
  ·rw [if_neg e1, decide_eq_true_eq] at h1;by_cases W : y = z
   ·subst W; rw [if_neg e1, decide_eq_true_eq]; exact h1
   ·rw [if_neg W, decide_eq_true_eq] at h2;have h3 := List.lt_trans h1 h2;rw [if_neg (fun e => by subst e; exact List.lt_irrefl _ h3), decide_eq_true_eq];exact h3
section
variable {b : Bool} {cs cs' r : aF} {K : Frag} {Q : VP}
theorem gG (h : uL (uM uX w) A.in1 (collect (.ref a)) (fun vs s => ∃ C, St h0 o0 C s ∧ vs.length ≤ ug ∧ ∀ D s, St h0 o0 ((D, aE vs) :: C) s → uL (uM uX w) A.in1.in1 (uv.«list.sort» ⟨[.ref D], []⟩) (fun f s => f = .done (.ret .none) ∧ Q (.ref D) s) E s) E s) :
  uL (uM uX w) A (uW (.builtin "sorted") [.ref a]) Q E s := by
 refine Calls.call_function_entry kind_sorted plain_sorted entry_sorted (args_sorted1 _) ?_;unfold uv.«sorted»;refine ad (m := checkCount "sorted" 1 1 _) (ae (ad (af h (fun vs s1 h => ?_) fun _ _ e => e)));obtain ⟨C, H1, hz, h⟩ := h;refine ad (dF H1 hz fun D s2 W _ => ad (aD (sW slot_list_sort (aS W .here).typeIs entry_list_sort (af (h D s2 W) (fun f s3 h => ?_) fun _ _ e => e) (args_list_sort _))));obtain ⟨rfl, h⟩ := h;exact ⟨_, rfl, ae ⟨_, rfl, h⟩⟩
theorem ot (h : uL (uM uX w) A.in1 (collect (.ref a)) (fun vs s => ∃ C, St h0 o0 C s ∧ vs.length ≤ ug ∧ ∀ D s, St h0 o0 ((D, aE vs) :: C) s → uL (uM uX w) A.in1.in1 (uv.«list.sort» ⟨[.ref D], [(ud "key", .ref q)]⟩) (fun f s => f = .done (.ret .none) ∧ Q (.ref D) s) E s) E s) :
  uL (uM uX w) A (uW (.builtin "sorted") [.ref a] [(ud "key", .ref q)]) Q E s := by
 refine call_function_entry_kw kind_sorted plain_sorted entry_sorted (ksk_s1 _ _) ?_;unfold uv.«sorted»;refine ad (m := checkCount "sorted" 1 1 _) (ae (ad (af h (fun vs s1 h => ?_) fun _ _ e => e)));obtain ⟨C, H1, hz, h⟩ := h;refine ad (dF H1 hz fun D s2 W _ => ad (aD (wpAny_call_entry_kw slot_list_sort (aS W .here).typeIs entry_list_sort (af (h D s2 W) (fun f s3 h => ?_) fun _ _ e => e) (ksk_l1 _ _))));obtain ⟨rfl, h⟩ := h;exact ⟨_, rfl, ae ⟨_, rfl, h⟩⟩
theorem eP (H : St h0 o0 cs s) (hl : Has cs l (aE vs)) (hz : vs.length ≤ ug) (h : ∀ s', St h0 o0 cs s' → R vs s') : uL (uM uX w) A (collect (.ref l)) R E s := by
 have W := H.push (o := seqObj "list" #[] 0) (c := gb [] 0) (k := s.toks) rfl (ah _);exact collect_list (aS H hl) (h _ (W.updS (k := s.toks) (c' := fun _ => True) Put.here ⟨_, r5 _ (sm _ rfl) rfl, trivial⟩ (si ..) (ah _)).tail) hz
theorem le6 (h : n ≤ 6) : n ≤ ug := by rw [aj]; exact tH h (by decide)
theorem jt {ks : List Str} {κ : Str → List Str} (H : St h0 o0 cs s) (hh : A.handled = none) (hu : A.units + 2 < cLine) (ha : Has cs a (a8 true w ks)) (hk : ks ≠ []) (h6 : ks.length ≤ 6) (nd : ks.Nodup) (inj : ∀ x ∈ ks, ∀ y ∈ ks, κ x = κ y → x = y)
  (h7 : ∀ cs1 x u s (Q : VP), x ∈ ks → (∀ p ∈ cs, p ∈ cs1) → St h0 o0 cs1 s → (∀ k s', St h0 o0 ((k, dX (κ x)) :: cs1) s' → Q (.ref k) s') → uL (uM uX w) A.in1.in1 (uW (.ref q) [.str x u]) Q (fun _ _ => False) s)
  (h : ∀ D (xs : List (Str × Tok)) s', (xs.map (·.1)).Perm ks → bP (fun x y => d3 (κ x) (κ y)) (xs.map (·.1)) → St h0 o0 ((D, aE (tv xs)) :: cs) s' → Q (.ref D) s') :
  uL (uM uX w) A (uW (.builtin "sorted") [.ref a] [(ud "key", .ref q)]) Q E s :=
 ot (h0 := h0) (o0 := o0) (jv H hh ha hk fun xs s1 hp H1 => by
  have hl : xs.length ≤ 6 := (ak (f := fun p : Str × Tok => p.1)).symm.trans hp.length_eq ▸ h6;have hm : ∀ x ∈ xs, x.1 ∈ ks := fun x W => hp.mem_iff.mp (aA (f := fun p : Str × Tok => p.1) W)
  have hn : (xs.map (·.1)).Nodup := hp.nodup_iff.mpr nd;have O : OrdL xs fun x y => d3 (κ x.1) (κ y.1) := ⟨List.Pairwise.of_map (fun p : Str × Tok => p.1) (fun _ _ n q => n (congrArg _ q)) hn, fun x W y hy ne => jV fun e => ne (fn hn W hy (inj _ (hm x W) _ (hm y hy) e)), fun x _ y _ z _ => eG⟩
  exact ⟨cs, H1, by rw [ak]; exact le6 hl, fun D s2 H2 => x_sortK (vf := fun p : Str × Tok => uN.str p.1 p.2) (κ := fun p => κ p.1) O hl (by show A.units + 1 + 1 < cLine; exact hu) H2
   (fun x W C s R H hR => h7 (C ++ cs) x.1 x.2 s R (hm x W) (fun p hp => r6 _ hp) H hR) fun x0 s' h9 hr H' => ⟨rfl, h D x0 s' ((h9.map _).trans hp) (dH (f := fun p : Str × Tok => p.1) (c := fun x y => d3 (κ x) (κ y)) _ hr) H'⟩⟩)
end
noncomputable def fM (d : uR) : cP := fun o => o = { cls := .type "dict_items", data := .fields #[.ref d] }
noncomputable def aW : List (uR × (Str × Tok) × uN) → aF
 | [] => []
 | p :: r => (p.1, bn [.str p.2.1.1 p.2.1.2, p.2.2]) :: aW r
section
variable {b : Bool} {cs cs' r : aF} {K : Frag} {Q : VP}
theorem eT {q} (h : q ∈ aW ps) : ∃ p ∈ ps, q = (p.1, bn [.str p.2.1.1 p.2.1.2, p.2.2]) := by
 induction ps with
 | nil => cases h
 | cons p r ih =>
  rcases tB.mp h with rfl | h
  ·exact ⟨p, aB, rfl⟩
  ·obtain ⟨W, h1, h2⟩ := ih h;exact ⟨W, au _ h1, h2⟩
theorem eU {p} (h : p ∈ ps) : Has (aW ps) p.1 (bn [.str p.2.1.1 p.2.1.2, p.2.2]) := by
 induction ps with
 | nil => cases h
 | cons q r ih =>
  rcases tB.mp h with rfl | h
  ·exact .here
  ·exact .there (ih h)
theorem cQ : ∀ ps : List (uR × (Str × Tok) × uN), (aW ps).map uo = ps.map (·.1)
 | [] => rfl
 | p :: r => by rw [aW, az, az, cQ r]
theorem St.moreN (H : St h0 o0 cs s) (N : aF) (W : ∀ q ∈ N, s.heap.objs.size ≤ q.1 ∧ ∃ o, h'.get? q.1 = some o ∧ q.2 o) (nd : (N.map uo).Nodup) (hk : ∀ b o, s.heap.get? b = some o → h'.get? b = some o) (h7 : s.toks ≤ k) : St h0 o0 (N ++ cs) { s with heap := h', toks := k } := by
 have G := H.grow hk h7;refine ⟨G.keep, fun p hp => ?_, fun p hp => ?_, ?_, G.gens, G.os, G.tok, G.flo, fun p hp => ?_, H.g3⟩
 ·rcases s8.mp hp with hp | hp
  ·exact (W p hp).2
  ·exact G.cell p hp
 ·rcases s8.mp hp with hp | hp
  ·exact (H.fresh (W p hp).1).2.1
  ·exact G.new p hp
 ·rw [ao, sH];refine ⟨nd, H.nodup, fun a ha b' hb e => ?_⟩;obtain ⟨q, hq, rfl⟩ := tG.mp ha;subst e;exact (H.fresh (W q hq).1).1 hb
 ·rcases s8.mp hp with hp | hp
  ·exact (H.fresh (W p hp).1).2.2
  ·exact G.big p hp
theorem x_items (H : St h0 o0 cs s) (hd : Has cs d (aL uX w kvs)) (h : ∀ v s', St h0 o0 ((v, fM d) :: cs) s' → Q (.ref v) s') : uL (uM uX w) A (uW (.builtin "dict.items") [.ref d]) Q E s :=
 have W := bW (uX := uX) (w := w) H hd
 call_meetsIn PySem.F.slot_dict_items W.typeIs PySem.F.entry_dict_items (PySem.F.args_dict_items_1 _) (meets_dict_items (tC uX w) d (eC H hd)) ⟨⟨kvs, W⟩, h _ _ (H.push (k := s.toks) rfl (ah _))⟩
theorem x_dmeth {name : Str} {id : String} {pl : Sem Bool} {d : uR} {kvs : List (Str × uN)} {Q : uN × List uN → uF → Prop} (W : Slot "dict" name id) (h7 : typeOf (.builtin id) = uT (.type "method_descriptor"))
  (H : St h0 o0 cs s) (hd : Has cs d (aL uX w kvs)) (h : Q (.builtin id, [.ref d]) s) : uL (uM uX w) A (ua (.ref d) name pl) Q E s := by
 have hD := bW (uX := uX) (w := w) H hd;obtain ⟨o, es, ep, ho, hx, _⟩ := hD;exact getMethod_builtin (bW (uX := uX) (w := w) H hd).typeIs PySem.F.plainAttrs_dict W h7 (fun a e => by cases e; exact ⟨_, ho, hx.2.1⟩) h
theorem i9 {kvs : List (Str × uN)} {h' : uV} {as : List uR} {lo : uR} (hl : as.length = kvs.length) (g : KdxG (tC uX w) kvs lo h' as) :
  ∃ ps : List (uR × (Str × Tok) × uN), ps.map (·.1) = as ∧ ps.map (fun p => (p.2.1.1, p.2.2)) = kvs ∧ ∀ p ∈ ps, ∃ o, h'.get? p.1 = some o ∧ bn [.str p.2.1.1 p.2.1.2, p.2.2] o := by
 have hp := g.pairs;clear g;revert kvs;induction as with
 | nil =>
  intro kvs hl _;cases kvs with
  | nil => exact ⟨[], rfl, rfl, by simp⟩
  | cons _ _ => cases hl
 | cons a as ih =>
  intro kvs hl hp;cases kvs with
  | nil => cases hl
  | cons kv kr =>
   obtain ⟨ps, h1, h2, h3⟩ := ih (by simpa using hl) fun j b e => by simpa using hp (j + 1) b (by simpa using e)
   obtain ⟨key, k, x, W, e2, e3⟩ := hp 0 a rfl;simp only [List.getElem?_cons_zero, tU.injEq] at W;subst W;obtain ⟨u, rfl⟩ := uN.isStrOf_shape e2;refine ⟨(a, (k, u), x) :: ps, by simp [h1], by simp [h2], fun p hp => ?_⟩;rcases tB.mp hp with rfl | hp
   ·exact ⟨_, e3, 0, rfl⟩
   ·exact h3 p hp
theorem gJ (H : St h0 o0 cs s) (hh : A.handled = none) (hv : Has cs v (fM d)) (hd : Has cs d (aL uX w kvs)) (hz : kvs.length ≤ 4096)
  (h : ∀ (ps : List (uR × (Str × Tok) × uN)) s', ps.map (fun p => (p.2.1.1, p.2.2)) = kvs → St h0 o0 (aW ps ++ cs) s' → R (ps.map fun p => .ref p.1) s') : uL (uM uX w) A (collect (.ref v)) R E s := by
 obtain ⟨ov, h7, rfl⟩ := H.get hv;obtain ⟨ep, hD⟩ := (bW (uX := uX) (w := w) H hd).dictAt;refine fb (kdx_collect (knd := tC uX w) (kvs := kvs) (ep := ep) hh ⟨_, h7, rfl, rfl⟩ hD (by rw [aj]; exact tH hz (by decide)) fun h' tk as hk hl g h9 => ?_);obtain ⟨ps, W, e2, e3⟩ := i9 hl g;have : as.map tW = ps.map fun p => .ref p.1 := by rw [← W, tI]; rfl
 rw [this];refine h ps _ e2 (H.moreN (aW ps) (fun q hq => ?_) ?_ hk h9)
 ·obtain ⟨p, hp, rfl⟩ := eT hq;exact ⟨tL (g.above p.1 (by rw [← W]; exact aA hp)), e3 p hp⟩
 ·rw [cQ, W];exact g.rise.imp tN
noncomputable abbrev ltT (x y : Str) : Bool := decide (x.cps.toList < y.cps.toList)
theorem ltT_tr (h1 : ltT x y = true) (h2 : ltT y z = true) : ltT x z = true := decide_eq_true (List.lt_trans (of_decide_eq_true h1) (of_decide_eq_true h2))
theorem kC (H : St h0 o0 ((a, aE (ps.map fun p => .ref p.1)) :: r) s) (h7 : ∀ p ∈ ps, Has r p.1 (bn [.str p.2.1.1 p.2.1.2, p.2.2])) (h6 : ps.length ≤ 6) (nd : (ps.map fun p => p.2.1.1).Nodup)
  (h : ∀ (W : List (uR × (Str × Tok) × uN)) s', W.Perm ps → bP ltT (W.map fun p => p.2.1.1) → St h0 o0 ((a, aE (W.map fun p => .ref p.1)) :: r) s' → P (.done (.ret .none)) s') : uL (uM uX w) A (uv.«list.sort» ⟨[.ref a], []⟩) P E s := by
 have O : OrdL ps fun x y => ltT x.2.1.1 y.2.1.1 := ⟨List.Pairwise.of_map (fun p : uR × (Str × Tok) × uN => p.2.1.1) (fun _ _ n q => n (congrArg (fun p : uR × (Str × Tok) × uN => p.2.1.1) q)) nd, fun x hx y hy ne => mB fun e => ne (fn nd hx hy e), fun x _ y _ z _ => ltT_tr⟩
 have tup : ∀ s, St h0 o0 r s → ∀ p ∈ ps, ∃ n, s.heap.get? p.1 = some { cls := .type "tuple", data := .seq #[.str p.2.1.1 p.2.1.2, p.2.2] n } := fun s H p hp => (H.get (h7 p hp)).elim fun o h => h.2.elim fun n e => ⟨n, e ▸ h.1⟩
 refine pF (κ := tuples' true) (vf := fun p => .ref p.1) O h6 H (fun Q s h2 Hs hq => ?_) (fun x hx y hy ne C s Hs hq => ?_) fun W s' hp hr H' => h W s' hp (dH (f := fun p : uR × (Str × Tok) × uN => p.2.1.1) (c := ltT) _ hr) H'
 ·refine kat_kind (T := .type "str") (fs := ps.map fun p => .str p.2.1.1 p.2.1.2) ?_ (by rw [ak]; exact Nat.lt_of_succ_le (Nat.le_of_succ_le h2)) (fun v hv => (tG.mp hv).elim fun p hp => hp.2 ▸ Looks.of_pure rfl) (by decide) hq;have key : ∀ l : List (uR × (Str × Tok) × uN), (∀ p ∈ l, p ∈ ps) → KatTups s.heap (l.map fun p => .ref p.1) (l.map fun p => .str p.2.1.1 p.2.1.2) := by
   intro l;induction l with
   | nil => exact fun _ => trivial
   | cons p r ih => exact fun hq => (tup s Hs p (hq p aB)).elim fun n ho => KatTups.cons ho rfl rfl rfl (ih fun p hp => hq p (au _ hp))
  exact key ps fun _ q => q
 ·obtain ⟨n1, x0⟩ := tup s Hs x hx;obtain ⟨n2, h9⟩ := tup s Hs y hy;refine kat_lt x0 rfl h9 rfl (kat_cons (wpAny_eqBool_str ?_));rw [decide_eq_false fun e => ne (fn nd hx hy e)];exact kat_no (oneLt_str (hq s rfl))
theorem Has.pick (h : Has cs a c) : ∃ r, Pick cs a c r := by
 induction h with
 | here => exact ⟨_, .here⟩
 | there _ ih => exact ih.elim fun r h => ⟨_, .there h⟩
theorem Pick.put (h : Pick cs a c r) : ∃ W, Put cs a c c' W ∧ Pick W a c' r := by
 induction h with
 | here => exact ⟨_, .here, .here⟩
 | there _ ih => exact ih.elim fun W h => ⟨_, .there h.1, .there h.2⟩
theorem x_sortT (H : St h0 o0 cs s) (ha : Has cs a (aE (ps.map fun p => .ref p.1))) (h9 : ∀ p ∈ ps, Has cs p.1 (bn [.str p.2.1.1 p.2.1.2, p.2.2])) (h4 : ps.length ≤ 5) (nd : (ps.map fun p => p.2.1.1).Nodup)
  (h : ∀ (W : List (uR × (Str × Tok) × uN)) h7 s', W.Perm ps → bP ltT (W.map fun p => p.2.1.1) → Put cs a (aE (ps.map fun p => .ref p.1)) (aE (W.map fun p => .ref p.1)) h7 → St h0 o0 h7 s' → P (.done (.ret .none)) s') :
  uL (uM uX w) A (uv.«list.sort» ⟨[.ref a], []⟩) P E s := by
 obtain ⟨r, hr⟩ := ha.pick;have x2 : ∀ p ∈ ps, p.1 ≠ a := fun p hp e => by
  obtain ⟨n, ho⟩ := bt H ha;obtain ⟨o', x0, n', rfl⟩ := H.get (h9 p hp);rw [e, ho] at x0;exact absurd (show tV "list" = tV "tuple" from congrArg Obj.cls (tq x0)) (by decide)
 refine kC (H.pick hr) (fun p hp => ?_) (Nat.le_succ_of_le h4) nd fun W s' hp x1 H' => ?_
 ·exact Has.of_mem ((tB.mp (hr.perm.mem_iff.mpr (h9 p hp).mem)).resolve_left fun e => x2 p hp (congrArg uo e))
 ·obtain ⟨h7, h1, h2⟩ := hr.put (c' := aE (W.map fun p => .ref p.1));exact h W h7 s' hp x1 h1 (H'.perm h2.perm.symm)
theorem qA : ∀ l : List (uR × (Str × Tok) × uN), aW l = l.map fun p => (p.1, bn [.str p.2.1.1 p.2.1.2, p.2.2]) := by
 intro l;induction l with
 | nil => rfl
 | cons p r ih => exact congrArg (_ :: ·) ih
theorem iD (H : St h0 o0 cs s) (hh : A.handled = none) (hv : Has cs v (fM d)) (hd : Has cs d (aL uX w kvs)) (h4 : kvs.length ≤ 5) (nd : (kvs.map (·.1)).Nodup)
  (h : ∀ D (ps : List (uR × (Str × Tok) × uN)) s', (ps.map fun p => (p.2.1.1, p.2.2)).Perm kvs → bP ltT (ps.map fun p => p.2.1.1) → St h0 o0 ((D, aE (ps.map fun p => .ref p.1)) :: (aW ps ++ cs)) s' → Q (.ref D) s') :
  uL (uM uX w) A (uW (.builtin "sorted") [.ref v]) Q E s :=
 gG (h0 := h0) (o0 := o0) (gJ H hh hv hd (tH h4 (by decide)) fun ps s1 hp H1 => by
  have hl : ps.length ≤ 6 := (ak (f := fun p : uR × (Str × Tok) × uN => (p.2.1.1, p.2.2))).symm.trans (congrArg tQ hp) ▸ Nat.le_succ_of_le h4;have hn : (ps.map fun p => p.2.1.1).Nodup := by rw [← hp, tI] at nd; exact nd
  exact ⟨_, H1, by rw [ak]; exact le6 hl, fun D s2 H2 => kC H2 (fun p hp => (eU hp).app) hl hn fun h7 s3 W hr H3 => ⟨rfl, h D h7 s3 (hp ▸ W.map _) hr (H3.perm (tY.cons _ (tY.append_right _ (by rw [qA, qA]; exact W.map _))))⟩⟩)
theorem x_get1 (H : St h0 o0 cs s) (hd : Has cs d (aL uX w kvs)) (h : ∀ s', St h0 o0 cs s' → Q ((uE kvs k).getD .none) s') : uL (uM uX w) A (uW (.builtin "dict.get") [.ref d, .str k u]) Q E s :=
 have W := bW (uX := uX) (w := w) H hd
 call_meetsIn F.slot_dict_get W.typeIs F.entry_dict_get (F.args_dict_get_2 _ _) (meets_dict_get (tC uX w) d (de k u) (eC H hd)) ⟨_, W.mapOf, h _ (H.toks (tP _))⟩
theorem x_fstr (H : St h0 o0 cs s) (hz : x.length ≤ ug) (h : ∀ W s', St h0 o0 cs s' → Q (.str x W) s') : uL (uM uX w) A (formatField (.str x t) tZ) Q E s :=
 wpAny_formatField_str (h _ _ H) (h _ _ (H.toks (tP _))) hz
theorem pO {l sl : uR} {xs : List uN} {Q : Unit → uF → Prop} (H : St h0 o0 cs s) (hp : Put cs l (aE xs) (aE []) cs') (hs : s.heap.IsSliceOf sl .none .none .none) (hz : xs.length ≤ ug) (h : ∀ s', St h0 o0 cs' s' → Q () s') : uL (uM uX w) A (delItem (.ref l) (.ref sl)) Q E s := by
 obtain ⟨n, ho⟩ := bt H hp.has;obtain ⟨os, W, x1, h7⟩ := id hs;have h9 : s.TypeIs (.ref sl) "slice" := ⟨os, W, x1⟩;have hT := (aS H hp.has).typeIs;refine wpAny_delItem_slot hT (by decide) F.slot_list_delitem (sW F.slot_list_delitem hT F.entry_list_delitem ?_ (F.args_list_delitem_2 _ _));show uL _ _ (uv.List.listSubscript? (.ref sl) >>= _) _ _ s;refine ad ?_;unfold uv.List.listSubscript?;refine ad (wpAny_specialOf h9 slice_no_index ?_);simp only [Option.isNone_none, if_true];refine ae ?_;show uL _ _ (typeOf (.ref sl) >>= _) _ _ s;refine ad (wpAny_typeOf h9 ?_);rw [if_neg (by decide)];rw [listSliceParts_eq];refine ad (ad (wpAny_field W h7 (x := .none) rfl (ad (wpAny_listPart .none ?_))));rw [if_neg (by exact sB)];refine ad (wpAny_field W h7 (x := .none) rfl (ad (wpAny_listPart .none ?_)));refine ad (wpAny_field W h7 (x := .none) rfl (ad (wpAny_listPart .none (ae ?_))));refine ad (listItems_at ho rfl ?_);refine ad (tR (sliceIndices_raw none none none xs.toArray.size (by simp)) ?_);refine ad (wpAny_rule ?_);refine ad (listUpdate_at ho rfl ?_ (by rw [sL]; exact hz) ?_)
 ·refine ad (wpAny_letGo (ae ⟨_, rfl, h _ ?_⟩));refine H.updS (k := s.toks) hp ⟨_, r5 _ ho rfl, bC ?_⟩ (si ..) (ah _);rw [List.toList_toArray];have key : ∀ f : uN × Nat → Option uN, (∀ p ∈ xs.zipIdx, f p = none) → (xs.zipIdx.filterMap f).toArray = ([] : List uN).toArray := fun f hf => by
   rw [List.filterMap_eq_nil_iff.mpr hf]
  refine key _ fun p x0 => if_pos ?_
  have x2 : p.2 < xs.length := by
   obtain ⟨i, hi⟩ := List.mem_iff_getElem?.mp x0;rw [List.getElem?_zipIdx] at hi;cases e : xs[i]? with
   | none => rw [e] at hi; cases hi
   | some v =>
    rw [e] at hi;have := (rO.mp e).1;have e2 : p = (v, 0 + i) := (tq hi).symm;rw [e2]; simpa using this
  show (decide ((0 : Int) ≤ (p.2 : Int)) && decide ((p.2 : Int) < (xs.toArray.size : Int)) && ((p.2 : Int) - 0) % 1 == 0) = true;rw [sL];simp only [sP, decide_eq_true_eq, beq_iff_eq];omega
 ·rw [sL];refine tH (List.length_filterMap_le _ _) ?_;rw [List.toList_toArray, List.length_zipIdx];exact (a9 1419712147454 0) hz
end
noncomputable def cB (uX : uy) (w : uQ) (A : uJ) (env : Env) : List (Str × uN) → (uF → Prop) → uF → Prop
 | [], k, s => k s
 | (x, v) :: r, k, s => uL (uM uX w) A (tX env x v) (fun _ s' => cB uX w A env r k s') NoE s
section
variable {b : Bool} {cs cs' r : aF} {K : Frag} {Q : VP}
theorem fz {k : GP} {Q : PUnit → uF → Prop} : ∀ (binds : List (Str × uN)) (s : uF), cB uX w A env binds k s → (∀ s', k s' → Q ⟨⟩ s') →
  uL (uM uX w) A (forIn binds PUnit.unit fun x _ => do tX env x.1 x.2; uT (ForInStep.yield PUnit.unit)) Q E s
 | [], s, h, hq => by rw [List.forIn_nil]; exact ae (hq s h)
 | (x, v) :: r, s, h, hq => by
  rw [List.forIn_cons];refine ad (ad (af (show uL (uM uX w) A (tX env x v) _ NoE s from h) (fun _ s' q => ae ?_) fun _ _ q => q.elim));exact fz r s' q hq
theorem x_fnG (B : Base K h0) (H : St h0 o0 cs s) (hf : lK K fa = true) (h9 : A.depth < ty) (W : BindsTo s (aZ K fa) ar binds)
  (h : ∀ L s', St h0 o0 ((L, cNs []) :: ((cellsFrom (L + 1) (aZ K fa).scope.names []).map (fun p => (p.2, aO none)) ++ cs)) s' →
   cB uX w A.in1 (um (aZ K fa) L fa) binds (fun x1 => (∃ x2, St h0 o0 x2 x1) ∧ uL (uM uX w) (A.deeper (um (aZ K fa) L fa)) (uP (a7 K fa) (um (aZ K fa) L fa)) (fun f s3 => R (.ok (.ret (match f with | .ret v => v | _ => .none))) s3) NoE x1) s') :
  uD (uM uX w) A (.call (.ref fa) ar) R s := by
 unfold lK at hf;split at hf
 ·rename_i c d fd sl ho;simp only [sP, Bool.not_eq_true', beq_iff_eq] at hf;obtain ⟨⟨⟨⟨⟨h1, h2⟩, h3⟩, h4⟩, h6⟩, h7⟩ := hf;have e : aZ K fa = fd := by unfold aZ; rw [ho]
  have eb : fd.body = .stmts (a7 K fa) := by
   unfold a7; rw [e];cases hb : fd.body with
   | stmts b => rfl
   | expr _ => rw [hb] at h6; cases h6
  rw [e] at W h;refine codeAny_call_function h9 (H.keep _ _ (B.X _ _ ho)) rfl h2 h3 eb ((codeRec_of B.X h1).keeps H.keep) ?_;refine W _ _ _ _ ?_;rw [List.isEmpty_iff.mp h7];simp only [newFunctionEnv, Option.isSome_none, sA, if_false];refine ad (wpAny_alloc ?_);refine ad (wpAny_layCells _ (fun name kind cells => by cases hkc : kind == NameKind.cell <;> simp) _ _ _ _ ?_);have ok := cellsFrom_ok fd.scope.names (s.heap.push { cls := .type "frame", data := .dict #[] }) (s.heap.objs.size + 1) [] ⟨fun _ _ hm => (nomatch hm), List.Pairwise.nil⟩ (by rw [uV.size_push]; exact ah _);rw [uV.size_push] at ok;rw [show ({ s with heap := s.heap.push { cls := .type "frame", data := .dict #[] } } : uF).heap.objs.size = s.heap.objs.size + 1 from uV.size_push ..];have x0 : ∀ b o, s.heap.get? b = some o → (pushCells (s.heap.push { cls := .type "frame", data := .dict #[] }) fd.scope.names).get? b = some o := fun b o q => pushCells_keeps _ _ b o (r3 _ q)
  have x4 : (pushCells (s.heap.push { cls := .type "frame", data := .dict #[] }) fd.scope.names).Ns s.heap.objs.size (fun _ => none) := (uV.Ns.new s.heap (.type "frame")).keeps (pushCells_keeps _ _);have H1 : St h0 o0 (((s.heap.objs.size, cNs []) :: (cellsFrom (s.heap.objs.size + 1) fd.scope.names []).map (fun p => (p.2, aO none))) ++ cs) { s with heap := pushCells (s.heap.push { cls := .type "frame", data := .dict #[] }) fd.scope.names, toks := s.toks } := by
   refine H.moreN _ (fun q hq => ?_) ?_ x0 (ah _)
   ·rcases tB.mp hq with rfl | hq
    ·exact ⟨ah _, g1 x4 (m := []) fun y u q => by cases q⟩
    ·obtain ⟨⟨n, c⟩, hm, rfl⟩ := tG.mp hq;obtain ⟨⟨o, x3, x5⟩, x6⟩ := ok.empty n c hm;exact ⟨by (exact oq3 x6), o, x3, x5⟩
   ·rw [az, tI, s9];refine ⟨fun hm => ?_, ?_⟩
    ·obtain ⟨⟨n, c⟩, hm, e⟩ := tG.mp hm;have := (ok.empty n c hm).2;have e' : c = s.heap.objs.size := e;rw [e'] at this;exact tE _ this
    ·rw [List.nodup_iff_pairwise_ne, sG];exact ok.apart
  refine ad (fz binds _ (h s.heap.objs.size _ H1) fun s' q => ae ?_);obtain ⟨⟨x2, H2⟩, q⟩ := q;exact ⟨B.lim.keeps H2.keep, codeAny_func (af q (fun f s' q => q) fun _ _ q => q.elim)⟩
 ·cases hf
theorem nf (B : Base K h0) (hk : keepIn K (.ref f) = true)
  (h : uL (uM uX w) A (spliced (uI pos (ue (e :: rest) env))) (fun vs s₁ => (∃ o0 cs, St h0 o0 cs s₁) ∧ uL (uM uX w) A (uW (.ref f) (first ++ vs)) Q E s₁) E s)
  (he : ue (e :: rest) env = (false, uU e env) :: ue rest env := by rfl) (W : (uI pos (ue rest env)).any (·.1) = false := by rfl) :
  uL (uM uX w) A (ur pos (.ref f) first (uI pos (ue (e :: rest) env)) []) Q E s := by
 refine callWith_K B.X hk (af h (fun vs s₁ q => ?_) fun _ _ q => q) he W;obtain ⟨⟨o0, cs, H⟩, q⟩ := q;exact ⟨B.X.keeps H.keep, q⟩
theorem pQ (B : Base K h0) (H : St h0 o0 cs s) (hk : keepIn K (.ref f) = true) (h : uL (uM uX w) A (uW (.ref f) (first ++ [])) Q E s) :
  uL (uM uX w) A (ur pos (.ref f) first (uI pos (ue [] env)) []) Q E s := callWith_K0 (B.X.keeps H.keep) hk h
theorem Call_kw
  (h : uL (uM uX w) A (uU func env) (fun f s₁ => uL (uM uX w) A (ur pos f [] (uI pos (ue args env)) (backToKw pos (keywordEach kws env))) Q E s₁) E s)
  (W : uU (.Call func args kws pos) env = (do ur pos (← uU func env) [] (uI pos (ue args env)) (backToKw pos (keywordEach kws env))) := by rfl) :
  uL (uM uX w) A (uU (.Call func args kws pos) env) Q E s := by
 rw [W]; exact ad h
noncomputable def dY (f x : uR) : cP := fun o => o = methodObj (.ref f) (.ref x)
noncomputable def kl (K : Frag) (C : uR) (name : Str) (f : uR) : Bool :=
 plainGet K C name && hasDictIn K C && findIn K (.ref C) name == some (some (.ref f)) && isFn K (.ref f) && specialIn K (.ref f) "__get__" == some (some (.builtin "function.__get__")) && takesIn K (.ref f) == some false && !copiedNames.contains name
theorem x_bind (B : Base K h0) (H : St h0 o0 cs s) (hx : Has cs x (be C dx)) (hd : Has cs dx (cAttrs m)) (hv : m.lookup name = none) (ok : kl K C name f = true)
  (h : ∀ q s', St h0 o0 ((q, dY f x) :: cs) s' → Q (.ref q) s') : uL (uM uX w) A (getAttr (.ref x) name expr) Q E s := by
 unfold kl at ok;simp only [sP, beq_iff_eq, Bool.not_eq_true'] at ok;obtain ⟨⟨⟨⟨⟨⟨W, o2⟩, o3⟩, o4⟩, o5⟩, o6⟩, o7⟩ := ok;obtain ⟨od, hc, I⟩ := eI H hx hd;have X := B.X.keeps H.keep
 refine get_bind X I (plainGet_of W).1 (findObj_fn o2 o3 o5 o6 o7 (by rw [hc.look, hv])) (plainGet_of W).2
  (wpAny_call (fn_get (s := { s with toks := s.toks + 1 }) X (beq_iff_eq.mp o4) (handed_on rfl (h s.heap.objs.size _ (H.push (k := s.toks + 1) rfl (tP _))))))
theorem mV (H : St h0 o0 cs s) (W : Has cs q (dY f x)) (h : uD (uM uX w) A (.call (.ref f) ⟨.ref x :: vs, []⟩) (wants Q E) s) : uL (uM uX w) A (uW (.ref q) vs) Q E s := by
 obtain ⟨o, ho, rfl⟩ := H.get W;exact wpAny_call (method_call ho h)
theorem pR (B : Base K h0) (hf : fnIn K f = true)
  (h : uL (uM uX w) A (spliced (uI pos (ue (e :: rest) env))) (fun vs s₁ => ∃ o0 cs, St h0 o0 cs s₁ ∧ Has cs q (dY f x) ∧ uD (uM uX w) A (.call (.ref f) ⟨.ref x :: vs, []⟩) (wants Q E) s₁) E s)
  (he : ue (e :: rest) env = (false, uU e env) :: ue rest env := by rfl) (W : (uI pos (ue rest env)).any (·.1) = false := by rfl) :
  uL (uM uX w) A (ur pos (.ref q) [] (uI pos (ue (e :: rest) env)) []) Q E s := by
 rw [he] at h ⊢;refine callWith_of (P := fun hp => MethP K q f (.ref x) hp) (by show ((false || (uI pos (ue rest env)).any (·.1)) || false) = false; rw [W]; rfl) (keeps_M hf) (evalArgs_plain (af h (fun vs s₁ z => ?_) fun _ _ z => z));obtain ⟨o0, cs, H, hq, z⟩ := z;obtain ⟨o, ho, rfl⟩ := H.get hq;exact ⟨⟨ho, B.X.keeps H.keep⟩, mV H hq z⟩
theorem x_trL {l : uR} {xs : List uN} {Q : Bool → uF → Prop} (H : St h0 o0 cs s) (hl : Has cs l (aE xs)) (hz : xs.length ≤ ug) (h : ∀ s', St h0 o0 cs s' → Q (!xs.isEmpty) s') : uL (uM uX w) A (truthy (.ref l)) Q E s := by
 refine fb (af (wpAny_truthy_list (Q := fun c s' => c = !xs.isEmpty ∧ ∃ k, s' = { s with toks := k }) (E := E) (aS H hl) (by rw [sL]; rw [aj] at hz; (omega)) ?_) (fun c s' q W => ?_) fun _ _ q => q)
 ·refine ⟨?_, _, rfl⟩;cases xs <;> simp <;> skip
 ·obtain ⟨rfl, k, rfl⟩ := q;exact h _ (H.toks W)
theorem x_trD {d : uR} {kvs : List (Str × uN)} {Q : Bool → uF → Prop} (H : St h0 o0 cs s) (hd : Has cs d (aL uX w kvs)) (hz : kvs.length ≤ ug) (h : ∀ s', St h0 o0 cs s' → Q (!kvs.isEmpty) s') : uL (uM uX w) A (truthy (.ref d)) Q E s := by
 refine fb (af (wpAny_truthy_dict (Q := fun c s' => c = !kvs.isEmpty ∧ ∃ k, s' = { s with toks := k }) (E := E) (eC H hd) (bW (uX := uX) (w := w) H hd) (by rw [aj] at hz; (omega)) ?_) (fun c s' q W => ?_) fun _ _ q => q)
 ·refine ⟨?_, _, rfl⟩;cases kvs <;> simp <;> skip
 ·obtain ⟨rfl, k, rfl⟩ := q;exact h _ (H.toks W)
theorem x_trS {x : Str} {t : Tok} {Q : Bool → uF → Prop} (H : St h0 o0 cs s) (hz : x.length ≤ ug) (h : ∀ s', St h0 o0 cs s' → Q (x.length != 0) s') : uL (uM uX w) A (truthy (.str x t)) Q E s := by
 refine P.truthy_str (by rw [aj] at hz; (omega)) ?_;have e : ((x.length : Int) != 0) = (x.length != 0) := by
  rw [Bool.eq_iff_iff]; simp only [bne_iff_ne, ne_eq]; (omega)
 rw [e];exact h _ (H.toks (by exact bD 42644626140 0))
end
section
variable {b : Bool} {cs cs' r : aF} {K : aF}
end
section
variable {b : Bool} {cs cs' r : aF} {K : aF} {Q : VP}
end
inductive Sel : aF → aF → Prop where
 | rest {cs cs'} : cs'.Sublist cs → Sel cs cs'
 | pick {cs a c r cs'} : Pick cs a c r → Sel r cs' → Sel cs ((a, c) :: cs')
inductive SubC : aF → aF → Prop where
 | refl {cs} : SubC cs cs
 | there {p cs cs'} : SubC cs' cs → SubC cs' (p :: cs)
 | both {xs cs cs'} : SubC cs' cs → SubC (xs ++ cs') (xs ++ cs)
theorem SubC.t2 (h : SubC ss' ss) : SubC ss' (p1 :: p2 :: ss) := .there (.there h)
theorem SubC.t3 (h : SubC ss' ss) : SubC ss' (p1 :: p2 :: p3 :: ss) := .there (.t2 h)
theorem SubC.sub {cs' cs} (h : SubC cs' cs) : cs'.Sublist cs := by
 induction h with
 | refl => exact sI _
 | there _ ih => exact ih.cons _
 | both _ ih => exact (sI _).append ih
section
variable {b : Bool} {cs cs' r : aF} {K : Frag} {Q : VP}
theorem St.sel (H : St h0 o0 cs s) (h : Sel cs cs') : St h0 o0 cs' s := by
 suffices ∃ W, W.Perm cs ∧ cs'.Sublist W by
  obtain ⟨W, hp, hs⟩ := this;exact (H.perm hp).sub hs
 clear H;induction h with
 | rest h => exact ⟨_, tY.refl _, h⟩
 | pick hp _ ih =>
  obtain ⟨W, h1, h2⟩ := ih;exact ⟨_, (h1.cons _).trans hp.perm, h2.cons_cons _⟩
theorem Sel.tail (h : SubC cs' cs) : Sel cs cs' := .rest h.sub
def DIn (uX : uy) (w : uQ) (h0 : uV) (d : uR) (kvs : List (Str × uN)) : Prop := ∃ ep, h0.DictAt (tC uX w) d kvs ep
theorem DIn.now (D : DIn uX w h0 d kvs) (H : St h0 o0 cs s) : ∃ ep, s.heap.DictAt (tC uX w) d kvs ep := by
 obtain ⟨ep, o, es, W, q⟩ := D;exact ⟨ep, o, es, H.keep _ _ W, q⟩
theorem DIn.lit {kvs : List (Str × Tok × uN)} (ho : h0.get? d = some { cls := .type "dict", data := .dict (kvs.map fun e => (⟨PyData.keyHash w.params e.1, .str e.1 e.2.1, e.2.2⟩ : DictEntry)).toArray ep }) (nd : (kvs.map (·.1)).Nodup) :
  DIn uX w h0 d (kvs.map fun e => (e.1, e.2.2)) := by
 refine ⟨ep, _, _, ho, ⟨rfl, rfl, rfl⟩, rfl, ?_, ?_, ?_⟩
 ·intro e W;simp only [List.mem_toArray, tG] at W;obtain ⟨q, hq, rfl⟩ := W;exact ⟨q.1, by simp [tC, uN.isStrOf], rfl⟩
 ·clear ho nd;induction kvs with
  | nil => exact .nil
  | cons q r ih => exact .cons (by simp [tC, uN.isStrOf]) rfl ih
 ·rw [tI]; exact nd
theorem pN {name : Str} {id : String} {pl : Sem Bool} {d : uR} {kvs : List (Str × uN)} {Q : uN × List uN → uF → Prop} (W : Slot "dict" name id) (h7 : typeOf (.builtin id) = uT (.type "method_descriptor"))
  (H : St h0 o0 cs s) (D : DIn uX w h0 d kvs) (h : Q (.builtin id, [.ref d]) s) : uL (uM uX w) A (ua (.ref d) name pl) Q E s := by
 obtain ⟨ep, hD⟩ := D.now H;have hT := hD.dictOf.typeIs;obtain ⟨o, es, ho, hx, _⟩ := hD;exact getMethod_builtin hT PySem.F.plainAttrs_dict W h7 (fun a e => by cases e; exact ⟨_, ho, hx.2.1⟩) h
theorem pL (H : St h0 o0 cs s) (D : DIn uX w h0 d kvs) (hs : (d == sysModules) = false) (h : ∀ v s', St h0 o0 ((v, fM d) :: cs) s' → Q (.ref v) s') : uL (uM uX w) A (uW (.builtin "dict.items") [.ref d]) Q E s := by
 obtain ⟨ep, W⟩ := D.now H;exact call_meetsIn PySem.F.slot_dict_items W.dictOf.typeIs PySem.F.entry_dict_items (PySem.F.args_dict_items_1 _) (meets_dict_items (tC uX w) d hs) ⟨⟨kvs, W.dictOf⟩, h _ _ (H.push (k := s.toks) rfl (ah _))⟩
end
section
variable {b : Bool} {cs cs' r : aF} {K : Frag} {x dx C : uR} {m m' : List (Str × uN)} {name : Str}
noncomputable def gC (K : Frag) (C : uR) (name : Str) : Bool :=
 findIn K (.ref C) "__getattribute__" == some (some (.builtin "object.__getattribute__")) && findIn K (.ref C) "__getattr__" == some none && findIn K (.ref C) name == some none
theorem x_methV (B : Base K h0) (H : St h0 o0 cs s) (hx : Has cs x (be C dx)) (hd : Has cs dx (cAttrs m)) (hv : Look m name v) (ok : gC K C name = true) (W : dR K C name = true) (hh : handedIn v = true)
  (h : ∀ s', St h0 o0 cs s' → Q (v, []) s') : uL (uM uX w) A (ua (.ref x) name pl) Q E s := by
 obtain ⟨od, hc, I⟩ := eI H hx hd;unfold gC at ok;simp only [sP, beq_iff_eq] at ok;obtain ⟨⟨o1, o2⟩, o3⟩ := ok;exact method_usual (B.X.keeps H.keep) I o1 o2 o3 rfl (pS B H hx hd hv W hh h)
variable {Q : VP}
theorem x_callW {pos : Pos} {bo l : uR} {id : String} {e : Expr} {rest : List Expr} {first : List uN} (H : St h0 o0 cs s) (hb : Has cs bo (bO id l))
  (h : uL (uM uX w) A (spliced (uI pos (ue (e :: rest) env))) (fun vs s₁ => ∃ o0 cs, St h0 o0 cs s₁ ∧ Has cs bo (bO id l) ∧ uL (uM uX w) A (uW (.ref bo) (first ++ vs)) Q E s₁) E s)
  (he : ue (e :: rest) env = (false, uU e env) :: ue rest env := by rfl) (W : (uI pos (ue rest env)).any (·.1) = false := by rfl) :
  uL (uM uX w) A (ur pos (.ref bo) first (uI pos (ue (e :: rest) env)) []) Q E s := kI h he W
theorem x_delSt {e : Expr} {p pos pos2 : Pos} {Q : FP}
  (h : uL (uM uX w) A (uU e env) (fun o s₁ => ∃ l xs cs cs', o = .ref l ∧ St h0 o0 cs s₁ ∧ Put cs l (aE xs) (aE []) cs' ∧ xs.length ≤ ug ∧ ∀ s', St h0 o0 cs' s' → Q .next s') E s) :
  uL (uM uX w) A (exec (.Delete [.Subscript e (.Slice none none none p) pos] pos2) env) Q E s := by
 refine wpAny_Delete (wpAny_deleteEach_cons (wpAny_delete_Subscript (af h (fun o W q => ?_) fun _ _ q => q)));obtain ⟨l, xs, cs, cs', rfl, H, hp, hz, q⟩ := q;refine wpAny_Slice (sC (sC (sC ?_)));have H1 : St h0 o0 cs { W with heap := W.heap.push { cls := .type "slice", data := .fields #[.none, .none, .none] } } := H.grow (k := W.toks) (fun b o e => r3 _ e) (ah _);exact pO H1 hp (uV.IsSliceOf.new ..) hz fun s' H' => wpAny_deleteEach_nil (q _ H')
theorem x_callH {pos : Pos} {bo : uR} {id : String} {v : uN} {e : Expr} {rest : List Expr} {first : List uN} (ho : h0.get? bo = some { cls := .type "builtin_function_or_method", data := .fields #[.builtin id, v] })
  (h : uL (uM uX w) A (spliced (uI pos (ue (e :: rest) env))) (fun vs s₁ => (∃ o0 cs, St h0 o0 cs s₁) ∧ uL (uM uX w) A (uW (.ref bo) (first ++ vs)) Q E s₁) E s)
  (he : ue (e :: rest) env = (false, uU e env) :: ue rest env := by rfl) (W : (uI pos (ue rest env)).any (·.1) = false := by rfl) :
  uL (uM uX w) A (ur pos (.ref bo) first (uI pos (ue (e :: rest) env)) []) Q E s := by
 rw [he] at h ⊢
 refine callWith_of (P := fun hp => hp.get? bo = some { cls := .type "builtin_function_or_method", data := .fields #[.builtin id, v] }) (by show ((false || (uI pos (ue rest env)).any (·.1)) || false) = false; rw [W]; rfl)
  (fun hp hb => ⟨.machine, .inr (.inl rfl), (Looks.ld (part := none) hb).andThen .now⟩) (evalArgs_plain (af h (fun vs s₁ q => ?_) fun _ _ q => q))
 obtain ⟨⟨o0, cs, H⟩, q⟩ := q;exact ⟨H.keep _ _ ho, q⟩
end
section
variable {b : Bool} {cs cs' r : aF} {K : Frag} {Q : VP}
theorem x_upto
  (h : uL (uM uX w) A (uU value env) (fun o s₁ => uL (uM uX w) A (uU hi env) (fun vu s₃ =>
   ∃ x t j u cs, o = .str x t ∧ vu = .int j u ∧ St h0 o0 cs s₃ ∧ x.length ≤ ug ∧ ∀ t' s', St h0 o0 cs s' → Q (.str (Txt.slice x none (some j)) t') s') E s₁) E s)
  (ht : ∀ o r, letTemporaryGo value o r = uT () := by intro _ _; rfl) :
  uL (uM uX w) A (uU (.Subscript value (.Slice none (some hi) none p) pos) env) Q E s := by
 refine wpAny_Subscript_str_slice (af h (fun o s1 h1 => sC (evalPart_some_step (af h1 (fun vu W h3 => ?_) fun _ _ q => q))) fun _ _ q => q) ht;obtain ⟨x, t, j, u, cs, rfl, rfl, H, hz, hq⟩ := h3;refine ⟨x, t, none, some (j, u), rfl, rfl, rfl, ?_⟩;have H1 : St h0 o0 cs { W with heap := W.heap.push { cls := .type "slice", data := .fields #[.none, .int j u, .none] } } := H.grow (k := W.toks) (fun b o e => r3 _ e) (ah _);unfold sliceMade;split
 ·rename_i hc;have q := hq t _ H1;rw [show Txt.slice x none (some j) = x from if_pos hc] at q;exact q
 ·rename_i hc;have e : Txt.slice x none (some j) = _ := if_neg hc;have q := hq W.toks _ (H1.toks (k := W.toks + 1) (tP _));have l := Txt.slice_le x none (some j);rw [e] at q l;exact ⟨tH l hz, q⟩
theorem x_tup0 (H : St h0 o0 cs s) (W : Has cs T (bn (v :: xs)))
  (hs : subscripted slice false (.ref T) (.int 0 u) = operate [.ref T, .int 0 u] (getItem (.ref T) (.int 0 u))) (h : Q v s) : uL (uM uX w) A (subscriptTail value slice (.ref T) (.int 0 u)) Q E s :=
 tail_any (gN H W).typeIs PySem.F.slot_tuple_getitem.lookup (getItem_tuple (gN H W) (j := 0) (by decide) (by decide) (by simp [seqIndex?]) (by simp) h) hs
theorem pK
  (h : Joins (uM uX w) A E (evalEach (v₁ :: v₂ :: rest) env) tZ (fun out s₁ => out.length ≤ ug ∧ ∃ o0 cs, St h0 o0 cs s₁ ∧ ∀ t' s', St h0 o0 cs s' → Q (.str out t') s') s) :
  uL (uM uX w) A (uU (.JoinedStr (v₁ :: v₂ :: rest) pos) env) Q E s := by
 refine wpAny_JoinedStr ?_;have mono : ∀ (l : List (Sem uN)) (W : Str) (s : uF) (P P' : Str → uF → Prop), (∀ o s, P o s → P' o s) → Joins (uM uX w) A E l W P s → Joins (uM uX w) A E l W P' s := by
  intro l;induction l with
  | nil => intro W s P P' hp q; exact hp _ _ q
  | cons x r ih =>
   intro W s P P' hp q;refine af q (fun v s1 q => ?_) fun _ _ q => q
   obtain ⟨y, t, e, hz, q⟩ := q;exact ⟨y, t, e, hz, ih _ _ _ _ hp q⟩
 refine mono _ _ _ _ _ (fun out s1 q => ?_) h;obtain ⟨hz, o0, cs, H, q⟩ := q;exact ⟨hz, q _ _ (H.toks (tP _))⟩
theorem x_fv (h : uL (uM uX w) A (uU value env) (fun v W => ∃ x t o0 cs, v = .str x t ∧ St h0 o0 cs W ∧ x.length ≤ ug ∧ ∀ t' s', St h0 o0 cs s' → Q (.str x t') s') E s) :
  uL (uM uX w) A (uU (.FormattedValue value (-1) none pos) env) Q E s := by
 refine wpAny_FormattedValue_plain (af h (fun v s1 q => ?_) fun _ _ q => q);obtain ⟨x, t, o0, cs, rfl, H, hz, q⟩ := q;exact x_fstr H hz q
end
section
open PySem PySem.W PySem.Calls PyProof.Rows PySem.Builtin PySem.Builtin.Str
inductive Tb (P : uR) (pos : Pos) (qual : Str) : aF → Prop where
 | zero : Tb P pos qual [(P, cTab #[])]
 | one {c'} : Tb P pos qual [(c', eZ qual), (P, cTab #[uH pos.line, uH pos.col, .ref c'])]
section
variable {b : Bool} {cs cs' r : aF} {K : Frag} {Q : VP}
theorem x_lam (LB : LamBase h0 c P) (H : St h0 o0 (X ++ (T ++ cs)) s) (hT : Tb P pos qual T) (h7 : defaultsOf params env = ([], [])) (h9 : closureFor scope env = uT []) (x0 : env.globals = tS) (W : env.code = .ref c) (hq : env.qual ++ "<lambda>" = qual)
  (h : ∀ f c' s', St h0 o0 ((f, po "<lambda>" qual params body scope [] c') :: (c', eZ qual) :: (P, cTab #[uH pos.line, uH pos.col, .ref c']) :: (X ++ cs)) s' → Q (.ref f) s') :
  uL (uM uX w) A (uU (.Lambda params body scope pos) env) Q E s := by
 have H1 : St h0 o0 (T ++ (X ++ cs)) s := H.swap;cases hT with
 | zero => subst hq; exact oC LB H1 .here h7 h9 x0 W h
 | @one c' => subst hq; exact oB LB H1 .h1 h7 h9 x0 W fun f s' H2 => h f c' s' H2
theorem l4 (H : St h0 o0 cs s) (hy : (y.length == 0) = false) (hk : (decide (k < -(2 ^ 63 : Int)) || decide (k ≥ 2 ^ 63)) = false) (hsz : x.length + 2 ≤ ug)
  (h : ∀ a (l : List (Str × Tok)) s', l.map (·.1) = Txt.splitMax x y k → St h0 o0 ((a, aE (strValues l)) :: cs) s' → Q (.ref a) s') : uL (uM uX w) A (uW (.builtin "str.split") [.str x t, .str y u, .int k v]) Q E s := by
 refine fb ?_;have key : ∀ (l : List (Str × Tok)) (j : Nat), l.map (·.1) = Txt.splitMax x y k → s.toks ≤ j → Q (.ref s.heap.objs.size) { s with heap := s.heap.push { cls := .type "list", data := .seq (strValues l).toArray }, toks := j } := fun l j hl W =>
  h _ l _ hl (H.push (k := j) ⟨0, rfl⟩ W)
 have hn : (partsBetween x (occurrences x y 0 x.length (limitOf x k)) y.length).length ≤ ug := by
  have e1 := StrLaws.occ_length_le_len x y 0 x.length (limitOf x k);rw [length_partsBetween]; exact (bZ 0x5ce55e1aaffc369c8f99ec4d2ce 0x71e5ddd319a3b) hsz e1
 cases h1 : (decide (x.length < y.length) || decide (strKind x < strKind y))
 ·cases hf : (occurrences x y 0 x.length (limitOf x k)).isEmpty
  ·refine call_meets F.slot_str_split (typeIs_str _ _ _) F.entry_str_split (F.args_str_split_3 _ _ _) (meets_str_split_sep_max x y k t u v hk h1 hy hf (by exact (a9 0x5d59779b4f4ae 0) hsz) hn) ?_;show s.toks ≤ _ → Q _ _;rw [strsFrom_eq];intro W;exact key (numbered s.toks _) _ ((numbered_texts _ _).trans ((if_neg (ne_true_of_eq_false h1)).trans (if_neg (ne_true_of_eq_false hf))).symm) W
  ·exact call_meets F.slot_str_split (typeIs_str _ _ _) F.entry_str_split (F.args_str_split_3 _ _ _) (meets_str_split_max_not_found x y k t u v hk h1 hy hf)
    (fun W => key [(x, t)] _ ((if_neg (ne_true_of_eq_false h1)).trans (if_pos hf)).symm W)
 ·exact call_meets F.slot_str_split (typeIs_str _ _ _) F.entry_str_split (F.args_str_split_3 _ _ _) (meets_str_split_max_cannot_occur x y k t u v hk h1)
   (fun W => key [(x, t)] _ (if_pos h1).symm W)
theorem kE (H : St h0 o0 cs s) (hy : (y.length == 0) = false) (hk : (decide (k < -(2 ^ 63 : Int)) || decide (k ≥ 2 ^ 63)) = false) (hsz : x.length + 2 ≤ ug)
  (h : ∀ a (l : List (Str × Tok)) s', l.map (·.1) = Txt.rsplitMax x y k → St h0 o0 ((a, aE (strValues l)) :: cs) s' → Q (.ref a) s') : uL (uM uX w) A (uW (.builtin "str.rsplit") [.str x t, .str y u, .int k v]) Q E s := by
 refine fb ?_;have key : ∀ (l : List (Str × Tok)) (j : Nat), l.map (·.1) = Txt.rsplitMax x y k → s.toks ≤ j → Q (.ref s.heap.objs.size) { s with heap := s.heap.push { cls := .type "list", data := .seq (strValues l).toArray }, toks := j } := fun l j hl W =>
  h _ l _ hl (H.push (k := j) ⟨0, rfl⟩ W)
 have hn : (partsBetween x (occurrencesFromRight x y (limitOf x k)) y.length).length ≤ ug := by
  have e1 := StrLaws.occR_length_le_len x y (limitOf x k);rw [length_partsBetween]; exact (bZ 0x48d1bca69c2371b131d2ce 0) hsz e1
 cases h1 : (decide (x.length < y.length) || decide (strKind x < strKind y))
 ·cases hf : (occurrencesFromRight x y (limitOf x k)).isEmpty
  ·refine call_meets F.slot_str_rsplit (typeIs_str _ _ _) F.entry_str_rsplit (F.args_str_rsplit_3 _ _ _) (meets_str_rsplit_sep_max x y k t u v hk h1 hy hf (by exact (a9 0x5d59779b4f4ae 0) hsz) hn) ?_;show s.toks ≤ _ → Q _ _;rw [strsFrom_eq];intro W;exact key (numbered s.toks _) _ ((numbered_texts _ _).trans ((if_neg (ne_true_of_eq_false h1)).trans (if_neg (ne_true_of_eq_false hf))).symm) W
  ·exact call_meets F.slot_str_rsplit (typeIs_str _ _ _) F.entry_str_rsplit (F.args_str_rsplit_3 _ _ _) (meets_str_rsplit_max_not_found x y k t u v hk h1 hy hf)
    (fun W => key [(x, t)] _ ((if_neg (ne_true_of_eq_false h1)).trans (if_pos hf)).symm W)
 ·exact call_meets F.slot_str_rsplit (typeIs_str _ _ _) F.entry_str_rsplit (F.args_str_rsplit_3 _ _ _) (meets_str_rsplit_max_cannot_occur x y k t u v hk h1)
   (fun W => key [(x, t)] _ (if_pos h1).symm W)
end
end
section
variable {b : Bool} {cs cs' r : aF} {K : Frag} {Q : VP}
theorem x_addL (H : St h0 o0 cs s) (hl : Has cs l (aE xs)) (hc : Has cs c (aE ys)) (hz : xs.length + ys.length ≤ ug) (h : ∀ a s', St h0 o0 ((a, aE (xs ++ ys)) :: cs) s' → Q (.ref a) s') :
  uL (uM uX w) A (binaryOp .Add (.ref l) (.ref c)) Q E s := by
 obtain ⟨n, ho⟩ := bt H hl;obtain ⟨n2, W⟩ := bt H hc;have e : xs.toArray ++ ys.toArray = (xs ++ ys).toArray := by simp
 refine concat_meets ⟨_, ho, rfl⟩ ⟨_, W, rfl⟩ noFill_list_add seq_list_add PySem.F.slot_list_add PySem.F.entry_list_add (PySem.F.args_list_add_2 _ _) (list_addW l c xs.toArray ys.toArray n n2 none none #[] #[] (by simpa using hz)) ⟨ho, W, ?_⟩;rw [e];exact h _ _ (H.push (k := s.toks) ⟨0, rfl⟩ (ah _))
end
section
end
section
variable {b : Bool} {cs cs' r : aF} {K : Frag}
end
section
variable {cs cs' : aF} {Q : VP}
theorem fm0 (a : Int) (h : 0 < b) : 0 ≤ a.fmod b ∧ a.fmod b < b := ⟨Int.fmod_nonneg_of_pos _ h, Int.fmod_lt_of_pos _ h⟩
theorem St.thin (H : St h0 o0 cs s) (hp : Put cs a (cNs m) (cNs m') cs') (hs : NsSub m' m) : St h0 o0 cs' s := H.weak hp fun _ W => W.sub hs
end
section
variable {cs cs' : aF}
end
noncomputable def eO (g : Nat) : cP := fun o => ∃ nm qn, o.cls = .type "generator" ∧ o.data = .fields #[.int g 0, nm, qn] ∧ o.slots = #[]
noncomputable def kj (l : uR) (i : Int) : cP := fun o => o.cls = .type "list_reverseiterator" ∧ o.data = .fields #[.ref l, uH i]
noncomputable abbrev nsX : Str := ud "namespaces"
section
variable {cs cs' : aF}
theorem j8 (H : St h0 o0 cs s) (h : Has cs a (eO g)) : s.heap.IsGen a g := by
 obtain ⟨o, ho, nm, W, h1, h2, h3⟩ := H.get h;exact ⟨o, nm, W, ho, h1, h2, h3⟩
theorem mv (H : St h0 o0 cs s) (h : Has cs a (kj l i)) : s.heap.IsRevIter a l i := by
 obtain ⟨o, W, h1, h2⟩ := H.get h;exact ⟨o, W, h1, h2⟩
theorem St.setGen (H : St h0 o0 cs s) (hg : o0.gens.size ≤ g) (W : x.bare = true) : St h0 o0 cs (s.setGen g x) := by
 refine ⟨H.keep, H.cell, H.new, H.nodup, ⟨fun k y e => ?_, fun hb y hy => ?_⟩, H.os, H.tok, H.flo, H.big, H.g3⟩
 ·have hk : k < o0.gens.size := (Array.getElem?_eq_some_iff.mp e).1;show (s.gens.setIfInBounds g x)[k]? = some y;rw [Array.getElem?_setIfInBounds_ne (by exact (bZ 0x59f19b49d74f2 44100279) hg hk)];exact H.gens.1 k y e
 ·have hm : y ∈ s.gens.setIfInBounds g x := hy;rcases Array.mem_or_eq_of_mem_setIfInBounds hm with h | h
  ·exact H.gens.2 hb y h
  ·subst h; exact W
noncomputable def GPos (uX : uy) (w : uQ) (A : uJ) (h0 : uV) (Pre : aF → Prop) : List uN → aF → GenState → Prop
 | [], fi, gs => ∀ o C s F Y, Pre C → St h0 o (fi ++ C) s → (∀ s', St h0 o C s' → F (.ok (.ret .none)) s') → fP (uM uX w) A F Y gs s
 | v :: r, fi, gs => ∀ o C s F Y, Pre C → St h0 o (fi ++ C) s → (∀ gs' fi' s', gs'.bare = true → GPos uX w A h0 Pre r fi' gs' → St h0 o (fi' ++ C) s' → Y v gs' s') → fP (uM uX w) A F Y gs s
noncomputable def GC (uX : uy) (w : uQ) (A : uJ) (h0 : uV) (Pre : aF → Prop) (o : uF) (C : aF) (F : RP) (Y : uN → GenState → uF → Prop) : List uN → Prop
 | [] => ∀ s', St h0 o C s' → F (.ok (.ret .none)) s'
 | v :: r => ∀ gs' fi' s', gs'.bare = true → GPos uX w A h0 Pre r fi' gs' → St h0 o (fi' ++ C) s' → Y v gs' s'
theorem GPos.of (h : ∀ o C s F Y, Pre C → St h0 o (fi ++ C) s → GC uX w A h0 Pre o C F Y rem → fP (uM uX w) A F Y gs s) : GPos uX w A h0 Pre rem fi gs := by
 cases rem with
 | nil => exact h
 | cons v r => exact h
noncomputable def dU (lv : List (uR × List uN)) (r : Nat) : List uN := (lv.take r).reverse.flatMap (·.2)
theorem mM (h : lv[r]? = some q) : dU lv (r + 1) = q.2 ++ dU lv r := by
 unfold dU;rw [sE, h];simp
def pB (sa : uR) (lv : List (uR × List uN)) (C : aF) : Prop := Has C sa (aE (lv.map fun q => .ref q.1)) ∧ ∀ q ∈ lv, Has C q.1 (aE q.2) ∧ q.2.length ≤ 1000000
section
variable {sa Lf rI : uR} {lv : List (uR × List uN)} {genv : Env} {p1 p5 p6 p7 p8 p9 : Pos} {fs : List Frame} {c0 : Code}
noncomputable abbrev gIf (p5 p6 p7 p8 p9 : Pos) : List Stmt := [.If (.Name nsX p5) [.Expr (.YieldFrom (.Name nsX p6) p7) p8] [] p9]
noncomputable abbrev fK (rI : uR) (genv : Env) (p1 p5 p6 p7 p8 p9 : Pos) : Code := .forLoop (.Name nsX p1) (.ref rI) (gIf p5 p6 p7 p8 p9) [] genv
theorem gp_yf {r : Nat} {la : uR} {xs : List uN} {k : Result → Sem ub} {l : List uN} {p : Pos} (hh : A.handled = none) (x4 : splitAtGen fs = none) (x6 : fs.any Frame.guarded = false) (x5 : ∀ c, (A.over c fs).handled = none)
  (hm : (la, xs) ∈ lv)
  (hk : ∀ F' Y' c' s', Leg (uM uX w) A F' Y' (fK rI genv p1 p5 p6 p7 p8 p9) ((uM uX w).den (fK rI genv p1 p5 p6 p7 p8 p9)) fs s' → Leg (uM uX w) A F' Y' c' (leafOf (.ok (.ret .none))) (.ret k none false l (fK rI genv p1 p5 p6 p7 p8 p9) p [] :: fs) s')
  (next : ∀ o C s F Y, pB sa lv C → St h0 o ((rI, kj sa ((r : Int) - 1)) :: (Lf, cNs []) :: C) s → GC uX w A h0 (pB sa lv) o C F Y (dU lv r) → Leg (uM uX w) A F Y (fK rI genv p1 p5 p6 p7 p8 p9) ((uM uX w).den (fK rI genv p1 p5 p6 p7 p8 p9)) fs s) :
  ∀ (m i : Nat), xs.length - i = m → i ≤ xs.length → ∀ W o C s F Y, pB sa lv C → St h0 o ((W, bA la i) :: (rI, kj sa ((r : Int) - 1)) :: (Lf, cNs []) :: C) s → GC uX w A h0 (pB sa lv) o C F Y (xs.drop i ++ dU lv r) →
   Leg (uM uX w) A F Y (mX W) ((uM uX w).den (mX W)) (.ret k none false l (fK rI genv p1 p5 p6 p7 p8 p9) p [] :: fs) s := by
 intro m;induction m with
 | zero =>
  intro i hi h9 W o C s F Y hP H hG;have e : i = xs.length := by (exact oq2 hi h9)
  subst e;have hl := aS H (.there (.there (.there (hP.2 _ hm).1)));refine mD hh (x5 (fK rI genv p1 p5 p6 p7 p8 p9)) (ct H .here) hl (by simp) fun h' he => ?_
  refine hk _ _ _ _ ?_;rw [List.drop_length, te] at hG;exact next o C _ F Y hP (H.dropBut (k := s.toks) he (ah _)) hG
 | succ m ih =>
  intro i hi h9 W o C s F Y hP H hG;have h7 : i < xs.length := by (exact (bZ 0x62b9ac95551b2 0x4288f2d5e814a77c83591e68ec25fb4) hi)
  have hl := aS H (.there (.there (.there (hP.2 _ hm).1)));have hd : xs.drop i = xs[i] :: xs.drop (i + 1) := rP h7;rw [hd, sN] at hG;refine lj (x := xs[i]) (by simp [splitAtGen, x4]) (by simp [Frame.guarded, x6]) (ct H .here) hl (by simp [h7]) fun h' kk pp x1 x3 x7 => ?_
  refine hG _ ((W, bA la (i + 1)) :: (rI, kj sa ((r : Int) - 1)) :: (Lf, cNs []) :: []) _ rfl (GPos.of fun o2 C2 s2 F2 Y2 x0 H2 x2 => ?_) (H.updS (k := s.toks) .here ?_ x3 (ah _))
  ·show Leg _ _ _ _ _ (kk (.send .none)) _ s2;exact x7 F2 Y2 s2 (i + 1) (ct H2 .here) (ih (i + 1) (by exact oq1 hi) h7 W o2 C2 s2 F2 Y2 x0 H2 x2)
  ·obtain ⟨oo, a, b, c⟩ := x1;exact ⟨oo, a, b, c⟩
end
end
section
variable {cs cs' : aF}
variable {sa Lf rI : uR} {lv : List (uR × List uN)} {genv : Env} {p1 p2 p3 p4 p5 p6 p7 p8 p9 p10 : Pos} {fs : List Frame} {c0 : Code}
structure GEnv (genv : Env) (Lf : uR) : Prop where
 loc : genv.locals = Lf
 kind : genv.scope.kind = .function
 k1 : genv.kindOf nsX = some .local
 k2 : genv.kindOf (ud "ns_stack") = some .local
 k3 : genv.kindOf (ud "_reversed") = some .local
 inter : interactive genv = false
theorem gp_loop (hh : A.handled = none) (x5 : splitAtGen fs = none) (x6 : fs.any Frame.guarded = false) (x1 : ∀ c, (A.over c fs).handled = none) (W : GEnv genv Lf)
  (x0 : ∀ (F' : RP) Y' c' s', F' (.ok (.ret .none)) s' → Leg (uM uX w) A F' Y' c' (leafOf (.ok .next)) fs s') :
  ∀ r, r ≤ lv.length → ∀ o C s F Y, pB sa lv C → St h0 o ((rI, kj sa ((r : Int) - 1)) :: (Lf, cNs []) :: C) s → GC uX w A h0 (pB sa lv) o C F Y (dU lv r) →
   Leg (uM uX w) A F Y (fK rI genv p1 p5 p6 p7 p8 p9) ((uM uX w).den (fK rI genv p1 p5 p6 p7 p8 p9)) fs s := by
 intro r;induction r with
 | zero =>
  intro _ o C s F Y hP H hG;refine lm ?_;refine wpAny_pyNext_rev_end (l := sa) (x1 _) (mv H .here) fun h' he => ?_
  dsimp only;intro c;refine x0 _ _ _ _ ?_;exact hG _ ((H.dropBut (k := s.toks) (h' := h') he (ah _)).tail)
 | succ r ih =>
  intro hr o C s F Y hP H hG;have x7 : r < lv.length := by (exact (a9 1420609387258 0) hr)
  obtain ⟨la, xs, h7⟩ : ∃ la xs, lv[r]? = some (la, xs) := ⟨lv[r].1, lv[r].2, rQ x7⟩;have hm : (la, xs) ∈ lv := se h7;have hl := aS H (.t2 hP.1);rw [mM h7] at hG;have e1 : ((r + 1 : Nat) : Int) - 1 = (r : Int) := by (omega)
  rw [e1] at H;refine lm ?_;refine wpAny_pyNext_rev_item (l := sa) (x := .ref la) (mv H .here) hl (by simp [h7]) fun h' x4 x3 => ?_
  dsimp only;have H1 : St h0 o ((rI, kj sa ((r : Int) - 1)) :: (Lf, cNs []) :: C) { s with heap := h' } := H.updS (k := s.toks) .here (by obtain ⟨oo, a, b, c⟩ := x4; exact ⟨oo, a, b, c⟩) x3 (ah _);have x8 : ∀ {fs' : List Frame} {c : Code} {B : uJ}, (B.over c fs').handled = (B.over c fs').handled := rfl;refine js (x := nsX) (m := []) (m' := [(nsX, .ref la)]) H1 .h1 W.loc .new W.kind W.k1 fun s2 H2 => ?_
  intro K Hx hK;have weak : ∀ {s'}, St h0 o ((rI, kj sa ((r : Int) - 1)) :: (Lf, cNs [(nsX, .ref la)]) :: C) s' → St h0 o ((rI, kj sa ((r : Int) - 1)) :: (Lf, cNs []) :: C) s' := fun q => q.weak .h1 fun o ho => ho.sub .nil
  refine qN rfl W.inter ?_;refine wpAny_isTrue_value ?_ (by with_unfolding_all rfl);refine e8 H2 .h1 W.loc .here W.kind W.k1 (by decide +kernel) ?_;refine x_trL H2 (.there (.there (hP.2 _ hm).1)) (by have := (hP.2 _ hm).2; rw [aj]; dsimp only at this ⊢; (apply aP; with_reducible assumption; decide)) fun s3 H3 => ?_
  cases hxs : xs with
  | nil =>
   subst hxs;show (if (false = true) then _ else Leg _ _ _ _ _ _ _ _);rw [if_neg sB, hK];refine Leg.again rfl (ih (by exact oq3 hr) o C s3 F Y hP (weak H3) ?_);exact hG
  | cons x xr =>
   have x2 : (la, x :: xr) ∈ lv := hxs ▸ hm;subst hxs;rw [if_pos (by rfl)];refine e8 H3 .h1 W.loc .here W.kind W.k1 (by decide +kernel) ?_;have h9 := aS H3 (.there (.there (hP.2 _ x2).1));refine ⟨h9.typeIs, wpAny_pyIter_list h9 ⟨_, rfl, fun k l p hk => ?_⟩⟩;rw [hK] at hk;refine gp_yf (la := la) (xs := x :: xr) hh x5 x6 x1 x2 (fun F' Y' c' s' q => hk F' Y' c' s' (Leg.again rfl q)) (ih (by exact oq3 hr)) _ 0 rfl (tO _) _ o C _ F Y hP ?_ hG;exact (weak H3).push (k := s3.toks) (c := bA la 0) ⟨rfl, rfl⟩ (ah _)
theorem rc (hh : A.handled = none) (W : GEnv genv Lf) (h7 : ∀ x, sF (.Call (.Name (ud "_reversed") p2) [.Name (ud "ns_stack") p3] [] p4) genv x = uT x) :
  GPos uX w A h0 (pB sa lv) (dU lv lv.length) [(Lf, cNs [(ud "_reversed", .type "reversed"), (ud "ns_stack", .ref sa), (ud "self", self)])]
   (.fresh (.func [.For (.Name nsX p1) (.Call (.Name (ud "_reversed") p2) [.Name (ud "ns_stack") p3] [] p4) (gIf p5 p6 p7 p8 p9) [] p10] genv)) := by
 refine GPos.of fun o C s F Y hP H hG => ?_
 show Leg _ _ _ _ _ _ [] s;refine qO fun K Hx hK => ?_
 rw [execs_cons_wrap];refine leg_for rfl ?_ h7;refine Call_ ?_ (by with_unfolding_all rfl);refine e8 H .here W.loc .here W.kind W.k3 (by decide +kernel) ?_;refine PyProof.Rows.callWith_type1 ?_ (by with_unfolding_all rfl) (by with_unfolding_all rfl);refine args_cons ?_ (by with_unfolding_all rfl);refine e8 H .here W.loc .i1 W.kind W.k2 (by decide +kernel) ?_;refine args_nil ?_;have hl := aS H (.there hP.1);refine call_reversed_list hl ?_;have e2 : ((lv.map fun q => tW q.1).toArray.size : Int) = (lv.length : Int) := by simp
 rw [e2];have H2 := H.push (k := s.toks) (c := kj sa ((lv.length : Int) - 1)) (o := revObj sa ((lv.length : Int) - 1)) ⟨rfl, rfl⟩ (ah _);refine wpAny_pyIter_revIter (mv H2 .here) ?_;intro k l p hk;refine gp_loop hh (by rfl) (by rfl) (by intro c; exact hh) W (fun F' Y' c' s' q => hk F' Y' c' s' ?_) lv.length (ah _) o C _ F Y hP ((H2.weak .h1 fun o ho => ho.sub .nil)) hG;show Leg _ _ _ _ _ (K .next) [] s';rw [hK];exact Leg.fin _ q
end
noncomputable def nR (K : Frag) (a : uR) : Bool := match K.lookup a with
 | some ⟨_, _, .func fd, _⟩ => codeIn K fd.code fd.qualname && !fd.scope.isCoroutine && fd.scope.isGenerator && fd.scope.kind == .function && fd.scope.names.all (fun x => x.2 != .cell) && j7 fd.body
 | _ => false
section
variable {cs cs' : aF} {K : Frag}
theorem oJ (B : Base K h0) (H : St h0 o0 cs s) (hf : nR K fa = true) (h9 : A.depth < ty)
  (W : BindsTo s (aZ K fa) ar m.reverse) (h7 : (m.all fun x => (aZ K fa).scope.names.lookup x.1 == some .local) = true)
  (h : ∀ L G g s', o0.gens.size ≤ g → s'.gens[g]? = some (.fresh (.func (a7 K fa) (callEnv (aZ K fa) L fa))) → St h0 o0 ((L, cNs m) :: (G, eO g) :: cs) s' → R (.ok (.ret (.ref G))) s') :
  uD (uM uX w) A (.call (.ref fa) ar) R s := by
 unfold nR at hf;split at hf
 ·rename_i c d fd sl ho;simp only [sP, Bool.not_eq_true', beq_iff_eq] at hf;obtain ⟨⟨⟨⟨⟨h1, h2⟩, h3⟩, h4⟩, h5⟩, h6⟩ := hf;have e : aZ K fa = fd := by unfold aZ; rw [ho]
  have eb : fd.body = .stmts (a7 K fa) := by
   unfold a7; rw [e];cases hb : fd.body with
   | stmts b => rfl
   | expr _ => rw [hb] at h6; cases h6
  rw [e] at W h7 h;refine codeAny_call_generator (fd := fd) (body := a7 K fa) h9 (H.keep _ _ (B.X _ _ ho)) rfl h2 h3 eb ((codeRec_of B.X h1).keeps H.keep) (W _ _ _ _ ?_);refine wpAny_newFunctionEnv (fun x hx => by simpa using sY.mp h5 x hx) (fun x hx => by simpa using sY.mp h7 x (sZ.mp hx)) (fun h' hn x0 => ?_) h4;have hk : ∀ b o, s.heap.get? b = some o → h'.get? b = some o := fun b o e => x0.extBut b o (tN (tM e)) (r3 _ e)
  rw [List.reverse_reverse] at hn;have H1 : St h0 o0 ((s.heap.objs.size, cNs m) :: cs) { s with heap := h', toks := s.toks + m.reverse.length } := H.more (ah _) (g1 hn fun _ _ q => q) hk (sU _ _);refine ⟨(B.lim.keeps H.keep).keeps hk, ?_⟩;have x1 : o0.gens.size ≤ s.gens.size := by
   rcases Nat.lt_or_ge s.gens.size o0.gens.size with q | q
   ·have := H.gens.1 s.gens.size _ (rN q);rw [Array.getElem?_eq_none (ah _)] at this;cases this
   ·exact q
  refine h s.heap.objs.size h'.objs.size s.gens.size _ x1 ?_ ?_
  ·exact Array.getElem?_push_size ..
  ·have H2 : St h0 o0 ((h'.objs.size, eO s.gens.size) :: (s.heap.objs.size, cNs m) :: cs) _ := H1.push (k := s.toks + m.reverse.length + 1 + 1) (c := eO s.gens.size) (o := { cls := .type "generator", data := .fields #[.int s.gens.size 0, .str fd.name (s.toks + m.reverse.length), .str fd.qualname (s.toks + m.reverse.length + 1)] }) ⟨_, _, rfl, rfl, rfl⟩ (by simp only []; (exact a9 0xca75dff40226c2 0));have H3 := H2.perm (tY.swap _ _ _).symm;exact ⟨H3.keep, H3.cell, H3.new, H3.nodup, ⟨fun k y e => by
    have hk : k < s.gens.size := (Array.getElem?_eq_some_iff.mp (H.gens.1 k y e)).1;show (s.gens.push _)[k]? = some y;rw [Array.getElem?_push_lt hk];have := H.gens.1 k y e;rwa [rN hk] at this, fun hb y hy => by
    rcases Array.mem_push.mp hy with q | rfl
    ·exact H.gens.2 hb y q
    ·rfl⟩, H3.os, H3.tok, H3.flo, H3.big, H3.g3⟩
 ·cases hf
theorem own_gen (W : s.heap.IsGen it g) (h : Q () s) : uL (uM uX w) A (td target (.ref it) v) Q E s := by
 obtain ⟨o, nm, qn, ho, hc, hd, _⟩ := W;unfold td;split
 all_goals first
  | exact ae h
  | (cases v with
   | ref a =>
    refine ad (wpAny_load ho ?_);rw [hc, hd];show uL _ _ (if (["enumerate", "zip", "dict_itemiterator", "dict_reverseitemiterator", "odict_iterator", "itertools.zip_longest", "itertools.pairwise"].contains "generator" && _) = true then _ else _) _ _ _;rw [show (["enumerate", "zip", "dict_itemiterator", "dict_reverseitemiterator", "odict_iterator", "itertools.zip_longest", "itertools.pairwise"].contains "generator") = false from by decide, Bool.false_and];exact ae h
   | _ => exact ae h)
noncomputable def forT (target : Expr) (it : uN) (body : List Stmt) (env : Env) : Sem Fin :=
 standAt target.pos >>= fun _ => (pyNext it).onRaise (fun _ => standAt { target.pos with line := 0 }) >>= fun r => match r with
  | none => again (.block [] env)
  | some v => td target it v >>= fun _ => uG target env v >>= fun _ => uP body env >>= fun f => match f with
   | .next | .cont => again (.forLoop target it body [] env)
   | .brk => uT (.done .next)
   | .ret v => uT (.done (.ret v))
theorem forT_eq (target : Expr) (W : uN) (body : List Stmt) (env : Env) : forTurn target W body [] env = forT target W body env := by kernel_rfl!
def FKn (Q : Fin → uF → Prop) (c : Code) : Flow → uF → Prop := fun f s => match f with
 | .next | .cont => Q (.again c) s
 | .brk => Q (.done .next) s
 | .ret v => Q (.done (.ret v)) s
theorem w_forT (h : uL (uM uX w) A (pyNext it) (fun r W => (r = none ∧ Q (.again (.block [] env)) W) ∨ ∃ v, r = some v ∧ uL (uM uX w) A (td target it v) (fun _ s2 =>
   uL (uM uX w) A (uG target env v) (fun _ s3 => uL (uM uX w) A (uP body env) (FKn Q (.forLoop target it body [] env)) NoE s3) NoE s2) NoE W) NoE s) : uL (uM uX w) A (forT target it body env) Q NoE s := by
 refine ad (tD (ad (wpAny_onRaise (af h (fun r W q => ?_) fun _ _ q => q.elim))));rcases q with ⟨rfl, q⟩ | ⟨v, rfl, q⟩
 ·exact ae q
 ·refine ad (af q (fun _ s2 q => ad (af q (fun _ s3 q => ad (af q (fun f s4 q => ?_) fun _ _ q => q)) fun _ _ q => q)) fun _ _ q => q);cases f <;> exact ae q
def NsI (uX : uy) (w : uQ) (A : uJ) (h0 : uV) (o0 : uF) (G : uR) (g : Nat) (items : List uN) (Pre : aF → Prop) (P : Nat → aF → Prop) (K : aF) (k : Nat) (s : uF) : Prop :=
 ∃ i C fi gs, i ≤ items.length ∧ k = items.length - i ∧ P i C ∧ s.gens[g]? = some gs ∧ GPos uX w A.in1 h0 Pre (items.drop i) fi gs ∧ St h0 o0 (fi ++ ((G, eO g) :: (C ++ K))) s
def NsQ (uX : uy) (w : uQ) (A : uJ) (c : Code) (I : Nat → uF → Prop) (Q : FP) (n : Nat) : Fin → uF → Prop := fun fin s' => match fin with
 | .done f => Q f s'
 | .again c' => (c' = c ∧ ∃ m, m < n ∧ I m s') ∨ (c'.quiet = true ∧ uD (uM uX w) A c' (fun r s => match r with | .ok f => Q f s | .error _ => False) s')
def NsT (uX : uy) (w : uQ) (A : uJ) (h0 : uV) (o0 : uF) (env : Env) (target : Expr) (body : List Stmt) (items : List uN) (P : Nat → aF → Prop) (K : aF) (Q : FP) : Prop :=
 ∀ i v C K' o s, items[i]? = some v → P i C → (∀ C s, St h0 o (C ++ K') s → St h0 o0 (C ++ K) s) → St h0 o (C ++ K') s →
  uL (uM uX w) A (uG target env v) (fun _ s₂ => uL (uM uX w) A (uP body env) (fun f s₃ => match f with
   | .next | .cont => ∃ C', P (i + 1) C' ∧ St h0 o (C' ++ K') s₃
   | .brk => Q .next s₃
   | .ret v => Q (.ret v) s₃) NoE s₂) NoE s
theorem ns_perm {F C K : aF} {p : uR × cP} : (F ++ (p :: (C ++ K))).Perm (C ++ (F ++ (p :: K))) :=
 (r8 F sQ.symm).trans (by rw [← av, ← av]; exact tY.append_right _ List.perm_append_comm)
section
variable {K : aF} {target : Expr} {body : List Stmt} {G : uR} {g i : Nat} {gs : GenState} {items : List uN} {fi C : aF} {P : Nat → aF → Prop} {Pre : aF → Prop} {Q : FP} {c : Code}
theorem ns_body (turn : NsT uX w A h0 o0 env target body items P K Q) (W : i < items.length) (hP : P i C) (hg : o0.gens.size ≤ g) (hb : gs'.bare = true) (h9 : GPos uX w A.in1 h0 Pre (items.drop (i + 1)) fi' gs') (H' : St h0 o0 (fi' ++ ((G, eO g) :: (C ++ K))) s1) (hsz : g < s1.gens.size) :
  uL (uM uX w) A (uG target env items[i]) (fun _ s3 => uL (uM uX w) A (uP body env) (FKn (NsQ uX w A c (NsI uX w A h0 o0 G g items Pre P K) Q (items.length - i)) c) NoE s3) NoE (s1.setGen g gs') := by
 have H1 := H'.setGen (x := gs') hg hb;have x1 : (s1.setGen g gs').gens[g]? = some gs' := Array.getElem?_setIfInBounds_self_of_lt hsz;refine af (turn i _ C (fi' ++ ((G, eO g) :: K)) (s1.setGen g gs') _ (rQ W) hP (fun C s q => (H1.back q).sub (sr (sI _) ((aq _ _).trans (rM _ _)))) (H1.perm ns_perm.symm).rebase) (fun _ s3 q => af q (fun f s4 q => ?_) fun _ _ q => q) fun _ _ q => q
 have go : (∃ C', P (i + 1) C' ∧ St h0 (s1.setGen g gs') (C' ++ (fi' ++ ((G, eO g) :: K))) s4) → NsQ uX w A c (NsI uX w A h0 o0 G g items Pre P K) Q (items.length - i) (.again c) s4 := fun ⟨C', x0, h7⟩ =>
  .inl ⟨rfl, items.length - (i + 1), lp4 W, i + 1, C', fi', gs', W, rfl, x0, h7.gens.1 g _ x1, h9, (H1.back h7).perm ns_perm⟩
 cases f with
 | next => exact go q
 | cont => exact go q
 | brk => exact q
 | ret v => exact q
theorem ns_turn (hh : A.handled = none) (h7 : A.depth < ty) (hl : h0.NoLimit) (hg : o0.gens.size ≤ g) (turn : NsT uX w A h0 o0 env target body items P K Q) (fin : ∀ C s, P items.length C → St h0 o0 (C ++ K) s → Q .next s)
  (hi : i ≤ items.length) (hP : P i C) (x1 : Pre ((G, eO g) :: (C ++ K))) (x3 : s.gens[g]? = some gs) (W : GPos uX w A.in1 h0 Pre (items.drop i) fi gs) (H : St h0 o0 (fi ++ ((G, eO g) :: (C ++ K))) s) :
  uL (uM uX w) A (pyNext (.ref G)) (fun r s1 => (r = none ∧ NsQ uX w A c (NsI uX w A h0 o0 G g items Pre P K) Q (items.length - i) (.again (.block [] env)) s1) ∨ ∃ v, r = some v ∧ uL (uM uX w) A (td target (.ref G) v) (fun _ s2 =>
   uL (uM uX w) A (uG target env v) (fun _ s3 => uL (uM uX w) A (uP body env) (FKn (NsQ uX w A c (NsI uX w A h0 o0 G g items Pre P K) Q (items.length - i)) c) NoE s3) NoE s2) NoE s1) NoE s := by
 have Hr := H.setGen (x := .running) hg rfl;rcases Nat.lt_or_ge i items.length with hlt | hge
 ·rw [rP hlt] at W
  refine iV (F := fun _ => False) (Y := fun v h9 s' => v = items[i] ∧ h9.bare = true ∧ ∃ x0, GPos uX w A.in1 h0 Pre (items.drop (i + 1)) x0 h9 ∧ St h0 o0 (x0 ++ ((G, eO g) :: (C ++ K))) s' ∧ g < s'.gens.size) hh (hl.keeps H.keep) h7 (j8 H (Has.skip .here)) x3
   (W (s.setGen g .running) _ _ _ _ x1 Hr.rebase fun h9 x0 s' hb x2 H' => ⟨rfl, hb, x0, x2, Hr.back H', (Array.getElem?_eq_some_iff.mp (H'.gens.1 g _ (setGen_self x3))).1⟩) ?_ (fun _ q => q.elim)
  rintro v h9 s1 hb ⟨rfl, _, x0, x2, H', hsz⟩;exact .inr ⟨_, rfl, own_gen (j8 (H'.setGen (x := h9) hg hb) (Has.skip .here)) (ns_body turn hlt hP hg hb x2 H' hsz)⟩
 ·have e := to hi hge;subst e;rw [List.drop_length] at W
  exact iV (F := fun s' => St h0 o0 ((G, eO g) :: (C ++ K)) s') (Y := fun _ _ _ => False) hh (hl.keeps H.keep) h7 (j8 H (Has.skip .here)) x3
   (W (s.setGen g .running) _ _ _ _ x1 Hr.rebase fun s' H' => ⟨rfl, Hr.back H'⟩) (fun _ _ _ _ q => q.elim)
   (fun s1 H1 h' x4 => .inl ⟨rfl, .inr ⟨rfl, codeAny_block (wpAny_execs_nil (fin C _ hP ((H1.setGen (x := .finished) hg rfl).grow (h' := h') (k := s1.toks) x4 (ah _)).tail))⟩⟩)
end
theorem pM (hh : A.handled = none) (h7 : A.depth < ty) (hl : h0.NoLimit)
  (h : uL (uM uX w) A (uU iter env) (fun x s₁ => ∃ G g gs fi items C0 K, ∃ P : Nat → aF → Prop, ∃ Pre : aF → Prop, x = .ref G ∧ o0.gens.size ≤ g ∧ s₁.gens[g]? = some gs ∧ GPos uX w A.in1 h0 Pre items fi gs ∧
   P 0 C0 ∧ St h0 o0 (fi ++ ((G, eO g) :: (C0 ++ K))) s₁ ∧ (∀ i C, P i C → Pre ((G, eO g) :: (C ++ K))) ∧ NsT uX w A h0 o0 env target body items P K Q ∧
   (∀ C s, P items.length C → St h0 o0 (C ++ K) s → Q .next s)) E s)
  (hs : ∀ x, sF iter env x = uT x) :
  uL (uM uX w) A (exec (.For target iter body [] pos) env) Q E s := by
 refine wpAny_For (af h (fun x s₁ h₁ => ?_) fun _ _ q => q) hs;obtain ⟨G, g, gs, fi, items, C0, K, P, Pre, rfl, hg, h9, W, x1, H, x0, turn, fin⟩ := h₁;refine wpAny_pyIter_gen (j8 H (Has.skip .here)) ?_;refine codeAny_mono (R := fun r s => match r with | .ok f => Q f s | .error _ => False) (codeAny_loop' rfl (NsI uX w A h0 o0 G g items Pre P K) (fun k s hI => ?_) items.length ⟨0, C0, fi, gs, tO _, rfl, x1, h9, W, H⟩) (fun r s q => by cases r with | ok f => exact q | error x => exact q.elim);obtain ⟨i, C, fi, gs, hi, rfl, hP, h9, W, H⟩ := hI;show uL (uM uX w) A ((forTurn target (.ref G) body [] env).onRaise (fun x => do noteFrame x env; theTreesLotGoes x)) _ _ s;refine wpAny_noted ?_;rw [forT_eq];refine af (E := NoE) (w_forT (Q := NsQ uX w A (.forLoop target (.ref G) body [] env) (NsI uX w A h0 o0 G g items Pre P K) Q (items.length - i)) (ns_turn hh h7 hl hg turn fin hi hP (x0 i C hP) h9 W H)) (fun fin s' q => ?_) (fun _ _ q => q.elim);cases fin <;> exact q
end
def Go (h0 : uV) (o0 : uF) (cs : aF) (P : GP) : Prop := ∀ s, St h0 o0 cs s → P s
noncomputable def KS (M : Model) (A : uJ) (E : VP) (env : Env) (rest : List Stmt) (Q : FP) : Flow → uF → Prop
 | .next => uL M A (uP rest env) Q E
 | f => Q f
def iU (b : Bool) (P1 P2 : GP) : uF → Prop := fun s => if b = true then P1 s else P2 s
section
variable {M : Model} {cs cs' : aF} {K : Frag} {P P1 P2 : GP}
theorem Go.mono (h : Go h0 o0 cs P) (hp : ∀ s, P s → P' s) : Go h0 o0 cs P' := fun s H => hp s (h s H)
theorem Go.perm (hp : cs.Perm cs') (h : Go h0 o0 cs' P) : Go h0 o0 cs P := fun s H => h s (H.perm hp.symm)
theorem Go.sel (hs : Sel cs cs') (h : Go h0 o0 cs' P) : Go h0 o0 cs P := fun s H => h s (H.sel hs)
theorem Go.sl (hs : Sel cs cs') (h : Go h0 o0 cs' P := by assumption) : Go h0 o0 cs P := fun s H => h s (H.sel hs)
theorem Go.weak (hp : Put cs a c c' cs') (hc : ∀ o, c o → c' o) (h : Go h0 o0 cs' P) : Go h0 o0 cs P := fun s H => h s (H.weak hp hc)
theorem Go.thin (hp : Put cs a (cNs m) (cNs m') cs') (hs : NsSub m' m) (h : Go h0 o0 cs' P) : Go h0 o0 cs P := fun s H => h s (H.thin hp hs)
theorem lW (h : Go h0 o0 cs P1) : Go h0 o0 cs (iU true P1 P2) := fun s H => by rw [iU, if_pos rfl]; exact h s H
theorem eW (h : Go h0 o0 cs P2) : Go h0 o0 cs (iU false P1 P2) := fun s H => by rw [iU, if_neg (by decide)]; exact h s H
theorem dT (h1 : b = true → Go h0 o0 cs P1) (h2 : b = false → Go h0 o0 cs P2) : Go h0 o0 cs (iU b P1 P2) := by
 cases b with
 | true => exact lW (h1 rfl)
 | false => exact eW (h2 rfl)
def JP {α : Type} (h0 : uV) (o0 : uF) (J : α → aF → Prop) (v : α) : uF → Prop := fun s => ∃ cs, J v cs ∧ St h0 o0 cs s
theorem jp {α : Type} {J : α → aF → Prop} {v : α} (h : J v cs) : Go h0 o0 cs (JP h0 o0 J v) := fun s H => ⟨cs, h, H⟩
theorem bQ {α : Type} {m : Sem α} {Q : α → uF → Prop} (J : α → aF → Prop) (h1 : Go h0 o0 cs (uL M A m (JP h0 o0 J) NoE)) (h2 : ∀ v cs', J v cs' → Go h0 o0 cs' (Q v)) : Go h0 o0 cs (uL M A m Q E) :=
 fun s H => af (h1 s H) (fun v s' ⟨cs', hj, H'⟩ => h2 v cs' hj s' H') fun _ _ q => q.elim
theorem aV (h : Go h0 o0 cs (Q .next)) : Go h0 o0 cs (uL M A (uP [] env) Q E) := fun s H => wpAny_execs_nil (h s H)
theorem aM (h : Go h0 o0 cs (uL M A (uP rest env) Q E)) : Go h0 o0 cs (KS M A E env rest Q .next) := h
theorem di (h : Go h0 o0 cs (Q (.ret v))) : Go h0 o0 cs (KS M A E env rest Q (.ret v)) := h
theorem aH {st : Stmt} {rest : List Stmt} {Q : FP} (h : Go h0 o0 cs (uL M A (exec st env) (KS M A E env rest Q) E)) : Go h0 o0 cs (uL M A (uP (st :: rest) env) Q E) :=
 fun s H => wpAny_execs_cons (af (h s H) (fun f s' q => by cases f <;> exact q) fun _ _ q => q)
theorem bR (h : Go h0 o0 cs (uL M A (uU value env) (fun v => uL M A (tX env x v) (fun _ => Q .next) E) E))
  (hs : swapsWith value (some (.Name x pos')) pos.line env = uT false := by with_unfolding_all rfl) : Go h0 o0 cs (uL M A (exec (.Assign [.Name x pos'] value pos) env) Q E) := fun s H => wpAny_Assign_Name (h s H) hs
theorem co (h : Go h0 o0 cs (uL M A (uU value env) (fun v => uL M A (uU o env) (fun W => uL M A (setAttr W attr v) (fun _ => Q .next) E) E) E))
  (hs : swapsWith value (some (.Attribute o attr pos')) pos.line env = uT false := by with_unfolding_all rfl) : Go h0 o0 cs (uL M A (exec (.Assign [.Attribute o attr pos'] value pos) env) Q E) := fun s H => plainObj_wpAny_Assign_Attribute (h s H) hs
theorem nw (h : Go h0 o0 cs (uL M A (uU value env) (fun v => uL M A (uG (.Tuple elts k tpos) env v) (fun _ => Q .next) E) E))
  (hs : swapsWithSole [.Tuple elts k tpos] value pos.line env = uT false) (W : swappedStores [.Tuple elts k tpos] value env = uT none) : Go h0 o0 cs (uL M A (exec (.Assign [.Tuple elts k tpos] value pos) env) Q E) := fun s H => Assign_Tuple (h s H) hs W
theorem b9 (h : Go h0 o0 cs (uL M A (isTrue test env (uU test env)) (fun b => iU b (uL M A (uP body env) Q E) (uL M A (uP orelse env) Q E)) E)) :
  Go h0 o0 cs (uL M A (exec (.If test body orelse pos) env) Q E) := fun s H => wpAny_If (h s H)
theorem fC (h : Go h0 o0 cs (uL M A (uU e env) (fun v => Q (.ret v)) E)) : Go h0 o0 cs (uL M A (exec (.Return (some e) pos) env) Q E) := fun s H => wpAny_Return_some (h s H)
theorem qm (h : Go h0 o0 cs (Q (.ret .none))) : Go h0 o0 cs (uL M A (exec (.Return none pos) env) Q E) := fun s H => wpAny_Return_none (h s H)
theorem bq (h : Go h0 o0 cs (uL (uM uX w) A (uU e env) (fun _ => Q .next) E)) (hi : interactive env = false := by with_unfolding_all rfl) (hs : swapsWith e none pos.line env = uT false := by with_unfolding_all rfl) :
  Go h0 o0 cs (uL (uM uX w) A (exec (.Expr e pos) env) Q E) := fun s H => wpAny_Expr_any (h s H) hi hs
theorem s_aug
  (h : Go h0 o0 cs (uL M A (uU o env) (fun W => uL M A (getAttr W attr true) (fun old => uL M A (uU value env) (fun v => uL M A (inplaceOp op old v) (fun new => uL M A (setAttr W attr new) (fun _ => Q .next) E) E) E) E) E)) :
  Go h0 o0 cs (uL M A (exec (.AugAssign (.Attribute o attr tpos) op value pos) env) Q E) := fun s H => wpAny_AugAssign_AttributeAny (h s H)
theorem bv (h : Go h0 o0 cs (uL M A (uU l env) (fun a => uL M A (uU r env) (fun b => uL M A (uc op a b) (fun c => uL M A (truthy c) Q E) E) E) E))
  (hm : behindInMarks op r = false := by with_unfolding_all rfl) : Go h0 o0 cs (uL M A (isTrue (.Compare l [op] [r] pos) env whole) Q E) := fun s H => wpAny_isTrue_Compare1 (h s H) hm
theorem nq (h : Go h0 o0 cs (uL M A (isTrue x env (uU x env)) (fun b => Q (!b)) E)) : Go h0 o0 cs (uL M A (isTrue (.UnaryOp .Not x pos) env whole) Q E) := fun s H => wpAny_isTrue_Not (h s H)
theorem c6 (h : Go h0 o0 cs (uL M A (allTrue op values env) Q E)) : Go h0 o0 cs (uL M A (isTrue (.BoolOp op values pos) env whole) Q E) := fun s H => wpAny_isTrue_BoolOp (h s H)
theorem b7 (h : Go h0 o0 cs (uL M A (isTrue x env (uU x env)) (fun b => iU b (uL M A (allTrue .And rest env) Q E) (Q false)) E)) : Go h0 o0 cs (uL M A (allTrue .And (x :: rest) env) Q E) := fun s H => wpAny_allTrue_And_cons (h s H)
theorem t_or (h : Go h0 o0 cs (uL M A (isTrue x env (uU x env)) (fun b => iU b (Q true) (uL M A (allTrue .Or rest env) Q E)) E)) : Go h0 o0 cs (uL M A (allTrue .Or (x :: rest) env) Q E) := fun s H => wpAny_allTrue_Or_cons (h s H)
theorem fe (h : Go h0 o0 cs (Q true)) : Go h0 o0 cs (uL M A (allTrue .And [] env) Q E) := fun s H => wpAny_allTrue_And_nil (h s H)
theorem t_or0 (h : Go h0 o0 cs (Q false)) : Go h0 o0 cs (uL M A (allTrue .Or [] env) Q E) := fun s H => wpAny_allTrue_Or_nil (h s H)
theorem bK (h : Go h0 o0 cs (uL M A whole (fun v => uL M A (truthy v) Q E) E)) (W : isTrue e env whole = (do let v ← whole; standAt e.pos; holding [v] (truthy v)) := by with_unfolding_all rfl) :
  Go h0 o0 cs (uL M A (isTrue e env whole) Q E) := fun s H => wpAny_isTrue_value (h s H) W
theorem a0 (h : Go h0 o0 cs (Q b)) : Go h0 o0 cs (uL M A (truthy (.bool b)) Q E) := fun s H => wpAny_truthy_bool (h s H)
theorem gQ (h : Go h0 o0 cs (Q false)) : Go h0 o0 cs (uL M A (truthy .none) Q E) := fun s H => truthy_none (h s H)
theorem qc (h : Go h0 o0 cs (Q (i != 0))) : Go h0 o0 cs (uL (uM uX w) A (truthy (.int i t)) Q E) := fun s H => PySem.P.truthy_int (h s H)
theorem gh (hz : x.length ≤ ug) (h : Go h0 o0 cs (Q (x.length != 0))) : Go h0 o0 cs (uL (uM uX w) A (truthy (.str x t)) Q E) := fun s H => x_trS H hz h
theorem kP (hl : Has cs l (aE xs)) (hz : xs.length ≤ ug) (h : Go h0 o0 cs (Q (!xs.isEmpty))) : Go h0 o0 cs (uL (uM uX w) A (truthy (.ref l)) Q E) := fun s H => x_trL H hl hz h
theorem t_dic (hd : Has cs d (aL uX w kvs)) (hz : kvs.length ≤ ug) (h : Go h0 o0 cs (Q (!kvs.isEmpty))) : Go h0 o0 cs (uL (uM uX w) A (truthy (.ref d)) Q E) := fun s H => x_trD H hd hz h
end
section
variable {M : Model} {cs cs' : aF} {K : Frag} {P P1 P2 : GP} {Q : VP}
theorem aI (hp : Has cs L (cNs m)) (W : Look m x v)
  (h : Go h0 o0 cs (Q v)) (hL : env.locals = L := by kernel_rfl!) (hk : env.scope.kind = .function := by kernel_rfl!) (hl : env.kindOf x = some .local := by kernel_rfl!) (hd : (x == ("__debug__" : Str)) = false := by decide +kernel) : Go h0 o0 cs (uL M A (uU (.Name x pos) env) Q E) := fun s H => e8 H hp hL W hk hl hd (h s H)
theorem bw (hp : Has cs c (aO (some v)))
  (h : Go h0 o0 cs (Q v)) (hk : env.scope.kind = .function := by kernel_rfl!) (hl : env.kindOf x = some .cell := by kernel_rfl!) (hc : env.cells.lookup x = some c := by kernel_rfl!) (hd : (x == ("__debug__" : Str)) = false := by decide +kernel) : Go h0 o0 cs (uL (uM uX w) A (uU (.Name x pos) env) Q E) := fun s H => x_cell H hp hk hl hc hd (h s H)
theorem eY (W : dh h0 x v) (hk : env.scope.kind = .function) (hl : env.kindOf x = some .globalImplicit) (he : env.globals = tS) (hd : (x == ("__debug__" : Str)) = false)
  (h : Go h0 o0 cs (Q v)) : Go h0 o0 cs (uL M A (uU (.Name x pos) env) Q E) := fun s H => x_glob H W hk hl he hd (h s H)
theorem dg (W : cD h0 x v) (hk : env.scope.kind = .function) (hl : env.kindOf x = some .globalImplicit) (he : env.globals = tS) (hb : env.builtins = builtinsNs) (hd : (x == ("__debug__" : Str)) = false)
  (h : Go h0 o0 cs (Q v)) : Go h0 o0 cs (uL M A (uU (.Name x pos) env) Q E) := fun s H => x_blt H W hk hl he hb hd (h s H)
theorem aR (h : ∀ t, t ≠ 0 → Go h0 o0 cs (Q (.str x t))) : Go h0 o0 cs (uL M A (uU (.Constant (.str x) k pos) env) Q E) := fun s H => m9 H fun s' W e => h _ H.tok s' W
theorem aY (h : ∀ t, Go h0 o0 cs (Q (.int i t))) : Go h0 o0 cs (uL M A (uU (.Constant (.int i) k pos) env) Q E) := fun s H => x_int H fun t s' W e => h t s' W
theorem df (h : Go h0 o0 cs (Q .none)) : Go h0 o0 cs (uL M A (uU (.Constant .none k pos) env) Q E) := fun s H => wpAny_Constant_none (h s H)
theorem nV (h : Go h0 o0 cs (Q (.bool b))) : Go h0 o0 cs (uL M A (uU (.Constant (.bool b) k pos) env) Q E) := fun s H => wpAny_Constant_bool (h s H)
theorem aQ {x : Str} {L : uR} {m m' : List (Str × uN)} {v : uN} {Q : Unit → uF → Prop} (hp : Put cs L (cNs m) (cNs m') cs') (hs : SetN m x v m')
  (h : Go h0 o0 cs' (Q ())) (hL : env.locals = L := by kernel_rfl!) (hk : env.scope.kind = .function := by kernel_rfl!) (hl : env.kindOf x = some .local := by kernel_rfl!) : Go h0 o0 cs (uL M A (tX env x v) Q E) := fun s H => js H hp hL hs hk hl h
theorem il {x : Str} {c : uR} {v : uN} {u : Option uN} {Q : Unit → uF → Prop} (hp : Put cs c (aO u) (aO (some v)) cs') (hk : env.scope.kind = .function) (hl : env.kindOf x = some .cell) (hc : env.cells.lookup x = some c)
  (h : Go h0 o0 cs' (Q ())) : Go h0 o0 cs (uL (uM uX w) A (tX env x v) Q E) := fun s H => pD H hp hk hl hc h
theorem aG {e : Expr} {rest : List Expr} {pos : Pos} {Q : List uN → uF → Prop} (h : Go h0 o0 cs (uL M A (uU e env) (fun v => uL M A (spliced (uI pos (ue rest env))) (fun vs => Q (v :: vs)) E) E))
  (W : ue (e :: rest) env = (false, uU e env) :: ue rest env := by with_unfolding_all rfl) : Go h0 o0 cs (uL M A (spliced (uI pos (ue (e :: rest) env))) Q E) := fun s H => args_cons (h s H) W
theorem aJ {pos : Pos} {Q : List uN → uF → Prop} (h : Go h0 o0 cs (Q [])) : Go h0 o0 cs (uL M A (spliced (uI pos (ue [] env))) Q E) := fun s H => args_nil (h s H)
theorem bd (h : Go h0 o0 cs (uL M A (spliced (uI pos (ue elts env))) (fun vs => uL M A (newList vs) Q E) E)) : Go h0 o0 cs (uL M A (uU (.List elts pos) env) Q E) := fun s H => List_ (h s H)
theorem eh (h : Go h0 o0 cs (uL M A (spliced (uI pos (ue elts env))) (fun vs => uL M A (newTuple vs) Q E) E)) : Go h0 o0 cs (uL M A (uU (.Tuple elts k pos) env) Q E) := fun s H => Tuple_ (h s H)
theorem ba (h : ∀ a, Go h0 o0 ((a, aE vs) :: cs) (Q (.ref a))) (hz : vs.length ≤ ug := by exact Nat.le_of_ble_eq_true (by kernel_rfl!)) : Go h0 o0 cs (uL (uM uX w) A (newList vs) Q E) := fun s H => dF H hz fun a s' W _ => h a s' W
theorem ed (h : ∀ a, Go h0 o0 ((a, bn vs) :: cs) (Q (.ref a))) (hz : vs.length ≤ ug := by exact Nat.le_of_ble_eq_true (by kernel_rfl!)) : Go h0 o0 cs (uL (uM uX w) A (newTuple vs) Q E) := fun s H => gI H hz fun a s' W _ => h a s' W
theorem mT (h : ∀ d, Go h0 o0 ((d, aL uX w []) :: cs) (Q (.ref d))) : Go h0 o0 cs (uL (uM uX w) A (uU (.Dict [] [] pos) env) Q E) := fun s H => x_dict0 H fun d s' W => h d s' W
theorem bl (h : Go h0 o0 cs (uL M A (uU l env) (fun a => uL M A (uU r env) (fun b => uL M A (binaryOp op a b) Q E) E) E)) : Go h0 o0 cs (uL M A (uU (.BinOp l op r pos) env) Q E) := fun s H => wpAny_BinOp (h s H)
theorem rt (h : Go h0 o0 cs (uL M A (uU l env) (fun a => uL M A (uU r env) (fun b => uL M A (uc op a b) Q E) E) E)) (hm : behindInMarks op r = false) :
  Go h0 o0 cs (uL M A (uU (.Compare l [op] [r] pos) env) Q E) := fun s H => wpAny_Compare1 (h s H) hm
theorem eX (h : Go h0 o0 cs (uL M A (uU x env) (fun v => uL M A (unaryOp op v) Q E) E)) : Go h0 o0 cs (uL M A (uU (.UnaryOp op x pos) env) Q E) := fun s H => UnaryOp_ (h s H)
theorem cO (h : Go h0 o0 cs (uL M A (isTrue test env (uU test env)) (fun b => iU b (uL M A (uU body env) Q E) (uL M A (uU orelse env) Q E)) E)) :
  Go h0 o0 cs (uL M A (uU (.IfExp test body orelse pos) env) Q E) := fun s H => wpAny_IfExp (h s H)
theorem br (h : Go h0 o0 cs (uL M A (uU value env) (fun o => uL M A (uU slice env) (fun i => uL M A (subscriptTail value slice o i) Q E) E) E)) :
  Go h0 o0 cs (uL M A (uU (.Subscript value slice pos) env) Q E) := fun s H => Subscript_ (h s H)
theorem gj (h : Go h0 o0 cs (Q (.bool (!(v == .none))))) : Go h0 o0 cs (uL M A (uc .IsNot v .none) Q E) := fun s H => PySem.isNot_none (h s H)
theorem o_is (h : Go h0 o0 cs (Q (.bool (v == .none)))) : Go h0 o0 cs (uL M A (uc .Is v .none) Q E) := fun s H => PySem.is_none (h s H)
theorem g4 (h : Go h0 o0 cs (Q (.bool (x == y)))) : Go h0 o0 cs (uL (uM uX w) A (uc .Eq (.str x t) (.str y u)) Q E) := fun s H => x_eqstr (h s H)
theorem qE (h : Go h0 o0 cs (Q (.bool (x == y)))) : Go h0 o0 cs (uL (uM uX w) A (uc .Eq (.int x t) (.int y u)) Q E) := fun s H => PyProof.Rows.eq_int (h s H)
theorem cc (hz : x.length + y.length ≤ ug) (h : ∀ W, Go h0 o0 cs (Q (.str (x ++ y) W))) : Go h0 o0 cs (uL (uM uX w) A (binaryOp .Add (.str x t) (.str y u)) Q E) := fun s H => x_adds H hz fun W s' H' => h W s' H'
theorem mz (h : ∀ W, Go h0 o0 cs (Q (.int (a + b) W))) : Go h0 o0 cs (uL (uM uX w) A (binaryOp .Add (.int a t) (.int b u)) Q E) := fun s H => x_addi H fun W s' H' => h W s' H'
theorem eV (h : ∀ W, Go h0 o0 cs (Q (.int (-a) W))) : Go h0 o0 cs (uL (uM uX w) A (unaryOp .USub (.int a t)) Q E) := fun s H => x_neg H fun W s' H' => h W s' H'
theorem dW (h : Go h0 o0 cs (uL M A (uU (.Name x xp) env) (fun o => uL M A (getAttr o attr true) Q E) E))
  (W : uU (.Attribute (.Name x xp) attr pos) env = (do
   let o ← uU (.Name x xp) env
   standAt pos.atName
   let r ← holding [o] (getAttr o attr true)
   letTemporaryGo (.Name x xp) o r
   uT r)) : Go h0 o0 cs (uL M A (uU (.Attribute (.Name x xp) attr pos) env) Q E) := fun s H => Attribute_Name_ (h s H) W
end
def JK (M : Model) (A : uJ) (E : VP) (parts : List (Sem uN)) (acc : Str) (Q : Str → uF → Prop) : uN → uF → Prop := fun v s => ∃ y t, v = .str y t ∧ (acc ++ y).length ≤ ug ∧ Joins M A E parts (acc ++ y) Q s
def JE (h0 : uV) (Q : VP) : Str → uF → Prop := fun out s₁ => out.length ≤ ug ∧ ∃ o0 cs, St h0 o0 cs s₁ ∧ ∀ t' s', St h0 o0 cs s' → Q (.str out t') s'
def FK (h0 : uV) (Q : VP) : uN → uF → Prop := fun v s₁ => ∃ x t o0 cs, v = .str x t ∧ St h0 o0 cs s₁ ∧ x.length ≤ ug ∧ ∀ t' s', St h0 o0 cs s' → Q (.str x t') s'
noncomputable def RK (R : RP) : Flow → uF → Prop
 | .ret v => R (.ok (.ret v))
 | _ => R (.ok (.ret .none))
def CK (h0 : uV) (P : GP) : uF → Prop := fun s => (∃ o0 cs, St h0 o0 cs s) ∧ P s
def CW (h0 : uV) (bo l : uR) (id : String) (P : GP) : uF → Prop := fun s => ∃ o0 cs, St h0 o0 cs s ∧ Has cs bo (bO id l) ∧ P s
section
variable {M : Model} {cs cs' : aF} {K : Frag} {P P1 P2 : GP} {Q : VP}
theorem nU (h : Go h0 o0 cs (Joins (uM uX w) A E (evalEach (v₁ :: v₂ :: rest) env) tZ (JE h0 Q))) : Go h0 o0 cs (uL (uM uX w) A (uU (.JoinedStr (v₁ :: v₂ :: rest) pos) env) Q E) := fun s H => pK (h0 := h0) (h s H)
theorem cy {Q : Str → uF → Prop} (h : Go h0 o0 cs (uL M A (uU e env) (JK M A E (evalEach rest env) acc Q) E)) : Go h0 o0 cs (Joins M A E (evalEach (e :: rest) env) acc Q) := h
theorem nK {Q : Str → uF → Prop} (h : Go h0 o0 cs (Q acc)) : Go h0 o0 cs (Joins M A E (evalEach [] env) acc Q) := h
theorem dr {Q : Str → uF → Prop} (hz : (acc ++ y).length ≤ ug) (h : Go h0 o0 cs (Joins M A E parts (acc ++ y) Q)) : Go h0 o0 cs (JK M A E parts acc Q (.str y t)) := fun s H => ⟨y, t, rfl, hz, h s H⟩
theorem nM (hz : out.length ≤ ug) (h : ∀ t, Go h0 o0 cs (Q (.str out t))) : Go h0 o0 cs (JE h0 Q out) := fun s H => ⟨hz, o0, cs, H, fun t s' W => h t s' W⟩
theorem mS (h : Go h0 o0 cs (uL (uM uX w) A (uU value env) (FK h0 Q) E)) : Go h0 o0 cs (uL (uM uX w) A (uU (.FormattedValue value (-1) none pos) env) Q E) := fun s H => x_fv (h0 := h0) (h s H)
theorem ii (hz : x.length ≤ ug) (h : ∀ t, Go h0 o0 cs (Q (.str x t))) : Go h0 o0 cs (FK h0 Q (.str x t)) := fun s H => ⟨x, t, o0, cs, rfl, H, hz, fun t s' W => h t s' W⟩
theorem ck (h : Go h0 o0 cs P) : Go h0 o0 cs (CK h0 P) := fun s H => ⟨⟨o0, cs, H⟩, h s H⟩
theorem cw {bo l : uR} {id : String} (hb : Has cs bo (bO id l)) (h : Go h0 o0 cs P) : Go h0 o0 cs (CW h0 bo l id P) := fun s H => ⟨o0, cs, H, hb, h s H⟩
theorem bF (h : Go h0 o0 cs (uL M A (uU o env) (fun W => uL M A (ua W name pl) (fun fx => uL M A (ur pos fx.1 fx.2 (uI pos (ue args env)) []) Q E) E) E))
  (he : uU (.Call (.Attribute o name apos) args [] pos) env = (do
   let W ← uU o env
   standAt apos.atName
   let (f, first) ← holding [W] (ua W name pl)
   ur pos f first (uI pos (ue args env)) []) := by with_unfolding_all rfl) : Go h0 o0 cs (uL M A (uU (.Call (.Attribute o name apos) args [] pos) env) Q E) := fun s H => MethodCall_ (h s H) he
theorem bf (h : Go h0 o0 cs (uL M A (uU func env) (fun f => uL M A (ur pos f [] (uI pos (ue args env)) []) Q E) E))
  (W : uU (.Call func args [] pos) env = (do ur pos (← uU func env) [] (uI pos (ue args env)) (backToKw pos (keywordEach [] env))) := by with_unfolding_all rfl) : Go h0 o0 cs (uL M A (uU (.Call func args [] pos) env) Q E) := fun s H => Call_ (h s H) W
theorem dJ {pos : Pos} {id : String} {a : uN} {e : Expr} {rest : List Expr} (h : Go h0 o0 cs (uL M A (spliced (uI pos (ue (e :: rest) env))) (fun vs => uL M A (uW (.builtin id) (a :: vs)) Q E) E))
   (W : ue (e :: rest) env = (false, uU e env) :: ue rest env := by with_unfolding_all rfl) (hp : (uI pos (ue rest env)).any (·.1) = false := by with_unfolding_all rfl) : Go h0 o0 cs (uL M A (ur pos (.builtin id) [a] (uI pos (ue (e :: rest) env)) []) Q E) :=
 fun s H => callWith_method1 (h s H) W hp
theorem gq {pos : Pos} {id : String} {a : uN} (h : Go h0 o0 cs (uL M A (uW (.builtin id) [a]) Q E)) : Go h0 o0 cs (uL M A (ur pos (.builtin id) [a] (uI pos (ue [] env)) []) Q E) := fun s H => callWith_method0 (h s H)
theorem ki {pos : Pos} {id : String} {e : Expr} {rest : List Expr} (h : Go h0 o0 cs (uL M A (spliced (uI pos (ue (e :: rest) env))) (fun vs => uL M A (uW (.builtin id) vs) Q E) E))
  (W : ue (e :: rest) env = (false, uU e env) :: ue rest env) (hp : (uI pos (ue rest env)).any (·.1) = false) : Go h0 o0 cs (uL M A (ur pos (.builtin id) [] (uI pos (ue (e :: rest) env)) []) Q E) :=
 fun s H => callWith_method1 (first := []) (h s H) W hp
theorem c_ty (h : Go h0 o0 cs (uL M A (spliced (uI pos (ue (e :: rest) env))) (fun vs => uL M A (uW (.type T) vs) Q E) E))
  (W : ue (e :: rest) env = (false, uU e env) :: ue rest env) (hp : (uI pos (ue rest env)).any (·.1) = false) : Go h0 o0 cs (uL M A (ur pos (.type T) [] (uI pos (ue (e :: rest) env)) []) Q E) :=
 fun s H => PyProof.Rows.callWith_type1 (h s H) W hp
theorem c_ty0 (h : Go h0 o0 cs (uL M A (uW (.type T) []) Q E)) : Go h0 o0 cs (uL M A (ur pos (.type T) [] (uI pos (ue [] env)) []) Q E) := fun s H => callWith_type0 (h s H)
theorem lS (B : Base K h0) (hf : q9 K fa = true) (h : Go h0 o0 cs (uL (uM uX w) A (spliced (uI pos (ue (e :: rest) env))) (fun vs => CK h0 (uL (uM uX w) A (uW (.ref fa) vs) Q E)) E))
  (W : ue (e :: rest) env = (false, uU e env) :: ue rest env) : Go h0 o0 cs (uL (uM uX w) A (ur pos (.ref fa) [] (uI pos (ue (e :: rest) env)) []) Q E) := fun s H => x_callF B hf (h s H) W
theorem kg (B : Base K h0) (hk : keepIn K (.ref f) = true) (h : Go h0 o0 cs (uL (uM uX w) A (spliced (uI pos (ue (e :: rest) env))) (fun vs => CK h0 (uL (uM uX w) A (uW (.ref f) (a :: vs)) Q E)) E))
  (W : ue (e :: rest) env = (false, uU e env) :: ue rest env) (hp : (uI pos (ue rest env)).any (·.1) = false) : Go h0 o0 cs (uL (uM uX w) A (ur pos (.ref f) [a] (uI pos (ue (e :: rest) env)) []) Q E) := fun s H => nf (first := [a]) B hk (h s H) W hp
theorem rz (B : Base K h0) (hk : keepIn K (.ref f) = true) (h : Go h0 o0 cs (uL (uM uX w) A (uW (.ref f) [a]) Q E)) : Go h0 o0 cs (uL (uM uX w) A (ur pos (.ref f) [a] (uI pos (ue [] env)) []) Q E) := fun s H => pQ (first := [a]) B H hk (h s H)
theorem rB {pos : Pos} {bo l : uR} {id : String} {e : Expr} {rest : List Expr} (hb : Has cs bo (bO id l)) (h : Go h0 o0 cs (uL (uM uX w) A (spliced (uI pos (ue (e :: rest) env))) (fun vs => CW h0 bo l id (uL (uM uX w) A (uW (.ref bo) vs) Q E)) E))
  (W : ue (e :: rest) env = (false, uU e env) :: ue rest env) (hp : (uI pos (ue rest env)).any (·.1) = false) : Go h0 o0 cs (uL (uM uX w) A (ur pos (.ref bo) [] (uI pos (ue (e :: rest) env)) []) Q E) := fun s H => x_callW (first := []) H hb (h s H) W hp
theorem k_app (hb : Has cs b (bO "list.append" l)) (hp : Put cs l (aE xs) (aE (xs ++ [v])) cs') (hz : xs.length ≤ ug) (h : Go h0 o0 cs' (Q .none)) : Go h0 o0 cs (uL (uM uX w) A (uW (.ref b) [v]) Q E) := fun s H => jw H hb hp hz h
theorem jY (hp : Put cs l (aE xs) (aE (xs ++ [v])) cs') (hz : xs.length ≤ ug) (h : Go h0 o0 cs' (Q .none)) : Go h0 o0 cs (uL (uM uX w) A (uW (.builtin "list.append") [.ref l, v]) Q E) := fun s H => gK H hp hz h
theorem cI (hp : Put cs l (aE xs) (aE ys) cs') (e : xs ++ [v] = ys) (hz : xs.length ≤ ug) (h : Go h0 o0 cs' (Q .none)) : Go h0 o0 cs (uL (uM uX w) A (uW (.builtin "list.append") [.ref l, v]) Q E) := fun s H => gK H (e ▸ hp) hz h
variable {x dx C : uR} {m m' : List (Str × uN)} {name : Str}
theorem nQ (B : Base K h0) (W : Has cs x (be C dx)) (hd : Has cs dx (cAttrs m)) (hv : Look m name v) (ok : dR K C name = true) (hh : handedIn v = true) (h : Go h0 o0 cs (Q v)) : Go h0 o0 cs (uL (uM uX w) A (getAttr (.ref x) name expr) Q E) :=
 fun s H => pS B H W hd hv ok hh h
theorem ch {v : uN} {Q : Unit → uF → Prop} (B : Base K h0) (W : Has cs x (be C dx)) (hp : Put cs dx (cAttrs m) (cAttrs m') cs') (hs : SetN m name v m') (h : Go h0 o0 cs' (Q ())) (hz : m.length ≤ 900 := by exact Nat.le_of_ble_eq_true (by kernel_rfl!)) (ok : kW K C name = true := by exact st_ok (by decide +kernel)) : Go h0 o0 cs (uL (uM uX w) A (setAttr (.ref x) name v) Q E) :=
 fun s H => ou B H W hp hs hz ok h
theorem g_met {f : uR} {pl : Sem Bool} {Q : uN × List uN → uF → Prop} (B : Base K h0) (hx : Has cs x (be C dx)) (hd : Has cs dx (cAttrs m)) (W : m.lookup name = none) (ok : g8 K C name f = true) (h : Go h0 o0 cs (Q (.ref f, [.ref x]))) : Go h0 o0 cs (uL (uM uX w) A (ua (.ref x) name pl) Q E) :=
 fun s H => x_meth B H hx hd W ok (h s H)
theorem g_val {v : uN} {pl : Sem Bool} {Q : uN × List uN → uF → Prop} (B : Base K h0) (hx : Has cs x (be C dx)) (hd : Has cs dx (cAttrs m)) (hv : Look m name v) (ok : gC K C name = true) (W : dR K C name = true) (hh : handedIn v = true) (h : Go h0 o0 cs (Q (v, []))) :
  Go h0 o0 cs (uL (uM uX w) A (ua (.ref x) name pl) Q E) := fun s H => x_methV B H hx hd hv ok W hh h
theorem cS {id : String} {pl : Sem Bool} {l : uR} {xs : List uN} {Q : uN × List uN → uF → Prop} (W : Slot "list" name id) (h7 : typeOf (.builtin id) = uT (.type "method_descriptor")) (hl : Has cs l (aE xs)) (h : Go h0 o0 cs (Q (.builtin id, [.ref l]))) :
  Go h0 o0 cs (uL (uM uX w) A (ua (.ref l) name pl) Q E) := fun s H => x_lmeth W h7 H hl (h s H)
theorem g_dic {id : String} {pl : Sem Bool} {d : uR} {kvs : List (Str × uN)} {Q : uN × List uN → uF → Prop} (W : Slot "dict" name id) (h7 : typeOf (.builtin id) = uT (.type "method_descriptor")) (hd : Has cs d (aL uX w kvs)) (h : Go h0 o0 cs (Q (.builtin id, [.ref d]))) :
  Go h0 o0 cs (uL (uM uX w) A (ua (.ref d) name pl) Q E) := fun s H => x_dmeth W h7 H hd (h s H)
theorem cJ (B : Base K h0) (hf : fnOk K fa = true) (W : A.depth < ty)
  (h7 : ∀ s, K.In s.heap → BindsTo s (aZ K fa) ar m.reverse) (h9 : (m.all fun x => (aZ K fa).scope.names.lookup x.1 == some .local) = true)
  (h : ∀ L, Go h0 o0 ((L, cNs m) :: cs) (uL (uM uX w) (A.deeper (callEnv (aZ K fa) L fa)) (uP (a7 K fa) (callEnv (aZ K fa) L fa)) (RK R) NoE)) :
  Go h0 o0 cs (uD (uM uX w) A (.call (.ref fa) ar) R) := fun s H => x_fnB B H hf W (h7 s (B.X.keeps H.keep)) h9 fun L s' H' => af (h L s' H') (fun f x0 q => by cases f <;> exact q) fun _ _ q => q
theorem gr (h : Go h0 o0 cs (R (.ok (.ret v)))) : Go h0 o0 cs (RK R (.ret v)) := h
theorem iK (h : Go h0 o0 cs (R (.ok (.ret .none)))) : Go h0 o0 cs (RK R .next) := h
end
noncomputable abbrev KF (P : Params) : Frag := hd.heap_1 P
noncomputable abbrev cb : uR := 150
noncomputable abbrev rH : uR := 67
noncomputable abbrev e6 : uR := 75
noncomputable abbrev lX : uR := 90
noncomputable abbrev oh : uR := 97
noncomputable abbrev rG : uR := 98
noncomputable abbrev m4 : uR := 106
noncomputable abbrev aNs : uR := 113
noncomputable abbrev ky : uR := 120
noncomputable abbrev aN : uR := 126
noncomputable abbrev aEnd : uR := 133
noncomputable abbrev aCom : uR := 140
noncomputable abbrev aPi : uR := 147
noncomputable abbrev aCd : uR := 161
noncomputable abbrev aAt : uR := 168
noncomputable abbrev iT : uR := 185
noncomputable abbrev aKey : uR := 175
noncomputable abbrev og : uR := 180
noncomputable abbrev aMap : uR := 44
noncomputable abbrev tJoin : Tok := 437
noncomputable abbrev bG : uR := 123
noncomputable abbrev fO : uR := 125
noncomputable def atNames : List Str := [ud "_write", ud "_data", ud "_with_comments", ud "_strip_text", ud "_exclude_attrs", ud "_exclude_tags", ud "_rewrite_prefixes", ud "_qname_aware_tags", ud "_find_qname_aware_attrs", ud "_declared_ns_stack", ud "_ns_stack", ud "_prefix_map", ud "_preserve_space", ud "_pending_start", ud "_root_seen", ud "_root_done", ud "_ignored_depth"]
noncomputable def mtNames : List (Str × uR) := [(ud "_iter_namespaces", e6), (ud "_qname", lX), (ud "data", oh), (ud "_flush", m4), (ud "start_ns", aNs), (ud "start", ky), (ud "_start", aN), (ud "end", aEnd), (ud "comment", aCom), (ud "pi", aPi)]
theorem at_all (P : Params) : (atNames.all fun n => dR (KF P) cb n) = true := by kernel_rfl!
theorem st_all (P : Params) : (atNames.all fun n => kW (KF P) cb n) = true := by kernel_rfl!
theorem mt_all (P : Params) : (mtNames.all fun n => g8 (KF P) cb n.1 n.2) = true := by kernel_rfl!
theorem wr_meth (P : Params) : gC (KF P) cb (ud "_write") = true := by kernel_rfl!
theorem lU (h : atNames.contains n = true) : dR (KF P) cb n = true := sY.mp (at_all P) n (by simpa using h)
theorem st_ok (h : atNames.contains n = true) : kW (KF P) cb n = true := sY.mp (st_all P) n (by simpa using h)
theorem mt_ok (h : mtNames.contains (n, f) = true) : g8 (KF P) cb n f = true := sY.mp (mt_all P) (n, f) (by simpa using h)
theorem kp_all (P : Params) : (mtNames.all fun n => keepIn (KF P) (.ref n.2)) = true := by kernel_rfl!
theorem dS (h : (mtNames.map (·.2)).contains f = true) : keepIn (KF P) (.ref f) = true := by
 obtain ⟨q, W, rfl⟩ := tG.mp (show f ∈ mtNames.map (·.2) by simpa using h);exact sY.mp (kp_all P) q W
structure Pr where
 (a : uR) (u : Str) (ut : Tok) (p : Str) (pt : Tok)
structure Lv where
 (a : uR) (ps : List Pr)
noncomputable def Pr.v (q : Pr) : Str × Str := (q.u, q.p)
noncomputable def Lv.v (l : Lv) : List (Str × Str) := l.ps.map Pr.v
noncomputable def Pr.cell (q : Pr) : uR × cP := (q.a, bn [.str q.u q.ut, .str q.p q.pt])
noncomputable def Lv.refs (l : Lv) : List uN := l.ps.map fun q => .ref q.a
noncomputable def Lv.cells (l : Lv) : aF := (l.a, aE l.refs) :: l.ps.map Pr.cell
noncomputable def cG (ls : List Lv) : aF := ls.flatMap Lv.cells
structure Wid where
 (x dx W O D DS NS PM PS : uR)
@[reducible] noncomputable def Wid.et (_ : Wid) : uN := .none
@[reducible] noncomputable def Wid.ea (_ : Wid) : uN := .none
@[reducible] noncomputable def Wid.EC (_ : Wid) : aF := []
@[reducible] noncomputable def Wid.st (_ : Wid) : Bool := false
@[reducible] noncomputable def Wid.rw (_ : Wid) : Bool := false
structure d0 where
 (out data : List (Str × Tok)) (dl nl : List Lv) (pm : List (Str × Str × Tok)) (ps : List Bool) (rs rd : Bool) (ig : Nat) (ti : Tok)
noncomputable def cE (i : Wid) (t : d0) : List (Str × uN) :=
 [(ud "_write", .ref i.W), (ud "_data", .ref i.D), (ud "_with_comments", .bool false), (ud "_strip_text", .bool false), (ud "_exclude_attrs", .none), (ud "_exclude_tags", .none), (ud "_rewrite_prefixes", .bool false),
 (ud "_qname_aware_tags", .none), (ud "_find_qname_aware_attrs", .none), (ud "_declared_ns_stack", .ref i.DS), (ud "_ns_stack", .ref i.NS), (ud "_prefix_map", .ref i.PM), (ud "_preserve_space", .ref i.PS), (ud "_pending_start", .none),
 (ud "_root_seen", .bool t.rs), (ud "_root_done", .bool t.rd), (ud "_ignored_depth", .int t.ig t.ti)]
noncomputable def bH (l : List (Str × Str × Tok)) : List (Str × uN) := l.map fun p => (p.1, .str p.2.1 p.2.2)
noncomputable def wr (uX : uy) (w : uQ) (i : Wid) (t : d0) (V : aF) : aF :=
 (i.x, be cb i.dx) :: (i.dx, cAttrs (cE i t)) :: (i.W, bO "list.append" i.O) :: (i.O, aE (tv t.out)) :: (i.D, aE (tv t.data)) :: (i.DS, aE (t.dl.map fun l => .ref l.a)) :: (i.NS, aE (t.nl.map fun l => .ref l.a)) ::
  (i.PM, aL uX w (bH t.pm)) :: (i.PS, aE (t.ps.map uN.bool)) :: (cG t.dl ++ (cG t.nl ++ V))
section
variable {M : Model} {cs cs' V X Y : aF} {K : Frag} {P : GP} {i : Wid} {t : d0}
theorem nG : m.lookup x = some v → Look m x v := by
 induction m with
 | nil => intro h; cases h
 | cons p r ih =>
  intro h;obtain ⟨y, u⟩ := p;rw [sR] at h;cases e : x == y with
  | true => rw [e] at h; cases h; rw [beq_iff_eq.mp e]; exact .here
  | false => rw [e] at h; exact .there e (ih h)
theorem kN : Look (cE i t) (ud "_write") (.ref i.W) := nG rfl
theorem ew : Look (cE i t) (ud "_data") (.ref i.D) := nG rfl
theorem tg_st : Look (cE i t) (ud "_strip_text") (.bool false) := nG rfl
theorem tg_ea : Look (cE i t) (ud "_exclude_attrs") .none := nG rfl
theorem tg_et : Look (cE i t) (ud "_exclude_tags") .none := nG rfl
theorem tg_rw : Look (cE i t) (ud "_rewrite_prefixes") (.bool false) := nG rfl
theorem tg_qt : Look (cE i t) (ud "_qname_aware_tags") .none := nG rfl
theorem tg_qa : Look (cE i t) (ud "_find_qname_aware_attrs") .none := nG rfl
theorem no : Look (cE i t) (ud "_declared_ns_stack") (.ref i.DS) := nG rfl
theorem nj : Look (cE i t) (ud "_ns_stack") (.ref i.NS) := nG rfl
theorem kO : Look (cE i t) (ud "_preserve_space") (.ref i.PS) := nG rfl
theorem tg_pe : Look (cE i t) (ud "_pending_start") .none := nG rfl
theorem tg_rs : Look (cE i t) (ud "_root_seen") (.bool t.rs) := nG rfl
theorem nn : Look (cE i t) (ud "_ignored_depth") (.int t.ig t.ti) := nG rfl
noncomputable def repl : List (Str × uN) → Str → uN → List (Str × uN)
 | [], x, v => [(x, v)]
 | (y, u) :: r, x, v => if x == y then (x, v) :: r else (y, u) :: repl r x v
theorem sn : ∀ {m : List (Str × uN)} {x : Str} {v : uN} {m' : List (Str × uN)}, repl m x v = m' → SetN m x v m'
 | [], x, v, _, rfl => .new
 | (y, u) :: r, x, v, _, rfl => by
  unfold repl;cases e : x == y with
  | true => rw [beq_iff_eq.mp e]; simp only [if_true]; exact .here
  | false => simp only [sA, if_false]; exact .there e (sn rfl)
theorem oK (b : Bool) : SetN (cE i t) (ud "_root_seen") (.bool b) (cE i { t with rs := b }) := sn (by kernel_rfl!)
theorem oL (b : Bool) : SetN (cE i t) (ud "_root_done") (.bool b) (cE i { t with rd := b }) := sn (by kernel_rfl!)
theorem oM (n : Nat) (u : Tok) : SetN (cE i t) (ud "_ignored_depth") (.int n u) (cE i { t with ig := n, ti := u }) := sn (by kernel_rfl!)
theorem me : (cE i t).length ≤ 900 := by show 17 ≤ 900; exact om0 49134902565384 0
theorem tg_no (h : (mtNames.map (·.1)).contains n = true) : (cE i t).lookup n = none := by
 have : ∀ n ∈ mtNames.map (·.1), (cE i t).lookup n = none := by
  intro n W;simp only [mtNames, az, tJ, tB, List.not_mem_nil, or_false] at W;rcases W with rfl | rfl | rfl | rfl | rfl | rfl | rfl | rfl | rfl | rfl <;> kernel_rfl!
 exact this n (by simpa using h)
theorem bu : Has (wr uX w i t V) i.x (be cb i.dx) := .here
theorem a6 : Has (wr uX w i t V) i.dx (cAttrs (cE i t)) := .h1
theorem e9 : Has (wr uX w i t V) i.W (bO "list.append" i.O) := .h2
theorem wr_O : Has (wr uX w i t V) i.O (aE (tv t.out)) := .h3
theorem pV : Has (wr uX w i t V) i.D (aE (tv t.data)) := .h4
theorem ni : Has (wr uX w i t V) i.DS (aE (t.dl.map fun l => .ref l.a)) := .h5
theorem nh : Has (wr uX w i t V) i.NS (aE (t.nl.map fun l => .ref l.a)) := .h6
theorem kJ : Has (wr uX w i t V) i.PS (aE (t.ps.map uN.bool)) := .t6 .h2
theorem fw (h : Has (cG t.dl ++ (cG t.nl ++ V)) a c) : Has (wr uX w i t V) a c := .t6 (.t3 h)
theorem d5 (h : Has V a c) : Has (wr uX w i t V) a c := fw (.skip (.skip h))
theorem qu (o : List (Str × Tok)) : Put (wr uX w i t V) i.O (aE (tv t.out)) (aE (tv o)) (wr uX w i { t with out := o } V) := .h3
theorem pw_D (d : List (Str × Tok)) : Put (wr uX w i t V) i.D (aE (tv t.data)) (aE (tv d)) (wr uX w i { t with data := d } V) := .h4
theorem pw_PS (d : List Bool) : Put (wr uX w i t V) i.PS (aE (t.ps.map uN.bool)) (aE (d.map uN.bool)) (wr uX w i { t with ps := d } V) := .t6 .h2
theorem pw_rs (b : Bool) : Put (wr uX w i t V) i.dx (cAttrs (cE i t)) (cAttrs (cE i { t with rs := b })) (wr uX w i { t with rs := b } V) := .h1
theorem pw_rd (b : Bool) : Put (wr uX w i t V) i.dx (cAttrs (cE i t)) (cAttrs (cE i { t with rd := b })) (wr uX w i { t with rd := b } V) := .h1
theorem pw_ig (n : Nat) (u : Tok) : Put (wr uX w i t V) i.dx (cAttrs (cE i t)) (cAttrs (cE i { t with ig := n, ti := u })) (wr uX w i { t with ig := n, ti := u } V) := .h1
theorem bN : wr uX w i t (X ++ V) = wr uX w i t X ++ V := by unfold wr; simp only [sN, av]
theorem eR : wr uX w i t V = wr uX w i t [] ++ V := by rw [← bN]; rfl
theorem wr_in : (X ++ wr uX w i t V).Perm (wr uX w i t (X ++ V)) := by
 rw [eR, eR (V := X ++ V), ← av, ← av];exact tY.append_right _ List.perm_append_comm
theorem Go.wIn (X : aF) (h : Go h0 o0 (wr uX w i t (X ++ V)) P) : Go h0 o0 (X ++ wr uX w i t V) P := Go.perm wr_in h
theorem Go.wOut (h : Go h0 o0 (X ++ wr uX w i t V) P) : Go h0 o0 (wr uX w i t (X ++ V)) P := Go.perm wr_in.symm h
theorem gy (h : l ∈ t.dl) : Has (wr uX w i t V) l.a (aE l.refs) := by
 refine fw (Has.app (Has.of_mem ?_));exact sV.mpr ⟨l, h, aB⟩
theorem ng (h : l ∈ t.nl) : Has (wr uX w i t V) l.a (aE l.refs) := by
 refine fw (.skip (Has.app (Has.of_mem ?_)));exact sV.mpr ⟨l, h, aB⟩
theorem pU (h : l ∈ t.dl) (W : q ∈ l.ps) : Has (wr uX w i t V) q.a (bn [.str q.u q.ut, .str q.p q.pt]) := by
 refine fw (Has.app (Has.of_mem ?_));exact sV.mpr ⟨l, h, au _ (tG.mpr ⟨q, W, rfl⟩)⟩
theorem wr_prN (h : l ∈ t.nl) (W : q ∈ l.ps) : Has (wr uX w i t V) q.a (bn [.str q.u q.ut, .str q.p q.pt]) := by
 refine fw (.skip (Has.app (Has.of_mem ?_)));exact sV.mpr ⟨l, h, au _ (tG.mpr ⟨q, W, rfl⟩)⟩
end
section
variable {M : Model} {cs cs' V X Y : aF} {K : Frag} {P P1 P2 : GP} {i : Wid} {t : d0} {Q : VP}
theorem ifNF (h : Go h0 o0 cs P1) : Go h0 o0 cs (iU (!false) P1 P2) := lW h
theorem ifNT (h : Go h0 o0 cs P2) : Go h0 o0 cs (iU (!true) P1 P2) := eW h
theorem lE (h : Go h0 o0 cs P2) : Go h0 o0 cs (iU (!(uN.none == uN.none)) P1 P2) := eW h
theorem ifEN (h : Go h0 o0 cs P1) : Go h0 o0 cs (iU (uN.none == uN.none) P1 P2) := lW h
theorem lC (h : Go h0 o0 cs (iU b P2 P1)) : Go h0 o0 cs (iU (!b) P1 P2) := by cases b with
 | true => exact eW (fun s H => by have := h s H; rwa [iU, if_pos rfl] at this)
 | false => exact lW (fun s H => by have := h s H; rwa [iU, if_neg (by decide)] at this)
theorem cz (h : Go h0 o0 cs (uD (uM uX w) A (.call f ⟨vs, []⟩) (wants Q E))) : Go h0 o0 cs (uL (uM uX w) A (uW f vs) Q E) := fun s H => wpAny_call (h s H)
theorem cW (B : Base (KF w.params) h0) (hp : Has cs L (cNs m)) (hs : Look m (ud "self") (.ref i.x))
  (W : Has cs i.x (be cb i.dx)) (hd : Has cs i.dx (cAttrs (cE i t))) (hv : Look (cE i t) name v)
  (h : Go h0 o0 cs (Q v)) (hL : env.locals = L := by kernel_rfl!) (hk : env.scope.kind = .function := by kernel_rfl!) (hl : env.kindOf (ud "self") = some .local := by kernel_rfl!) (ok : atNames.contains name = true := by decide +kernel) (hh : handedIn v = true := by kernel_rfl!) (he : uU (.Attribute (.Name (ud "self") xp) name pos) env = (do
   let o ← uU (.Name (ud "self") xp) env
   standAt pos.atName
   let r ← holding [o] (getAttr o name true)
   letTemporaryGo (.Name (ud "self") xp) o r
   uT r) := by with_unfolding_all rfl) : Go h0 o0 cs (uL (uM uX w) A (uU (.Attribute (.Name (ud "self") xp) name pos) env) Q E) :=
 dW (aI hp (hL := hL) hs (hk := hk) (hl := hl) (nQ B W hd hv (lU ok) hh h)) he
theorem lF {name : Str} {f : uR} {pl : Sem Bool} {Q : uN × List uN → uF → Prop} (B : Base (KF w.params) h0) (W : Has cs i.x (be cb i.dx)) (hd : Has cs i.dx (cAttrs (cE i t))) (ok : mtNames.contains (name, f) = true) (h : Go h0 o0 cs (Q (.ref f, [.ref i.x]))) :
  Go h0 o0 cs (uL (uM uX w) A (ua (.ref i.x) name pl) Q E) :=
 g_met B W hd (tg_no (by
  have : (name, f) ∈ mtNames := by simpa using ok
  simpa using aA (f := uo) this)) (mt_ok ok) h
theorem j9 {pl : Sem Bool} {Q : uN × List uN → uF → Prop} (B : Base (KF w.params) h0) (W : Has cs i.x (be cb i.dx)) (hd : Has cs i.dx (cAttrs (cE i t))) (h : Go h0 o0 cs (Q (.ref m4, [.ref i.x]))) : Go h0 o0 cs (uL (uM uX w) A (ua (.ref i.x) (ud "_flush") pl) Q E) := lF B W hd (by decide +kernel) h
theorem g_qn {pl : Sem Bool} {Q : uN × List uN → uF → Prop} (B : Base (KF w.params) h0) (W : Has cs i.x (be cb i.dx)) (hd : Has cs i.dx (cAttrs (cE i t))) (h : Go h0 o0 cs (Q (.ref lX, [.ref i.x]))) : Go h0 o0 cs (uL (uM uX w) A (ua (.ref i.x) (ud "_qname") pl) Q E) := lF B W hd (by decide +kernel) h
theorem re {pl : Sem Bool} {Q : uN × List uN → uF → Prop} (B : Base (KF w.params) h0) (W : Has cs i.x (be cb i.dx)) (hd : Has cs i.dx (cAttrs (cE i t))) (h : Go h0 o0 cs (Q (.ref aN, [.ref i.x]))) : Go h0 o0 cs (uL (uM uX w) A (ua (.ref i.x) (ud "_start") pl) Q E) := lF B W hd (by decide +kernel) h
theorem rl {pl : Sem Bool} {Q : uN × List uN → uF → Prop} (B : Base (KF w.params) h0) (W : Has cs i.x (be cb i.dx)) (hd : Has cs i.dx (cAttrs (cE i t))) (h : Go h0 o0 cs (Q (.ref e6, [.ref i.x]))) : Go h0 o0 cs (uL (uM uX w) A (ua (.ref i.x) (ud "_iter_namespaces") pl) Q E) := lF B W hd (by decide +kernel) h
theorem rh {pl : Sem Bool} {Q : uN × List uN → uF → Prop} (B : Base (KF w.params) h0) (W : Has cs i.x (be cb i.dx)) (hd : Has cs i.dx (cAttrs (cE i t))) (h : Go h0 o0 cs (Q (.ref ky, [.ref i.x]))) : Go h0 o0 cs (uL (uM uX w) A (ua (.ref i.x) (ud "start") pl) Q E) := lF B W hd (by decide +kernel) h
theorem ri {pl : Sem Bool} {Q : uN × List uN → uF → Prop} (B : Base (KF w.params) h0) (W : Has cs i.x (be cb i.dx)) (hd : Has cs i.dx (cAttrs (cE i t))) (h : Go h0 o0 cs (Q (.ref aEnd, [.ref i.x]))) : Go h0 o0 cs (uL (uM uX w) A (ua (.ref i.x) (ud "end") pl) Q E) := lF B W hd (by decide +kernel) h
theorem g_mdata {pl : Sem Bool} {Q : uN × List uN → uF → Prop} (B : Base (KF w.params) h0) (W : Has cs i.x (be cb i.dx)) (hd : Has cs i.dx (cAttrs (cE i t))) (h : Go h0 o0 cs (Q (.ref oh, [.ref i.x]))) : Go h0 o0 cs (uL (uM uX w) A (ua (.ref i.x) (ud "data") pl) Q E) := lF B W hd (by decide +kernel) h
theorem g_mns {pl : Sem Bool} {Q : uN × List uN → uF → Prop} (B : Base (KF w.params) h0) (W : Has cs i.x (be cb i.dx)) (hd : Has cs i.dx (cAttrs (cE i t))) (h : Go h0 o0 cs (Q (.ref aNs, [.ref i.x]))) : Go h0 o0 cs (uL (uM uX w) A (ua (.ref i.x) (ud "start_ns") pl) Q E) := lF B W hd (by decide +kernel) h
theorem g_wr {pl : Sem Bool} {Q : uN × List uN → uF → Prop} (B : Base (KF w.params) h0) (hx : Has cs i.x (be cb i.dx)) (hd : Has cs i.dx (cAttrs (cE i t))) (h : Go h0 o0 cs (Q (.ref i.W, []))) :
  Go h0 o0 cs (uL (uM uX w) A (ua (.ref i.x) (ud "_write") pl) Q E) := g_val B hx hd kN (wr_meth _) (lU (by decide +kernel)) rfl h
theorem ly (hz : t.out.length ≤ 1000000) (hb : Has cs i.W (bO "list.append" i.O)) (hp : Put cs i.O (aE (tv t.out)) (aE (tv (t.out ++ [(x, u)]))) cs') (h : Go h0 o0 cs' (Q .none)) : Go h0 o0 cs (uL (uM uX w) A (uW (.ref i.W) [.str x u]) Q E) := by
 refine k_app hb (xs := tv t.out) ?_ (by rw [ak, aj]; exact oq4 hz) h;rw [show tv t.out ++ [uN.str x u] = tv (t.out ++ [(x, u)]) from by simp [tv]];exact hp
end
section
variable {cs cs' V X Y : aF} {i : Wid} {t : d0} {Q : VP}
theorem c_data (B : Base (KF w.params) h0) (W : A.depth < ty) (hz : t.data.length ≤ 1000000)
  (h : Go h0 o0 (wr uX w i (if t.ig = 0 then { t with data := t.data ++ [(x, u)] } else t) V) (R (.ok (.ret .none)))) : Go h0 o0 (wr uX w i t V) (uD (uM uX w) A (.call (.ref oh) ⟨[.ref i.x, .str x u], []⟩) R) := by
 refine cJ (m := [(ud "data", .str x u), (ud "self", .ref i.x)]) B (by kernel_rfl!) W (fun s X => by with_reducible refine kp_binds X ?_; intro S; kernel_rfl!) (by kernel_rfl!) fun L => ?_
 refine aH ?_;with_reducible refine b9 (nq (bK ?_)); refine cW (by assumption) .here .i1 (.there bu) (.there a6) nn ?_; refine qc ?_
 refine lC (dT (fun hb => ?_) fun hb => ?_)
 ·rw [if_neg (by simpa using hb)] at h;with_reducible refine aV (aM (aV (iK ?_)))
  exact Go.sl (.tail (.there .refl))
 ·rw [if_pos (by simpa using hb)] at h;with_reducible refine aH (bq (bF ?_)); refine cW (by assumption) .here .i1 (.there bu) (.there a6) ew ?_; refine cS PySem.F.slot_list_append PySem.F.type_list_append (.there pV) (dJ (aG (aI .here .here (aJ ?_)))); refine cI (.there (pw_D (t.data ++ [(x, u)]))) (by simp [tv]) (by simp only [tv, ak, sO, aw, tf, r7, aj]; apply aP; with_reducible assumption; decide) ?_; refine aM (aV (aM (aV (iK ?_))))
  exact Go.sl (.tail (.there .refl))
end
def DK (h0 : uV) (o0 : uF) (P : GP) : uN → uF → Prop := fun o s₁ => ∃ l xs cs cs', o = .ref l ∧ St h0 o0 cs s₁ ∧ Put cs l (aE xs) (aE []) cs' ∧ xs.length ≤ ug ∧ ∀ s', St h0 o0 cs' s' → P s'
section
variable {M : Model} {cs cs' V X Y : aF} {K : Frag} {P P1 P2 : GP} {i : Wid} {t : d0} {Q : VP}
theorem s_del {e : Expr} {p pos pos2 : Pos} {Q : FP} (h : Go h0 o0 cs (uL (uM uX w) A (uU e env) (DK h0 o0 (Q .next)) E)) : Go h0 o0 cs (uL (uM uX w) A (exec (.Delete [.Subscript e (.Slice none none none p) pos] pos2) env) Q E) := fun s H => x_delSt (h0 := h0) (o0 := o0) (h s H)
theorem dk (hp : Put cs l (aE xs) (aE []) cs') (hz : xs.length ≤ ug) (h : Go h0 o0 cs' P) : Go h0 o0 cs (DK h0 o0 P (.ref l)) := fun s H => ⟨l, xs, cs, cs', rfl, H, hp, hz, h⟩
theorem c_hv {pos : Pos} {bo : uR} {id : String} {v : uN} {e : Expr} {rest : List Expr} (ho : h0.get? bo = some { cls := .type "builtin_function_or_method", data := .fields #[.builtin id, v] })
  (h : Go h0 o0 cs (uL (uM uX w) A (spliced (uI pos (ue (e :: rest) env))) (fun vs => CK h0 (uL (uM uX w) A (uW (.ref bo) vs) Q E)) E))
  (he : ue (e :: rest) env = (false, uU e env) :: ue rest env) (W : (uI pos (ue rest env)).any (·.1) = false) : Go h0 o0 cs (uL (uM uX w) A (ur pos (.ref bo) [] (uI pos (ue (e :: rest) env)) []) Q E) := fun s H => x_callH (first := []) ho (h s H) he W
theorem k_join {b : uR} {x : Str} {t : Tok} {D : uR} {l : List (Str × Tok)} (hb : h0.get? b = some { cls := .type "builtin_function_or_method", data := .fields #[.builtin "str.join", .str x t] }) (hl : Has cs D (aE (strValues l))) (W : JoinOk x (l.map (·.1)) = true)
  (h : ∀ t', Go h0 o0 cs (Q (.str (Txt.join x (l.map (·.1))) t'))) : Go h0 o0 cs (uL (uM uX w) A (uW (.ref b) [.ref D]) Q E) := fun s H => ma H hb hl W fun t' s' H' => h t' s' H'
theorem fk (hl : Has cs l (aE xs)) (e : xs = ys ++ [v]) (hs : subscripted slice false (.ref l) (.int (-1) u) = operate [.ref l, .int (-1) u] (getItem (.ref l) (.int (-1) u))) (h : Go h0 o0 cs (Q v)) :
  Go h0 o0 cs (uL (uM uX w) A (subscriptTail value slice (.ref l) (.int (-1) u)) Q E) := fun s H => x_last (ys := ys) H (e ▸ hl) hs (h s H)
theorem s_try {body : List Stmt} {x : ExceptHandler} {hs : List ExceptHandler} {pos : Pos} {Q : FP} (h : Go h0 o0 cs (uL (uM uX w) A (uP body env) Q NoE)) : Go h0 o0 cs (uL (uM uX w) A (exec (.Try body (x :: hs) [] [] pos) env) Q E) := fun s H => x_try (h s H) fun _ => .inr trivial
theorem eS {x c r txt : Str} {t : Tok} {L : uR} {k1 k2 k3 : Nat} {p1 p2 p3 p4 p5 p6 p7 p8 p9 p10 p11 : Pos} {Q : FP} (hL : env.locals = L) (hk : env.scope.kind = .function) (hl : env.kindOf x = some .local) (hd : (x == ("__debug__" : Str)) = false)
  (hb : txt.length + (txt.length + 1) * r.length ≤ 16777216) (h7 : (c == r) = false) (W : (p6.endLine == p9.line) = true) (h : ∀ t', Go h0 o0 ((L, cNs [(x, .str (Txt.replace txt c r) t')]) :: cs) (Q .next)) :
  Go h0 o0 ((L, cNs [(x, .str txt t)]) :: cs) (uL (uM uX w) A (exec (.If (.Compare (.Constant (.str c) k1 p1) [.In] [.Name x p2] p3)
   [.Assign [.Name x p4] (.Call (.Attribute (.Name x p5) (ud "replace") p6) [.Constant (.str c) k2 p7, .Constant (.str r) k3 p8] [] p9) p10] [] p11) env) Q E) := fun s H => x_escIf H hL hk hl hd hb h7 W fun t' s' H' => h t' s' H'
end
noncomputable def gW (x : Str) (a b : String) : Str := Txt.replace x (ud a) (ud b)
noncomputable def cdF (x : Str) : Str := gW (gW (gW (gW x "&" "&amp;") "<" "&lt;") ">" "&gt;") "\r" "&#xD;"
noncomputable def iC (x : Str) : Str := gW (gW (gW (gW (gW (gW x "&" "&amp;") "<" "&lt;") "\"" "&quot;") "\t" "&#x9;") "\n" "&#xA;") "\r" "&#xD;"
theorem dj (ha : 1 ≤ (ud a).length) (hb : (ud b).length + 1 ≤ k) (W : x.length ≤ n) : (gW x a b).length ≤ n * k :=
 tH (kZ _ _ _ ha) (Nat.mul_le_mul W hb)
section
variable {cs cs' V X Y : aF} {i : Wid} {t : d0} {Q : VP}
theorem c_cd (B : Base (KF w.params) h0) (h7 : A.depth < ty) (W : txt.length ≤ 3000) (h : ∀ t', Go h0 o0 cs (Q (.str (cdF txt) t'))) : Go h0 o0 cs (uL (uM uX w) A (uW (.ref aCd) [.str txt u]) Q E) := by
 have h1 := dj (a := "&") (b := "&amp;") (k := 6) (by decide +kernel) (by decide +kernel) W;have h2 := dj (a := "<") (b := "&lt;") (k := 5) (by decide +kernel) (by decide +kernel) h1;have h3 := dj (a := ">") (b := "&gt;") (k := 5) (by decide +kernel) (by decide +kernel) h2;have b1 : (ud "&amp;").length = 5 := by decide +kernel
 have b2 : (ud "&lt;").length = 4 := by decide +kernel
 have b3 : (ud "&gt;").length = 4 := by decide +kernel
 have b4 : (ud "&#xD;").length = 5 := by decide +kernel
 refine cz (cJ (m := [(ud "text", .str txt u)]) B (by kernel_rfl!) h7 (fun s X => by with_reducible refine kp_binds X ?_; intro S; kernel_rfl!) (by kernel_rfl!) fun L => ?_);refine aH (s_try (aH ?_));refine eS (by kernel_rfl!) (by kernel_rfl!) (by kernel_rfl!) (by decide +kernel) (by rw [b1]; (exact (bD 0x96324bea7fcd2a92daa0c94f110002a8be9ec 38188) W)) (by decide +kernel) rfl fun t1 => aM (aH ?_)
 refine eS (by kernel_rfl!) (by kernel_rfl!) (by kernel_rfl!) (by decide +kernel) (by rw [b2]; unfold gW at h1; (exact (bD 0x5a8f222c77af354d69e2e1e0ef0d6244d5e569fcc 38187) h1)) (by decide +kernel) rfl fun t2 => aM (aH ?_)
 refine eS (by kernel_rfl!) (by kernel_rfl!) (by kernel_rfl!) (by decide +kernel) (by rw [b3]; unfold gW at h2; (exact (bD 0x365d2320cdf6413e4b359d7d8099e9047c20fde569fcc 38187) h2)) (by decide +kernel) rfl fun t3 => aM (aH ?_)
 refine eS (by kernel_rfl!) (by kernel_rfl!) (by kernel_rfl!) (by decide +kernel) (by rw [b4]; unfold gW at h3; (exact (bD 0x209a8b86c02faa9fd959b568707e604362beccfe3e10be9ec 38188) h3)) (by decide +kernel) rfl fun t4 => aM (aH ?_)
 have h := h t4;with_reducible refine fC (aI .here .here (di (di (gr ?_))))
 exact fun s H => h s H.tail
theorem c_at (B : Base (KF w.params) h0) (h7 : A.depth < ty) (W : txt.length ≤ 100) (h : ∀ t', Go h0 o0 cs (Q (.str (iC txt) t'))) : Go h0 o0 cs (uL (uM uX w) A (uW (.ref aAt) [.str txt u]) Q E) := by
 have h1 := dj (a := "&") (b := "&amp;") (k := 6) (by decide +kernel) (by decide +kernel) W;have h2 := dj (a := "<") (b := "&lt;") (k := 5) (by decide +kernel) (by decide +kernel) h1;have h3 := dj (a := "\"") (b := "&quot;") (k := 7) (by decide +kernel) (by decide +kernel) h2;have h4 := dj (a := "\t") (b := "&#x9;") (k := 6) (by decide +kernel) (by decide +kernel) h3;have h5 := dj (a := "\n") (b := "&#xA;") (k := 6) (by decide +kernel) (by decide +kernel) h4;have b1 : (ud "&amp;").length = 5 := by decide +kernel
 have b2 : (ud "&lt;").length = 4 := by decide +kernel
 have b3 : (ud "&quot;").length = 6 := by decide +kernel
 have b4 : (ud "&#x9;").length = 5 := by decide +kernel
 have b5 : (ud "&#xA;").length = 5 := by decide +kernel
 have b6 : (ud "&#xD;").length = 5 := by decide +kernel
 refine cz (cJ (m := [(ud "text", .str txt u)]) B (by kernel_rfl!) h7 (fun s X => by with_reducible refine kp_binds X ?_; intro S; kernel_rfl!) (by kernel_rfl!) fun L => ?_);refine aH (s_try (aH ?_));refine eS (by kernel_rfl!) (by kernel_rfl!) (by kernel_rfl!) (by decide +kernel) (by rw [b1]; (exact (bD 0x21495df7b5a088288a28ea1f56b288be9ec 38188) W)) (by decide +kernel) rfl fun t1 => aM (aH ?_)
 refine eS (by kernel_rfl!) (by kernel_rfl!) (by kernel_rfl!) (by decide +kernel) (by rw [b2]; unfold gW at h1; (exact (bD 0x1411d538928d347c73c081bf4dc47855e569fcc 38187) h1)) (by decide +kernel) rfl fun t2 => aM (aH ?_)
 refine eS (by kernel_rfl!) (by kernel_rfl!) (by kernel_rfl!) (by decide +kernel) (by rw [b3]; unfold gW at h2; (exact (bD 0xc09feefa7ff63f2defc0dcbb77fbdd0ac203c1340c 38189) h2)) (by decide +kernel) rfl fun t3 => aM (aH ?_)
 refine eS (by kernel_rfl!) (by kernel_rfl!) (by kernel_rfl!) (by decide +kernel) (by rw [b4]; unfold gW at h3; (exact (bD 0x7387c405f494d570d9338d48bb6feb33b046db010be9ec 38188) h3)) (by decide +kernel) rfl fun t4 => aM (aH ?_)
 refine eS (by kernel_rfl!) (by kernel_rfl!) (by kernel_rfl!) (by decide +kernel) (by rw [b5]; unfold gW at h4; (exact (bD 0x4548f664deabda92dea5911a7f9dbd70c5fd37a113010be9ec 38188) h4)) (by decide +kernel) rfl fun t5 => aM (aH ?_)
 refine eS (by kernel_rfl!) (by kernel_rfl!) (by kernel_rfl!) (by decide +kernel) (by rw [b6]; unfold gW at h5; (exact (bD 0x298d6a04a0c82d42dd0844904aa00af950a772f20b06d3010be9ec 38188) h5)) (by decide +kernel) rfl fun t6 => aM (aH ?_)
 have h := h t6;with_reducible refine fC (aI .here .here (di (di (gr ?_))))
 exact fun s H => h s H.tail
noncomputable def tot (l : List (Str × Tok)) : Nat := (l.map fun p => p.1.length).sum
noncomputable def cC (l : List Str) : Str := Txt.join (ud "") l
theorem lJ (k : Nat) : ∀ (l : List Str) (a : Nat), l.foldl (fun n y => n + y.length + 0) a = a + (l.map (·.length)).sum
 | [], a => by simp
 | y :: l, a => by rw [List.foldl_cons, lJ k l, az, List.sum_cons]; (exact bZ 0x10b5f3eee9673ff5d022 0)
theorem jZ (h : tot l ≤ ug) : JoinOk (ud "") (l.map (·.1)) = true := by
 have e : (ud "").length = 0 := by decide +kernel
 unfold JoinOk uv.Str.tooLong;rw [List.foldl_toArray, e, lJ 0, tI];have : (0 + (l.map (Str.length ∘ fun x => x.1)).sum) ≤ ug := by rw [Nat.zero_add]; exact h
 simpa using this
theorem q0 : ∀ l : List (List Nat), jn [] l = l.flatten
 | [] => rfl
 | [x] => by simp [jn]
 | x :: y :: r => by
  rw [nJ _ _ _ (by simp), q0 (y :: r)]; simp
theorem cN (l : List Str) : (cC l).cps.toList = l.flatMap fun p => p.cps.toList := by
 unfold cC Txt.join;rw [fH, show (ud "").cps.toList = [] from by decide +kernel, q0, List.flatMap_def]
theorem j0 (l : List (Str × Tok)) : (cC (l.map (·.1))).length = tot l := by
 rw [show (cC (l.map (·.1))).length = (cC (l.map (·.1))).cps.toList.length from by simp [Str.length], cN, List.length_flatMap];unfold tot;rw [tI]
 congr 1
noncomputable def mN (st : Bool) (data : List Str) (ps : List Bool) : Str := if (st && !(ps.getLastD false)) = true then Txt.strip (cC data) else cC data
noncomputable def flT (i : Wid) (t : d0) (k : Tok) : d0 :=
 { t with data := [], out := if (mN i.st (t.data.map (·.1)) t.ps).length ≠ 0 ∧ t.rs = true then t.out ++ [(cdF (mN i.st (t.data.map (·.1)) t.ps), k)] else t.out }
theorem kh (B : Base (KF w.params) h0) (h7 : A.depth + 1 < ty) (hz : tot t.data ≤ 3000) (x3 : t.data.length ≤ 1000) (h9 : t.out.length ≤ 1000000) (x1 : t.ps ≠ []) (x2 : t.ps.length ≤ 1000)
  (h : ∀ k, Go h0 o0 (wr uX w i (flT i t k) V) (R (.ok (.ret .none)))) : Go h0 o0 (wr uX w i t V) (uD (uM uX w) A (.call (.ref m4) ⟨[.ref i.x], []⟩) R) := by
 have x0 : dh h0 (ud "_escape_cdata_c14n") (.ref aCd) := B.glob (by kernel_rfl!) (by kernel_rfl!);have bJ : h0.get? rG = some { cls := .type "builtin_function_or_method", data := .fields #[.builtin "str.join", .str (ud "") tJoin] } := B.X _ _ (by kernel_rfl!);have hJ : (cC (t.data.map (·.1))).length ≤ 3000 := by rw [j0]; exact hz
 have W : ∀ env, (A.deeper env).depth < ty := fun _ => h7
 refine cJ (m := [(ud "_join_text", .ref rG), (ud "self", .ref i.x)]) B (by kernel_rfl!) (by exact da 1 (by with_reducible assumption)) (fun s X => by with_reducible refine kp_binds X ?_; intro S; kernel_rfl!) (by kernel_rfl!) fun L => ?_
 refine aH ?_;with_reducible refine bR (bf (aI .here .here ?_)); refine c_hv bJ ?_ (by with_unfolding_all rfl) (by with_unfolding_all rfl); refine aG ?_; refine cW (by assumption) .here .i1 (.there bu) (.there a6) ew ?_; refine aJ (ck ?_); refine k_join (l := t.data) bJ (show Has _ _ (aE (tv t.data)) from by with_reducible exact .there pV) (jZ (by rw [aj]; (apply aP; with_reducible assumption; decide))) ?_; intro tj; refine aQ .here .j2 (aM (aH (s_del ?_))); refine cW (by assumption) .here .i1 (.there bu) (.there a6) ew ?_; refine dk (.there (pw_D [])) (by simp only [tv, ak, sO, aw, tf, r7, aj]; apply aP; with_reducible assumption; decide) ?_; refine aM (aH ?_)
 refine bQ (fun f C => f = .next ∧ ∃ tk, (mN i.st (t.data.map (·.1)) t.ps).length ≤ 3000 ∧ C = (L, cNs [(ud "_join_text", .ref rG), (ud "self", .ref i.x), (ud "data", .str (mN i.st (t.data.map (·.1)) t.ps) tk)]) :: wr uX w i { t with data := [] } V) ?_ ?_
 ·with_reducible refine b9 (c6 (b7 (bK ?_))); refine cW (by assumption) .here .i1 (.there bu) (.there a6) tg_st ?_; refine a0 (eW (eW (aV ?_)))
  exact jp ⟨rfl, tj, hJ, rfl⟩
 rintro f C ⟨rfl, tk, hD, rfl⟩;generalize eD : mN i.st (t.data.map (·.1)) t.ps = D at hD;have h := fun k => h k
 unfold flT at h;rw [eD] at h;with_reducible refine aM (aH (b9 (bv ?_))); refine cW (by assumption) .here .i1 (.there bu) (.there a6) tg_pe ?_; refine df (gj (a0 (lE (aV (aM ?_))))); refine aH (b9 (c6 (b7 (bK (aI .here .i2 ?_))))); refine gh (by rw [aj]; (apply aP; with_reducible assumption; decide)) ?_
 refine dT (fun hn => ?_) fun hn => ?_
 ·with_reducible refine b7 (bK ?_); refine cW (by assumption) .here .i1 (.there bu) (.there a6) tg_rs ?_; refine a0 ?_
  refine dT (fun hr => ?_) fun hr => ?_
  ·with_reducible refine fe (lW (aH (bq (bF (aI .here .i1 ?_))))); refine g_wr (by assumption) (.there bu) (.there a6) ?_; refine rB (.there e9) ?_ (by with_unfolding_all rfl) (by with_unfolding_all rfl); refine aG (bf ?_); refine eY (by assumption) (by kernel_rfl!) (by kernel_rfl!) (by kernel_rfl!) (by decide +kernel) ?_; refine lS (by assumption) (by kernel_rfl!) ?_ (by with_unfolding_all rfl); refine aG (aI .here .i2 (aJ (ck (c_cd B (W _) hD ?_)))); intro tc
   have h := h tc;rw [if_pos ⟨by simpa using hn, hr⟩] at h;with_reducible refine aJ (cw (.there e9) (ly h9 (.there e9) (.there (qu _)) (aM (aV (aM ?_))))); refine aV (iK ?_)
   exact Go.sl (.tail (.there .refl))
  ·have h := h 0;rw [if_neg (by rw [hr]; simp)] at h;with_reducible refine eW (aV (aM (aV (iK ?_))))
   exact Go.sl (.tail (.there .refl))
 ·have h := h 0;rw [if_neg (by simpa using fun q => absurd q (by simpa using hn))] at h;with_reducible refine eW (aV (aM (aV (iK ?_))))
  exact Go.sl (.tail (.there .refl))
end
noncomputable def bL : List Lv → Pr → List Lv
 | [], _ => []
 | [l], q => [{ l with ps := l.ps ++ [q] }]
 | l :: m :: r, q => l :: bL (m :: r) q
theorem c8 : ∀ (N : List Lv) (l : Lv) (q : Pr), bL (N ++ [l]) q = N ++ [{ l with ps := l.ps ++ [q] }]
 | [], _, _ => rfl
 | [a], _, _ => rfl
 | a :: b :: N, l, q => by
  show a :: bL (b :: N ++ [l]) q = _;rw [c8 (b :: N) l q]; rfl
noncomputable def iG (uX : uy) (w : uQ) (i : Wid) (t : d0) : aF :=
 (i.x, be cb i.dx) :: (i.dx, cAttrs (cE i t)) :: (i.W, bO "list.append" i.O) :: (i.O, aE (tv t.out)) :: (i.D, aE (tv t.data)) :: (i.DS, aE (t.dl.map fun l => .ref l.a)) :: (i.NS, aE (t.nl.map fun l => .ref l.a)) ::
  (i.PM, aL uX w (bH t.pm)) :: (i.PS, aE (t.ps.map uN.bool)) :: []
theorem jx : wr uX w i t V = iG uX w i t ++ (cG t.dl ++ (cG t.nl ++ V)) := rfl
theorem kR {l : Lv} {q : Pr} : cG (N ++ [{ l with ps := l.ps ++ [q] }]) = cG N ++ ((l.a, aE (l.refs ++ [.ref q.a])) :: (l.ps.map Pr.cell ++ [q.cell])) := by
 simp [cG, Lv.cells, Lv.refs]
theorem c7 : cG (N ++ [l]) = cG N ++ ((l.a, aE l.refs) :: l.ps.map Pr.cell) := by simp [cG, Lv.cells]
section
variable {M : Model} {cs cs' V X Y : aF} {K : Frag} {P : GP} {i : Wid} {t : d0} {Q : VP}
theorem k_pushN (W : t.nl = N ++ [l]) (hz : l.ps.length ≤ 1000000) (h : Go h0 o0 (X ++ wr uX w i { t with nl := bL t.nl q } V) (Q .none)) :
  Go h0 o0 (q.cell :: (X ++ wr uX w i t V)) (uL (uM uX w) A (uW (.builtin "list.append") [.ref l.a, .ref q.a]) Q E) := by
 have e1 : wr uX w i t V = iG uX w i t ++ (cG t.dl ++ (cG N ++ ((l.a, aE l.refs) :: (l.ps.map Pr.cell ++ V)))) := by
  rw [jx, W, c7]; simp only [av, sN]
 have e2 : wr uX w i { t with nl := bL t.nl q } V = iG uX w i t ++ (cG t.dl ++ (cG N ++ ((l.a, aE (l.refs ++ [.ref q.a])) :: (l.ps.map Pr.cell ++ (q.cell :: V))))) := by
  rw [jx];show (iG uX w i { t with nl := bL t.nl q }) ++ (cG t.dl ++ (cG (bL t.nl q) ++ V)) = _;have : iG uX w i { t with nl := bL t.nl q } = iG uX w i t := by
   unfold iG;show _ :: _ :: _ :: _ :: _ :: _ :: (i.NS, aE ((bL t.nl q).map fun l => .ref l.a)) :: _ = _;rw [W, c8];simp only [ao, az, tJ];rfl
  rw [this, W, c8, kR];simp only [av, sN, te]
 rw [e2] at h;rw [e1];refine jY (xs := l.refs) (.there (.skip (.skip (.skip (.skip .here))))) (by rw [Lv.refs, ak, aj]; exact oq4 hz) (Go.perm ?_ h);have p1 : X ++ (iG uX w i t ++ (cG t.dl ++ (cG N ++ ((l.a, aE (l.refs ++ [tW q.a])) :: (l.ps.map Pr.cell ++ V))))) = (X ++ (iG uX w i t ++ (cG t.dl ++ (cG N ++ [(l.a, aE (l.refs ++ [tW q.a]))] ++ l.ps.map Pr.cell)))) ++ V := by simp
 have p2 : X ++ (iG uX w i t ++ (cG t.dl ++ (cG N ++ ((l.a, aE (l.refs ++ [tW q.a])) :: (l.ps.map Pr.cell ++ (q.cell :: V)))))) = (X ++ (iG uX w i t ++ (cG t.dl ++ (cG N ++ [(l.a, aE (l.refs ++ [tW q.a]))] ++ l.ps.map Pr.cell)))) ++ (q.cell :: V) := by simp
 rw [p1, p2];exact sQ.symm
theorem k_pushD (W : t.dl = N ++ [l]) (hz : l.ps.length ≤ 1000000) (h : Go h0 o0 (X ++ wr uX w i { t with dl := bL t.dl q } V) (Q .none)) :
  Go h0 o0 (q.cell :: (X ++ wr uX w i t V)) (uL (uM uX w) A (uW (.builtin "list.append") [.ref l.a, .ref q.a]) Q E) := by
 have e1 : wr uX w i t V = iG uX w i t ++ (cG N ++ ((l.a, aE l.refs) :: (l.ps.map Pr.cell ++ (cG t.nl ++ V)))) := by
  rw [jx, W, c7]; simp only [av, sN]
 have e2 : wr uX w i { t with dl := bL t.dl q } V = iG uX w i t ++ (cG N ++ ((l.a, aE (l.refs ++ [.ref q.a])) :: (l.ps.map Pr.cell ++ (q.cell :: (cG t.nl ++ V))))) := by
  rw [jx];show (iG uX w i { t with dl := bL t.dl q }) ++ (cG (bL t.dl q) ++ (cG t.nl ++ V)) = _;have : iG uX w i { t with dl := bL t.dl q } = iG uX w i t := by
   unfold iG;show _ :: _ :: _ :: _ :: _ :: (i.DS, aE ((bL t.dl q).map fun l => .ref l.a)) :: _ = _;rw [W, c8];simp only [ao, az, tJ];rfl
  rw [this, W, c8, kR];simp only [av, sN, te]
 rw [e2] at h;rw [e1];refine jY (xs := l.refs) (.there (.skip (.skip (.skip .here)))) (by rw [Lv.refs, ak, aj]; exact oq4 hz) (Go.perm ?_ h);have p1 : X ++ (iG uX w i t ++ (cG N ++ ((l.a, aE (l.refs ++ [tW q.a])) :: (l.ps.map Pr.cell ++ (cG t.nl ++ V))))) = (X ++ (iG uX w i t ++ (cG N ++ [(l.a, aE (l.refs ++ [tW q.a]))] ++ l.ps.map Pr.cell))) ++ (cG t.nl ++ V) := by simp
 have p2 : X ++ (iG uX w i t ++ (cG N ++ ((l.a, aE (l.refs ++ [tW q.a])) :: (l.ps.map Pr.cell ++ (q.cell :: (cG t.nl ++ V)))))) = (X ++ (iG uX w i t ++ (cG N ++ [(l.a, aE (l.refs ++ [tW q.a]))] ++ l.ps.map Pr.cell))) ++ (q.cell :: (cG t.nl ++ V)) := by simp
 rw [p1, p2];exact sQ.symm
theorem Go.wIn1 (h : Go h0 o0 (wr uX w i t (p :: V)) P) : Go h0 o0 (p :: wr uX w i t V) P := Go.wIn [p] h
theorem Go.wOut1 (h : Go h0 o0 (p :: wr uX w i t V) P) : Go h0 o0 (wr uX w i t (p :: V)) P := Go.wOut (X := [p]) h
structure WB (t : d0) : Prop where
 tot : tot t.data ≤ 3000
 dz : t.data.length ≤ 1000
 psn : t.ps ≠ []
 psz : t.ps.length ≤ 1000
 dlz : t.dl.length ≤ 1000
 nlz : t.nl.length ≤ 1000
 dll : ∀ l ∈ t.dl, l.ps.length ≤ 1000 ∧ ∀ q ∈ l.ps, q.u.length ≤ 100 ∧ q.p.length ≤ 100
 nll : ∀ l ∈ t.nl, l.ps.length ≤ 1000 ∧ ∀ q ∈ l.ps, q.u.length ≤ 100 ∧ q.p.length ≤ 100
 pmz : t.pm.length ≤ 100 ∧ ∀ q ∈ t.pm, q.1.length ≤ 100 ∧ q.2.1.length ≤ 100
 igz : t.ig ≤ 1000
noncomputable def cm (i : Wid) (t : d0) (k : Tok) : d0 := if t.data = [] then t else flT i t k
theorem dC : (cm i t k).nl = t.nl := by unfold cm; split <;> rfl
theorem fo : (cm i t k).dl = t.dl := by unfold cm; split <;> rfl
theorem mO : (cm i t k).ps = t.ps := by unfold cm; split <;> rfl
theorem mP : (cm i t k).pm = t.pm := by unfold cm; split <;> rfl
theorem nT : (cm i t k).out.length ≤ t.out.length + 1 := by
 unfold cm; split
 ·exact oq5
 ·unfold Mine.flT; dsimp only; split
  ·rw [aw]; exact ah _
  ·exact oq5
theorem rn : (cm i t k).data = [] := by
 unfold cm; split
 ·assumption
 ·rfl
theorem flD_ig : (cm i t k).ig = t.ig := by unfold cm; split <;> rfl
theorem WB.fl (h : WB t) (k : Tok) : WB (cm i t k) := by
 refine ⟨?_, ?_, by rw [mO]; exact h.psn, by rw [mO]; exact h.psz, by rw [fo]; exact h.dlz, by rw [dC]; exact h.nlz, by rw [fo]; exact h.dll, by rw [dC]; exact h.nll, by rw [mP]; exact h.pmz, by rw [flD_ig]; exact h.igz⟩
 ·rw [rn]; exact tO _
 ·rw [rn]; exact tO _
end
noncomputable def TK (h0 : uV) (o : uF) (K' : aF) (P : aF → Prop) (Q : FP) : Flow → uF → Prop
 | .next => fun s => ∃ C', P C' ∧ St h0 o (C' ++ K') s
 | .cont => fun s => ∃ C', P C' ∧ St h0 o (C' ++ K') s
 | .brk => Q .next
 | .ret v => Q (.ret v)
def GK (uX : uy) (w : uQ) (A : uJ) (env : Env) (target : Expr) (body : List Stmt) (h0 : uV) (o0 : uF) (Q : FP) : uN → uF → Prop := fun x s₁ => ∃ G g gs fi items C0 K, ∃ P : Nat → aF → Prop, ∃ Pre : aF → Prop, x = .ref G ∧ o0.gens.size ≤ g ∧ s₁.gens[g]? = some gs ∧ GPos uX w A.in1 h0 Pre items fi gs ∧
   P 0 C0 ∧ St h0 o0 (fi ++ ((G, eO g) :: (C0 ++ K))) s₁ ∧ (∀ i C, P i C → Pre ((G, eO g) :: (C ++ K))) ∧
   (∀ i v C K' o s, items[i]? = some v → P i C → (∀ C s, St h0 o (C ++ K') s → St h0 o0 (C ++ K) s) → St h0 o (C ++ K') s →
    uL (uM uX w) A (uG target env v) (fun _ s₂ => uL (uM uX w) A (uP body env) (fun f s₃ => match f with
     | .next | .cont => ∃ C', P (i + 1) C' ∧ St h0 o (C' ++ K') s₃
     | .brk => Q .next s₃
     | .ret v => Q (.ret v) s₃) NoE s₂) NoE s) ∧
   (∀ C s, P items.length C → St h0 o0 (C ++ K) s → Q .next s)
section
variable {M : Model} {cs cs' V X Y : aF} {P1 : GP} {i : Wid} {t : d0}
theorem nv (hh : A.handled = none) (W : A.depth < ty) (hl : h0.NoLimit)
  (h : Go h0 o0 cs (uL (uM uX w) A (uU iter env) (GK uX w A env target body h0 o0 Q) E)) (hs : ∀ x, sF iter env x = uT x) : Go h0 o0 cs (uL (uM uX w) A (exec (.For target iter body [] pos) env) Q E) :=
 fun s H => pM hh W hl (h s H) hs
theorem iH (h : P C) (e : cs = C ++ K') : Go h0 o cs (TK h0 o K' P Q .next) := fun s H => ⟨C, h, e ▸ H⟩
theorem tk_r (h : Go h0 o cs (Q (.ret v))) : Go h0 o cs (TK h0 o K' P Q (.ret v)) := h
theorem k_iter {sa x fa : uR} {lv : List (uR × List uN)} {K0 : Frag} {target : Expr} {body : List Stmt} {Q : FP} {C0 K : aF} {P : Nat → aF → Prop} {p1 p2 p3 p4 p5 p6 p7 p8 p9 p10 : Pos} (B : Base K0 h0) (hh : A.handled = none) (W : A.depth < ty) (hf : nR K0 fa = true)
  (h7 : a7 K0 fa = [.For (.Name nsX p1) (.Call (.Name (ud "_reversed") p2) [.Name (ud "ns_stack") p3] [] p4) (gIf p5 p6 p7 p8 p9) [] p10])
  (h9 : ∀ s, K0.In s.heap → BindsTo s (aZ K0 fa) ⟨[.ref x, .ref sa], []⟩ [(ud "self", .ref x), (ud "ns_stack", .ref sa), (ud "_reversed", .type "reversed")])
  (x1 : ([(ud "_reversed", tV "reversed"), (ud "ns_stack", .ref sa), (ud "self", .ref x)].all fun x => (aZ K0 fa).scope.names.lookup x.1 == some .local) = true)
  (hg : ∀ L, GEnv (callEnv (aZ K0 fa) L fa) L) (x3 : P 0 C0) (x0 : ∀ n C, P n C → pB sa lv (C ++ K))
  (turn : ∀ n v C K' o, (dU lv lv.length)[n]? = some v → P n C → (∀ C s, St h0 o (C ++ K') s → St h0 o0 (C ++ K) s) →
   Go h0 o (C ++ K') (uL (uM uX w) A (uG target env v) (fun _ => uL (uM uX w) A (uP body env) (TK h0 o K' (P (n + 1)) Q) NoE) NoE))
  (fin : ∀ C, P (dU lv lv.length).length C → Go h0 o0 (C ++ K) (Q .next)) :
  Go h0 o0 (C0 ++ K) (uL (uM uX w) A (uW (.ref fa) [.ref x, .ref sa]) (GK uX w A env target body h0 o0 Q) E) := by
 intro s H;refine wpAny_call (oJ (m := [(ud "_reversed", .type "reversed"), (ud "ns_stack", .ref sa), (ud "self", .ref x)]) B H hf W (h9 s (B.X.keeps H.keep)) x1 fun L G g s' x4 x2 H' => ?_);refine ⟨G, g, _, [(L, _)], dU lv lv.length, C0, K, P, pB sa lv, rfl, x4, x2, ?_, x3, H', fun n C hp => ?_, fun n v C K' o s hv hp hb Hs => ?_, fun C s hp Hs => fin C hp s Hs⟩
 ·rw [h7];exact rc (self := .ref x) hh (hg L) (fun x => by with_unfolding_all rfl)
 ·have := x0 n C hp;exact ⟨.there this.1, fun q hq => ⟨.there (this.2 q hq).1, (this.2 q hq).2⟩⟩
 ·refine af (turn n v C K' o hv hp hb s Hs) (fun _ s2 q => af q (fun f s3 q => ?_) fun _ _ q => q) fun _ _ q => q
  cases f <;> exact q
end
def UK (h0 : uV) (o0 : uF) (Q : VP) (o : uN) : uN → uF → Prop := fun vu s₃ => ∃ x t j u cs, o = .str x t ∧ vu = .int j u ∧ St h0 o0 cs s₃ ∧ x.length ≤ ug ∧ ∀ t' s', St h0 o0 cs s' → Q (.str (Txt.slice x none (some j)) t') s'
def UF (h0 : uV) (o0 : uF) (Q : VP) (o : uN) : uN → uF → Prop := fun vu s₃ => ∃ x t j u cs, o = .str x t ∧ vu = .int j u ∧ St h0 o0 cs s₃ ∧ x.length ≤ ug ∧ ∀ t' s', St h0 o0 cs s' → Q (.str (Txt.slice x (some j) none) t') s'
section
variable {M : Model} {cs cs' V X Y : aF} {P1 : GP} {Q : VP}
theorem lZ {Q : Unit → uF → Prop} (hh : A.handled = none) (H : St h0 o0 cs s) (ht : Has cs t (aE [u, v]))
  (h : ∀ s', St h0 o0 cs s' → uL (uM uX w) A (tX env a u) (fun _ s1 => uL (uM uX w) A (tX env b v) Q E s1) E s') :
  uL (uM uX w) A (uG (.Tuple [.Name a pa, .Name b pb] k pos) env (.ref t)) Q E s := by
 rw [arm_assign_Tuple];refine ad (tD ?_);unfold unpack;rw [show (assignEach [Expr.Name a pa, Expr.Name b pb] env).length = 2 from rfl, show (assignEach [Expr.Name a pa, Expr.Name b pb] env).findIdx? (·.1) = none from rfl];refine ad (aD ?_);unfold unpackItems;refine ad ?_;unfold notIterableAtAll;refine ad (wpAny_specialOf (aS H ht).typeIs slot_list_iter.lookup ?_);refine ae ?_;simp only [sA, if_false];have S : ∀ W, dK uX w A h0 o0 (.ref W) (fun i => [(W, bA t i)]) 2 (fun i x => [u, v][i]? = some x) (fun C => Has C t (aE [u, v])) := fun W => cF (xs := [u, v]) hh
 refine ad (aD (wpAny_pyIter_list (aS H ht) ?_));have H2 : St h0 o0 ((s.heap.objs.size, bA t 0) :: cs) { s with heap := s.heap.push { cls := .type "list_iterator", data := .fields #[.ref t, .int 0 0] } } := H.push (k := s.toks) (c := bA t 0) ⟨rfl, rfl⟩ (ah _);generalize s.heap.objs.size = W at H2 ⊢;refine ad (aD ?_);show uL _ _ (pyNext (.ref W) >>= _) _ _ _;refine ad ((S W).next 0 cs _ _ _ (by decide) ht H2 fun x s1 hx H3 => ?_);cases hx;refine ad (aD ?_);show uL _ _ (pyNext (.ref W) >>= _) _ _ _;refine ad ((S W).next 1 cs _ _ _ (by decide) ht H3 fun x s2 hx H4 => ?_);cases hx;refine ad (aD (ae (ae (ae ?_))));simp only [sO, tf, tE, if_false];refine ad (aD ((S W).done cs _ _ _ ht H4 fun s3 H5 => ?_));simp only [Option.isSome_none, sA, if_false];refine ae ?_;refine rR (t := uG (.Name a pa) env) (ts := [uG (.Name b pb) env]) (x := u) (xs := [v]) ?_;refine sJ (af (h _ H5) (fun _ s1 q => ?_) fun _ _ q => q);refine rR (t := uG (.Name b pb) env) (ts := []) (x := v) (xs := []) ?_;refine sJ (af q (fun _ s2 q => ?_) fun _ _ q => q);exact wpAny_assignInOrder_none q
theorem u_2 {Q : Unit → uF → Prop} (hh : A.handled = none) (W : Has cs t (bn [u, v])) (h : Go h0 o0 cs (uL (uM uX w) A (tX env a u) (fun _ => uL (uM uX w) A (tX env b v) Q E) E)) :
  Go h0 o0 cs (uL (uM uX w) A (uG (.Tuple [.Name a pa, .Name b pb] k pos) env (.ref t)) Q E) := fun s H => oq hh H W h
theorem u_2l {Q : Unit → uF → Prop} (hh : A.handled = none) (W : Has cs t (aE [u, v])) (h : Go h0 o0 cs (uL (uM uX w) A (tX env a u) (fun _ => uL (uM uX w) A (tX env b v) Q E) E)) :
  Go h0 o0 cs (uL (uM uX w) A (uG (.Tuple [.Name a pa, .Name b pb] k pos) env (.ref t)) Q E) := fun s H => lZ hh H W h
theorem u_3 {Q : Unit → uF → Prop} (hh : A.handled = none) (W : Has cs t (bn [u, v, x]))
  (h : Go h0 o0 cs (uL (uM uX w) A (tX env a u) (fun _ => uL (uM uX w) A (tX env b v) (fun _ => uL (uM uX w) A (tX env c x) Q E) E) E)) :
  Go h0 o0 cs (uL (uM uX w) A (uG (.Tuple [.Name a pa, .Name b pb, .Name c pc] k pos) env (.ref t)) Q E) := fun s H => on hh H W h
theorem e_upto (h : Go h0 o0 cs (uL (uM uX w) A (uU value env) (fun o => uL (uM uX w) A (uU hi env) (UK h0 o0 Q o) E) E)) (W : ∀ o r, letTemporaryGo value o r = uT ()) :
  Go h0 o0 cs (uL (uM uX w) A (uU (.Subscript value (.Slice none (some hi) none p) pos) env) Q E) := fun s H => x_upto (h0 := h0) (o0 := o0) (h s H) W
theorem uk (hz : x.length ≤ ug) (h : ∀ t, Go h0 o0 cs (Q (.str (Txt.slice x none (some j)) t))) : Go h0 o0 cs (UK h0 o0 Q (.str x t) (.int j u)) := fun s H => ⟨x, t, j, u, cs, rfl, rfl, H, hz, fun t s' W => h t s' W⟩
theorem x_from {value lo : Expr} {p pos : Pos} (h : uL (uM uX w) A (uU value env) (fun o s₁ => uL (uM uX w) A (uU lo env) (UF h0 o0 Q o) E s₁) E s) (ht : ∀ o r, letTemporaryGo value o r = uT ()) :
  uL (uM uX w) A (uU (.Subscript value (.Slice (some lo) none none p) pos) env) Q E s := by
 refine wpAny_Subscript_str_slice (af h (fun o s1 h1 => evalPart_some_step (af h1 (fun vu W h3 => sC ?_) fun _ _ q => q)) fun _ _ q => q) ht;obtain ⟨x, t, j, u, cs, rfl, rfl, H, hz, hq⟩ := h3;refine ⟨x, t, some (j, u), none, rfl, rfl, rfl, ?_⟩;have H1 : St h0 o0 cs { W with heap := W.heap.push { cls := .type "slice", data := .fields #[.int j u, .none, .none] } } := H.grow (k := W.toks) (fun b o e => r3 _ e) (ah _);unfold sliceMade;split
 ·rename_i hc;have q := hq t _ H1;rw [show Txt.slice x (some j) none = x from if_pos hc] at q;exact q
 ·rename_i hc;have e : Txt.slice x (some j) none = _ := if_neg hc;have q := hq W.toks _ (H1.toks (k := W.toks + 1) (tP _));have l := Txt.slice_le x (some j) none;rw [e] at q l;exact ⟨tH l hz, q⟩
theorem e_from {value lo : Expr} {p pos : Pos} (h : Go h0 o0 cs (uL (uM uX w) A (uU value env) (fun o => uL (uM uX w) A (uU lo env) (UF h0 o0 Q o) E) E)) (W : ∀ o r, letTemporaryGo value o r = uT ()) :
  Go h0 o0 cs (uL (uM uX w) A (uU (.Subscript value (.Slice (some lo) none none p) pos) env) Q E) := fun s H => x_from (h0 := h0) (o0 := o0) (h s H) W
theorem uf (hz : x.length ≤ ug) (h : ∀ t, Go h0 o0 cs (Q (.str (Txt.slice x (some j) none) t))) : Go h0 o0 cs (UF h0 o0 Q (.str x t) (.int j u)) := fun s H => ⟨x, t, j, u, cs, rfl, rfl, H, hz, fun t s' W => h t s' W⟩
theorem rf {x : Str} {u : Tok} {pl : Sem Bool} {Q : uN × List uN → uF → Prop} (h : Go h0 o0 cs (Q (.builtin "str.rsplit", [.str x u]))) : Go h0 o0 cs (uL M A (ua (.str x u) (ud "rsplit") pl) Q E) := fun s H => GM.rsplit (h s H)
theorem g_split {x : Str} {u : Tok} {pl : Sem Bool} {Q : uN × List uN → uF → Prop} (h : Go h0 o0 cs (Q (.builtin "str.split", [.str x u]))) : Go h0 o0 cs (uL M A (ua (.str x u) (ud "split") pl) Q E) := fun s H => GM.split (h s H)
theorem qX (hy : (y.length == 0) = false) (hk : (decide (k < -(2 ^ 63 : Int)) || decide (k ≥ 2 ^ 63)) = false) (hsz : x.length + 2 ≤ ug)
  (h : ∀ a (l : List (Str × Tok)), l.map (·.1) = Txt.rsplitMax x y k → Go h0 o0 ((a, aE (strValues l)) :: cs) (Q (.ref a))) : Go h0 o0 cs (uL (uM uX w) A (uW (.builtin "str.rsplit") [.str x t, .str y u, .int k v]) Q E) := fun s H => kE H hy hk hsz fun a l s' e W => h a l e s' W
theorem k_set0 (h : ∀ a, Go h0 o0 ((a, a8 false w []) :: cs) (Q (.ref a))) : Go h0 o0 cs (uL (uM uX w) A (uW (.type "set") []) Q E) := fun s H => x_set0 H fun a s' W => h a s' W
theorem g_add {b : Bool} {a : uR} {ks : List Str} {pl : Sem Bool} {Q : uN × List uN → uF → Prop} (ha : Has cs a (a8 b w ks)) (h : Go h0 o0 cs (Q (.builtin "set.add", [.ref a]))) : Go h0 o0 cs (uL (uM uX w) A (ua (.ref a) (ud "add") pl) Q E) := fun s H => x_addM H ha (h s H)
theorem k_add (hz : ks.length + 1 < scanBound) (hp : Put cs a (a8 b w ks) (a8 b w (if x ∈ ks then ks else ks ++ [x])) cs') (h : Go h0 o0 cs' (Q .none)) : Go h0 o0 cs (uL (uM uX w) A (uW (.builtin "set.add") [.ref a, .str x u]) Q E) := fun s H => x_add H hz hp h
theorem qD (ha : Has cs a (a8 b w ks)) (h : Go h0 o0 cs (Q (.bool (!decide (x ∈ ks))))) : Go h0 o0 cs (uL (uM uX w) A (uc .NotIn (.str x u) (.ref a)) Q E) := fun s H => l6 H ha h
theorem no_sys (H : St h0 o0 cs s) (hl : Has cs d c) : (d == sysModules) = false := by
 have := H.big _ hl.mem;simp only [beq_eq_false_iff_ne, ne_eq];intro e;have W : d = 1 := e;subst W;exact absurd (show (3 : Nat) < 1 from this) (by decide)
theorem g5 (hd : Has cs d (aL uX w kvs)) (W : uE kvs k = some v)
  (hs : subscripted slice false (.ref d) (.str k u) = operate [.ref d, .str k u] (getItem (.ref d) (.str k u))) (h : Go h0 o0 cs (Q v)) : Go h0 o0 cs (uL (uM uX w) A (subscriptTail value slice (.ref d) (.str k u)) Q E) := fun s H => x_dget H hd W hs h
theorem k_dset {d : uR} {kvs : List (Str × uN)} {k : Str} {u : Tok} {v : uN} {Q : Unit → uF → Prop} (hp : Put cs d (aL uX w kvs) (aL uX w (stored kvs k v)) cs') (hz : kvs.length ≤ ug) (h : Go h0 o0 cs' (Q ())) : Go h0 o0 cs (uL (uM uX w) A (setItem (.ref d) (.str k u) v) Q E) := fun s H => x_dset H hp hz h
theorem pq {Q : Unit → uF → Prop} (h : Go h0 o0 cs (uL M A (tX env x v) Q E)) : Go h0 o0 cs (uL M A (uG (.Name x pos) env v) Q E) := fun s H => sJ (h s H)
end
noncomputable abbrev Sp := Str × Str
structure QS where
 (dl nl : List (List Sp)) (pm : List Sp)
noncomputable def QS.of (t : d0) : QS := ⟨t.dl.map Lv.v, t.nl.map Lv.v, t.pm.map fun q => (q.1, q.2.1)⟩
noncomputable def aK (ls : List (List Sp)) : List Sp := ls.reverse.flatten
noncomputable def cn (seen : List Str) (p : Str) : List Str := if p ∈ seen then seen else seen ++ [p]
noncomputable def bM (uri : Str) : List Sp → List Str → Option Str × List Str
 | [], seen => (none, seen)
 | (u, p) :: r, seen => if u = uri ∧ p ∉ seen then (some p, seen) else bM uri r (cn seen p)
noncomputable def iB (p tag : Str) : Str := if p.length = 0 then tag else tZ ++ p ++ ud ":" ++ tag
noncomputable def bB : List (List Sp) → Sp → List (List Sp)
 | [], _ => []
 | [l], q => [l ++ [q]]
 | l :: m :: r, q => l :: bB (m :: r) q
noncomputable def nN (k : Nat) : Str := tZ ++ ud "n" ++ ud (toString (k : Int))
theorem nN_all : ((List.range 101).all fun n => decide ((nN n).length ≤ 10) && decide ((ud (toString (n : Int))).length ≤ 10)) = true := by decide +kernel
theorem nN_len (h : n ≤ 100) : (nN n).length ≤ 10 ∧ (ud (toString (n : Int))).length ≤ 10 := by
 have := sY.mp nN_all n (List.mem_range.mpr (by exact (bD 0x79153e00c056c1adac 0) h));simpa using this
noncomputable def pmF (pm : List Sp) (uri : Str) : Str × List Sp := match pm.lookup uri with
 | some p => (p, pm)
 | none => (nN pm.length, pm ++ [(uri, nN pm.length)])
noncomputable def kz (rw : Bool) (s : QS) (uri tag : Str) : Option (Str × QS) :=
 match bM uri (aK s.dl) [] with
 | (some p, _) => some (iB p tag, s)
 | (none, seen) =>
  if rw = true then some (tZ ++ (pmF s.pm uri).1 ++ ud ":" ++ tag, ⟨bB s.dl (uri, (pmF s.pm uri).1), s.nl, (pmF s.pm uri).2⟩)
  else if uri.length = 0 ∧ ud "" ∉ seen then some (tag, s)
  else match (aK s.nl).find? fun q => q.1 == uri with
   | some q => some (iB q.2 tag, ⟨bB s.dl (uri, q.2), s.nl, s.pm⟩)
   | none => if uri.length = 0 then some (tag, s) else none
theorem jK : ∀ (ls : List Lv) (q : Pr), (bL ls q).map Lv.v = bB (ls.map Lv.v) q.v
 | [], _ => rfl
 | [l], q => by simp [bL, bB, Lv.v]
 | l :: m :: r, q => by
  show l.v :: (bL (m :: r) q).map Lv.v = l.v :: bB ((m :: r).map Lv.v) q.v;rw [jK (m :: r) q]
theorem nA : ∀ (ls : List Lv) (q : Pr), (bL ls q).map (·.a) = ls.map (·.a)
 | [], _ => rfl
 | [l], q => rfl
 | l :: m :: r, q => by
  show l.a :: (bL (m :: r) q).map (·.a) = l.a :: ((m :: r).map (·.a));rw [nA (m :: r) q]
noncomputable def prs (ls : List Lv) : List Pr := ls.reverse.flatMap (·.ps)
theorem iZ (ls : List Lv) : (prs ls).map Pr.v = aK (ls.map Lv.v) := by
 unfold prs aK;rw [← List.map_reverse, List.flatMap_def, List.map_flatten, tI]; rfl
noncomputable def lvR (ls : List Lv) : List (uR × List uN) := ls.map fun l => (l.a, l.refs)
theorem jg (ls : List Lv) : dU (lvR ls) (lvR ls).length = (prs ls).map fun q => .ref q.a := by
 unfold dU lvR prs;rw [List.take_length, ← List.map_reverse, List.flatMap_map, List.map_flatMap]; rfl
theorem nE (h : q ∈ prs ls) : ∃ l ∈ ls, q ∈ l.ps := by
 obtain ⟨l, hl, W⟩ := sV.mp h;exact ⟨l, sZ.mp hl, W⟩
theorem fp : ∀ (l r : List Sp) (sn W : List Str), bM uri l sn = (none, W) → bM uri (l ++ r) sn = bM uri r W
 | [], r, sn, W, h => by cases h; rfl
 | (u, p) :: l, r, sn, W, h => by
  unfold bM at h;split at h
  ·cases h
  ·rename_i hc;show (if u = uri ∧ p ∉ sn then _ else bM uri (l ++ r) (cn sn p)) = _;rw [if_neg hc];exact fp l r _ _ h
noncomputable def bX (nm : Str) : Sp := if (Txt.slice nm none (some 1) == ud "{") = true then match Txt.rsplitMax (Txt.slice nm (some 1) none) (ud "}") 1 with
 | [a, b] => (a, b)
 | _ => (ud "", ud "")
 else (ud "", nm)
noncomputable def iM (nm : Str) : Bool := decide (nm.length ≤ 100) && (!(Txt.slice nm none (some 1) == ud "{") || (Txt.rsplitMax (Txt.slice nm (some 1) none) (ud "}") 1).length == 2) && decide ((bX nm).1.length ≤ 100) && decide ((bX nm).2.length ≤ 100)
section
variable {i : Wid} {t : d0} {V : aF}
theorem wr_StkD (hb : WB t) : pB i.DS (lvR t.dl) (X ++ wr uX w i t V) := by
 refine ⟨.skip ?_, fun q W => ?_⟩
 ·have := ni (uX := uX) (w := w) (i := i) (t := t) (V := V);unfold lvR;rw [tI]; exact this
 ·obtain ⟨l, hl, rfl⟩ := tG.mp W;refine ⟨.skip (gy hl), ?_⟩;have := (hb.dll l hl).1;unfold Lv.refs; rw [ak]; exact (bD 0x9a397a80a5f20aa0282ab48 0) this
theorem wr_StkN (hb : WB t) : pB i.NS (lvR t.nl) (X ++ wr uX w i t V) := by
 refine ⟨.skip ?_, fun q W => ?_⟩
 ·have := nh (uX := uX) (w := w) (i := i) (t := t) (V := V);unfold lvR;rw [tI]; exact this
 ·obtain ⟨l, hl, rfl⟩ := tG.mp W;refine ⟨.skip (ng hl), ?_⟩;have := (hb.nll l hl).1;unfold Lv.refs; rw [ak]; exact (bD 0x9a397a80a5f20aa0282ab48 0) this
end
theorem it_body (P : Params) : ∃ p1 p2 p3 p4 p5 p6 p7 p8 p9 p10, a7 (KF P) e6 = [.For (.Name nsX p1) (.Call (.Name (ud "_reversed") p2) [.Name (ud "ns_stack") p3] [] p4) (gIf p5 p6 p7 p8 p9) [] p10] := ⟨_, _, _, _, _, _, _, _, _, _, by with_unfolding_all rfl⟩
theorem it_ok (P : Params) : nR (KF P) e6 = true := by kernel_rfl!
theorem it_loc (P : Params) : ([(ud "_reversed", tV "reversed"), (ud "ns_stack", .ref sa), (ud "self", .ref x)].all fun x => (aZ (KF P) e6).scope.names.lookup x.1 == some .local) = true := by kernel_rfl!
theorem it_env (P : Params) (L : uR) : GEnv (callEnv (aZ (KF P) e6) L e6) L := ⟨by kernel_rfl!, by kernel_rfl!, by kernel_rfl!, by kernel_rfl!, by kernel_rfl!, by kernel_rfl!⟩
theorem q8 (X : (KF P).In s.heap) : BindsTo s (aZ (KF P) e6) ⟨[.ref x, .ref sa], []⟩ [(ud "self", .ref x), (ud "ns_stack", .ref sa), (ud "_reversed", .type "reversed")] := by
 with_reducible refine kp_binds X ?_; intro S; kernel_rfl!
section
variable {M : Model} {V : aF}
theorem k_it {sa x : uR} {ls : List Lv} {target : Expr} {body : List Stmt} {Q : FP} {C0 K : aF} (P : Nat → aF → Prop) (B : Base (KF w.params) h0) (hh : A.handled = none) (W : A.depth < ty)
  (h9 : P 0 C0) (h7 : ∀ n C, P n C → pB sa (lvR ls) (C ++ K))
  (turn : ∀ n q C K' o, (prs ls)[n]? = some q → P n C → (∀ C s, St h0 o (C ++ K') s → St h0 o0 (C ++ K) s) →
   Go h0 o (C ++ K') (uL (uM uX w) A (uG target env (.ref q.a)) (fun _ => uL (uM uX w) A (uP body env) (TK h0 o K' (P (n + 1)) Q) NoE) NoE))
  (fin : ∀ C, P (prs ls).length C → Go h0 o0 (C ++ K) (Q .next)) :
  Go h0 o0 (C0 ++ K) (uL (uM uX w) A (uW (.ref e6) [.ref x, .ref sa]) (GK uX w A env target body h0 o0 Q) E) := by
 obtain ⟨p1, p2, p3, p4, p5, p6, p7, p8, p9, p10, hb⟩ := it_body w.params;refine k_iter (P := P) B hh W (it_ok _) hb (fun s X => q8 X) (it_loc _) (it_env _) h9 h7 (fun n v C K' o hv hp x0 => ?_) fun C hp => fin C ?_
 ·rw [jg, sD] at hv;cases hq : (prs ls)[n]? with
  | none => rw [hq] at hv; cases hv
  | some q => rw [hq] at hv; cases hv; exact turn n q C K' o hq hp x0
 ·rw [jg, ak] at hp; exact hp
theorem k_it0 (P : Nat → aF → Prop) (B : Base (KF w.params) h0) (hh : A.handled = none) (W : A.depth < ty)
  (h9 : P 0 C0) (h7 : ∀ n C, P n C → pB sa (lvR ls) C)
  (turn : ∀ n q C K' o, (prs ls)[n]? = some q → P n C → (∀ C s, St h0 o (C ++ K') s → St h0 o0 C s) →
   Go h0 o (C ++ K') (uL (uM uX w) A (uG target env (.ref q.a)) (fun _ => uL (uM uX w) A (uP body env) (TK h0 o K' (P (n + 1)) Q) NoE) NoE))
  (fin : ∀ C, P (prs ls).length C → Go h0 o0 C (Q .next)) :
  Go h0 o0 C0 (uL (uM uX w) A (uW (.ref e6) [.ref x, .ref sa]) (GK uX w A env target body h0 o0 Q) E) := by
 have := k_it (uX := uX) (A := A) (E := E) (env := env) (o0 := o0) (sa := sa) (x := x) (ls := ls) (target := target) (body := body) (Q := Q) (C0 := C0) (K := []) P B hh W h9 (fun n C hp => by rw [s7]; exact h7 n C hp)
  (fun n q C K' o hq hp hb => turn n q C K' o hq hp fun C s H => by have := hb C s H; rwa [s7] at this) (fun C hp => by rw [s7]; exact fin C hp)
 rwa [s7] at this
theorem Go.back (hb : ∀ C s, St h0 o (C ++ K') s → St h0 o0 C s) (h : Go h0 o0 C P) : Go h0 o (C ++ K') P := fun s H => h s (hb C s H)
theorem qx (hq : (prs ls)[n]? = some q) (hn : ∀ p ∈ (prs ls).take n, p.u ≠ uri) (he : q.u = uri) : (aK (ls.map Lv.v)).find? (fun q => q.1 == uri) = some q.v := by
 rw [← iZ];have W : n < (prs ls).length := (rO.mp hq).1;have e : prs ls = (prs ls).take n ++ q :: (prs ls).drop (n + 1) := by
  conv => lhs; rw [← List.take_append_drop n (prs ls)]
  rw [rP W, (rO.mp hq).2]
 rw [e, ao, List.find?_append, List.find?_eq_none.mpr (fun p hp => by
  obtain ⟨r, hr, rfl⟩ := tG.mp hp;simpa [Pr.v] using hn r hr), az, List.find?_cons_of_pos (by simpa [Pr.v] using he)]
 rfl
theorem qw (W : ∀ p ∈ (prs ls).take (prs ls).length, p.u ≠ uri) : (aK (ls.map Lv.v)).find? (fun q => q.1 == uri) = none := by
 rw [← iZ];rw [List.take_length] at W;refine List.find?_eq_none.mpr fun p hp => ?_
 obtain ⟨r, hr, rfl⟩ := tG.mp hp;simpa [Pr.v] using W r hr
end
section
variable {cs cs' V X Y : aF} {i : Wid} {t : d0} {Q : VP}
theorem c_ns (B : Base (KF w.params) h0) (h9 : A.depth + 2 < ty) (hb : WB t) (x0 : t.out.length ≤ 100000) (W : t.nl = N ++ [l])
  (h1 : t.ig ≠ 0 → Go h0 o0 (wr uX w i t V) (R (.ok (.ret .none))))
  (h2 : t.ig = 0 → ∀ k a, Go h0 o0 (wr uX w i { cm i t k with nl := bL t.nl ⟨a, uri, ut, p, pt⟩ } V) (R (.ok (.ret .none)))) : Go h0 o0 (wr uX w i t V) (uD (uM uX w) A (.call (.ref aNs) ⟨[.ref i.x, .str p pt, .str uri ut], []⟩) R) := by
 have h7 : ∀ env, (A.deeper env).depth + 1 < ty := fun _ => h9
 refine cJ (m := [(ud "uri", .str uri ut), (ud "prefix", .str p pt), (ud "self", .ref i.x)]) B (by kernel_rfl!) (by exact da 2 (by with_reducible assumption)) (fun s X => by with_reducible refine kp_binds X ?_; intro S; kernel_rfl!) (by kernel_rfl!) fun L => ?_
 refine aH ?_;with_reducible refine b9 (bK ?_); refine cW (by assumption) .here .i2 (.there bu) (.there a6) nn ?_; refine qc ?_
 refine dT (fun hg => ?_) fun hg => ?_
 ·have h1 := h1 (by simpa using hg);with_reducible refine aH (qm (di (di (gr ?_))))
  exact Go.sl (.tail (.there .refl))
 have h2 := h2 (by simpa using hg);with_reducible refine aV (aM (aH ?_))
 refine bQ (fun f C => f = .next ∧ ∃ k, C = (L, cNs [(ud "uri", .str uri ut), (ud "prefix", .str p pt), (ud "self", .ref i.x)]) :: wr uX w i (cm i t k) V) ?_ ?_
 ·with_reducible refine b9 (bK ?_); refine cW (by assumption) .here .i2 (.there bu) (.there a6) ew ?_; refine kP (.there pV) (by have := hb.dz; (simp only [tv, ak, sO, aw, tf, r7, aj]; apply aP; with_reducible assumption; decide)) ?_
  refine lC (dT (fun hd => ?_) fun hd => ?_)
  ·with_reducible refine aV ?_
   exact jp ⟨rfl, 0, by unfold cm; rw [if_pos (by simpa [tv] using hd)]⟩
  ·with_reducible refine aH (bq (bF (aI .here .i2 ?_))); refine j9 (by assumption) (.there bu) (.there a6) ?_; refine rz (by assumption) (dS (by decide +kernel)) ?_; refine cz ?_; refine Go.wIn1 (kh B (h7 _) hb.tot hb.dz (tH x0 (by decide)) hb.psn hb.psz ?_); intro k; refine Go.wOut1 (aM (aV ?_))
   exact jp ⟨rfl, k, by unfold cm; rw [if_neg (by simpa [tv] using hd)]⟩
 rintro f C ⟨rfl, k, rfl⟩;have h2 := h2 k;with_reducible refine aM (aH (bq (bF (br ?_)))); refine cW (by assumption) .here .i2 (.there bu) (.there a6) nj ?_; refine eX (aY fun _ => eV ?_); intro t1
 have eN : ((cm i t k).nl.map fun l => tW l.a) = (N.map fun l => tW l.a) ++ [.ref l.a] := by rw [dC, W, ao]; rfl
 have hl : l ∈ (cm i t k).nl := by rw [dC, W]; simp
 have x1 : l ∈ t.nl := by rw [W]; simp
 with_reducible refine fk (.there nh) eN (by with_unfolding_all rfl) ?_
 have hL : Has (wr uX w i (cm i t k) V) l.a (aE l.refs) := ng hl;with_reducible refine cS PySem.F.slot_list_append PySem.F.type_list_append (.there (by with_reducible assumption)) ?_; refine dJ (aG (eh (aG (aI .here .here (aG ?_))))); refine aI .here .i1 (aJ (ed fun _ => aJ ?_))
 rename_i a;refine k_pushN (X := [_]) (q := ⟨a, uri, ut, p, pt⟩) (by rw [dC]; exact W) (by have := (hb.nll l x1).1; (apply aP; with_reducible assumption; decide)) ?_;rw [dC];have h2 := h2 a;show Go h0 o0 (_ :: wr uX w i _ V) _;with_reducible refine aM (aV (iK ?_))
 exact Go.sl (.tail (.there .refl))
theorem qnF_2 {rw : Bool} {s s' : QS} {uri tag q : Str} {sn : List Str} (hf : bM uri (aK s.dl) [] = (none, sn)) (W : kz rw s uri tag = some (q, s')) (h7 : rw = false) (hc : uri.length = 0 ∧ ud "" ∉ sn) : q = tag ∧ s' = s := by
 unfold kz at W;rw [hf] at W;dsimp only at W;rw [if_neg (by rw [h7]; decide), if_pos hc] at W;cases W; exact ⟨rfl, rfl⟩
theorem qnF_3 {rw : Bool} {s s' : QS} {uri tag q : Str} {sn : List Str} {o : Option Sp} (hf : bM uri (aK s.dl) [] = (none, sn)) (W : kz rw s uri tag = some (q, s')) (h7 : rw = false) (hc : ¬ (uri.length = 0 ∧ ud "" ∉ sn)) (ho : ((aK s.nl).find? fun q => q.1 == uri) = o) :
  (∀ p, o = some p → q = iB p.2 tag ∧ s' = ⟨bB s.dl (uri, p.2), s.nl, s.pm⟩) ∧ (o = none → uri.length = 0 ∧ q = tag ∧ s' = s) := by
 unfold kz at W;rw [hf] at W;dsimp only at W;rw [if_neg (by rw [h7]; decide), if_neg hc, ho] at W;cases o with
 | some p => cases W; exact ⟨fun p e => by cases e; exact ⟨rfl, rfl⟩, fun e => by cases e⟩
 | none =>
  refine ⟨fun p e => (by cases e), fun _ => ?_⟩;dsimp only at W;split at W
  ·rename_i h; cases W; exact ⟨h, rfl, rfl⟩
  ·cases W
theorem c_qn2 {nm uri tag q : Str} {u u2 u3 : Tok} {L S : uR} {sn : List Str} {s' : QS} {R : RP} (B : Base (KF w.params) h0) (hh : A.handled = none) (x9 : A.depth + 2 < ty) (hb : WB t) (hd : t.dl ≠ []) (y2 : uri.length ≤ 100) (x7 : tag.length ≤ 100)
  (hf : bM uri (aK (t.dl.map Lv.v)) [] = (none, sn)) (hq : kz i.rw (QS.of t) uri tag = some (q, s'))
  (h : ∀ T k1 k2 k3 x3 x6, QS.of { t with dl := x3, pm := x6 } = s' → x3.map (·.a) = t.dl.map (·.a) → Go h0 o0 ((T, bn [.str q k1, .str tag k2, .str uri k3]) :: wr uX w i { t with dl := x3, pm := x6 } V) (R (.ok (.ret (.ref T))))) :
  Go h0 o0 ((L, cNs [(ud "uri", .str uri u2), (ud "qname", .str nm u), (ud "self", .ref i.x), (ud "tag", .str tag u3), (ud "prefixes_seen", .ref S)]) :: (S, a8 false w sn) :: wr uX w i t V)
   (uL (uM uX w) (A.deeper (callEnv (aZ (KF w.params) lX) L lX)) (uP ((a7 (KF w.params) lX).drop 3) (callEnv (aZ (KF w.params) lX) L lX)) (RK R) NoE) := by
 have x2 : ∀ env, (A.deeper env).handled = none := fun _ => hh
 have h7 : ∀ env, (A.deeper env).depth < ty := fun _ => by show A.depth + 1 < _; (exact da 1 (by with_reducible assumption))
 have y1 : cD h0 (ud "len") (.builtin "len") := B.bltAt (by kernel_rfl!) (by kernel_rfl!) (by decide +kernel) (by decide +kernel);obtain ⟨N, l, hN⟩ : ∃ N l, t.dl = N ++ [l] := ⟨t.dl.dropLast, t.dl.getLast hd, (rL hd).symm⟩;have hl : l ∈ t.dl := by rw [hN]; simp
 have eN : (t.dl.map fun l => tW l.a) = (N.map fun l => tW l.a) ++ [.ref l.a] := by rw [hN, ao]; rfl
 have y0 : l.ps.length ≤ 1000000 := by have := (hb.dll l hl).1; (apply aP; with_reducible assumption; decide)
 have z0 : tZ.length = 0 := by decide +kernel
 have z1 : (ud ":").length = 1 := by decide +kernel
 refine aH (b9 ?_);with_reducible refine bK ?_; refine cW (by assumption) .here .i2 (.t2 bu) (.t2 a6) tg_rw ?_; refine a0 (eW (aV (aM (aH ?_))))
 have x4 : i.rw = false := rfl;have uz : uri.length ≤ ug := by rw [aj]; (apply aP; with_reducible assumption; decide)
 refine bQ (fun f C => (f = .next ∧ ¬ (uri.length = 0 ∧ ud "" ∉ sn) ∧ C = (L, cNs [(ud "uri", .str uri u2), (ud "qname", .str nm u), (ud "self", .ref i.x), (ud "tag", .str tag u3), (ud "prefixes_seen", .ref S)]) :: (S, a8 false w sn) :: wr uX w i t V) ∨
  (∃ T, f = .ret (.ref T) ∧ (uri.length = 0 ∧ ud "" ∉ sn) ∧ C = (T, bn [.str tag u3, .str tag u3, .str uri u2]) :: wr uX w i t V)) ?_ ?_
 ·with_reducible refine b9 (c6 (b7 (nq (bK (aI .here .here ?_))))); refine gh uz ?_
  refine lC (dT (fun hn => ?_) fun hn => ?_)
  ·with_reducible refine eW (aV ?_)
   exact jp (.inl ⟨rfl, fun q => absurd q.1 (by simpa using hn), rfl⟩)
  ·have hn : uri.length = 0 := by simpa using hn
   with_reducible refine b7 (bv (aR fun _ _ => aI .here .i4 (qD .h1 (a0 ?_))))
   refine lC (dT (fun hs => ?_) fun hs => ?_)
   ·with_reducible refine eW (aV ?_)
    exact jp (.inl ⟨rfl, fun q => absurd (by simpa using hs) q.2, rfl⟩)
   ·with_reducible refine fe (lW (aH (fC (eh (aG ?_))))); refine aI .here .i3 (aG (aI .here .i3 (aG (aI .here .here (aJ ?_))))); refine ed fun _ => di ?_
    rename_i T;refine Go.sel ?_ (jp (.inr ⟨T, rfl, ⟨hn, by simpa using hs⟩, rfl⟩));with_reducible exact .pick .here (.tail (.t2 .refl))
 rintro f C (⟨rfl, hc, rfl⟩ | ⟨T, rfl, hc, rfl⟩)
 case inr =>
  obtain ⟨rfl, rfl⟩ := qnF_2 hf hq x4 hc;have h := h T u3 u3 u2 t.dl t.pm rfl rfl;with_reducible refine di (gr ?_)
  exact h
 have x1 := fun o => qnF_3 (o := o) hf hq x4 hc
 clear hq;refine aM (aH ?_)
 refine bQ (fun f C => (f = .next ∧ (aK (t.nl.map Lv.v)).find? (fun q => q.1 == uri) = none ∧ C = (L, cNs [(ud "uri", .str uri u2), (ud "qname", .str nm u), (ud "self", .ref i.x), (ud "tag", .str tag u3), (ud "prefixes_seen", .ref S)]) :: (S, a8 false w sn) :: wr uX w i t V) ∨
  (∃ T W a k1, f = .ret (.ref T) ∧ (aK (t.nl.map Lv.v)).find? (fun q => q.1 == uri) = some (Pr.v W) ∧ C = (T, bn [.str (iB W.p tag) k1, .str tag u3, .str uri u2]) :: wr uX w i { t with dl := bL t.dl ⟨a, uri, u2, W.p, W.pt⟩ } V)) ?_ ?_
 ·refine nv (x2 _) (h7 _) B.lim ?_ (fun _ => by with_unfolding_all rfl);with_reducible refine bF (aI .here .i2 ?_); refine rl (by assumption) (.t2 bu) (.t2 a6) ?_; refine kg (by assumption) (dS (by decide +kernel)) ?_ (by with_unfolding_all rfl) (by with_unfolding_all rfl); refine aG ?_; refine cW (by assumption) .here .i2 (.t2 bu) (.t2 a6) nj ?_; refine aJ (ck ?_)
  refine k_it0 (ls := t.nl) (fun n C => (∀ p ∈ (prs t.nl).take n, p.u ≠ uri) ∧ C = (L, cNs [(ud "uri", .str uri u2), (ud "qname", .str nm u), (ud "self", .ref i.x), (ud "tag", .str tag u3), (ud "prefixes_seen", .ref S)]) :: (S, a8 false w sn) :: wr uX w i t V) B (x2 _) (h7 _) ⟨by simp, rfl⟩ ?_ ?_ ?_
  ·rintro n C ⟨_, rfl⟩;exact wr_StkN hb (X := [_, _])
  ·rintro n W C K' o x0 ⟨hno, rfl⟩ hbk;obtain ⟨lq, x8, x5⟩ := nE (se x0);have h9 := (hb.nll lq x8).2 W x5;show Go h0 o (_ :: _ :: (wr uX w i t V ++ K')) _;rw [← bN];refine u_2 (x2 _) (.t2 (wr_prN x8 x5)) ?_;with_reducible refine aQ .here .j5 (aQ .here .j6 (aH (b9 (bv (aI .here .i5 ?_))))); refine aI .here .here (g4 (a0 ?_))
   by_cases hu : W.u = uri
   ·rw [beq_iff_eq.mpr hu];with_reducible refine lW (aH (bq (bF (br ?_)))); refine cW (by assumption) .here .i2 (.t2 bu) (.t2 a6) no ?_; refine eX (aY fun _ => eV ?_); intro t1; refine fk (.t2 ni) eN (by with_unfolding_all rfl) ?_
    have hL : Has (wr uX w i t (V ++ K')) l.a (aE l.refs) := gy hl;with_reducible refine cS PySem.F.slot_list_append PySem.F.type_list_append (.t2 (by with_reducible assumption)) ?_; refine dJ (aG (eh (aG (aI .here .here (aG ?_))))); refine aI .here .i6 (aJ (ed fun _ => aJ ?_))
    rename_i a;refine k_pushD (X := [_, _]) (q := ⟨a, uri, u2, W.p, W.pt⟩) hN y0 ?_;show Go h0 o (_ :: _ :: wr uX w i { t with dl := bL t.dl ⟨a, uri, u2, W.p, W.pt⟩ } (V ++ K')) _;with_reducible refine aM (aH (fC (eh (aG ?_))))
    refine bQ (fun v C => ∃ k, v = uN.str (iB W.p tag) k ∧ C = (L, cNs [(ud "uri", .str uri u2), (ud "qname", .str nm u), (ud "self", .ref i.x), (ud "tag", .str tag u3), (ud "prefixes_seen", .ref S), (ud "u", .str W.u W.ut), (ud "prefix", .str W.p W.pt)]) :: (S, a8 false w sn) :: wr uX w i { t with dl := bL t.dl ⟨a, uri, u2, W.p, W.pt⟩ } (V ++ K')) ?_ ?_
    ·with_reducible refine cO (bK (aI .here .i6 ?_)); refine gh (by rw [aj]; (with_unfolding_all exact oq6 h9.2)) ?_
     refine dT (fun hp => ?_) fun hp => ?_
     ·have hp : ¬ W.p.length = 0 := by simpa using hp
      with_reducible refine nU (cy (mS (aI .here .i6 ?_))); refine ii (by simp only [am, aj]; with_unfolding_all exact oq6 h9.2) ?_; intro _; refine dr (by simp only [am, aj]; with_unfolding_all exact (a9 0x21495df7b91615bb61ee40c78188ba25f82 44139549) z0 h9.2) ?_; refine cy (aR ?_); intro _ _; refine dr (by simp only [am, aj]; with_unfolding_all exact (bZ 0x5a253ebded676baffc41513814cbbc0acb1f83b02 51025318645) z0 z1 h9.2) ?_; refine cy (mS (aI .here .i3 ?_)); refine ii (by simp only [am, aj]; apply aP; with_reducible assumption; decide) ?_; intro _; refine dr (by simp only [am, aj]; with_unfolding_all exact (jP 0x1371fea0294b41d4fab69d6dfd15b44bffb51c16193c291b8b322 1734860833931) x7 z0 z1 h9.2) ?_; refine nK ?_; refine nM (by simp only [am, aj]; with_unfolding_all exact (jP 0x1371fea0294b41d4fab69d6dfd15b44bffb51c16193c291b8b322 1734860833931) x7 z0 z1 h9.2) ?_; intro _
      exact jp ⟨_, by unfold iB; rw [if_neg hp], rfl⟩
     ·have hp : W.p.length = 0 := by simpa using hp
      with_reducible refine aI .here .i3 ?_
      exact jp ⟨_, by unfold iB; rw [if_pos hp], rfl⟩
    rintro v C ⟨k, rfl, rfl⟩;with_reducible refine aG (aI .here .i3 (aG (aI .here .here (aJ (ed ?_))))); intro _; refine di (di ?_)
    rename_i T;with_reducible refine tk_r ?_
    refine Go.sel (cs' := (T, bn [.str (iB W.p tag) k, .str tag u3, .str uri u2]) :: wr uX w i { t with dl := bL t.dl ⟨a, uri, u2, W.p, W.pt⟩ } (V ++ K')) (.pick .here (.tail (.t2 .refl))) ?_;rw [bN];exact Go.back (C := _ :: _) hbk (jp (.inr ⟨T, W, a, k, rfl, qx x0 hno hu, rfl⟩))
   ·rw [show (W.u == uri) = false from by simpa using hu];with_reducible refine eW (aV (aM (aV ?_)))
    refine Go.thin (a := L) (m' := [(ud "uri", .str uri u2), (ud "qname", .str nm u), (ud "self", .ref i.x), (ud "tag", .str tag u3), (ud "prefixes_seen", .ref S)]) .here (.ix 4399365) ?_;refine iH (C := _ :: _ :: wr uX w i t V) ⟨?_, rfl⟩ (by rw [bN]; rfl);intro p hp;rw [sE, x0] at hp;rcases s8.mp hp with hp | hp
    ·exact hno p hp
    ·simp only [Option.toList, su] at hp;rw [hp]; exact hu
  ·rintro C ⟨hno, rfl⟩;exact jp (.inl ⟨rfl, qw hno, rfl⟩)
 rintro f C (⟨rfl, hfi, rfl⟩ | ⟨T, W, a, k1, rfl, hfi, rfl⟩)
 ·obtain ⟨hz, rfl, rfl⟩ := (x1 none hfi).2 rfl;clear x1;with_reducible refine aM (aH (b9 (nq (bK (aI .here .here ?_))))); refine gh uz ?_
  refine lC (dT (fun hn => ?_) fun hn => ?_)
  ·rw [hz] at hn; cases hn
  ·with_reducible refine aH (fC (eh (aG (aI .here .i3 (aG ?_))))); refine aI .here .i3 (aG (aI .here .here (aJ (ed fun _ => di ?_)))); refine di (gr ?_)
   rename_i T;have h := h T u3 u3 u2 t.dl t.pm rfl rfl;exact Go.sl (.pick .here (.tail (.t2 .refl)))
 ·obtain ⟨rfl, rfl⟩ := (x1 _ hfi).1 _ rfl;have h := h T k1 u3 u2 (bL t.dl ⟨a, uri, u2, W.p, W.pt⟩) t.pm (by unfold QS.of; dsimp only; rw [jK]; rfl) (nA _ _);with_reducible refine di (gr ?_)
  exact h
theorem nZ (B : Base (KF w.params) h0) (hh : A.handled = none) (x2 : A.depth + 2 < ty) (hb : WB t) (hd : t.dl ≠ []) (hsz : (prs t.dl).length ≤ 500) (x6 : iM nm = true) (hq : kz i.rw (QS.of t) (bX nm).1 (bX nm).2 = some (q, s'))
  (h : ∀ T k1 k2 k3 x5 x8, QS.of { t with dl := x5, pm := x8 } = s' → x5.map (·.a) = t.dl.map (·.a) → Go h0 o0 ((T, bn [.str q k1, .str (bX nm).2 k2, .str (bX nm).1 k3]) :: wr uX w i { t with dl := x5, pm := x8 } V) (R (.ok (.ret (.ref T))))) :
  Go h0 o0 (wr uX w i t V) (uD (uM uX w) A (.call (.ref lX) ⟨[.ref i.x, .str nm u], []⟩) R) := by
 have x0 : ∀ env, (A.deeper env).handled = none := fun _ => hh
 have h7 : ∀ env, (A.deeper env).depth < ty := fun _ => by show A.depth + 1 < _; (exact da 1 (by with_reducible assumption))
 have y6 : cD h0 (ud "set") (.type "set") := B.bltAt (by kernel_rfl!) (by kernel_rfl!) (by decide +kernel) (by decide +kernel);have z0 : tZ.length = 0 := by decide +kernel
 have z1 : (ud ":").length = 1 := by decide +kernel
 unfold iM at x6;simp only [sP, decide_eq_true_eq, Bool.or_eq_true, Bool.not_eq_true', beq_iff_eq] at x6;obtain ⟨⟨⟨y2, y3⟩, x4⟩, x1⟩ := x6;have nz : nm.length ≤ ug := by rw [aj]; (apply aP; with_reducible assumption; decide)
 refine cJ (m := [(ud "uri", .none), (ud "qname", .str nm u), (ud "self", .ref i.x)]) B (by kernel_rfl!) (by exact da 2 (by with_reducible assumption)) (fun s X => by with_reducible refine kp_binds X ?_; intro S; kernel_rfl!) (by kernel_rfl!) fun L => ?_
 refine aH ?_;refine bQ (fun f C => f = .next ∧ ∃ u2 u3, C = (L, cNs [(ud "uri", .str (bX nm).1 u2), (ud "qname", .str nm u), (ud "self", .ref i.x), (ud "tag", .str (bX nm).2 u3)]) :: wr uX w i t V) ?_ ?_
 ·with_reducible refine b9 (bv (aI .here .here (df (o_is (a0 ?_))))); refine ifEN (aH ?_); refine nw ?_ (by with_unfolding_all rfl) (by with_unfolding_all rfl); refine cO (bv ?_); refine e_upto ?_ (by intro _ _; with_unfolding_all rfl); refine aI .here .i1 (aY fun _ => uk nz fun t1 => aR fun _ _ => g4 (a0 ?_))
  cases hs : (Txt.slice nm none (some 1) == ud "{") with
  | false =>
   have es : bX nm = (ud "", nm) := by unfold bX; rw [if_neg (by rw [hs]; decide)]
   rw [es];with_reducible refine eW (eh (aG (aR fun _ _ => aG (aI .here .i1 ?_)))); refine aJ (ed fun _ => u_2 (x0 _) .here (aQ .h1 .here (aQ .h1 .j3 (aM ?_)))); refine aV ?_
   rename_i t3 y7 T;exact Go.sel (cs' := (L, cNs [(ud "uri", .str (ud "") t3), (ud "qname", .str nm u), (ud "self", .ref i.x), (ud "tag", .str nm u)]) :: wr uX w i t V) (.pick .h1 (.tail (.there .refl))) (jp ⟨rfl, _, _, rfl⟩)
  | true =>
   have y4 : (Txt.rsplitMax (Txt.slice nm (some 1) none) (ud "}") 1).length = 2 := by
    rcases y3 with q | q
    ·rw [hs] at q; cases q
    ·exact q
   with_reducible refine lW (bF ?_); refine e_from ?_ (by intro _ _; with_unfolding_all rfl); refine aI .here .i1 (aY fun _ => uf nz ?_); intro t2
   skip
   with_reducible refine rf (dJ (aG (aR fun _ _ => aG (aY ?_)))); intro _; refine aJ ?_; refine qX (by decide +kernel) (by decide) (by have := Txt.slice_le nm (some 1) none; rw [aj]; (with_unfolding_all exact (a9 0x20af33964a7cac12d7bc4303ce3eb82eaf4 0) y2 this)) ?_; intro D l hl
   obtain ⟨a, b, el⟩ : ∃ a b, l = [a, b] := by
    have e := congrArg tQ hl;rw [ak, y4] at e
    match l, e with
    | [a, b], _ => exact ⟨a, b, rfl⟩
   subst el;have es : bX nm = (a.1, b.1) := by unfold bX; rw [if_pos hs, ← hl]; rfl
   rw [es]
   skip
   with_reducible refine u_2l (x0 _) (show Has _ D (aE [.str a.1 a.2, .str b.1 b.2]) from .here) ?_; refine aQ .h1 .here (aQ .h1 .j3 (aM (aV ?_)))
   exact Go.sel (cs' := (L, cNs [(ud "uri", .str a.1 a.2), (ud "qname", .str nm u), (ud "self", .ref i.x), (ud "tag", .str b.1 b.2)]) :: wr uX w i t V) (.pick .h1 (.tail (.there .refl))) (jp ⟨rfl, _, _, rfl⟩)
 rintro f C ⟨rfl, u2, u3, rfl⟩;generalize bX nm = st at hq h x4 x1;obtain ⟨W, tag⟩ := st;dsimp only at hq h x4 x1 ⊢;with_reducible refine aM (aH (bR (bf ?_))); refine dg (by assumption) (by kernel_rfl!) (by kernel_rfl!) (by kernel_rfl!) (by kernel_rfl!) (by decide +kernel) ?_; refine c_ty0 (k_set0 fun S => aQ .h1 .j4 (aM (aH ?_)))
 refine Go.sel (cs' := (L, cNs [(ud "uri", .str W u2), (ud "qname", .str nm u), (ud "self", .ref i.x), (ud "tag", .str tag u3), (ud "prefixes_seen", .ref S)]) :: (S, a8 false w []) :: wr uX w i t V) (.pick .h1 (.pick .here (.tail .refl))) ?_
 refine bQ (fun f C => (f = .next ∧ (bM W (aK (t.dl.map Lv.v)) []).1 = none ∧ C = (L, cNs [(ud "uri", .str W u2), (ud "qname", .str nm u), (ud "self", .ref i.x), (ud "tag", .str tag u3), (ud "prefixes_seen", .ref S)]) :: (S, a8 false w (bM W (aK (t.dl.map Lv.v)) []).2) :: wr uX w i t V) ∨
  (∃ T p k1, f = .ret (.ref T) ∧ (bM W (aK (t.dl.map Lv.v)) []).1 = some p ∧ C = (T, bn [.str (iB p tag) k1, .str tag u3, .str W u2]) :: wr uX w i t V)) ?_ ?_
 ·refine nv (x0 _) (h7 _) B.lim ?_ (fun _ => by with_unfolding_all rfl);with_reducible refine bF (aI .here .i2 ?_); refine rl (by assumption) (.t2 bu) (.t2 a6) ?_; refine kg (by assumption) (dS (by decide +kernel)) ?_ (by with_unfolding_all rfl) (by with_unfolding_all rfl); refine aG ?_; refine cW (by assumption) .here .i2 (.t2 bu) (.t2 a6) no ?_; refine aJ (ck ?_)
  refine k_it0 (ls := t.dl) (fun n C => ∃ sn, sn.length ≤ n ∧ bM W (((prs t.dl).take n).map Pr.v) [] = (none, sn) ∧ C = (L, cNs [(ud "uri", .str W u2), (ud "qname", .str nm u), (ud "self", .ref i.x), (ud "tag", .str tag u3), (ud "prefixes_seen", .ref S)]) :: (S, a8 false w sn) :: wr uX w i t V) B (x0 _) (h7 _) ⟨[], tO _, by simp [bM], rfl⟩ ?_ ?_ ?_
  ·rintro n C ⟨sn, _, _, rfl⟩;exact wr_StkD hb (X := [_, _])
  ·rintro n qp C K' o x3 ⟨sn, hsl, hno, rfl⟩ hbk;obtain ⟨lq, x9, x7⟩ := nE (se x3);have h9 := (hb.dll lq x9).2 qp x7;have y0 := fp _ [qp.v] _ _ hno;have y5 : n < (prs t.dl).length := (rO.mp x3).1;have y1 : ((prs t.dl).take (n + 1)).map Pr.v = ((prs t.dl).take n).map Pr.v ++ [qp.v] := by rw [sE, x3, ao]; rfl
   rw [← y1] at y0;show Go h0 o (_ :: _ :: (wr uX w i t V ++ K')) _;rw [← bN];refine u_2 (x0 _) (.t2 (pU x9 x7)) ?_;with_reducible refine aQ .here .j5 (aQ .here .j6 (aH ?_))
   by_cases hc : qp.u = W ∧ qp.p ∉ sn
   ·with_reducible refine b9 (c6 (b7 (bv (aI .here .i5 (aI .here .here ?_))))); refine g4 (a0 ?_)
    rw [beq_iff_eq.mpr hc.1];with_reducible refine lW (b7 (bv (aI .here .i6 (aI .here .i4 (qD .h1 ?_)))))
    rw [decide_eq_false hc.2];with_reducible refine a0 (ifNF (fe (lW (aH (fC ?_))))); refine eh (aG ?_)
    refine bQ (fun v C => ∃ k, v = uN.str (iB qp.p tag) k ∧ C = (L, cNs [(ud "uri", .str W u2), (ud "qname", .str nm u), (ud "self", .ref i.x), (ud "tag", .str tag u3), (ud "prefixes_seen", .ref S), (ud "u", .str qp.u qp.ut), (ud "prefix", .str qp.p qp.pt)]) :: (S, a8 false w sn) :: wr uX w i t (V ++ K')) ?_ ?_
    ·with_reducible refine cO (bK (aI .here .i6 ?_)); refine gh (by rw [aj]; (with_unfolding_all exact oq6 h9.2)) ?_
     refine dT (fun hp => ?_) fun hp => ?_
     ·have hp : ¬ qp.p.length = 0 := by simpa using hp
      with_reducible refine nU (cy (mS (aI .here .i6 ?_))); refine ii (by simp only [am, aj]; with_unfolding_all exact oq6 h9.2) ?_; intro _; refine dr (by simp only [am, aj]; with_unfolding_all exact (a9 0x21495df7b91615bb61ee40c78188ba25f82 44139549) z0 h9.2) ?_; refine cy (aR ?_); intro _ _; refine dr (by simp only [am, aj]; with_unfolding_all exact (bZ 0x5a253ebded676baffc41513814cbbc0acb1f83b02 51025318645) z0 z1 h9.2) ?_; refine cy (mS (aI .here .i3 ?_)); refine ii (by simp only [am, aj]; apply aP; with_reducible assumption; decide) ?_; intro _; refine dr (by simp only [am, aj]; with_unfolding_all exact (jP 0x1371fea0293bfae0303c6873629475217b7f011e2c8d2b7a0b322 1734862132085) z0 z1 x1 h9.2) ?_; refine nK ?_; refine nM (by simp only [am, aj]; with_unfolding_all exact (jP 0x1371fea0293bfae0303c6873629475217b7f011e2c8d2b7a0b322 1734862132085) z0 z1 x1 h9.2) ?_; intro _
      exact jp ⟨_, by unfold iB; rw [if_neg hp], rfl⟩
     ·have hp : qp.p.length = 0 := by simpa using hp
      with_reducible refine aI .here .i3 ?_
      exact jp ⟨_, by unfold iB; rw [if_pos hp], rfl⟩
    rintro v C ⟨k, rfl, rfl⟩;with_reducible refine aG (aI .here .i3 (aG (aI .here .here (aJ (ed ?_))))); intro _; refine di (di ?_)
    rename_i T;with_reducible refine tk_r ?_
    refine Go.sel (cs' := (T, bn [.str (iB qp.p tag) k, .str tag u3, .str W u2]) :: wr uX w i t (V ++ K')) (.pick .here (.tail (.t2 .refl))) ?_;rw [bN];refine Go.back (C := _ :: _) hbk (jp (.inr ⟨T, qp.p, k, rfl, ?_, rfl⟩));have e : prs t.dl = (prs t.dl).take (n + 1) ++ (prs t.dl).drop (n + 1) := (List.take_append_drop _ _).symm;have e2 : bM W [qp.v] sn = (some qp.p, sn) := by show (if qp.u = W ∧ qp.p ∉ sn then _ else _) = _; rw [if_pos hc]
    rw [← iZ, e, ao, y1, av, fp _ _ _ _ hno];show (if qp.u = W ∧ qp.p ∉ sn then _ else _ : Option Str × List Str).1 = _;rw [if_pos hc]
   ·have e2 : bM W [qp.v] sn = (none, cn sn qp.p) := by show (if qp.u = W ∧ qp.p ∉ sn then _ else _) = _; rw [if_neg hc]; rfl
    refine bQ (fun f C => f = .next ∧ C = (L, cNs [(ud "uri", .str W u2), (ud "qname", .str nm u), (ud "self", .ref i.x), (ud "tag", .str tag u3), (ud "prefixes_seen", .ref S), (ud "u", .str qp.u qp.ut), (ud "prefix", .str qp.p qp.pt)]) :: (S, a8 false w sn) :: wr uX w i t (V ++ K')) ?_ ?_
    ·with_reducible refine b9 (c6 (b7 (bv (aI .here .i5 (aI .here .here ?_))))); refine g4 (a0 ?_)
     by_cases hu : qp.u = W
     ·have hp : qp.p ∈ sn := Classical.byContradiction fun q => hc ⟨hu, q⟩
      rw [beq_iff_eq.mpr hu];with_reducible refine lW (b7 (bv (aI .here .i6 (aI .here .i4 (qD .h1 ?_)))))
      rw [decide_eq_true hp];with_reducible refine a0 (ifNT (eW (aV ?_)))
      exact jp ⟨rfl, rfl⟩
     ·rw [show (qp.u == W) = false from by simpa using hu];with_reducible refine eW (eW (aV ?_))
      exact jp ⟨rfl, rfl⟩
    rintro f C ⟨rfl, rfl⟩;with_reducible refine aM (aH (bq (bF (aI .here .i4 (g_add .h1 ?_))))); refine dJ (aG (aI .here .i6 (aJ ?_))); refine k_add (ks := sn) (b := false) (by unfold scanBound; (with_unfolding_all exact (bZ 0x347c515735a9a3ec41460e730765a56 0) hsz hsl y5)) .h1 ?_; refine aM (aV ?_)
    refine Go.thin (a := L) (m' := [(ud "uri", .str W u2), (ud "qname", .str nm u), (ud "self", .ref i.x), (ud "tag", .str tag u3), (ud "prefixes_seen", .ref S)]) .here (.ix 4399365) ?_;refine iH (C := _ :: _ :: wr uX w i t V) ⟨cn sn qp.p, ?_, ?_, rfl⟩ (by rw [bN]; rfl)
    ·unfold cn; split
     ·(exact Nat.le_succ_of_le (by with_reducible assumption))
     ·rw [aw]; show _ + 1 ≤ _; (exact (a9 0x5d4a6ae9913ce 0) hsl)
    ·rw [y0, e2]
  ·rintro C ⟨sn, _, hno, rfl⟩;rw [List.take_length, iZ] at hno;exact jp (.inl ⟨rfl, by rw [hno], by rw [hno]⟩)
 rintro f C (⟨rfl, hf, rfl⟩ | ⟨T, p, k1, rfl, hf, rfl⟩)
 ·refine aM ?_;exact Go.mono (c_qn2 B hh x2 hb hd x4 x1 (by rw [← hf]) hq h) fun _ q => q
 ·unfold kz at hq;rw [show (QS.of t).dl = t.dl.map Lv.v from rfl] at hq;generalize bM W (aK (t.dl.map Lv.v)) [] = fq at hf hq;obtain ⟨f1, f2⟩ := fq;dsimp only at hf;subst hf;cases hq;have h := h T k1 u3 u2 t.dl t.pm rfl rfl;with_reducible refine di (gr ?_)
  exact h
end
section
variable {M : Model} {cs cs' V X Y : aF} {P : GP} {Q : VP} {i : Wid} {t : d0}
theorem o_isub {a b : Int} {t u : Tok} (h : ∀ t, Go h0 o0 cs (Q (.int (a - b) t))) : Go h0 o0 cs (uL (uM uX w) A (inplaceOp .Sub (.int a t) (.int b u)) Q E) := fun s H => PyProof.Rows.isub_int (h _ _ (H.toks (tP _)))
theorem lx (e : xs = ys ++ [y]) (hp : Put cs l (aE xs) (aE ys) cs') (hz : xs.length ≤ ug) (h : Go h0 o0 cs' (Q y)) : Go h0 o0 cs (uL (uM uX w) A (uW (.builtin "list.pop") [.ref l]) Q E) := fun s H => x_pop0 (ys := ys) (y := y) H (e ▸ hp) (e ▸ hz) h
theorem qC (W : Has cs T (bn (v :: xs))) (hs : subscripted slice false (.ref T) (.int 0 u) = operate [.ref T, .int 0 u] (getItem (.ref T) (.int 0 u))) (h : Go h0 o0 cs (Q v)) :
  Go h0 o0 cs (uL (uM uX w) A (subscriptTail value slice (.ref T) (.int 0 u)) Q E) := fun s H => x_tup0 H W hs (h s H)
theorem lA (hl : Has cs l (aE xs)) (hz : xs.length ≤ ug) (h : ∀ t, Go h0 o0 cs (Q (.int xs.length t))) : Go h0 o0 cs (uL (uM uX w) A (uW (.builtin "len") [.ref l]) Q E) := fun s H => x_len H hl hz fun t s' W => h t s' W
theorem lG {pl : Sem Bool} {l : uR} {xs : List uN} {Q : uN × List uN → uF → Prop} (hl : Has cs l (aE xs)) (h : Go h0 o0 cs (Q (.builtin "list.pop", [.ref l]))) : Go h0 o0 cs (uL (uM uX w) A (ua (.ref l) (ud "pop") pl) Q E) := cS PySem.F.slot_list_pop PySem.F.type_list_pop hl h
theorem Go.sub (hs : cs'.Sublist cs) (h : Go h0 o0 cs' P) : Go h0 o0 cs P := fun s H => h s (H.sub hs)
theorem wr_popD (hn : t.dl = N ++ [l]) : ∃ W, Put (wr uX w i t V) i.DS (aE (t.dl.map fun l => .ref l.a)) (aE (N.map fun l => .ref l.a)) W ∧ (wr uX w i { t with dl := N } V).Sublist W := by
 refine ⟨_, .h5, ?_⟩;unfold wr;rw [hn, c7];refine rY _ (rY _ (rY _ (rY _ (rY _ (rY _ (rY _ (rY _ (rY _ (sr ?_ (sI _))))))))));exact List.sublist_append_left _ _
theorem wr_popN (hn : t.nl = N ++ [l]) : ∃ W, Put (wr uX w i t V) i.NS (aE (t.nl.map fun l => .ref l.a)) (aE (N.map fun l => .ref l.a)) W ∧ (wr uX w i { t with nl := N } V).Sublist W := by
 refine ⟨_, .h6, ?_⟩;unfold wr;rw [hn, c7];refine rY _ (rY _ (rY _ (rY _ (rY _ (rY _ (rY _ (rY _ (rY _ (sr (sI _) (sr ?_ (sI _)))))))))));exact List.sublist_append_left _ _
theorem k_popD (hn : t.dl = N ++ [l]) (hz : t.dl.length ≤ 1000000) (h : Go h0 o0 (p :: wr uX w i { t with dl := N } V) (Q (.ref l.a))) : Go h0 o0 (p :: wr uX w i t V) (uL (uM uX w) A (uW (.builtin "list.pop") [.ref i.DS]) Q E) := by
 obtain ⟨W, hp, hs⟩ := wr_popD (uX := uX) (w := w) (i := i) (V := V) hn;exact lx (ys := N.map fun l => .ref l.a) (y := .ref l.a) (by rw [hn, ao]; rfl) (.there hp) (by rw [ak, aj]; exact oq4 hz) (Go.sub (rY _ hs) h)
theorem k_popN (hn : t.nl = N ++ [l]) (hz : t.nl.length ≤ 1000000) (h : Go h0 o0 (p :: wr uX w i { t with nl := N } V) (Q (.ref l.a))) : Go h0 o0 (p :: wr uX w i t V) (uL (uM uX w) A (uW (.builtin "list.pop") [.ref i.NS]) Q E) := by
 obtain ⟨W, hp, hs⟩ := wr_popN (uX := uX) (w := w) (i := i) (V := V) hn;exact lx (ys := N.map fun l => .ref l.a) (y := .ref l.a) (by rw [hn, ao]; rfl) (.there hp) (by rw [ak, aj]; exact oq4 hz) (Go.sub (rY _ hs) h)
theorem k_newD (hz : t.dl.length ≤ 1000000) (h : Go h0 o0 (p :: wr uX w i { t with dl := t.dl ++ [⟨l, []⟩] } V) (Q .none)) : Go h0 o0 ((l, aE []) :: p :: wr uX w i t V) (uL (uM uX w) A (uW (.builtin "list.append") [.ref i.DS, .ref l]) Q E) := by
 have e2 : wr uX w i { t with dl := t.dl ++ [⟨l, []⟩] } V = (i.x, be cb i.dx) :: (i.dx, cAttrs (cE i t)) :: (i.W, bO "list.append" i.O) :: (i.O, aE (tv t.out)) :: (i.D, aE (tv t.data)) :: (i.DS, aE ((t.dl.map fun l => .ref l.a) ++ [.ref l])) :: (i.NS, aE (t.nl.map fun l => .ref l.a)) ::
  (i.PM, aL uX w (bH t.pm)) :: (i.PS, aE (t.ps.map uN.bool)) :: ((cG t.dl ++ [(l, aE [])]) ++ (cG t.nl ++ V)) := by
  unfold wr;rw [c7, ao]; rfl
 rw [e2] at h;unfold wr;refine jY (xs := t.dl.map fun l => .ref l.a) (.t6 .h1) (by rw [ak, aj]; exact oq4 hz) (Go.perm ?_ h);refine (tY.swap _ _ _).trans (tY.cons _ ?_);have m1 : ∀ (c : uR × cP) (a b : aF), ((l, (aE [] : cP)) :: a).Perm b → ((l, (aE [] : cP)) :: c :: a).Perm (c :: b) := fun c a b q => (tY.swap _ _ _).trans (q.cons _)
 refine m1 _ _ _ (m1 _ _ _ (m1 _ _ _ (m1 _ _ _ (m1 _ _ _ (m1 _ _ _ (m1 _ _ _ (m1 _ _ _ (m1 _ _ _ ?_))))))));rw [show ((cG t.dl ++ [(l, aE [])]) ++ (cG t.nl ++ V)) = cG t.dl ++ ((l, aE []) :: (cG t.nl ++ V)) from by simp];exact sQ.symm
theorem k_newN (hz : t.nl.length ≤ 1000000) (h : Go h0 o0 (X ++ wr uX w i { t with nl := t.nl ++ [⟨l, []⟩] } V) (Q .none)) : Go h0 o0 ((l, aE []) :: (X ++ wr uX w i t V)) (uL (uM uX w) A (uW (.builtin "list.append") [.ref i.NS, .ref l]) Q E) := by
 have e2 : wr uX w i { t with nl := t.nl ++ [⟨l, []⟩] } V = (i.x, be cb i.dx) :: (i.dx, cAttrs (cE i t)) :: (i.W, bO "list.append" i.O) :: (i.O, aE (tv t.out)) :: (i.D, aE (tv t.data)) :: (i.DS, aE (t.dl.map fun l => .ref l.a)) :: (i.NS, aE ((t.nl.map fun l => .ref l.a) ++ [.ref l])) ::
  (i.PM, aL uX w (bH t.pm)) :: (i.PS, aE (t.ps.map uN.bool)) :: (cG t.dl ++ ((cG t.nl ++ [(l, aE [])]) ++ V)) := by
  unfold wr;rw [c7, ao]; rfl
 rw [e2] at h;unfold wr;refine jY (xs := t.nl.map fun l => .ref l.a) (.there (.skip .h6)) (by rw [ak, aj]; exact oq4 hz) (Go.perm ?_ h);have m0 : ∀ (X a b : aF), ((l, (aE [] : cP)) :: a).Perm b → ((l, (aE [] : cP)) :: (X ++ a)).Perm (X ++ b) := fun X a b q => sQ.symm.trans (r8 _ q)
 have m1 : ∀ (c : uR × cP) (a b : aF), ((l, (aE [] : cP)) :: a).Perm b → ((l, (aE [] : cP)) :: c :: a).Perm (c :: b) := fun c a b q => (tY.swap _ _ _).trans (q.cons _)
 refine m0 _ _ _ (m1 _ _ _ (m1 _ _ _ (m1 _ _ _ (m1 _ _ _ (m1 _ _ _ (m1 _ _ _ (m1 _ _ _ (m1 _ _ _ (m1 _ _ _ (m0 _ _ _ ?_))))))))));rw [show (cG t.nl ++ [(l, aE [])]) ++ V = cG t.nl ++ ((l, aE []) :: V) from by simp];exact sQ.symm
theorem gf (B : Base (KF w.params) h0) (hx : Has cs i.x (be cb i.dx)) (hd : Has cs i.dx (cAttrs (cE i t))) (W : Look (cE i t) name v) (ok : atNames.contains name = true) (hh : handedIn v = true) (h : Go h0 o0 cs (Q v)) : Go h0 o0 cs (uL (uM uX w) A (getAttr (.ref i.x) name expr) Q E) := nQ B hx hd W (lU ok) hh h
theorem w_ig {n : Nat} {k : Int} {u : Tok} {Q : Unit → uF → Prop} (B : Base (KF w.params) h0) (W : Has cs i.x (be cb i.dx)) (hk : k = (n : Int)) (hp : Put cs i.dx (cAttrs (cE i t)) (cAttrs (cE i { t with ig := n, ti := u })) cs') (h : Go h0 o0 cs' (Q ())) : Go h0 o0 cs (uL (uM uX w) A (setAttr (.ref i.x) (ud "_ignored_depth") (.int k u)) Q E) := by
 subst hk;exact ch B W hp (oM n u) (hz := me) h
theorem w_rd {b : Bool} {Q : Unit → uF → Prop} (B : Base (KF w.params) h0) (W : Has cs i.x (be cb i.dx)) (hp : Put cs i.dx (cAttrs (cE i t)) (cAttrs (cE i { t with rd := b })) cs') (h : Go h0 o0 cs' (Q ())) : Go h0 o0 cs (uL (uM uX w) A (setAttr (.ref i.x) (ud "_root_done") (.bool b)) Q E) := ch B W hp (oL b) (hz := me) h
theorem w_rs {b : Bool} {Q : Unit → uF → Prop} (B : Base (KF w.params) h0) (W : Has cs i.x (be cb i.dx)) (hp : Put cs i.dx (cAttrs (cE i t)) (cAttrs (cE i { t with rs := b })) cs') (h : Go h0 o0 cs' (Q ())) : Go h0 o0 cs (uL (uM uX w) A (setAttr (.ref i.x) (ud "_root_seen") (.bool b)) Q E) := ch B W hp (oK b) (hz := me) h
theorem Go.wOutT (h : Go h0 o0 (p :: q :: wr uX w i t V) P) : Go h0 o0 (p :: wr uX w i t (q :: V)) P := Go.perm (tY.cons _ (wr_in (X := [q])).symm) h
theorem Go.wOutTX (h : Go h0 o0 (p :: (X ++ wr uX w i t V)) P) : Go h0 o0 (p :: wr uX w i t (X ++ V)) P := Go.perm (tY.cons _ wr_in.symm) h
end
section
variable {cs cs' V X Y : aF} {i : Wid} {t : d0} {Q : VP}
theorem c_end (B : Base (KF w.params) h0) (hh : A.handled = none) (y5 : A.depth + 4 < ty) (hb : WB t) (y1 : t.out.length ≤ 100000) (z4 : iM nm = true)
  (h1 : t.ig ≠ 0 → ∀ k, Go h0 o0 (wr uX w i { t with ig := t.ig - 1, ti := k } V) (R (.ok (.ret .none))))
  (hsz : (prs t.dl).length ≤ 500) (hN : t.dl = ND ++ [lD]) (y9 : t.nl = NN ++ [lN]) (z3 : t.ps = pp ++ [bp]) (hq : t.ig = 0 → kz i.rw (QS.of t) (bX nm).1 (bX nm).2 = some (q, s')) (z6 : q.length ≤ 1000)
  (h2 : t.ig = 0 → ∀ k k2 h7 W, (h7.map fun q => (q.1, q.2.1)) = s'.pm → W.map Lv.v = s'.dl.dropLast →
   Go h0 o0 (wr uX w i { cm i t k with out := (cm i t k).out ++ [(tZ ++ ud "</" ++ q ++ ud ">", k2)], pm := h7, dl := W, nl := NN, ps := pp, rd := pp.length == 1 } V) (R (.ok (.ret .none)))) :
  Go h0 o0 (wr uX w i t V) (uD (uM uX w) A (.call (.ref aEnd) ⟨[.ref i.x, .str nm u], []⟩) R) := by
 have y8 : ∀ env, (A.deeper env).handled = none := fun _ => hh
 have y3 : ∀ env, (A.deeper env).depth + 3 < ty := fun _ => by show A.depth + 1 + 3 < _; (with_reducible assumption)
 have x3 : ∀ env, (A.deeper env).depth + 1 < ty := fun _ => by show A.depth + 1 + 1 < _; (exact da 2 (by with_reducible assumption))
 have x6 : ∀ env, (A.deeper env).depth + 2 < ty := fun _ => by show A.depth + 1 + 2 < _; (exact da 1 (by with_reducible assumption))
 have z5 : cD h0 (ud "len") (.builtin "len") := B.bltAt (by kernel_rfl!) (by kernel_rfl!) (by decide +kernel) (by decide +kernel);have z0 : tZ.length = 0 := by decide +kernel
 have z1 : (ud "</").length = 2 := by decide +kernel
 have z2 : (ud ">").length = 1 := by decide +kernel
 refine cJ (m := [(ud "tag", .str nm u), (ud "self", .ref i.x)]) B (by kernel_rfl!) (by exact da 4 (by with_reducible assumption)) (fun s X => by with_reducible refine kp_binds X ?_; intro S; kernel_rfl!) (by kernel_rfl!) fun L => ?_
 refine aH ?_;with_reducible refine b9 (bK ?_); refine cW (by assumption) .here .i1 (.there bu) (.there a6) nn ?_; refine qc ?_
 refine dT (fun hg => ?_) fun hg => ?_
 ·have x4 : t.ig ≠ 0 := by simpa using hg
  with_reducible refine aH (s_aug (aI .here .i1 ?_)); refine gf (by assumption) (.there bu) (.there a6) nn (by decide +kernel) (by kernel_rfl!) ?_; refine aY fun _ => o_isub ?_; intro k; refine w_ig (n := t.ig - 1) B (.there bu) (by omega) (.there (pw_ig _ _)) ?_
  have h1 := h1 x4 k;with_reducible refine aM (aH (qm (di (di (gr ?_)))))
  exact Go.sl (.tail (.there .refl))
 have x4 : t.ig = 0 := by simpa using hg
 have hq := hq x4;have h2 := h2 x4;with_reducible refine aV (aM (aH ?_))
 refine bQ (fun f C => f = .next ∧ ∃ k, C = (L, cNs [(ud "tag", .str nm u), (ud "self", .ref i.x)]) :: wr uX w i (cm i t k) V) ?_ ?_
 ·with_reducible refine b9 (bK ?_); refine cW (by assumption) .here .i1 (.there bu) (.there a6) ew ?_; refine kP (.there pV) (by have := hb.dz; (simp only [tv, ak, sO, aw, tf, r7, aj]; apply aP; with_reducible assumption; decide)) ?_
  refine dT (fun hd => ?_) fun hd => ?_
  ·with_reducible refine aH (bq (bF (aI .here .i1 ?_))); refine j9 (by assumption) (.there bu) (.there a6) ?_; refine rz (by assumption) (dS (by decide +kernel)) ?_; refine cz ?_; refine Go.wIn1 (kh B (x3 _) hb.tot hb.dz (tH y1 (by decide)) hb.psn hb.psz ?_); intro k; refine Go.wOut1 (aM (aV ?_))
   exact jp ⟨rfl, k, by unfold cm; rw [if_neg (by simpa [tv] using hd)]⟩
  ·with_reducible refine aV ?_
   exact jp ⟨rfl, 0, by unfold cm; rw [if_pos (by simpa [tv] using hd)]⟩
 rintro f C ⟨rfl, k, rfl⟩;with_reducible refine aM (aH (bq (bF (aI .here .i1 ?_)))); refine g_wr (by assumption) (.there bu) (.there a6) ?_; refine rB (.there e9) ?_ (by with_unfolding_all rfl) (by with_unfolding_all rfl); refine aG (nU (cy (aR ?_))); intro _ _; refine dr (by decide +kernel) ?_; refine cy (mS (br (bF (aI .here .i1 ?_)))); refine g_qn (by assumption) (.there bu) (.there a6) ?_; refine kg (by assumption) (dS (by decide +kernel)) ?_ (by with_unfolding_all rfl) (by with_unfolding_all rfl); refine aG (aI .here .here (aJ (ck (cz ?_))))
 have h2 := h2 k;have eQ : QS.of (cm i t k) = QS.of t := by unfold QS.of; rw [fo, dC, mP]
 have x0 := hb.fl (i := i) k;have x5 : (cm i t k).dl = ND ++ [lD] := by rw [fo]; exact hN
 have x7 : (cm i t k).nl = NN ++ [lN] := by rw [dC]; exact y9
 have x1 : (cm i t k).ps = pp ++ [bp] := by rw [mO]; exact z3
 have y7 : (cm i t k).out.length ≤ 100001 := by have := nT (i := i) (t := t) (k := k); (exact (a9 0x216110a39a668b0b3f638667a84d392889c 0) y1 this)
 have x8 : (prs (cm i t k).dl).length ≤ 500 := by rw [fo]; exact hsz
 rw [← eQ] at hq;generalize cm i t k = t1 at h2 x0 x5 x7 x1 y7 x8 hq;dsimp only at h2;with_reducible refine Go.wIn1 (nZ (q := q) (s' := s') B (y8 _) (x6 _) x0 (by rw [x5]; simp) x8 z4 hq ?_)
 intro T k1 k2 k3 W h7 y2 ha;rw [x5, ao] at ha;obtain ⟨h9, x2, y0, y4, z8⟩ : ∃ h9 x2, W = h9 ++ [x2] ∧ h9.map (·.a) = ND.map (·.a) ∧ x2.a = lD.a := by
  have x9 : W ≠ [] := fun e => by rw [e] at ha; simp at ha
  refine ⟨W.dropLast, W.getLast x9, (rL x9).symm, ?_⟩;rw [← rL x9, ao] at ha;have := List.append_inj' ha rfl;exact ⟨this.1, by simpa using this.2⟩
 with_reducible refine Go.wOutT (aY ?_); intro _; refine qC .here (by with_unfolding_all rfl) ?_; refine ii (by simp only [am, aj]; apply aP; with_reducible assumption; decide) ?_; intro _; refine dr (by simp only [am, aj]; apply aP; apply aU; apply aU; exact ap (by assumption); exact ap (by assumption); with_reducible assumption; decide) ?_; refine cy (aR ?_); intro _ _; refine dr (by simp only [am, aj]; apply aP; apply aU; apply aU; apply aU; exact ap (by assumption); exact ap (by assumption); with_reducible assumption; exact ap (by assumption); decide) ?_; refine nK ?_; refine nM (by simp only [am, aj]; apply aP; apply aU; apply aU; apply aU; exact ap (by assumption); exact ap (by assumption); with_reducible assumption; exact ap (by assumption); decide) ?_; intro _; refine aJ (cw (.t2 e9) ?_)
 rename_i tj;with_reducible refine ly (by dsimp only; (apply aP; with_reducible assumption; decide)) (.t2 e9) (.t2 (qu _)) ?_
 show Go h0 o0 (_ :: _ :: wr uX w i { t1 with dl := W, pm := h7, out := t1.out ++ [(tZ ++ ud "</" ++ q ++ ud ">", tj)] } V) _;with_reducible refine aM (aH (bq (bF ?_))); refine cW (by assumption) .h1 .i1 (.t2 bu) (.t2 a6) kO ?_; refine lG (.t2 kJ) (gq ?_)
 refine Go.sub (aq _ _) ?_;have y6 : t1.ps.map uN.bool = pp.map uN.bool ++ [.bool bp] := by rw [x1, ao]; rfl
 with_reducible refine lx (ys := pp.map uN.bool) (y := .bool bp) y6 (.there (pw_PS pp)) (by rw [ak, aj]; have := x0.psz; (apply aP; with_reducible assumption; decide)) ?_
 show Go h0 o0 (_ :: wr uX w i { t1 with dl := W, pm := h7, out := t1.out ++ [(tZ ++ ud "</" ++ q ++ ud ">", tj)], ps := pp } V) _;have z7 : pp.length ≤ 1000 := by have := x0.psz; rw [x1, aw] at this; (exact (a9 0x22274d9ef69693423fda8 0) this)
 with_reducible refine aM (aH (co ?_)); refine rt ?_ (by with_unfolding_all rfl); refine bf ?_; refine dg (by assumption) (by kernel_rfl!) (by kernel_rfl!) (by kernel_rfl!) (by kernel_rfl!) (by decide +kernel) ?_; refine ki ?_ (by with_unfolding_all rfl) (by with_unfolding_all rfl); refine aG ?_; refine cW (by assumption) .here .i1 (.there bu) (.there a6) kO ?_; refine aJ ?_; refine lA (.there kJ) (by dsimp only; rw [ak, aj]; (apply aP; with_reducible assumption; decide)) ?_; intro tl; refine aY fun _ => qE (aI .here .i1 ?_)
 rw [show (((pp.map uN.bool).length : Int) == 1) = (pp.length == 1) from by
  rw [ak];by_cases h : pp.length = 1
  ·rw [h]; rfl
  ·have h2 : ¬ (pp.length : Int) = 1 := by (omega)
   rw [beq_eq_false_iff_ne.mpr h, beq_eq_false_iff_ne.mpr h2]]
 with_reducible refine w_rd B (.there bu) (.there (pw_rd _)) ?_
 show Go h0 o0 (_ :: wr uX w i { t1 with dl := W, pm := h7, out := t1.out ++ [(tZ ++ ud "</" ++ q ++ ud ">", tj)], ps := pp, rd := pp.length == 1 } V) _;with_reducible refine aM (aH (bq (bF ?_))); refine cW (by assumption) .here .i1 (.there bu) (.there a6) no ?_; refine lG (.there ni) (gq ?_)
 have z9 : W.length ≤ 1000 := by
  have := congrArg tQ y4;rw [ak, ak] at this;have h3 := x0.dlz;rw [x5, aw] at h3;rw [y0, aw]; simp only [sO, tf] at h3 ⊢; (exact (a9 0x96398fa30d769fd8df44314fe4c6cb68e7b1c 44139549) this h3)
 refine k_popD (N := h9) (l := x2) y0 (by dsimp only; (apply aP; with_reducible assumption; decide)) ?_;show Go h0 o0 (_ :: wr uX w i { t1 with dl := h9, pm := h7, out := t1.out ++ [(tZ ++ ud "</" ++ q ++ ud ">", tj)], ps := pp, rd := pp.length == 1 } V) _;with_reducible refine aM (aH (bq (bF ?_))); refine cW (by assumption) .here .i1 (.there bu) (.there a6) nj ?_; refine lG (.there nh) (gq ?_)
 refine k_popN (N := NN) (l := lN) x7 (by have := x0.nlz; dsimp only; (apply aP; with_reducible assumption; decide)) ?_;show Go h0 o0 (_ :: wr uX w i { t1 with dl := h9, pm := h7, out := t1.out ++ [(tZ ++ ud "</" ++ q ++ ud ">", tj)], nl := NN, ps := pp, rd := pp.length == 1 } V) _;with_reducible refine aM (aV (iK ?_))
 refine Go.sub (aq _ _) (h2 tj h7 h9 ?_ ?_)
 ·rw [← y2]; rfl
 ·rw [← y2, show (QS.of { t1 with dl := W, pm := h7 }).dl = W.map Lv.v from rfl, y0, ao]; simp
end
section
variable {b : Bool} {cs cs' r : aF} {K : aF}
theorem perm3 : (X ++ (Y ++ K)).Perm (Y ++ (X ++ K)) := by rw [← av, ← av]; exact tY.append_right _ List.perm_append_comm
structure gc (uX : uy) (w : uQ) (A : uJ) (h0 : uV) (o0 : uF) (target : Expr) (it : uN) (f : Nat → aF) (n : Nat) (V : Nat → uN → aF → Prop) (Pre : aF → Prop) : Prop where
 next : ∀ i C s (Q : VP) E, i < n → Pre C → St h0 o0 (f i ++ C) s → (∀ v c s', V i v c → St h0 o0 (c ++ (f (i + 1) ++ C)) s' → Q v s') →
  uL (uM uX w) A (pyNext it) (fun r s1 => ∃ v, r = some v ∧ uL (uM uX w) A (td target it v) (fun _ s2 => Q v s2) E s1) E s
 done : ∀ C s (Q : Option uN → uF → Prop) E, Pre C → St h0 o0 (f n ++ C) s → (∀ s', St h0 o0 C s' → Q none s') → uL (uM uX w) A (pyNext it) Q E s
 self : ∀ i C s (Q : VP) E, St h0 o0 (f i ++ C) s → Q it s → uL (uM uX w) A (pyIter it) Q E s
 mono : ∀ C C', Pre C → (∀ p ∈ C, p ∈ C') → Pre C'
theorem mn {target : Expr} {it : uN} {f : Nat → aF} {n : Nat} {V : Nat → uN → Prop} {Pre : aF → Prop} (S : dK uX w A h0 o0 it f n V Pre) : gc uX w A h0 o0 target it f n (fun i v c => V i v ∧ c = []) Pre where
 next := fun i C s Q E hi hp H hQ => af (Q := fun r s1 => ∃ v, r = some v ∧ V i v ∧ St h0 o0 (f (i + 1) ++ C) s1) (E := NoE) (S.next i C s _ _ hi hp H fun v s' W H' => ⟨v, rfl, W, H'⟩)
  (fun r s1 ⟨v, e, W, H1⟩ => ⟨v, e, S.own target i C v s1 _ _ W H1 fun s2 H2 => hQ v [] s2 ⟨W, rfl⟩ H2⟩) (fun _ _ q => q.elim)
 done := S.done
 self := S.self
 mono := S.mono
noncomputable def compT (target iter : Expr) (ifs : List Expr) (it : uN) (env : Env) (el : Sem Unit) (ag : Sem Fin) : Sem Fin :=
 standAt iter.pos >>= fun _ => pyNext it >>= fun r => match r with
  | none => uT (.done .next)
  | some v => td target it v >>= fun _ => uG target env v >>= fun _ => bh ifs env >>= fun ok => if ok = true then el >>= fun _ => ag else ag
theorem w_compT (h : uL (uM uX w) A (pyNext it) (fun r s1 => (r = none ∧ Q (.done .next) s1) ∨ ∃ v, r = some v ∧ uL (uM uX w) A (td target it v) (fun _ s2 =>
   uL (uM uX w) A (uG target env v) (fun _ s3 => uL (uM uX w) A (bh ifs env) (fun ok W => if ok = true then uL (uM uX w) A el (fun _ s5 => Q (.again c) s5) E W else Q (.again c) W) E s3) E s2) E s1) E s) :
  uL (uM uX w) A (compT target iter ifs it env el (again c)) Q E s := by
 refine ad (tD (ad (af h (fun r s1 q => ?_) fun _ _ q => q)));rcases q with ⟨rfl, q⟩ | ⟨v, rfl, q⟩
 ·exact ae q
 ·refine ad (af q (fun _ s2 q => ad (af q (fun _ s3 q => ad (af q (fun ok W q => ?_) fun _ _ q => q)) fun _ _ q => q)) fun _ _ q => q);cases ok with
  | false => exact ae q
  | true => exact ad (af q (fun _ s5 q => ae q) fun _ _ q => q)
def Dn {σ : Type} (h0 : uV) (o0 : uF) (L : uR) (P : σ → aF → Prop) (ys : σ) (K' : aF) : uF → Prop := fun s => ∃ m C', P ys C' ∧ St h0 o0 ((L, cNs m) :: (C' ++ K')) s
noncomputable abbrev Elm (σ : Type) := Env → uR → (σ → aF → Prop) → σ → aF → uF → Prop
def TnC {σ : Type} (uX : uy) (w : uQ) (A : uJ) (h0 : uV) (o0 : uF) (El : Elm σ) (target : Expr) (ifs : List Expr) (n : Nat) (V : Nat → uN → aF → Prop) (P : Nat → σ → aF → Prop) (cenv : Env) (L : uR) : Prop :=
 ∀ i v c ys C K' s, i < n → V i v c → P i ys C → (∀ p ∈ c, p ∈ K') → St h0 o0 ((L, cNs []) :: (C ++ K')) s →
  uL (uM uX w) A (uG target cenv v) (fun _ s₂ => uL (uM uX w) A (bh ifs cenv) (fun ok s₃ => if ok = true then El cenv L (P (i + 1)) ys K' s₃ else Dn h0 o0 L (P (i + 1)) ys K' s₃) NoE s₂) NoE s
structure iz {σ : Type} (uX : uy) (w : uQ) (A : uJ) (h0 : uV) (o0 : uF) (e target iter : Expr) (ifs : List Expr) (scope : Scope) (pp : Pos) (kc : σ → cP) (z : σ) (ln : σ → Nat) (na : Sem uN) (el : uR → Env → Sem Unit) (El : Elm σ) : Prop where
 turn : ∀ it D env, compTurn e 0 it (.ref D) env = compT target iter ifs it env (el D env) (again (.compLoop e 0 it (.ref D) env))
 under : ∀ it D env, A.under (.compLoop e 0 it (.ref D) env) = A
 den : ∀ it D env, (uM uX w).den (.compLoop e 0 it (.ref D) env) = (compTurn e 0 it (.ref D) env).onRaise (fun x => do noteFrame x env; theTreesLotGoes x)
 start : ∀ it D env (R : RP) s, uD (uM uX w) A (.compLoop e 0 it (.ref D) env) R s → uL (uM uX w) A (pyIter it) (fun it' s' => uD (uM uX w) A (.compLoop e 0 it' (.ref D) env) R s') (notedBy (uM uX w) A env fun x s' => R (.error x) s') s →
  uD (uM uX w) A (.compStart e 0 it (.ref D) env) R s
 new : ∀ cs s (Q : VP) E, St h0 o0 cs s → (∀ D s', St h0 o0 ((D, kc z) :: cs) s' → Q (.ref D) s') → uL (uM uX w) A na Q E s
 elem : ∀ D env L P ys K s, ln ys < ug → El env L P ys ((D, kc ys) :: K) s → uL (uM uX w) A (el D env) (fun _ s' => ∃ ys', ln ys' ≤ ln ys + 1 ∧ Dn h0 o0 L P ys' ((D, kc ys') :: K) s') NoE s
 zero : ln z = 0
 cls : clausesOf e = [⟨target, iter, ifs, 0⟩]
 val : ∀ env, uU e env = comprehension e scope env pp na false (uU iter env) none
 use : ∀ env u, evalThenUse e env u = (do let _ ← comprehension e scope env pp na false (uU iter env) (some u))
def CInv {σ : Type} (h0 : uV) (o0 : uF) (kc : σ → cP) (ln : σ → Nat) (f : Nat → aF) (n : Nat) (P : Nat → σ → aF → Prop) (L D : uR) (K : aF) (k : Nat) (s : uF) : Prop :=
 ∃ i ys C, i ≤ n ∧ ln ys ≤ i ∧ k = n - i ∧ P i ys C ∧ St h0 o0 (f i ++ ((L, cNs []) :: (C ++ ((D, kc ys) :: K)))) s
section
variable {scope : Scope} {pp : Pos} {σ : Type} {e target iter : Expr} {ifs : List Expr} {kc : σ → cP} {z : σ} {ln : σ → Nat} {na : Sem uN} {el : uR → Env → Sem Unit} {El : Elm σ} {f : Nat → aF} {n : Nat} {V : Nat → uN → aF → Prop} {Pre : aF → Prop} {P : Nat → σ → aF → Prop} {D L : uR}
theorem cin_perm : (c ++ (F ++ (p :: (C ++ (q :: K))))).Perm (p :: (C ++ (q :: (c ++ (F ++ K))))) := by
 have W : (c ++ (F ++ (p :: (C ++ (q :: K))))) = (c ++ F) ++ ((p :: C ++ [q]) ++ K) := by simp
 have e2 : (p :: (C ++ (q :: (c ++ (F ++ K))))) = (p :: C ++ [q]) ++ ((c ++ F) ++ K) := by simp
 rw [W, e2];exact perm3
theorem CInv.step (hi : i < n) (W : ln ys ≤ i) (hl : ln ys' ≤ ln ys + 1) (H : Dn h0 o0 L (P (i + 1)) ys' ((D, kc ys') :: (c ++ (f (i + 1) ++ K))) s) : CInv h0 o0 kc ln f n P L D K (n - (i + 1)) s := by
 obtain ⟨m, C', hP, H⟩ := H;refine ⟨i + 1, ys', C', hi, tH hl (Nat.succ_le_succ W), rfl, hP, ?_⟩;exact ((H.perm cin_perm).sub (rM _ _)).weak (c := cNs m) (c' := cNs []) (Put.skip .here) fun o ho => ho.sub .nil
theorem pj {Q : Fin → uF → Prop} (Ck : iz uX w A h0 o0 e target iter ifs scope pp kc z ln na el El) (S : gc uX w A h0 o0 target it f n V Pre) (hn : n ≤ ug) (turn : TnC uX w A h0 o0 El target ifs n V P cenv L)
  (W : i < n) (h7 : ln ys ≤ i) (hP : P i ys C) (h9 : Pre ((L, cNs []) :: (C ++ ((D, kc ys) :: K)))) (H : St h0 o0 (f i ++ ((L, cNs []) :: (C ++ ((D, kc ys) :: K)))) s) (hQ : ∀ s, CInv h0 o0 kc ln f n P L D K (n - (i + 1)) s → Q (.again c) s) :
  uL (uM uX w) A (pyNext it) (fun r s1 => (r = none ∧ Q (.done .next) s1) ∨ ∃ v, r = some v ∧ uL (uM uX w) A (td target it v) (fun _ s2 =>
   uL (uM uX w) A (uG target cenv v) (fun _ s3 => uL (uM uX w) A (bh ifs cenv) (fun ok s4 => if ok = true then uL (uM uX w) A (el D cenv) (fun _ s5 => Q (.again c) s5) NoE s4 else Q (.again c) s4) NoE s3) NoE s2) NoE s1) NoE s := by
 refine af (S.next i _ s (fun v s2 => uL (uM uX w) A (uG target cenv v) (fun _ s3 => uL (uM uX w) A (bh ifs cenv) (fun ok s4 => if ok = true then uL (uM uX w) A (el D cenv) (fun _ s5 => Q (.again c) s5) NoE s4 else Q (.again c) s4) NoE s3) NoE s2) NoE W h9 H
  fun v c s' hv H' => af (turn i v c ys C ((D, kc ys) :: (c ++ (f (i + 1) ++ K))) s' W hv hP (fun p hp => au _ (sg _ hp)) (H'.perm cin_perm.symm)) (fun _ s3 q => af q (fun ok s4 q => ?_) fun _ _ q => q) fun _ _ q => q) (fun r s1 ⟨v, e, q⟩ => .inr ⟨v, e, q⟩) fun _ _ q => q
 cases ok with
 | false => exact hQ s4 (CInv.step W h7 (tP _) q)
 | true => exact af (Ck.elem D cenv L _ ys _ s4 (sx h7 (sw W hn)) q) (fun _ s5 ⟨ys', hl, q⟩ => hQ s5 (CInv.step W h7 hl q)) fun _ _ q => q
def CQ (R' : RP) (c : Code) (I : Nat → uF → Prop) (k : Nat) : Fin → uF → Prop := fun fin s' => match fin with
 | .done f => R' (.ok f) s'
 | .again c' => c' = c ∧ ∃ m, m < k ∧ I m s'
theorem pn (Ck : iz uX w A h0 o0 e target iter ifs scope pp kc z ln na el El) (S : gc uX w A h0 o0 target it f n V Pre) (hn : n ≤ ug) (turn : TnC uX w A h0 o0 El target ifs n V P cenv L)
  (W : ∀ i ys C, P i ys C → Pre ((L, cNs []) :: (C ++ ((D, kc ys) :: K)))) (fin : ∀ ys C s, P n ys C → St h0 o0 ((L, cNs []) :: (D, kc ys) :: (C ++ K)) s → R' (.ok .next) s) (h9 : P 0 z C0) (H : St h0 o0 (f 0 ++ ((L, cNs []) :: (C0 ++ ((D, kc z) :: K)))) s) :
  uD (uM uX w) A (.compLoop e 0 it (.ref D) cenv) R' s := by
 refine codeAny_loop rfl (CInv h0 o0 kc ln f n P L D K) (fun k s hI => ?_) n ⟨0, z, C0, tO _, ap Ck.zero, rfl, h9, H⟩;rw [Ck.under, Ck.den, Ck.turn];refine wpAny_noted ?_;obtain ⟨i, ys, C, hi, h7, rfl, hP, H⟩ := hI;refine af (E := NoE) (w_compT (Q := CQ R' (.compLoop e 0 it (.ref D) cenv) (CInv h0 o0 kc ln f n P L D K) (n - i)) ?_) (fun _ _ q => q) (fun _ _ q => q.elim);rcases Nat.lt_or_ge i n with hlt | hge
 ·exact pj (Q := CQ R' (.compLoop e 0 it (.ref D) cenv) (CInv h0 o0 kc ln f n P L D K) (n - i)) Ck S hn turn hlt h7 hP (W i ys C hP) H fun s q => ⟨rfl, n - (i + 1), lp4 hlt, q⟩
 ·have e := to hi hge;subst e;exact S.done _ s _ _ (W i ys C hP) H fun s1 H1 => .inl ⟨rfl, fin ys C s1 hP (H1.perm (tY.cons _ (sQ).symm))⟩
theorem blk_perm : (p :: q :: (F ++ (C ++ K))).Perm (F ++ (p :: (C ++ (q :: K)))) :=
 tY.trans (tY.trans (tY.cons _ (tY.trans (sQ (l₁ := F)).symm (r8 F (sQ (l₁ := C)).symm))) (sQ (l₁ := F)).symm) (.refl _)
theorem lQ {RR : uN → uR → Result → uF → Prop} (Ck : iz uX w A h0 o0 e target iter ifs scope pp kc z ln na el El)
  (h9 : ∀ y ∈ scope.names, y.2 ≠ .cell) (h7 : scope.kind = .function) (S : gc uX w A h0 o0 target itv f n V Pre) (x4 : P 0 z C0) (hsz : n ≤ ug) (H2 : St h0 o0 (f 0 ++ (C0 ++ K)) s) (hl : ∀ i ys C, P i ys C → Pre (C ++ K))
  (turn : ∀ L, TnC uX w A h0 o0 El target ifs n V P (uq scope cl L env) L) (fin : ∀ L D ys C s, P n ys C → St h0 o0 ((L, cNs []) :: (D, kc ys) :: (C ++ K)) s → RR (.ref D) L (.ok .next) s) :
  uL (uM uX w) A na (fun x0 s₃ => uL (uM uX w) A (newFunctionEnv scope env.globals cl [] env.qual none .none (some env)) (fun W s₄ =>
   uD (uM uX w) A (.compStart e 0 itv x0 { W with scope := relabel scope env }) (RR x0 W.locals) s₄) E s₃) E s := by
 refine Ck.new _ s _ _ H2 fun D s3 H3 => ?_
 refine wpAny_newFunctionEnv h9 (fun y hy => absurd hy (List.not_mem_nil)) (fun h₁ x2 x1 => ?_) h7;have H4 : St h0 o0 ((s3.heap.objs.size, cNs []) :: (D, kc z) :: (f 0 ++ (C0 ++ K))) { s3 with heap := h₁, toks := s3.toks + ([] : List (Str × uN)).length } :=
  H3.more (ah _) (g1 x2 (m := []) fun x v q => by cases q) (fun b o e => (x1.2 b (tN (tM e))).trans (r3 _ e)) (sU _ _)
 generalize hL : s3.heap.objs.size = L at H4 ⊢;generalize x3 : ({ s3 with heap := h₁, toks := s3.toks + ([] : List (Str × uN)).length } : uF) = s4 at H4 ⊢;clear x3;have H5 := H4.perm blk_perm.symm;refine Ck.start _ _ _ _ _ ?_ (S.self 0 _ _ _ _ H5 ?_)
 all_goals exact pn Ck S hsz (turn L) (fun i ys C hP => S.mono _ _ (hl i ys C hP) fun p hp => au _ ((s8.mp hp).elim (fun q => sg _ q) fun q => r6 _ (au _ q))) (fun ys C s hP H => fin L D ys C s hP H) x4 H5
def Ov {σ : Type} (uX : uy) (w : uQ) (A : uJ) (env : Env) (h0 : uV) (o0 : uF) (z : σ) (El : Elm σ) (target : Expr) (ifs : List Expr) (scope : Scope) (cl : List (Str × uR)) (Fn : (σ → aF → Prop) → aF → Prop) (E : VP) : uN → uF → Prop := fun x s₁ =>
 uL (uM uX w) A (pyIter x) (fun itv s₂ => ∃ f n V Pre C0 K, ∃ P : Nat → σ → aF → Prop, gc uX w A h0 o0 target itv f n V Pre ∧ P 0 z C0 ∧ n ≤ ug ∧ St h0 o0 (f 0 ++ (C0 ++ K)) s₂ ∧
  (∀ i ys C, P i ys C → Pre (C ++ K)) ∧ (∀ L, TnC uX w A h0 o0 El target ifs n V P (uq scope cl L env) L) ∧ Fn (P n) K) E s₁
def FnV {σ : Type} (h0 : uV) (o0 : uF) (kc : σ → cP) (Q : VP) : (σ → aF → Prop) → aF → Prop := fun Pn K => ∀ D ys C s, Pn ys C → St h0 o0 ((D, kc ys) :: (C ++ K)) s → Q (.ref D) s
def FnA {σ : Type} (uX : uy) (w : uQ) (A : uJ) (env : Env) (h0 : uV) (o0 : uF) (kc : σ → cP) (y : Str) (Q : FP) (E : VP) : (σ → aF → Prop) → aF → Prop := fun Pn K =>
 ∀ L D ys C s, Pn ys C → St h0 o0 ((D, kc ys) :: (C ++ ((L, cNs []) :: K))) s → uL (uM uX w) A (tX env y (.ref D)) (fun _ s' => ∃ cs', St h0 o0 ((L, cNs []) :: cs') s' ∧ ∀ s'', St h0 o0 cs' s'' → Q .next s'') E s
theorem e_ov (Ck : iz uX w A h0 o0 e target iter ifs scope pp kc z ln na el El) (x0 : closureFor scope env = uT cl) (h9 : ∀ y ∈ scope.names, y.2 ≠ .cell) (W : scope.kind = .function) (h7 : ∀ y ∈ scope.names, y.2 = .local → scope.names.lookup y.1 = some .local)
  (h : uL (uM uX w) A (uU iter env) (Ov uX w A env h0 o0 z El target ifs scope cl (FnV h0 o0 kc Q) E) E s) (hs : ∀ x, sF iter env x = uT x) : uL (uM uX w) A (uU e env) Q E s := by
 rw [Ck.val];refine wpAny_comprehension_free (use := none) Ck.cls hs x0 W h7 (af h (fun x s₁ h₁ => af h₁ (fun x4 s2 h₂ => ?_) fun _ _ q => q) fun _ _ q => q);obtain ⟨f, n, V, Pre, C0, K, P, S, x3, hsz, H2, hl, turn, fin⟩ := h₂;refine lQ (RR := fun x2 C => compPost (uM uX w) A E none Q x2 C) Ck h9 W S x3 hsz H2 hl turn fun L D ys C s hP H => ?_
 obtain ⟨f, hn, _⟩ := k9 H .here;exact ⟨f, hn, fun h' x1 => fin D ys C _ hP (H.unframe x1)⟩
theorem a_ov (Ck : iz uX w A h0 o0 e target iter ifs scope pp kc z ln na el El) (x3 : swapsWith e (some (.Name y py)) spos.line env = uT true) (x0 : closureFor scope env = uT cl) (h9 : ∀ y ∈ scope.names, y.2 ≠ .cell) (W : scope.kind = .function) (h7 : ∀ y ∈ scope.names, y.2 = .local → scope.names.lookup y.1 = some .local)
  (h : uL (uM uX w) A (uU iter env) (Ov uX w A env h0 o0 z El target ifs scope cl (FnA uX w A env h0 o0 kc y Q E) E) E s) (hs : ∀ x, sF iter env x = uT x) : uL (uM uX w) A (exec (.Assign [.Name y py] e spos) env) Q E s := by
 rw [exec_Assign_Name_used _ _ _ _ x3];refine ad (tD (ad ?_));rw [Ck.use]
 refine ad (af (wpAny_comprehension_free (use := some (uG (.Name y py) env)) (Q := fun _ s' => Q .next s') Ck.cls hs x0 W h7
  (af h (fun x s₁ h₁ => af h₁ (fun x5 s2 h₂ => ?_) fun _ _ q => q) fun _ _ q => q)) (fun _ s' hq => ae (ae hq)) fun _ _ e => e)
 obtain ⟨f, n, V, Pre, C0, K, P, S, x4, hsz, H2, hl, turn, fin⟩ := h₂;refine lQ (RR := fun x2 C => compPost (uM uX w) A E (some (uG (.Name y py) env)) (fun _ s' => Q .next s') x2 C) Ck h9 W S x4 hsz H2 hl turn fun L D ys C s hP H => ?_
 show uL _ A (uG (.Name y py) env (.ref D)) _ _ _;refine sJ (af (fin L D ys C s hP (H.perm (tY.trans (tY.cons _ sQ) (tY.swap _ _ _)))) (fun _ s' ⟨cs', H', hq⟩ => ?_) fun _ _ q => q);obtain ⟨f, hn, _⟩ := k9 H' .here;exact ⟨f, hn, fun h' x1 => hq _ (H'.unframe x1)⟩
def OvL {σ : Type} (uX : uy) (w : uQ) (A : uJ) (env : Env) (h0 : uV) (o0 : uF) (z : σ) (El : Elm σ) (target : Expr) (ifs : List Expr) (scope : Scope) (cl : List (Str × uR)) (Fn : (σ → aF → Prop) → aF → Prop) : uN → uF → Prop := fun x s₁ =>
 ∃ l xs C0 K, ∃ P : Nat → σ → aF → Prop, x = .ref l ∧ P 0 z C0 ∧ xs.length ≤ ug ∧ St h0 o0 (C0 ++ K) s₁ ∧ (∀ i ys C, P i ys C → Has (C ++ K) l (aE xs)) ∧
  (∀ L, TnC uX w A h0 o0 El target ifs xs.length (fun i v c => xs[i]? = some v ∧ c = []) P (uq scope cl L env) L) ∧ Fn (P xs.length) K
theorem ovL (hh : A.handled = none) (h : OvL uX w A env h0 o0 z El target ifs scope cl Fn x s) : Ov uX w A env h0 o0 z El target ifs scope cl Fn E x s := by
 obtain ⟨l, xs, C0, K, P, rfl, W, hsz, H, hl, turn, fin⟩ := h;exact wpAny_pyIter_list (aS H (hl 0 z C0 W)) ⟨_, _, _, _, C0, K, P, mn (cF (l := l) (xs := xs) hh), W, hsz, H.push (k := s.toks) (c := bA l 0) ⟨rfl, rfl⟩ (ah _), hl, turn, fin⟩
end
noncomputable def EvL (uX : uy) (w : uQ) (A : uJ) (h0 : uV) (o0 : uF) (elt : Expr) : Elm (List uN) := fun env L P ys K' => uL (uM uX w) A (uU elt env) (fun y s => ∃ m C', P (ys ++ [y]) C' ∧ St h0 o0 ((L, cNs m) :: (C' ++ K')) s) NoE
theorem new_cL (cs : aF) (s : uF) (Q : VP) (E : VP) (H : St h0 o0 cs s) (h : ∀ D s', St h0 o0 ((D, aE []) :: cs) s' → Q (.ref D) s') : uL (uM uX w) A (newList []) Q E s :=
 sK (h _ _ (H.push (k := s.toks) (c := aE []) ⟨0, rfl⟩ (ah _)))
theorem gF {elt target iter : Expr} {ifs : List Expr} {scope : Scope} {pos : Pos} : iz uX w A h0 o0 (.ListComp elt [⟨target, iter, ifs, 0⟩] scope pos) target iter ifs scope (firstIterPos [⟨target, iter, ifs, 0⟩] pos) aE [] tQ (newList []) (fun D env => do let _ ← uW (.builtin "list.append") [.ref D, ← uU elt env]) (EvL uX w A h0 o0 elt) where
 turn := fun W D env => by kernel_rfl!
 under := fun W D env => rfl
 den := fun W D env => rfl
 start := fun W D env R s h h2 => codeAny_compStart_list h h2
 new := new_cL
 elem := fun D env L P ys K s hl h => ad (af h (fun y s2 ⟨m, C', hP, H⟩ => ad (gK H (.there (Put.skip .here)) (tL hl) fun s3 H3 => ae ⟨ys ++ [y], ap aw, m, C', hP, H3⟩)) fun _ _ q => q)
 zero := rfl
 cls := rfl
 val := fun env => rfl
 use := fun env u => by kernel_rfl!
noncomputable def EvD (uX : uy) (w : uQ) (A : uJ) (h0 : uV) (o0 : uF) (kx vx : Expr) : Elm (List (Str × uN)) := fun env L P ys K' => uL (uM uX w) A (uU kx env) (fun kv => uL (uM uX w) A (uU vx env) (fun y s => ∃ k u m C', kv = .str k u ∧ P (stored ys k y) C' ∧ St h0 o0 ((L, cNs m) :: (C' ++ K')) s) NoE) NoE
theorem new_cD (cs : aF) (s : uF) (Q : VP) (E : VP) (H : St h0 o0 cs s) (h : ∀ D s', St h0 o0 ((D, aL uX w []) :: cs) s' → Q (.ref D) s') : uL (uM uX w) A newDict Q E s :=
 ad (wpAny_alloc (ae (h _ _ (H.push (k := s.toks) (c := aL uX w []) (let ⟨o, ho, hc⟩ := uV.dictOf_iff.mp (uV.DictOf.new (knd := tC uX w) s.heap); by
   rw [sm _ rfl] at ho; cases ho; exact hc) (ah _)))))
noncomputable def elD (kx vx : Expr) (D : uR) (env : Env) : Sem Unit := do
 let kv ← uU kx env
 let vv ← holding [kv] (uU vx env)
 standAt { kx.pos with endLine := vx.pos.endLine, endCol := vx.pos.endCol }
 holding [kv, vv] (dictSet D kv vv)
theorem elem_D (D : uR) (env : Env) (L : uR) (P : List (Str × uN) → aF → Prop) (ys : List (Str × uN)) (K : aF) (s : uF) (hl : ys.length < ug) (h : EvD uX w A h0 o0 kx vx env L P ys ((D, aL uX w ys) :: K) s) :
  uL (uM uX w) A (elD kx vx D env) (fun _ s' => ∃ h7, h7.length ≤ ys.length + 1 ∧ Dn h0 o0 L P h7 ((D, aL uX w h7) :: K) s') NoE s := by
 refine ad (af h (fun kv s5 q5 => ad (aD (af q5 (fun y s6 q6 => ?_) fun _ _ q => q))) fun _ _ q => q);obtain ⟨k, u, m, C', rfl, h9, H'⟩ := q6;refine ad (tD (aD ?_));have W : Put ((L, cNs m) :: (C' ++ ((D, aL uX w ys) :: K))) D (aL uX w ys) (aL uX w (stored ys k y)) ((L, cNs m) :: (C' ++ ((D, aL uX w (stored ys k y)) :: K))) := .there (Put.skip .here);exact wpAny_dictSet_pairs (strKind_is uX w k u) (bW H' W.has) (fun h' hm hs => ⟨stored ys k y, stored_length_le ys k y, m, C', h9, H'.updS (k := s6.toks + 1) W (uV.dictOf_iff.mp hm) hs (tP _)⟩) (tL hl)
theorem nX {kx vx target iter : Expr} {ifs : List Expr} {scope : Scope} {pos : Pos} : iz uX w A h0 o0 (.DictComp kx vx [⟨target, iter, ifs, 0⟩] scope pos) target iter ifs scope (firstIterPos [⟨target, iter, ifs, 0⟩] pos) (aL uX w) [] tQ newDict (elD kx vx) (EvD uX w A h0 o0 kx vx) where
 turn := fun W D env => by kernel_rfl!
 under := fun W D env => rfl
 den := fun W D env => rfl
 start := fun W D env R s h h2 => codeAny_compStart_dict h h2
 new := new_cD
 elem := elem_D
 zero := rfl
 cls := rfl
 val := fun env => rfl
 use := fun env u => by kernel_rfl!
end
def NK (h0 : uV) (o0 : uF) (L : uR) (P : GP) : Unit → uF → Prop := fun _ s' => ∃ cs', St h0 o0 ((L, cNs []) :: cs') s' ∧ ∀ s'', St h0 o0 cs' s'' → P s''
section
variable {b : Bool} {M : Model} {cs cs' V X Y : aF} {i : Wid} {t : d0} {P : GP}
theorem nk (hs : Sel cs ((L, cNs []) :: cs')) (h : Go h0 o0 cs' P) : Go h0 o0 cs (NK h0 o0 L P ()) := fun s H => ⟨cs', H.sel hs, h⟩
theorem kd (h : Go h0 o0 cs (uL (uM uX w) A (isTrue c env (uU c env)) Q E)) : Go h0 o0 cs (uL (uM uX w) A (bh [c] env) Q E) := fun s H => pC (h s H)
theorem lP (h : Go h0 o0 cs (Q true)) : Go h0 o0 cs (uL (uM uX w) A (bh [] env) Q E) := fun s H => fv (h s H)
theorem g_items (hd : Has cs d (aL uX w kvs)) (h : Go h0 o0 cs (Q (.builtin "dict.items", [.ref d]))) : Go h0 o0 cs (uL (uM uX w) A (ua (.ref d) (ud "items") pl) Q E) := g_dic PySem.F.slot_dict_items PySem.F.type_dict_items hd h
theorem k_items (hd : Has cs d (aL uX w kvs)) (h : ∀ v, Go h0 o0 ((v, fM d) :: cs) (Q (.ref v))) : Go h0 o0 cs (uL (uM uX w) A (uW (.builtin "dict.items") [.ref d]) Q E) := fun s H => x_items H hd fun v s' W => h v s' W
theorem fg {ys : List (Str × uN)} (h : k ∉ ys.map (·.1)) : stored ys k v = ys ++ [(k, v)] := by
 unfold stored;rw [if_neg];rw [Bool.not_eq_true, List.any_eq_false];intro p hp q;exact h (tG.mpr ⟨p, hp, of_decide_eq_true q⟩)
end
def CF (h0 : uV) (o0 : uF) (P : GP) : uF → Prop := fun s => (∃ cs2, St h0 o0 cs2 s) ∧ P s
def SD2 (uX : uy) (w : uQ) (h0 : uV) (o0 : uF) (cs : aF) (a : uR) (x : Str) (Q : VP) : uN → uF → Prop := fun v2 s4 => ∃ d kvs, v2 = .ref d ∧ St h0 o0 ((a, a8 true w [x]) :: cs) s4 ∧ Has cs d (aL uX w kvs) ∧ kvs.length ≤ 6 ∧ ∀ s5, St h0 o0 ((a, a8 true w (bU [x] (kvs.map (·.1)))) :: cs) s5 → Q (.ref a) s5
def SD1 (uX : uy) (w : uQ) (A : uJ) (h0 : uV) (o0 : uF) (cs : aF) (env : Env) (e2 : Expr) (a : uR) (Q : VP) (E : VP) : uN → uF → Prop := fun v1 s2 => ∃ x u, v1 = .str x u ∧ St h0 o0 ((a, a8 true w []) :: cs) s2 ∧ ∀ s3, St h0 o0 ((a, a8 true w [x]) :: cs) s3 → uL (uM uX w) A (uU e2 env) (SD2 uX w h0 o0 cs a x Q) E s3
def LK (uX : uy) (w : uQ) (A : uJ) (env : Env) (h0 : uV) (o0 : uF) (y : Str) (cl : List (Str × uR)) (scope : Scope) (kx vx target : Expr) (ifs : List Expr) (Q : FP) (E : VP) : uN → uF → Prop := OvL uX w A env h0 o0 ([] : List (Str × uN)) (EvD uX w A h0 o0 kx vx) target ifs scope cl (FnA uX w A env h0 o0 (aL uX w) y Q E)
def CV (h0 : uV) (o0 : uF) (P : List (Str × uN) → aF → Prop) (ys : List (Str × uN)) (L : uR) (K' : aF) (kv : uN) : uN → uF → Prop := fun y s₅ => ∃ k u m C', kv = .str k u ∧ P (stored ys k y) C' ∧ St h0 o0 ((L, cNs m) :: (C' ++ K')) s₅
def CL (uX : uy) (w : uQ) (A : uJ) (env : Env) (h0 : uV) (o0 : uF) (cl : List (Str × uR)) (scope : Scope) (elt target : Expr) (ifs : List Expr) (Q : VP) (E : VP) : uN → uF → Prop := OvL uX w A env h0 o0 ([] : List uN) (EvL uX w A h0 o0 elt) target ifs scope cl (FnV h0 o0 aE Q)
def CE (h0 : uV) (o0 : uF) (P : List uN → aF → Prop) (ys : List uN) (L : uR) (K' : aF) : uN → uF → Prop := fun y s₄ => ∃ m C', P (ys ++ [y]) C' ∧ St h0 o0 ((L, cNs m) :: (C' ++ K')) s₄
def FL (uX : uy) (w : uQ) (A : uJ) (env : Env) (target : Expr) (body : List Stmt) (h0 : uV) (o0 : uF) (Q : FP) : uN → uF → Prop := fun x s₁ => ∃ l xs C0 K, ∃ P : Nat → aF → Prop, x = .ref l ∧ P 0 C0 ∧ St h0 o0 (C0 ++ K) s₁ ∧ (∀ i C, P i C → Has (C ++ K) l (aE xs)) ∧
   (∀ i v C K' s, xs[i]? = some v → P i C → (∀ C s, St h0 o0 (C ++ K') s → St h0 o0 (C ++ K) s) → St h0 o0 (C ++ K') s →
    uL (uM uX w) A (uG target env v) (fun _ s₂ => uL (uM uX w) A (uP body env) (fun f s₃ => match f with
     | .next | .cont => ∃ C', P (i + 1) C' ∧ St h0 o0 (C' ++ K') s₃
     | .brk => Q .next s₃
     | .ret v => Q (.ret v) s₃) NoE s₂) NoE s) ∧
   (∀ C s, P xs.length C → St h0 o0 (C ++ K) s → Q .next s)
section
variable {b : Bool} {cs cs' V X Y : aF} {P : GP} {Q : VP}
theorem e_setd {e1 e2 : Expr} {k : Nat} {p2 pos : Pos} {K : Frag} (B : Base K h0) (hc : kdsCode K env.code = true) (hk : (k > 0) = False) (hh : A.handled = none) (he : ue [e1, .Starred e2 p2] env = [(false, uU e1 env), (true, uU e2 env)])
  (h : ∀ a, Go h0 o0 ((a, a8 true w []) :: cs) (uL (uM uX w) A (uU e1 env) (SD1 uX w A h0 o0 cs env e2 a Q E) E)) : Go h0 o0 cs (uL (uM uX w) A (uU (.Set [e1, .Starred e2 p2] k pos) env) Q E) :=
 fun s H => ox (B.X.keeps H.keep) hc hk H hh he fun a s1 W => h a s1 W
theorem sd1 (h : Go h0 o0 ((a, a8 true w [x]) :: cs) (uL (uM uX w) A (uU e2 env) (SD2 uX w h0 o0 cs a x Q) E)) : Go h0 o0 ((a, a8 true w []) :: cs) (SD1 uX w A h0 o0 cs env e2 a Q E (.str x u)) := fun s H => ⟨x, u, rfl, H, h⟩
theorem sd2 (hd : Has cs d (aL uX w kvs)) (hz : kvs.length ≤ 6) (h : Go h0 o0 ((a, a8 true w (bU [x] (kvs.map (·.1)))) :: cs) (Q (.ref a))) : Go h0 o0 ((a, a8 true w [x]) :: cs) (SD2 uX w h0 o0 cs a x Q (.ref d)) := fun s H => ⟨d, kvs, rfl, H, hd, hz, h⟩
theorem k_bind {x dx C f : uR} {m : List (Str × uN)} {name : Str} {expr : Bool} {K : Frag} (B : Base K h0) (W : Has cs x (be C dx)) (hd : Has cs dx (cAttrs m)) (hv : m.lookup name = none) (ok : kl K C name f = true)
  (h : ∀ q, Go h0 o0 ((q, dY f x) :: cs) (Q (.ref q))) : Go h0 o0 cs (uL (uM uX w) A (getAttr (.ref x) name expr) Q E) := fun s H => x_bind B H W hd hv ok fun q s' H' => h q s' H'
def BK (h0 : uV) (uX : uy) (w : uQ) (A : uJ) (q f x : uR) (Q : VP) (E : VP) : List uN → uF → Prop := fun vs s₁ => ∃ o0 cs, St h0 o0 cs s₁ ∧ Has cs q (dY f x) ∧ uD (uM uX w) A (.call (.ref f) ⟨.ref x :: vs, []⟩) (wants Q E) s₁
theorem c_meth {pos : Pos} {q f x : uR} {e : Expr} {rest : List Expr} {K : Frag} (B : Base K h0) (hf : fnIn K f = true) (h : Go h0 o0 cs (uL (uM uX w) A (spliced (uI pos (ue (e :: rest) env))) (BK h0 uX w A q f x Q E) E))
  (he : ue (e :: rest) env = (false, uU e env) :: ue rest env) (W : (uI pos (ue rest env)).any (·.1) = false) : Go h0 o0 cs (uL (uM uX w) A (ur pos (.ref q) [] (uI pos (ue (e :: rest) env)) []) Q E) := fun s H => pR B hf (h s H) he W
theorem bk (W : Has cs q (dY f x)) (h : Go h0 o0 cs (uD (uM uX w) A (.call (.ref f) ⟨.ref x :: vs, []⟩) (wants Q E))) : Go h0 o0 cs (BK h0 uX w A q f x Q E vs) := fun s H => ⟨o0, cs, H, W, h s H⟩
theorem s_cdl {kx vx target iter : Expr} {ifs : List Expr} {scope : Scope} {pos py spos : Pos} {y : Str} {cl : List (Str × uR)} {Q : FP} (hh : A.handled = none)
  (x1 : swapsWith (.DictComp kx vx [⟨target, iter, ifs, 0⟩] scope pos) (some (.Name y py)) spos.line env = uT true)
  (h9 : closureFor scope env = uT cl) (x0 : ∀ y ∈ scope.names, y.2 ≠ .cell) (h7 : scope.kind = .function) (W : ∀ y ∈ scope.names, y.2 = .local → scope.names.lookup y.1 = some .local)
  (h : Go h0 o0 cs (uL (uM uX w) A (uU iter env) (LK uX w A env h0 o0 y cl scope kx vx target ifs Q E) E)) (hs : ∀ x, sF iter env x = uT x) :
  Go h0 o0 cs (uL (uM uX w) A (exec (.Assign [.Name y py] (.DictComp kx vx [⟨target, iter, ifs, 0⟩] scope pos) spos) env) Q E) :=
 fun s H => a_ov nX x1 h9 x0 h7 W (af (h s H) (fun x s1 q => ovL hh q) fun _ _ q => q) hs
theorem lk {y : Str} {cl : List (Str × uR)} {scope : Scope} {kx vx target : Expr} {Q : FP} {l : uR} {xs : List uN} {C0 K : aF} (P : Nat → List (Str × uN) → aF → Prop) (h7 : P 0 [] C0) (hz : xs.length ≤ ug) (hl : ∀ i ys C, P i ys C → Has (C ++ K) l (aE xs))
  (turn : ∀ L i v ys C W, xs[i]? = some v → P i ys C → Go h0 o0 ((L, cNs []) :: (C ++ W)) (uL (uM uX w) A (uG target (uq scope cl L env) v) (fun _ => uL (uM uX w) A (uU kx (uq scope cl L env)) (fun kv => uL (uM uX w) A (uU vx (uq scope cl L env)) (CV h0 o0 (P (i + 1)) ys L W kv) NoE) NoE) NoE))
  (fin : ∀ L D ys C, P xs.length ys C → Go h0 o0 ((D, aL uX w ys) :: (C ++ ((L, cNs []) :: K))) (uL (uM uX w) A (tX env y (.ref D)) (NK h0 o0 L (Q .next)) E)) :
  Go h0 o0 (C0 ++ K) (LK uX w A env h0 o0 y cl scope kx vx target [] Q E (.ref l)) := fun s H =>
 ⟨l, xs, C0, K, P, rfl, h7, hz, H, hl, fun L i v c ys C W s _ hv hP _ H => af (turn L i v ys C W hv.1 hP s H) (fun _ s2 q => fv (by rw [if_pos rfl]; exact q)) fun _ _ q => q, fun L D ys C s hP H => fin L D ys C hP s H⟩
theorem e_cl (hh : A.handled = none)
  (h9 : closureFor scope env = uT cl) (x0 : ∀ y ∈ scope.names, y.2 ≠ .cell) (h7 : scope.kind = .function) (W : ∀ y ∈ scope.names, y.2 = .local → scope.names.lookup y.1 = some .local)
  (h : Go h0 o0 cs (uL (uM uX w) A (uU iter env) (CL uX w A env h0 o0 cl scope elt target ifs Q E) E)) (hs : ∀ x, sF iter env x = uT x) :
  Go h0 o0 cs (uL (uM uX w) A (uU (.ListComp elt [⟨target, iter, ifs, 0⟩] scope pos) env) Q E) :=
 fun s H => e_ov gF h9 x0 h7 W (af (h s H) (fun x s1 q => ovL hh q) fun _ _ q => q) hs
theorem cl {cl : List (Str × uR)} {scope : Scope} {elt target : Expr} {l : uR} {xs : List uN} {C0 K : aF} (P : Nat → List uN → aF → Prop) (h7 : P 0 [] C0) (hz : xs.length ≤ ug) (hl : ∀ i ys C, P i ys C → Has (C ++ K) l (aE xs))
  (turn : ∀ L i v ys C W, xs[i]? = some v → P i ys C → Go h0 o0 ((L, cNs []) :: (C ++ W)) (uL (uM uX w) A (uG target (uq scope cl L env) v) (fun _ => uL (uM uX w) A (uU elt (uq scope cl L env)) (CE h0 o0 (P (i + 1)) ys L W) NoE) NoE))
  (fin : ∀ D ys C, P xs.length ys C → Go h0 o0 ((D, aE ys) :: (C ++ K)) (Q (.ref D))) :
  Go h0 o0 (C0 ++ K) (CL uX w A env h0 o0 cl scope elt target [] Q E (.ref l)) := fun s H =>
 ⟨l, xs, C0, K, P, rfl, h7, hz, H, hl, fun L i v c ys C W s _ hv hP _ H => af (turn L i v ys C W hv.1 hP s H) (fun _ s2 q => fv (by rw [if_pos rfl]; exact q)) fun _ _ q => q, fun D ys C s hP H => fin D ys C hP s H⟩
theorem ce {P : List uN → aF → Prop} (W : P (ys ++ [v]) C') (e : Sel cs ((L, cNs m) :: (C' ++ K'))) : Go h0 o0 cs (CE h0 o0 P ys L K' v) := fun s H => ⟨m, C', W, H.sel e⟩
theorem kY {target iter : Expr} {body : List Stmt} {pos : Pos} {Q : FP} (hh : A.handled = none) (h : Go h0 o0 cs (uL (uM uX w) A (uU iter env) (FL uX w A env target body h0 o0 Q) E))
  (hs : ∀ x, sF iter env x = uT x) : Go h0 o0 cs (uL (uM uX w) A (exec (.For target iter body [] pos) env) Q E) := fun s H => l9 hh (h s H) hs
theorem fl {target : Expr} {body : List Stmt} {Q : FP} {l : uR} {xs : List uN} {C0 K : aF} (P : Nat → aF → Prop) (h7 : P 0 C0) (hl : ∀ i C, P i C → Has (C ++ K) l (aE xs))
  (turn : ∀ i v C W, xs[i]? = some v → P i C → (∀ C s, St h0 o0 (C ++ W) s → St h0 o0 (C ++ K) s) → Go h0 o0 (C ++ W) (uL (uM uX w) A (uG target env v) (fun _ => uL (uM uX w) A (uP body env) (TK h0 o0 W (P (i + 1)) Q) NoE) NoE))
  (fin : ∀ C, P xs.length C → Go h0 o0 (C ++ K) (Q .next)) : Go h0 o0 (C0 ++ K) (FL uX w A env target body h0 o0 Q (.ref l)) := fun s H =>
 ⟨l, xs, C0, K, P, rfl, h7, H, hl, fun i v C W s hv hP hb H => af (turn i v C W hv hP hb s H) (fun _ s2 q => af q (fun f s3 q => by cases f <;> exact q) fun _ _ q => q) fun _ _ q => q, fun C s hP H => fin C hP s H⟩
theorem k_sortI (hh : A.handled = none) (hv : Has cs v (fM d)) (hd : Has cs d (aL uX w kvs)) (h4 : kvs.length ≤ 5) (nd : (kvs.map (·.1)).Nodup)
  (h : ∀ D (ps : List (uR × (Str × Tok) × uN)), (ps.map fun p => (p.2.1.1, p.2.2)).Perm kvs → bP (fun x y : Str => decide (x.cps.toList < y.cps.toList)) (ps.map fun p => p.2.1.1) → Go h0 o0 ((D, aE (ps.map fun p => .ref p.1)) :: (aW ps ++ cs)) (Q (.ref D))) :
  Go h0 o0 cs (uL (uM uX w) A (uW (.builtin "sorted") [.ref v]) Q E) := fun s H => iD H hh hv hd h4 nd fun D ps s' hp W H' => h D ps hp W s' H'
theorem e_lam {params : Arguments} {body : Expr} {scope : Scope} {pos : Pos} {c P : uR} {qual : Str} {T : aF} (LB : LamBase h0 c P) (hT : Tb P pos qual T) (h7 : defaultsOf params env = ([], [])) (h9 : closureFor scope env = uT []) (x0 : env.globals = tS) (W : env.code = .ref c) (hq : env.qual ++ "<lambda>" = qual)
  (h : ∀ f c', Go h0 o0 ((f, po "<lambda>" qual params body scope [] c') :: (c', eZ qual) :: (P, cTab #[uH pos.line, uH pos.col, .ref c']) :: (X ++ cs)) (Q (.ref f))) :
  Go h0 o0 (X ++ (T ++ cs)) (uL (uM uX w) A (uU (.Lambda params body scope pos) env) Q E) := fun s H => x_lam LB H hT h7 h9 x0 W hq fun f c' s' H' => h f c' s' H'
theorem k_lam (lim : h0.NoLimit) (hf : Has cs f (po name qual params body scope [] c')) (hc : Has cs c' (eZ qual)) (W : A.depth < ty)
  (h9 : ∀ pm x2, bindArgs (kla_fn name qual params body scope [] pm (.ref c') x2) ⟨[v], []⟩ = uT [(x, v)]) (x1 : scope.names.lookup x = some .local) (x3 : scope.isCoroutine = false) (x0 : scope.isGenerator = false) (hk : scope.kind = .function) (h7 : ∀ x ∈ scope.names, x.2 ≠ .cell)
  (h : ∀ L, Go h0 o0 ((L, cNs [(x, v)]) :: cs) (uL (uM uX w) (A.deeper (envX qual scope L f (.ref c') [])) (uU body (envX qual scope L f (.ref c') [])) Q NoE)) : Go h0 o0 cs (uL (uM uX w) A (uW (.ref f) [v]) Q E) := fun s H =>
 oH lim H hf hc W h9 x1 x3 x0 hk h7 fun L s' H' => h L s' H'
theorem k_get1 (hd : Has cs d (aL uX w kvs)) (h : Go h0 o0 cs (Q ((uE kvs k).getD .none))) : Go h0 o0 cs (uL (uM uX w) A (uW (.builtin "dict.get") [.ref d, .str k u]) Q E) := fun s H => x_get1 H hd h
theorem g_get {d : uR} {kvs : List (Str × uN)} {pl : Sem Bool} {Q : uN × List uN → uF → Prop} (hd : Has cs d (aL uX w kvs)) (h : Go h0 o0 cs (Q (.builtin "dict.get", [.ref d]))) : Go h0 o0 cs (uL (uM uX w) A (ua (.ref d) (ud "get") pl) Q E) := g_dic PySem.F.slot_dict_get PySem.F.type_dict_get hd h
theorem qU (hy : (y.length == 0) = false) (hk : (decide (k < -(2 ^ 63 : Int)) || decide (k ≥ 2 ^ 63)) = false) (hsz : x.length + 2 ≤ ug)
  (h : ∀ a (l : List (Str × Tok)), l.map (·.1) = Txt.splitMax x y k → Go h0 o0 ((a, aE (strValues l)) :: cs) (Q (.ref a))) : Go h0 o0 cs (uL (uM uX w) A (uW (.builtin "str.split") [.str x t, .str y u, .int k v]) Q E) := fun s H => l4 H hy hk hsz fun a l s' hl W => h a l hl s' W
theorem lR {K : Frag} (B : Base K h0) (hf : lK K fa = true) (W : A.depth < ty) (h7 : ∀ s, K.In s.heap → BindsTo s (aZ K fa) ar binds)
  (h : ∀ L, Go h0 o0 ((L, cNs []) :: ((cellsFrom (L + 1) (aZ K fa).scope.names []).map (fun p => (p.2, aO none)) ++ cs)) (cB uX w A.in1 (um (aZ K fa) L fa) binds (CF h0 o0 (uL (uM uX w) (A.deeper (um (aZ K fa) L fa)) (uP (a7 K fa) (um (aZ K fa) L fa)) (RK R) NoE)))) :
  Go h0 o0 cs (uD (uM uX w) A (.call (.ref fa) ar) R) := fun s H => x_fnG B H hf W (h7 s (B.X.keeps H.keep)) fun L s' H' => by
 have key : ∀ (bs : List (Str × uN)) (s : uF), cB uX w A.in1 (um (aZ K fa) L fa) bs (CF h0 o0 (uL (uM uX w) (A.deeper (um (aZ K fa) L fa)) (uP (a7 K fa) (um (aZ K fa) L fa)) (RK R) NoE)) s →
   cB uX w A.in1 (um (aZ K fa) L fa) bs (fun h9 => (∃ x0, St h0 o0 x0 h9) ∧ uL (uM uX w) (A.deeper (um (aZ K fa) L fa)) (uP (a7 K fa) (um (aZ K fa) L fa)) (fun f s3 => R (.ok (.ret (match f with | .ret v => v | _ => .none))) s3) NoE h9) s := by
  intro bs;induction bs with
  | nil => exact fun s q => ⟨q.1, af q.2 (fun f h9 q => by cases f <;> exact q) fun _ _ q => q⟩
  | cons p r ih => intro s q; exact af q (fun _ s2 q => ih s2 q) fun _ _ q => q
 exact key binds s' (h L s' H')
theorem mt (h : Go h0 o0 cs (uL (uM uX w) A (tX env x v) (fun _ => cB uX w A env r P) NoE)) : Go h0 o0 cs (cB uX w A env ((x, v) :: r) P) := h
theorem sa_n (h : Go h0 o0 cs P) : Go h0 o0 cs (cB uX w A env [] (CF h0 o0 P)) := fun s H => ⟨⟨cs, H⟩, h s H⟩
end
section
variable {b : Bool} {cs cs' V X Y : aF} {Q : VP}
theorem k_sortT (ha : Has cs a (aE (ps.map fun p => .ref p.1))) (x0 : ∀ p ∈ ps, Has cs p.1 (bn [.str p.2.1.1 p.2.1.2, p.2.2])) (h4 : ps.length ≤ 5) (nd : (ps.map fun p => p.2.1.1).Nodup)
  (h : ∀ (W : List (uR × (Str × Tok) × uN)) h7, W.Perm ps → bP (fun x y : Str => decide (x.cps.toList < y.cps.toList)) (W.map fun p => p.2.1.1) → Put cs a (aE (ps.map fun p => .ref p.1)) (aE (W.map fun p => .ref p.1)) h7 → Go h0 o0 h7 (Q .none)) :
  Go h0 o0 cs (uL (uM uX w) A (uW (.builtin "list.sort") [.ref a]) Q E) := fun s H =>
 sW slot_list_sort (aS H ha).typeIs entry_list_sort (x_sortT H ha x0 h4 nd fun W h7 s' hp hr h9 H' => ⟨_, rfl, h W h7 hp hr h9 s' H'⟩) (args_list_sort _)
theorem cl0 {cl : List (Str × uR)} {scope : Scope} {elt target : Expr} {l : uR} {xs : List uN} (P : Nat → List uN → aF → Prop) (W : P 0 [] cs) (hz : xs.length ≤ ug) (hl : ∀ i ys C, P i ys C → Has C l (aE xs))
  (turn : ∀ L i v ys C K', xs[i]? = some v → P i ys C → Go h0 o0 ((L, cNs []) :: (C ++ K')) (uL (uM uX w) A (uG target (uq scope cl L env) v) (fun _ => uL (uM uX w) A (uU elt (uq scope cl L env)) (CE h0 o0 (P (i + 1)) ys L K') NoE) NoE))
  (fin : ∀ D ys C, P xs.length ys C → Go h0 o0 ((D, aE ys) :: C) (Q (.ref D))) : Go h0 o0 cs (CL uX w A env h0 o0 cl scope elt target [] Q E (.ref l)) := by
 have := Mine.cl (K := []) (C0 := cs) (env := env) (E := E) (Q := Q) P W hz (fun i ys C hP => by rw [s7]; exact hl i ys C hP) turn (fun D ys C hP => by rw [s7]; exact fin D ys C hP);rwa [s7] at this
theorem lk0 {y : Str} {cl : List (Str × uR)} {scope : Scope} {kx vx target : Expr} {Q : FP} {l : uR} {xs : List uN} (P : Nat → List (Str × uN) → aF → Prop) (W : P 0 [] cs) (hz : xs.length ≤ ug) (hl : ∀ i ys C, P i ys C → Has C l (aE xs))
  (turn : ∀ L i v ys C K', xs[i]? = some v → P i ys C → Go h0 o0 ((L, cNs []) :: (C ++ K')) (uL (uM uX w) A (uG target (uq scope cl L env) v) (fun _ => uL (uM uX w) A (uU kx (uq scope cl L env)) (fun kv => uL (uM uX w) A (uU vx (uq scope cl L env)) (CV h0 o0 (P (i + 1)) ys L K' kv) NoE) NoE) NoE))
  (fin : ∀ L D ys C, P xs.length ys C → Go h0 o0 ((D, aL uX w ys) :: (C ++ [(L, cNs [])])) (uL (uM uX w) A (tX env y (.ref D)) (NK h0 o0 L (Q .next)) E)) :
  Go h0 o0 cs (LK uX w A env h0 o0 y cl scope kx vx target [] Q E (.ref l)) := by
 have := lk (K := []) (C0 := cs) (env := env) (E := E) (Q := Q) (y := y) P W hz (fun i ys C hP => by rw [s7]; exact hl i ys C hP) turn fin;rwa [s7] at this
theorem fl0 {target : Expr} {body : List Stmt} {Q : FP} {l : uR} {xs : List uN} (P : Nat → aF → Prop) (h7 : P 0 cs) (hl : ∀ i C, P i C → Has C l (aE xs))
  (turn : ∀ i v C W, xs[i]? = some v → P i C → (∀ C s, St h0 o0 (C ++ W) s → St h0 o0 C s) → Go h0 o0 (C ++ W) (uL (uM uX w) A (uG target env v) (fun _ => uL (uM uX w) A (uP body env) (TK h0 o0 W (P (i + 1)) Q) NoE) NoE))
  (fin : ∀ C, P xs.length C → Go h0 o0 C (Q .next)) : Go h0 o0 cs (FL uX w A env target body h0 o0 Q (.ref l)) := by
 have := fl (K := []) (C0 := cs) (env := env) (Q := Q) (uX := uX) (w := w) (A := A) (target := target) (body := body) P h7 (fun i C hP => by rw [s7]; exact hl i C hP) (fun i v C W hv hP hb => turn i v C W hv hP fun C s q => by have := hb C s q; rwa [s7] at this) (fun C hP => by rw [s7]; exact fin C hP);rwa [s7] at this
theorem ce0 (W : P (ys ++ [v]) C') (e : cs = (L, cNs m) :: (C' ++ K')) : Go h0 o0 cs (CE h0 o0 P ys L K' v) := fun s H => ⟨m, C', W, e ▸ H⟩
theorem cv0 (W : P (stored ys k v) C') (e : cs = (L, cNs m) :: (C' ++ K')) : Go h0 o0 cs (CV h0 o0 P ys L K' (.str k u) v) := fun s H => ⟨k, u, m, C', rfl, W, e ▸ H⟩
theorem rj {x : Str} {u : Tok} {pl : Sem Bool} {Q : uN × List uN → uF → Prop} (h : Go h0 o0 cs (Q (.builtin "str.join", [.str x u]))) : Go h0 o0 cs (uL (uM uX w) A (ua (.str x u) (ud "join") pl) Q E) := fun s H => GM.join (h s H)
theorem nI (hl : Has cs D (aE (strValues l))) (W : JoinOk x (l.map (·.1)) = true) (h : ∀ t', Go h0 o0 cs (Q (.str (Txt.join x (l.map (·.1))) t'))) : Go h0 o0 cs (uL (uM uX w) A (uW (.builtin "str.join") [.str x t, .ref D]) Q E) := fun s H => x_join H hl W fun t' s' H' => h t' s' H'
end
section
variable {cs cs' V X Y : aF} {i : Wid} {t : d0} {Q : VP}
noncomputable def gV : Str := ud "{http://www.w3.org/XML/1998/namespace}space"
noncomputable def ir (p : Str × Str) : Str := tZ ++ ud " " ++ p.1 ++ ud "=\"" ++ iC p.2 ++ ud "\""
noncomputable def pA (l : List (Str × Str)) : Str := cC (l.map ir)
noncomputable def fr (al : List (Str × Str)) (k : Tok) : List (Str × Tok) := if al = [] then [] else [(pA al, k)]
noncomputable def jF (kvs : List (Str × Str × Tok)) : Option Str := (kvs.find? fun p => p.1 == gV).map (·.2.1)
noncomputable def qh (ps : List Bool) : Option Str → Bool
 | none => ps.getLastD false
 | some x => if x.length = 0 then ps.getLastD false else x == ud "preserve"
theorem spv_at (kvs : List (Str × Str × Tok)) : (jF kvs = none ∧ uE (bH kvs) gV = none) ∨ ∃ x k, jF kvs = some x ∧ uE (bH kvs) gV = some (.str x k) ∧ ∃ p ∈ kvs, p.2.1 = x := by
 induction kvs with
 | nil => exact .inl ⟨rfl, rfl⟩
 | cons p r ih =>
  cases e : p.1 == gV with
  | true => exact .inr ⟨p.2.1, p.2.2, by unfold jF; rw [List.find?_cons, e]; rfl, by unfold uE bH; rw [az, List.find?_cons]; simp only; rw [show decide (p.1 = gV) = true from by simpa using e]; rfl, p, aB, rfl⟩
  | false =>
   have W : jF (p :: r) = jF r := by unfold jF; rw [List.find?_cons, e]
   have e2 : uE (bH (p :: r)) gV = uE (bH r) gV := by
    unfold uE bH; rw [az, List.find?_cons]; simp only; rw [show decide (p.1 = gV) = false from by simpa using e]
   rw [W, e2];rcases ih with q | ⟨x, k, h1, h2, q, hq, hx⟩
   ·exact .inl q
   ·exact .inr ⟨x, k, h1, h2, q, au _ hq, hx⟩
noncomputable abbrev At4 := uR × (Str × Tok) × Str × Tok
noncomputable def At4.v (p : At4) : Str × Str := (p.2.1.1, p.2.2.1)
theorem c_stF {L AL D2 a' T : uR} {tag q : Str} {u kq : Tok} {xs : List uN} {dd : List (Str × uN)} {as : List At4} {kvs : List (Str × Str × Tok)} {R : RP} (B : Base (KF w.params) h0) (hh : A.handled = none) (x9 : A.depth + 1 < ty)
  (ha : Has V a' (aL uX w (bH kvs))) (hD : Has V D2 (aL uX w dd)) (hv : uE dd tag = some (.ref T)) (hT : Has V T (bn (.str q kq :: xs))) (x8 : Has V AL (aE (as.map fun p => .ref p.1))) (hp : ∀ p ∈ as, Has V p.1 (bn [.str p.2.1.1 p.2.1.2, .str p.2.2.1 p.2.2.2]))
  (x7 : t.ps ≠ []) (a1 : t.ps.length ≤ 1000) (a2 : t.nl.length ≤ 1000) (a3 : t.out.length ≤ 100000) (z6 : q.length ≤ 1000) (z5 : as.length ≤ 16) (y5 : ∀ p ∈ as, p.2.1.1.length ≤ 1000 ∧ p.2.2.1.length ≤ 100 ∧ (iC p.2.2.1).length ≤ 900000) (y8 : ∀ p ∈ kvs, p.2.1.length ≤ 100)
  (h : ∀ l k1 k2 k3, Go h0 o0 (wr uX w i { t with out := t.out ++ ((ud "<" ++ q, k1) :: fr (as.map At4.v) k2 ++ [(ud ">", k3)]), ps := t.ps ++ [qh t.ps (jF kvs)], rs := true, nl := t.nl ++ [⟨l, []⟩] } V) (R (.ok (.ret .none)))) :
  Go h0 o0 ((L, cNs [(ud "tag", .str tag u), (ud "attrs", .ref a'), (ud "qname_text", .none), (ud "parsed_qnames", .ref D2), (ud "attr_list", .ref AL)]) :: (L + 1, aO (some (.ref i.x))) :: wr uX w i t V)
   (uL (uM uX w) (A.deeper (um (aZ (KF w.params) aN) L aN)) (uP ((a7 (KF w.params) aN).drop 9) (um (aZ (KF w.params) aN) L aN)) (RK R) NoE) := by
 have x5 : ∀ env, (A.deeper env).handled = none := fun _ => hh
 have x0 : ∀ env, (A.deeper env).depth < ty := fun _ => by show A.depth + 1 < _; (with_reducible assumption)
 have z7 : dh h0 (ud "_escape_attrib_c14n") (.ref aAt) := B.glob (by kernel_rfl!) (by kernel_rfl!);obtain ⟨pp, bp, x1⟩ : ∃ pp bp, t.ps = pp ++ [bp] := ⟨t.ps.dropLast, t.ps.getLast x7, (rL x7).symm⟩;have x3 : t.ps.map uN.bool = pp.map uN.bool ++ [.bool bp] := by rw [x1, ao]; rfl
 refine aH ?_;with_reducible refine bR (bF (aI .here .i1 ?_)); refine g_get (by exact .t2 (d5 ha)) ?_; refine dJ (aG (aR fun _ _ => aJ ?_)); refine k_get1 (by exact .t2 (d5 ha)) ?_
 obtain ⟨sv, x2⟩ : ∃ sv, (uE (bH kvs) (ud "{http://www.w3.org/XML/1998/namespace}space")).getD .none = sv := ⟨_, rfl⟩;rw [x2];with_reducible refine aQ .here .j5 (aM (aH (bq (bF ?_)))); refine dW ?_ (by with_unfolding_all rfl); refine bw .h1 ?_; refine gf (by assumption) (.t2 bu) (.t2 a6) kO (by decide +kernel) (by kernel_rfl!) ?_; refine cS PySem.F.slot_list_append PySem.F.type_list_append (.t2 kJ) (dJ (aG ?_))
 refine bQ (fun v C => v = .bool (qh t.ps (jF kvs)) ∧ C = (L, cNs [(ud "tag", .str tag u), (ud "attrs", .ref a'), (ud "qname_text", .none), (ud "parsed_qnames", .ref D2), (ud "attr_list", .ref AL), (ud "space_behaviour", sv)]) :: (L + 1, aO (some (.ref i.x))) :: wr uX w i t V) ?_ ?_
 ·have z4 : qh t.ps (jF kvs) = bp → ∀ Y : aF, True := fun _ _ => trivial
  rcases spv_at kvs with ⟨e1, e2⟩ | ⟨x, k, e1, e2, p0, y0, y4⟩
  ·have e3 : sv = .none := by rw [← x2]; show (uE (bH kvs) gV).getD .none = _; rw [e2]; rfl
   subst e3;with_reducible refine cO (bK (aI .here .i5 (gQ (eW (br ?_))))); refine dW ?_ (by with_unfolding_all rfl); refine bw .h1 ?_; refine gf (by assumption) (.t2 bu) (.t2 a6) kO (by decide +kernel) (by kernel_rfl!) ?_; refine eX (aY fun _ => eV ?_); intro t1; refine fk (.t2 kJ) x3 (by with_unfolding_all rfl) ?_
   exact jp ⟨by rw [e1, x1]; simp [qh], rfl⟩
  ·have e3 : sv = .str x k := by rw [← x2]; show (uE (bH kvs) gV).getD .none = _; rw [e2]; rfl
   subst e3;have z9 : x.length ≤ 100 := y4 ▸ y8 p0 y0;with_reducible refine cO (bK (aI .here .i5 ?_))
   with_reducible refine gh (by rw [aj]; (apply aP; with_reducible assumption; decide)) ?_
   refine dT (fun h9 => ?_) fun h9 => ?_
   ·have h9 : ¬ x.length = 0 := by simpa using h9
    with_reducible refine rt ?_ (by with_unfolding_all rfl); refine aI .here .i5 (aR fun _ _ => g4 ?_)
    exact jp ⟨by rw [e1, qh, if_neg h9], rfl⟩
   ·have h9 : x.length = 0 := by simpa using h9
    with_reducible refine br ?_; refine dW ?_ (by with_unfolding_all rfl); refine bw .h1 ?_; refine gf (by assumption) (.t2 bu) (.t2 a6) kO (by decide +kernel) (by kernel_rfl!) ?_; refine eX (aY fun _ => eV ?_); intro t1; refine fk (.t2 kJ) x3 (by with_unfolding_all rfl) ?_
    exact jp ⟨by rw [e1, qh, if_pos h9, x1]; simp, rfl⟩
 rintro v C ⟨rfl, rfl⟩;with_reducible refine aJ ?_; refine cI (ys := (t.ps ++ [qh t.ps (jF kvs)]).map uN.bool) (.t2 (pw_PS (t.ps ++ [qh t.ps (jF kvs)]))) (by rw [ao, az, tJ]) (by simp only [tv, ak, sO, aw, tf, r7, aj]; apply aP; with_reducible assumption; decide) ?_
 generalize qh t.ps (jF kvs) = nb at h ⊢;show Go h0 o0 (_ :: _ :: wr uX w i { t with ps := t.ps ++ [nb] } V) _;with_reducible refine aM (aH (bR ?_)); refine dW ?_ (by with_unfolding_all rfl); refine bw .h1 ?_; refine gf (by assumption) (.t2 bu) (.t2 a6) kN (by decide +kernel) (by kernel_rfl!) ?_; refine aQ .here .j6 (aM (aH (bq (bf (aI .here .i6 ?_))))); refine rB (.t2 e9) ?_ (by with_unfolding_all rfl) (by with_unfolding_all rfl); refine aG (bl (aR fun _ _ => br (br (aI .here .i3 ?_)))); refine aI .here .here ?_
 have z1 : (ud "<").length = 1 := by decide +kernel
 have z2 : (ud ">").length = 1 := by decide +kernel
 with_reducible refine g5 (.t2 (d5 hD)) hv (by with_unfolding_all rfl) ?_; refine aY ?_; intro _; refine qC (.t2 (d5 hT)) (by with_unfolding_all rfl) ?_; refine cc (by rw [z1, aj]; (apply aP; apply aU; exact ah _; with_reducible assumption; decide)) ?_; intro k1; refine aJ (cw (.t2 e9) ?_); refine ly (by dsimp only; (apply aP; with_reducible assumption; decide)) (.t2 e9) (.t2 (qu _)) ?_
 show Go h0 o0 (_ :: _ :: wr uX w i { t with ps := t.ps ++ [nb], out := t.out ++ [(ud "<" ++ q, k1)] } V) _;refine aM (aH ?_);refine bQ (fun f C => f = .next ∧ ∃ k2, C = (L, cNs [(ud "tag", .str tag u), (ud "attrs", .ref a'), (ud "qname_text", .none), (ud "parsed_qnames", .ref D2), (ud "attr_list", .ref AL), (ud "space_behaviour", sv), (ud "write", .ref i.W)]) :: (L + 1, aO (some (.ref i.x))) :: wr uX w i { t with ps := t.ps ++ [nb], out := t.out ++ (ud "<" ++ q, k1) :: fr (as.map At4.v) k2 } V) ?_ ?_
 ·with_reducible refine b9 (bK (aI .here .i4 ?_)); refine kP (.t2 (d5 x8)) (by rw [ak, aj]; (apply aP; with_reducible assumption; decide)) ?_
  refine dT (fun h7 => ?_) fun h7 => ?_
  ·have h7 : as ≠ [] := by intro e; rw [e] at h7; simp at h7
   with_reducible refine aH (bq (bf (aI .here .i6 ?_))); refine rB (.t2 e9) ?_ (by with_unfolding_all rfl) (by with_unfolding_all rfl); refine aG (bF (aR fun _ _ => rj (dJ (aG ?_))))
   refine e_cl (cl := []) (x5 _) (by kernel_rfl!) (by decide) rfl (by decide) ?_ (fun _ => by with_unfolding_all rfl);with_reducible refine aI .here .i4 ?_
   refine cl0 (xs := as.map fun p => .ref p.1) (fun n ys C => ∃ l : List (Str × Tok), ys = tv l ∧ l.map (·.1) = (as.take n).map (fun p => ir p.v) ∧ tot l ≤ 1000000 * n ∧ C = (L, cNs [(ud "tag", .str tag u), (ud "attrs", .ref a'), (ud "qname_text", .none), (ud "parsed_qnames", .ref D2), (ud "attr_list", .ref AL), (ud "space_behaviour", sv), (ud "write", .ref i.W)]) :: (L + 1, aO (some (.ref i.x))) :: wr uX w i { t with ps := t.ps ++ [nb], out := t.out ++ [(ud "<" ++ q, k1)] } V) ⟨[], rfl, rfl, tO _, rfl⟩ (by rw [ak, aj]; (apply aP; with_reducible assumption; decide)) ?_ ?_ ?_
   ·rintro n ys C ⟨l, _, _, _, rfl⟩;exact .t2 (d5 x8)
   ·rintro L2 n v ys C K' hv ⟨l, rfl, hl, htot, rfl⟩;obtain ⟨p, x4, rfl⟩ : ∃ p, as[n]? = some p ∧ v = tW p.1 := by
     rw [sD] at hv;cases hx : as[n]? with
     | none => rw [hx] at hv; cases hv
     | some p => rw [hx] at hv; exact ⟨p, rfl, by cases hv; rfl⟩
    have x6 := se x4;have y6 := y5 p x6;have z0 : tZ.length = 0 := by decide +kernel
    have y1 : (ud " ").length = 1 := by decide +kernel
    have y2 : (ud "=\"").length = 2 := by decide +kernel
    have y3 : (ud "\"").length = 1 := by decide +kernel
    obtain ⟨y7, z3, a4⟩ := y6;show Go h0 o0 (_ :: _ :: _ :: (wr uX w i _ V ++ K')) _;rw [← bN];refine u_2 (x5 _) (.t3 (d5 (Has.app (hp p x6)))) ?_;with_reducible refine aQ .here .new (aQ .here .j1 (nU (cy (aR ?_)))); intro _ _; refine dr (by simp only [am, aj]; apply aP; apply aU; exact ap (by assumption); exact ap (by assumption); decide) ?_; refine cy (mS (aI .here .here ?_)); refine ii (by simp only [am, aj]; apply aP; with_reducible assumption; decide) ?_; intro _; refine dr (by simp only [am, aj]; apply aP; apply aU; apply aU; exact ap (by assumption); exact ap (by assumption); with_reducible assumption; decide) ?_; refine cy (aR ?_); intro _ _; refine dr (by simp only [am, aj]; apply aP; apply aU; apply aU; apply aU; exact ap (by assumption); exact ap (by assumption); with_reducible assumption; exact ap (by assumption); decide) ?_; refine cy (mS (bf ?_)); refine eY (by assumption) (by kernel_rfl!) (by kernel_rfl!) (by kernel_rfl!) (by decide +kernel) ?_; refine lS (by assumption) (by kernel_rfl!) ?_ (by with_unfolding_all rfl); refine aG (aI .here .i1 (aJ (ck (c_at B (x0 _) z3 ?_)))); intro tk; refine ii (by simp only [am, aj]; apply aP; with_reducible assumption; decide) ?_; intro _; refine dr (by simp only [am, aj]; apply aP; apply aU; apply aU; apply aU; apply aU; exact ap (by assumption); exact ap (by assumption); with_reducible assumption; exact ap (by assumption); with_reducible assumption; decide) ?_; refine cy (aR ?_); intro _ _; refine dr (by simp only [am, aj]; apply aP; apply aU; apply aU; apply aU; apply aU; apply aU; exact ap (by assumption); exact ap (by assumption); with_reducible assumption; exact ap (by assumption); with_reducible assumption; exact ap (by assumption); decide) ?_; refine nK ?_; refine nM (by simp only [am, aj]; apply aP; apply aU; apply aU; apply aU; apply aU; apply aU; exact ap (by assumption); exact ap (by assumption); with_reducible assumption; exact ap (by assumption); with_reducible assumption; exact ap (by assumption); decide) ?_; intro _
    rename_i tj;refine ce0 (C' := _ :: _ :: wr uX w i _ V) ⟨l ++ [(ir p.v, tj)], ?_, ?_, ?_, rfl⟩ (by rw [bN]; rfl)
    ·rw [tv, tv, ao]; rfl
    ·rw [ao, hl, sE, x4, ao]; rfl
    ·unfold tot at htot ⊢;rw [ao, List.sum_append];have : (ir p.v).length ≤ 1000000 := by
      unfold ir;simp only [am, z0, y1, y2, y3];show _ + 1 + (At4.v p).1.length + _ + (iC p.2.2.1).length + _ ≤ _;have : (At4.v p).1.length ≤ 1000 := y7
      (apply aP; apply aU; apply aU; apply aU; apply aU; apply aU; exact ah _; exact ah _; with_reducible assumption; exact ah _; with_reducible assumption; exact ah _; decide)
     simp only [az, tJ, List.sum_cons, List.sum_nil]
     (exact (bZ 0x57ca84a444d7e411cf83a796b4023d5e22379b693020062d046e1fa 0) htot this)
   ·rintro D ys C ⟨l, rfl, hl, htot, rfl⟩;rw [ak] at htot;rw [ak, List.take_length] at hl;have y9 : Txt.join (ud "") (l.map (·.1)) = pA (as.map At4.v) := by rw [hl]; unfold pA cC; rw [tI]; rfl
    with_reducible refine aJ ?_; refine nI (l := l) (show Has _ D (aE (tv l)) from .here) (jZ (by rw [aj]; (omega))) ?_; intro tj
    rw [y9];with_reducible refine aJ (cw (.t3 e9) ?_); refine ly (by dsimp only; rw [aw]; simp only [sO, tf]; (apply aP; apply aU; with_reducible assumption; apply aU; exact ah _; exact ah _; decide)) (.t3 e9) (.t3 (qu _)) ?_
    refine Go.sub (aq _ _) ?_;show Go h0 o0 (_ :: _ :: wr uX w i { t with ps := t.ps ++ [nb], out := (t.out ++ [(ud "<" ++ q, k1)]) ++ [(pA (as.map At4.v), tj)] } V) _;with_reducible refine aM (aV ?_)
    exact jp ⟨rfl, tj, by rw [fr, if_neg (by simpa using h7), av]; rfl⟩
  ·have h7 : as = [] := by cases as with | nil => rfl | cons a b => simp at h7
   subst h7;with_reducible refine aV ?_
   exact jp ⟨rfl, 0, by rw [fr, tJ, if_pos rfl]⟩
 rintro f C ⟨rfl, k2, rfl⟩;have h := fun l k3 => h l k1 k2 k3
 with_reducible refine aM (aH (bq (bf (aI .here .i6 ?_)))); refine rB (.t2 e9) ?_ (by with_unfolding_all rfl) (by with_unfolding_all rfl); refine aG (aR fun _ _ => aJ (cw (.t2 e9) ?_))
 rename_i t3 z8;have ho : (fr (as.map At4.v) k2).length ≤ 1 := by unfold fr; split <;> simp
 with_reducible refine ly (by dsimp only; rw [aw, sO]; (apply aP; apply aU; with_reducible assumption; apply aU; with_reducible assumption; exact ah _; decide)) (.t2 e9) (.t2 (qu _)) ?_
 show Go h0 o0 (_ :: _ :: wr uX w i { t with ps := t.ps ++ [nb], out := (t.out ++ (ud "<" ++ q, k1) :: fr (as.map At4.v) k2) ++ [(ud ">", t3)] } V) _;with_reducible refine aM (aH (b9 (bv (aI .here .i2 (df ?_))))); refine gj (a0 (lE (aV (aM (aH ?_))))); refine co (nV (bw .h1 (w_rs B (.t2 bu) (.t2 (pw_rs _)) ?_)))
 show Go h0 o0 (_ :: _ :: wr uX w i { t with ps := t.ps ++ [nb], out := (t.out ++ (ud "<" ++ q, k1) :: fr (as.map At4.v) k2) ++ [(ud ">", t3)], rs := true } V) _;with_reducible refine aM (aH (bq (bF ?_))); refine dW ?_ (by with_unfolding_all rfl); refine bw .h1 ?_; refine gf (by assumption) (.t2 bu) (.t2 a6) nj (by decide +kernel) (by kernel_rfl!) ?_; refine cS PySem.F.slot_list_append PySem.F.type_list_append (.t2 nh) (dJ (aG (bd (aJ (ba ?_))))); intro _; refine aJ ?_
 rename_i la;refine k_newN (X := [_, _]) (by dsimp only; (apply aP; with_reducible assumption; decide)) ?_;have h := h la t3;rw [← av] at h;show Go h0 o0 (_ :: _ :: wr uX w i { t with ps := t.ps ++ [nb], out := (t.out ++ (ud "<" ++ q, k1) :: fr (as.map At4.v) k2) ++ [(ud ">", t3)], rs := true, nl := t.nl ++ [⟨la, []⟩] } V) _;with_reducible refine aM (aV (iK ?_))
 exact Go.sub ((aq _ _).trans (aq _ _)) h
end
theorem gz {α : Type} {c : α → α → Bool} (tr : ∀ x y z, c x y = true → c y z = true → c x z = true) : ∀ {l : List α}, bP c l → l.Pairwise fun x y => c x y = true
 | [], _ => .nil
 | [a], _ => by simp
 | a :: b :: r, h => by
  have ih := gz tr h.2;refine sz.mpr ⟨fun y W => ?_, ih⟩;rcases tB.mp W with rfl | W
  ·exact h.1
  ·exact tr _ _ _ h.1 ((sz.mp ih).1 y W)
theorem dM {α : Type} {c : α → α → Bool} : ∀ {l : List α}, (l.Pairwise fun x y => c x y = true) → bP c l
 | [], _ => trivial
 | [a], _ => trivial
 | a :: b :: r, h => ⟨(sz.mp h).1 b aB, dM (sz.mp h).2⟩
theorem iY {α : Type} {R : α → α → Prop} (W : ∀ x, ¬ R x x) (tr : ∀ x y z, R x y → R y z → R x z) : ∀ {l1 l2 : List α}, l1.Perm l2 → l1.Pairwise R → l2.Pairwise R → l1 = l2
 | [], l2, hp, _, _ => hp.nil_eq
 | a :: r1, [], hp, _, _ => absurd hp.length_eq (by simp)
 | a :: r1, b :: r2, hp, h1, h2 => by
  have e : a = b := by
   rcases tB.mp (hp.mem_iff.mp aB) with q | q
   ·exact q
   ·rcases tB.mp (hp.mem_iff.mpr aB) with q2 | q2
    ·exact q2.symm
    ·exact absurd (tr _ _ _ ((sz.mp h1).1 b q2) ((sz.mp h2).1 a q)) (W a)
  subst e;rw [iY W tr ((List.perm_cons a).mp hp) (sz.mp h1).2 (sz.mp h2).2]
theorem cK {α β : Type} {c : β → β → Bool} {f : α → β} (W : ∀ x, c x x = false) (tr : ∀ x y z, c x y = true → c y z = true → c x z = true) {l1 l2 : List α} (hp : l1.Perm l2) (h1 : bP c (l1.map f)) (h2 : bP c (l2.map f)) : l1 = l2 :=
 iY (R := fun x y => c (f x) (f y) = true) (fun x q => by rw [W] at q; cases q) (fun x y z => tr _ _ _) hp (sG.mp (gz tr h1)) (sG.mp (gz tr h2))
noncomputable def mH {α : Type} (c : α → α → Bool) (x : α) : List α → List α
 | [] => [x]
 | y :: r => if c x y = true then x :: y :: r else y :: mH c x r
noncomputable def srtS {α : Type} (c : α → α → Bool) : List α → List α
 | [] => []
 | x :: r => mH c x (srtS c r)
theorem fZ {α : Type} (c : α → α → Bool) (x : α) : ∀ l, (mH c x l).Perm (x :: l)
 | [] => .refl _
 | y :: r => by
  unfold mH;split
  ·exact .refl _
  ·exact ((fZ c x r).cons y).trans (.swap _ _ _)
theorem fT {α : Type} (c : α → α → Bool) : ∀ l, (srtS c l).Perm l
 | [] => .refl _
 | x :: r => (fZ c x _).trans ((fT c r).cons x)
theorem nO {α : Type} {c : α → α → Bool} (tr : ∀ x y z, c x y = true → c y z = true → c x z = true) {x : α} : ∀ {l : List α}, (∀ y ∈ l, c x y = true ∨ c y x = true) → (l.Pairwise fun x y => c x y = true) → (mH c x l).Pairwise fun x y => c x y = true
 | [], _, _ => by simp [mH]
 | y :: r, ht, h => by
  have h' := sz.mp h;unfold mH;split
  ·rename_i q;refine sz.mpr ⟨fun z hz => ?_, h⟩;rcases tB.mp hz with rfl | hz
   ·exact q
   ·exact tr _ _ _ q (h'.1 z hz)
  ·rename_i q;refine sz.mpr ⟨fun z hz => ?_, nO tr (fun z hz => ht z (au _ hz)) h'.2⟩;rcases tB.mp ((fZ c x r).mem_iff.mp hz) with rfl | hz
   ·exact (ht y aB).resolve_left q
   ·exact h'.1 z hz
theorem oT {α : Type} {c : α → α → Bool} (tr : ∀ x y z, c x y = true → c y z = true → c x z = true) : ∀ {l : List α}, (l.Pairwise fun x y => c x y = true ∨ c y x = true) → bP c (srtS c l) := by
 intro l h;refine dM ?_;induction l with
 | nil => exact .nil
 | cons x r ih =>
  have h' := sz.mp h;exact nO tr (fun y W => h'.1 y ((fT c r).mem_iff.mp W)) (ih h'.2)
def CN (uX : uy) (w : uQ) (A : uJ) (env : Env) (h0 : uV) (o0 : uF) (y : Str) (cl : List (Str × uR)) (scope : Scope) (elt target : Expr) (ifs : List Expr) (Q : FP) (E : VP) : uN → uF → Prop := OvL uX w A env h0 o0 ([] : List uN) (EvL uX w A h0 o0 elt) target ifs scope cl (FnA uX w A env h0 o0 aE y Q E)
section
variable {cs : aF} {Q : FP}
theorem s_cll {elt target iter : Expr} {ifs : List Expr} {scope : Scope} {pos py spos : Pos} {y : Str} {cl : List (Str × uR)} (hh : A.handled = none)
  (x1 : swapsWith (.ListComp elt [⟨target, iter, ifs, 0⟩] scope pos) (some (.Name y py)) spos.line env = uT true)
  (h9 : closureFor scope env = uT cl) (x0 : ∀ y ∈ scope.names, y.2 ≠ .cell) (h7 : scope.kind = .function) (W : ∀ y ∈ scope.names, y.2 = .local → scope.names.lookup y.1 = some .local)
  (h : Go h0 o0 cs (uL (uM uX w) A (uU iter env) (CN uX w A env h0 o0 y cl scope elt target ifs Q E) E)) (hs : ∀ x, sF iter env x = uT x) :
  Go h0 o0 cs (uL (uM uX w) A (exec (.Assign [.Name y py] (.ListComp elt [⟨target, iter, ifs, 0⟩] scope pos) spos) env) Q E) :=
 fun s H => a_ov gF x1 h9 x0 h7 W (af (h s H) (fun x s1 q => ovL hh q) fun _ _ q => q) hs
theorem cn0 {y : Str} {cl : List (Str × uR)} {scope : Scope} {elt target : Expr} {l : uR} {xs : List uN} (P : Nat → List uN → aF → Prop) (h7 : P 0 [] cs) (hz : xs.length ≤ ug) (hl : ∀ i ys C, P i ys C → Has C l (aE xs))
  (turn : ∀ L i v ys C K', xs[i]? = some v → P i ys C → Go h0 o0 ((L, cNs []) :: (C ++ K')) (uL (uM uX w) A (uG target (uq scope cl L env) v) (fun _ => uL (uM uX w) A (uU elt (uq scope cl L env)) (CE h0 o0 (P (i + 1)) ys L K') NoE) NoE))
  (fin : ∀ L D ys C, P xs.length ys C → Go h0 o0 ((D, aE ys) :: (C ++ [(L, cNs [])])) (uL (uM uX w) A (tX env y (.ref D)) (NK h0 o0 L (Q .next)) E)) : Go h0 o0 cs (CN uX w A env h0 o0 y cl scope elt target [] Q E (.ref l)) := fun s H =>
 ⟨l, xs, cs, [], P, rfl, h7, hz, by rw [s7]; exact H, fun i ys C W => by rw [s7]; exact hl i ys C W, fun L i v c ys C K' s _ hv W _ H => af (turn L i v ys C K' hv.1 W s H) (fun _ s2 q => fv (by rw [if_pos rfl]; exact q)) fun _ _ q => q, fun L D ys C s W H => fin L D ys C W s H⟩
end
theorem qV (h9 : ∀ p ∈ ps, Has cs p.1 (bn [.str p.2.1.1 p.2.1.2, p.2.2])) (h4 : ps.length ≤ 5) (nd : (ps.map fun p => p.2.1.1).Nodup)
  (h : ∀ (h7 : List (uR × (Str × Tok) × uN)), h7.Perm ps → bP (fun x y : Str => decide (x.cps.toList < y.cps.toList)) (h7.map fun p => p.2.1.1) → Go h0 o0 ((a, aE (h7.map fun p => .ref p.1)) :: cs) (Q .none)) :
  Go h0 o0 ((a, aE (ps.map fun p => .ref p.1)) :: cs) (uL (uM uX w) A (uW (.builtin "list.sort") [.ref a]) Q E) := fun s H =>
 k_sortT .here (fun p hp => .there (h9 p hp)) h4 nd (fun h7 x0 hp hr W => by
  cases W with
  | here => exact h h7 hp hr
  | there W =>
   have := H.nodup;rw [az, s9] at this;exact absurd (aA (f := uo) W.has.mem) this.1) s H
noncomputable abbrev eM (x y : Str) : Bool := decide (x.cps.toList < y.cps.toList)
theorem gD (x : Str) : eM x x = false := decide_eq_false (List.lt_irrefl _)
theorem hH (x y z : Str) (h1 : eM x y = true) (h2 : eM y z = true) : eM x z = true := by
 rw [decide_eq_true_eq] at *; exact List.lt_trans h1 h2
theorem ltL_irr (x : List Str) : d3 x x = false := by
 induction x with
 | nil => rfl
 | cons a r ih => simp [d3, ih]
theorem ru (h : l.Perm (bH kvs)) : ∃ W : List (Str × Str × Tok), W.Perm kvs ∧ l = bH W := by
 have key : ∀ l : List (Str × uN), (∀ p ∈ l, ∃ x k, p.2 = .str x k) → ∃ W, l = bH W := by
  intro l;induction l with
  | nil => intro _; exact ⟨[], rfl⟩
  | cons p r ih =>
   intro h;obtain ⟨W, e⟩ := ih fun p hp => h p (au _ hp)
   obtain ⟨x, k, e2⟩ := h p aB;exact ⟨(p.1, x, k) :: W, by rw [e]; unfold bH; rw [az]; congr 1; rw [← e2]⟩
 obtain ⟨W, e⟩ := key l fun p hp => by
  obtain ⟨q, _, rfl⟩ := tG.mp (h.mem_iff.mp hp);exact ⟨_, _, rfl⟩
 subst e;refine ⟨W, ?_, rfl⟩;have := h.map fun p : Str × uN => (p.1, match p.2 with | .str x t => (x, t) | _ => (tZ, 0))
 unfold bH at this;simp only [tI] at this;have e : ∀ l : List (Str × Str × Tok), l.map ((fun p : Str × uN => (p.1, match p.2 with | .str x t => (x, t) | _ => (tZ, 0))) ∘ fun p => (p.1, uN.str p.2.1 p.2.2)) = l := fun l => List.map_id'' (fun _ => rfl) l
 rwa [e, e] at this
section
variable {cs cs' V X Y : aF} {P : GP} {i : Wid} {t : d0}
theorem Go.wPull (h : Go h0 o0 (Y ++ wr uX w i t (X ++ V)) P) : Go h0 o0 (X ++ (Y ++ wr uX w i t V)) P := Go.perm (perm3.trans (r8 Y wr_in)) h
theorem Go.tl (h : Go h0 o0 (Y ++ p :: Z) P) : Go h0 o0 (Y ++ (Z ++ [p])) P := Go.perm (r8 Y (List.perm_append_singleton p _)) h
theorem Go.mid (h : Go h0 o0 (X ++ p :: Y) P) : Go h0 o0 (p :: (X ++ Y)) P := Go.perm sQ.symm h
end
section
variable {cs cs' V X Y : aF} {i : Wid} {t : d0} {Q : VP}
noncomputable def iR (qf : Str → Str × Str × Str) (z : Str × Str) : Str × Str := (if (qf z.1).2.2.length = 0 then (qf z.1).2.1 else (qf z.1).1, z.2)
theorem c_stE {L AL D2 a' n1 : uR} {tag : Str} {u : Tok} {dd : List (Str × uN)} {as0 : List At4} {kvs : List (Str × Str × Tok)} {qf : Str → Str × Str × Str} {R : RP} {zs : List (Str × Str)} (B : Base (KF w.params) h0) (hh : A.handled = none)
  (ha : Has V a' (aL uX w (bH kvs))) (hD : Has V D2 (aL uX w dd)) (x7 : ∀ p ∈ kvs, ∃ T k1 k2 k3, uE dd p.1 = some (.ref T) ∧ Has V T (bn [.str (qf p.1).1 k1, .str (qf p.1).2.1 k2, .str (qf p.1).2.2 k3])) (y1 : ∀ p ∈ kvs, (qf p.1).2.2.length ≤ 1000)
  (h4 : kvs.length ≤ 5) (nd : (kvs.map (·.1)).Nodup) (z2 : as0.length ≤ 10) (hz : zs.Perm (kvs.map fun p => (p.1, p.2.1))) (z1 : bP eM (zs.map (·.1)))
  (h : ∀ as X, as.map At4.v = zs.map (iR qf) → (∀ p ∈ as, Has X p.1 (bn [.str p.2.1.1 p.2.1.2, .str p.2.2.1 p.2.2.2])) →
   Go h0 o0 ((L, cNs [(ud "tag", .str tag u), (ud "attrs", .ref a'), (ud "new_namespaces", .ref n1), (ud "qname_text", .none), (ud "qattrs", .none), (ud "parsed_qnames", .ref D2), (ud "attr_list", .ref AL)]) :: (L + 1, aO (some (.ref i.x))) :: (AL, aE ((as0 ++ as).map fun p => .ref p.1)) :: wr uX w i t (X ++ V))
   (uL (uM uX w) (A.deeper (um (aZ (KF w.params) aN) L aN)) (uP ((a7 (KF w.params) aN).drop 9) (um (aZ (KF w.params) aN) L aN)) (RK R) NoE)) :
  Go h0 o0 ((L, cNs [(ud "tag", .str tag u), (ud "attrs", .ref a'), (ud "new_namespaces", .ref n1), (ud "qname_text", .none), (ud "qattrs", .none), (ud "parsed_qnames", .ref D2), (ud "attr_list", .ref AL)]) :: (L + 1, aO (some (.ref i.x))) :: (AL, aE (as0.map fun p => .ref p.1)) :: wr uX w i t V)
   (uL (uM uX w) (A.deeper (um (aZ (KF w.params) aN) L aN)) (uP ((a7 (KF w.params) aN).drop 8) (um (aZ (KF w.params) aN) L aN)) (RK R) NoE) := by
 have h7 : ∀ env, (A.deeper env).handled = none := fun _ => hh
 have z4 : cD h0 (ud "sorted") (.builtin "sorted") := B.bltAt (by kernel_rfl!) (by kernel_rfl!) (by decide +kernel) (by decide +kernel);have z0 : (bH kvs).length ≤ 5 := by unfold bH; rw [ak]; exact h4
 have x6 : (bH kvs).map (·.1) = kvs.map (·.1) := by unfold bH; rw [tI]; rfl
 refine aH ?_
 refine bQ (fun f C => f = .next ∧ ∃ as X, as.map At4.v = zs.map (iR qf) ∧ (∀ p ∈ as, Has X p.1 (bn [.str p.2.1.1 p.2.1.2, .str p.2.2.1 p.2.2.2])) ∧
  C = (L, cNs [(ud "tag", .str tag u), (ud "attrs", .ref a'), (ud "new_namespaces", .ref n1), (ud "qname_text", .none), (ud "qattrs", .none), (ud "parsed_qnames", .ref D2), (ud "attr_list", .ref AL)]) :: (L + 1, aO (some (.ref i.x))) :: (AL, aE ((as0 ++ as).map fun p => .ref p.1)) :: wr uX w i t (X ++ V)) ?_ ?_
 ·refine b9 ?_;with_reducible refine bK (aI .here .i1 ?_); refine t_dic (.t3 (d5 ha)) (by rw [aj]; (apply aP; with_reducible assumption; decide)) ?_
  refine dT (fun h9 => ?_) fun h9 => ?_
  ·refine aH ?_;refine kY (h7 _) ?_ (fun _ => by with_unfolding_all rfl);with_reducible refine bf ?_; refine dg (by assumption) (by kernel_rfl!) (by kernel_rfl!) (by kernel_rfl!) (by kernel_rfl!) (by decide +kernel) ?_; refine ki ?_ (by with_unfolding_all rfl) (by with_unfolding_all rfl); refine aG (bF (aI .here .i1 (g_items (.t3 (d5 ha)) (gq (k_items (.t3 (d5 ha)) ?_))))); intro vw; refine aJ ?_; refine k_sortI (h7 _) .here (.t4 (d5 ha)) z0 (by rw [x6]; exact nd) ?_; intro Dl ps y5 y0
   obtain ⟨al, x2, x0⟩ := ru y5;have x1 : al.map (fun p => (p.1, p.2.1)) = zs := by
    refine cK (c := eM) (f := uo) gD hH ((x2.map _).trans hz.symm) ?_ z1;have : (al.map fun p => (p.1, p.2.1)).map uo = ps.map fun p => p.2.1.1 := by
     have := congrArg (List.map (·.1)) x0;unfold bH at this;rw [tI, tI] at this;rw [tI]; exact this.symm
    rw [this]; exact y0
   have y8 : ps.length = al.length := by have := congrArg tQ x0; unfold bH at this; rwa [ak, ak] at this
   refine Go.mid (Go.wPull (Y := [_, _, _, _, _]) ?_);show Go h0 o0 (_ :: _ :: _ :: _ :: _ :: wr uX w i t (aW ps ++ V)) _;refine Go.sel (cs' := (L, cNs [(ud "tag", .str tag u), (ud "attrs", .ref a'), (ud "new_namespaces", .ref n1), (ud "qname_text", .none), (ud "qattrs", .none), (ud "parsed_qnames", .ref D2), (ud "attr_list", .ref AL)]) :: (L + 1, aO (some (.ref i.x))) :: (AL, aE (as0.map fun p => .ref p.1)) :: (Dl, aE (ps.map fun p => .ref p.1)) :: wr uX w i t (aW ps ++ V)) (.pick .h2 (.pick .h2 (.pick .h2 (.pick .here (.tail (.there .refl)))))) ?_
   refine fl0 (xs := ps.map fun p => .ref p.1) (fun n C => ∃ as X, as.map At4.v = (zs.take n).map (iR qf) ∧ (∀ p ∈ as, Has X p.1 (bn [.str p.2.1.1 p.2.1.2, .str p.2.2.1 p.2.2.2])) ∧
    C = (L, cNs [(ud "tag", .str tag u), (ud "attrs", .ref a'), (ud "new_namespaces", .ref n1), (ud "qname_text", .none), (ud "qattrs", .none), (ud "parsed_qnames", .ref D2), (ud "attr_list", .ref AL)]) :: (L + 1, aO (some (.ref i.x))) :: (AL, aE ((as0 ++ as).map fun p => .ref p.1)) :: (Dl, aE (ps.map fun p => .ref p.1)) :: wr uX w i t (X ++ (aW ps ++ V))) ⟨[], [], rfl, (by intro p hp; cases hp), by rw [s7]; rfl⟩ ?_ ?_ ?_
   ·rintro n C ⟨as, X, _, _, rfl⟩;exact .h3
   ·rintro n v C K' hv ⟨as, X, has, hX, rfl⟩ hbk;obtain ⟨p, x3, rfl⟩ : ∃ p, ps[n]? = some p ∧ v = tW p.1 := by
     rw [sD] at hv;cases hx : ps[n]? with
     | none => rw [hx] at hv; cases hv
     | some p => rw [hx] at hv; exact ⟨p, rfl, by cases hv; rfl⟩
    obtain ⟨b, hb, y2⟩ : ∃ b, al[n]? = some b ∧ (p.2.1.1, p.2.2) = (b.1, uN.str b.2.1 b.2.2) := by
     have e := congrArg (fun z => z[n]?) x0;simp only [bH, sD, x3, Option.map_some] at e;cases hx : al[n]? with
     | none => rw [hx] at e; cases e
     | some b => rw [hx] at e; exact ⟨b, rfl, by simpa using e⟩
    obtain ⟨y7, x9⟩ := Prod.mk.inj y2;have x4 : b ∈ kvs := x2.mem_iff.mp (se hb);obtain ⟨T, k1, k2, k3, x8, hT⟩ := x7 b x4;have z5 := y1 b x4;have y9 : zs[n]? = some (b.1, b.2.1) := by rw [← x1, sD, hb]; rfl
    have z3 : as.length ≤ 5 := by
     have := congrArg tQ has;rw [ak, ak, List.length_take] at this;have h6 := hz.length_eq;rw [ak] at h6
     (exact (jP 0x9d23e7f26b4facc424fd8d0 0x89d7c0a39a121bf95af19b1af398fede46a3be92fb89c3) h4 this h6)
    show Go h0 o0 (_ :: _ :: _ :: _ :: (wr uX w i t (X ++ (aW ps ++ V)) ++ K')) _;rw [← bN, av, av];have x5 : Has (X ++ (aW ps ++ (V ++ K'))) p.1 (bn [.str p.2.1.1 p.2.1.2, p.2.2]) := .skip (Has.app (eU (se x3)));have y3 : Has (X ++ (aW ps ++ (V ++ K'))) D2 (aL uX w dd) := .skip (.skip hD.app);have y6 := Has.skip (xs := X) (Has.skip (xs := aW ps) (Has.app (K := K') hT));rw [y7, x9] at x5;refine u_2 (h7 _) (.t4 (d5 x5)) ?_;with_reducible refine aQ .here (.nx6 .j1) (aQ .here (.nx6 .j2) (aH (b9 (c6 (b7 ?_))))); refine bv (aI .here .i4 (df (gj (a0 (lE ?_))))); refine eW (aV (aM (aH ?_))); refine nw ?_ (by with_unfolding_all rfl) (by with_unfolding_all rfl); refine br (aI .here .i5 (aI .here (.nx6 .i1) ?_)); refine g5 (.t4 (d5 y3)) x8 (by with_unfolding_all rfl) ?_
    refine u_3 (h7 _) (.t4 (d5 y6)) ?_;with_reducible refine aQ .here (.nx6 .j3) (aQ .here (.nx6 .j4) (aQ .here (.nx6 .j5) (aM (aH (bq ?_))))); refine bF (aI .here .i6 (cS PySem.F.slot_list_append PySem.F.type_list_append .h2 (dJ (aG (eh ?_))))); refine aG ?_
    refine bQ (fun v C => v = .str (iR qf (b.1, b.2.1)).1 (if (qf b.1).2.2.length = 0 then k2 else k1) ∧ C = (L, cNs [(ud "tag", .str tag u), (ud "attrs", .ref a'), (ud "new_namespaces", .ref n1), (ud "qname_text", .none), (ud "qattrs", .none), (ud "parsed_qnames", .ref D2), (ud "attr_list", .ref AL), (ud "k", .str b.1 p.2.1.2), (ud "v", .str b.2.1 b.2.2), (ud "attr_qname", .str (qf b.1).1 k1), (ud "attr_name", .str (qf b.1).2.1 k2), (ud "uri", .str (qf b.1).2.2 k3)]) :: (L + 1, aO (some (.ref i.x))) :: (AL, aE ((as0 ++ as).map fun p => .ref p.1)) :: (Dl, aE (ps.map fun p => .ref p.1)) :: wr uX w i t (X ++ (aW ps ++ (V ++ K')))) ?_ ?_
    ·with_reducible refine cO (bK (aI .here (.nx6 .i5) ?_)); refine gh (by rw [aj]; (apply aP; with_reducible assumption; decide)) ?_
     refine dT (fun W => ?_) fun W => ?_
     ·have W : ¬ (qf b.1).2.2.length = 0 := by simpa using W
      with_reducible refine aI .here (.nx6 .i3) ?_
      exact jp ⟨by rw [iR, if_neg W, if_neg W], rfl⟩
     ·have W : (qf b.1).2.2.length = 0 := by simpa using W
      with_reducible refine aI .here (.nx6 .i4) ?_
      exact jp ⟨by rw [iR, if_pos W, if_pos W], rfl⟩
    rintro v C ⟨rfl, rfl⟩;with_reducible refine aG (aI .here (.nx6 .i2) (aJ (ed fun _ => aJ ?_)))
    rename_i Tn;with_reducible refine cI (ys := ((as0 ++ (as ++ [(Tn, ((iR qf (b.1, b.2.1)).1, if (qf b.1).2.2.length = 0 then k2 else k1), b.2)])).map fun p => .ref p.1)) .h3 (by simp only [ao, av, az, tJ]) (by rw [ak, aw, aj]; (apply aP; apply aU; with_reducible assumption; with_reducible assumption; decide)) ?_; refine aM (aV ?_)
    refine Go.thin (a := L) (m' := [(ud "tag", .str tag u), (ud "attrs", .ref a'), (ud "new_namespaces", .ref n1), (ud "qname_text", .none), (ud "qattrs", .none), (ud "parsed_qnames", .ref D2), (ud "attr_list", .ref AL)]) .h1 (.ix 1698898183) ?_;refine Go.wPull (X := [_]) (Y := [_, _, _, _]) ?_;refine iH (C := _ :: _ :: _ :: _ :: wr uX w i t (((Tn, bn [.str (iR qf (b.1, b.2.1)).1 (if (qf b.1).2.2.length = 0 then k2 else k1), .str b.2.1 b.2.2]) :: X) ++ (aW ps ++ V))) ⟨as ++ [(Tn, ((iR qf (b.1, b.2.1)).1, if (qf b.1).2.2.length = 0 then k2 else k1), b.2)], _, ?_, ?_, rfl⟩ ?_
    ·rw [ao, has, sE, y9, Option.toList_some, ao]; rfl
    ·intro r hr;rcases s8.mp hr with hr | hr
     ·exact .there (hX r hr)
     ·rw [su] at hr; subst hr; exact .here
    ·simp only [sN, te, av, ← bN]
   ·rintro C ⟨as, X, has, hX, rfl⟩;rw [ak, rZ (by rw [← x1, ak, y8]; exact ah _)] at has;with_reducible refine aM (aV ?_)
    refine Go.sel (cs' := (L, cNs [(ud "tag", .str tag u), (ud "attrs", .ref a'), (ud "new_namespaces", .ref n1), (ud "qname_text", .none), (ud "qattrs", .none), (ud "parsed_qnames", .ref D2), (ud "attr_list", .ref AL)]) :: (L + 1, aO (some (.ref i.x))) :: (AL, aE ((as0 ++ as).map fun p => .ref p.1)) :: wr uX w i t (X ++ (aW ps ++ V))) (.pick .here (.pick .here (.pick .here (.tail (.there .refl))))) ?_;exact jp ⟨rfl, as, X ++ aW ps, has, fun p hp => (hX p hp).app, by rw [av]⟩
  ·have h9 : kvs = [] := by cases kvs with | nil => rfl | cons a b => simp [bH] at h9
   subst h9;have y4 : zs = [] := List.perm_nil.mp hz;subst y4;with_reducible refine aV ?_
   exact jp ⟨rfl, [], [], rfl, (by intro p hp; cases hp), by rw [s7]; rfl⟩
 rintro f C ⟨rfl, as, X, e1, e2, rfl⟩;exact aM (h as X e1 e2)
noncomputable def g6 (q : Str × Str) : Str × Str := (if q.2.length = 0 then ud "xmlns" else ud "xmlns:" ++ q.2, q.1)
theorem c_stD (B : Base (KF w.params) h0) (hh : A.handled = none)
  (hN : t.dl = ND ++ [lD]) (hb : ∀ q ∈ lD.ps, q.p.length ≤ 100) (h5 : lD.ps.length ≤ 5) (hz : ys.Perm (lD.v.map g6)) (y2 : bP eM (ys.map (·.1))) (nd : (ys.map (·.1)).Nodup)
  (h : ∀ AL (as : List At4) X, as.map At4.v = ys → (∀ p ∈ as, Has X p.1 (bn [.str p.2.1.1 p.2.1.2, .str p.2.2.1 p.2.2.2])) →
   Go h0 o0 ((L, cNs [(ud "tag", .str tag u), (ud "attrs", .ref a'), (ud "new_namespaces", .ref lD.a), (ud "qname_text", .none), (ud "qattrs", .none), (ud "parsed_qnames", .ref D2), (ud "attr_list", .ref AL)]) :: (L + 1, aO (some (.ref i.x))) :: (AL, aE (as.map fun p => .ref p.1)) :: wr uX w i t (X ++ V))
   (uL (uM uX w) (A.deeper (um (aZ (KF w.params) aN) L aN)) (uP ((a7 (KF w.params) aN).drop 8) (um (aZ (KF w.params) aN) L aN)) (RK R) NoE)) :
  Go h0 o0 ((L, cNs [(ud "tag", .str tag u), (ud "attrs", .ref a'), (ud "new_namespaces", .ref lD.a), (ud "qname_text", .none), (ud "qattrs", .none), (ud "parsed_qnames", .ref D2)]) :: (L + 1, aO (some (.ref i.x))) :: wr uX w i t V)
   (uL (uM uX w) (A.deeper (um (aZ (KF w.params) aN) L aN)) (uP ((a7 (KF w.params) aN).drop 7) (um (aZ (KF w.params) aN) L aN)) (RK R) NoE) := by
 have x5 : ∀ env, (A.deeper env).handled = none := fun _ => hh
 have x2 : lD ∈ t.dl := by rw [hN]; simp
 have z1 : (ud "xmlns:").length = 6 := by decide +kernel
 have y4 : lD.refs.length ≤ 5 := by unfold Lv.refs; rw [ak]; exact h5
 refine aH ?_
 refine bQ (fun f C => f = .next ∧ ∃ AL, ∃ as : List At4, ∃ X, as.map At4.v = ys ∧ (∀ p ∈ as, Has X p.1 (bn [.str p.2.1.1 p.2.1.2, .str p.2.2.1 p.2.2.2])) ∧
  C = (L, cNs [(ud "tag", .str tag u), (ud "attrs", .ref a'), (ud "new_namespaces", .ref lD.a), (ud "qname_text", .none), (ud "qattrs", .none), (ud "parsed_qnames", .ref D2), (ud "attr_list", .ref AL)]) :: (L + 1, aO (some (.ref i.x))) :: (AL, aE (as.map fun p => .ref p.1)) :: wr uX w i t (X ++ V)) ?_ ?_
 ·refine b9 ?_;with_reducible refine bK (aI .here .i2 ?_); refine kP (.t2 (gy x2)) (by rw [aj]; (apply aP; with_reducible assumption; decide)) ?_
  refine dT (fun x0 => ?_) fun x0 => ?_
  ·with_reducible refine aH ?_
   refine s_cll (cl := []) (x5 _) (by kernel_rfl!) (by kernel_rfl!) (by decide) rfl (by decide) ?_ (fun _ => by with_unfolding_all rfl);with_reducible refine aI .here .i2 ?_
   refine cn0 (xs := lD.refs) (fun n zs C => ∃ as : List At4, ∃ X, zs = as.map (fun p => tW p.1) ∧ as.map At4.v = (lD.v.take n).map g6 ∧ (∀ p ∈ as, Has X p.1 (bn [.str p.2.1.1 p.2.1.2, .str p.2.2.1 p.2.2.2])) ∧
    C = (L, cNs [(ud "tag", .str tag u), (ud "attrs", .ref a'), (ud "new_namespaces", .ref lD.a), (ud "qname_text", .none), (ud "qattrs", .none), (ud "parsed_qnames", .ref D2)]) :: (L + 1, aO (some (.ref i.x))) :: wr uX w i t (X ++ V)) ⟨[], [], rfl, rfl, (by intro p hp; cases hp), rfl⟩ (by rw [aj]; (apply aP; with_reducible assumption; decide)) ?_ ?_ ?_
   ·rintro n zs C ⟨as, X, _, _, _, rfl⟩;exact .t2 (gy x2)
   ·rintro L2 n v zs C K' hv ⟨as, X, rfl, has, hX, rfl⟩;obtain ⟨q, x3, rfl⟩ : ∃ q, lD.ps[n]? = some q ∧ v = tW q.a := by
     unfold Lv.refs at hv;rw [sD] at hv;cases hx : lD.ps[n]? with
     | none => rw [hx] at hv; cases hv
     | some p => rw [hx] at hv; exact ⟨p, rfl, by cases hv; rfl⟩
    have x6 := se x3;have y5 := hb q x6;show Go h0 o0 (_ :: _ :: _ :: (wr uX w i t (X ++ V) ++ K')) _;rw [← bN, av];refine u_2 (x5 _) (.t3 (pU x2 x6)) ?_;with_reducible refine aQ .here .new (aQ .here .j1 (eh (aG ?_)))
    refine bQ (fun v C => (∃ k, v = .str (g6 q.v).1 k) ∧ C = (L2, cNs [(ud "uri", .str q.u q.ut), (ud "prefix", .str q.p q.pt)]) :: (L, cNs [(ud "tag", .str tag u), (ud "attrs", .ref a'), (ud "new_namespaces", .ref lD.a), (ud "qname_text", .none), (ud "qattrs", .none), (ud "parsed_qnames", .ref D2)]) :: (L + 1, aO (some (.ref i.x))) :: wr uX w i t (X ++ (V ++ K'))) ?_ ?_
    ·with_reducible refine cO (bK (aI .here .i1 ?_)); refine gh (by rw [aj]; (apply aP; with_reducible assumption; decide)) ?_
     refine dT (fun hu => ?_) fun hu => ?_
     ·have hu : ¬ q.p.length = 0 := by simpa using hu
      with_reducible refine bl (aR fun _ _ => aI .here .i1 ?_); refine cc (by rw [z1, aj]; (apply aP; apply aU; exact ah _; with_reducible assumption; decide)) ?_; intro k
      exact jp ⟨⟨k, by rw [g6, if_neg (show ¬ q.v.2.length = 0 from hu)]; rfl⟩, rfl⟩
     ·have hu : q.p.length = 0 := by simpa using hu
      with_reducible refine aR ?_; intro _ _
      rename_i k _;exact jp ⟨⟨k, by rw [g6, if_pos (show q.v.2.length = 0 from hu)]⟩, rfl⟩
    rintro v C ⟨⟨k, rfl⟩, rfl⟩;with_reducible refine aG (aI .here .here (aJ (ed ?_))); intro _
    rename_i Tn;refine Go.wPull (X := [_]) (Y := [_, _, _]) ?_;refine ce0 (m := [(ud "uri", .str q.u q.ut), (ud "prefix", .str q.p q.pt)]) (C' := _ :: _ :: wr uX w i t (((Tn, bn [.str (g6 q.v).1 k, .str q.u q.ut]) :: X) ++ V)) ⟨as ++ [(Tn, ((g6 q.v).1, k), (q.u, q.ut))], _, ?_, ?_, ?_, rfl⟩ ?_
    ·simp only [ao, az, tJ]
    ·have e : lD.v[n]? = some q.v := by unfold Lv.v; rw [sD, x3]; rfl
     rw [ao, has, sE, e, Option.toList_some, ao]; rfl
    ·intro r hr;rcases s8.mp hr with hr | hr
     ·exact .there (hX r hr)
     ·rw [su] at hr; subst hr; exact .here
    ·simp only [sN, te, av, ← bN]
   ·rintro L2 D zs C ⟨as, X, rfl, has, hX, rfl⟩;have has : as.map At4.v = lD.v.map g6 := by rw [has, rZ]; unfold Lv.v Lv.refs; rw [ak, ak]; exact ah _
    have h9 : (as.map At4.v).Perm ys := has ▸ hz.symm;have x7 : as.length ≤ 5 := by have := congrArg tQ has; unfold Lv.v at this; rw [ak, ak, ak] at this; (exact oq7 h5 this)
    have hx : ∀ p ∈ as.map (fun p : At4 => ((p.1, p.2.1, uN.str p.2.2.1 p.2.2.2) : uR × (Str × Tok) × uN)), Has (wr uX w i t (X ++ V)) p.1 (bn [.str p.2.1.1 p.2.1.2, p.2.2]) := by
     intro p hp;obtain ⟨r, hr, rfl⟩ := tG.mp hp;exact d5 (hX r hr).app
    have hk : (as.map (fun p : At4 => ((p.1, p.2.1, uN.str p.2.2.1 p.2.2.2) : uR × (Str × Tok) × uN))).map (fun p => p.2.1.1) = (as.map At4.v).map (·.1) := by rw [tI, tI]; rfl
    show Go h0 o0 ([_, _, _] ++ (wr uX w i t (X ++ V) ++ [(L2, cNs [])])) _;refine Go.tl (Y := [_, _, _]) ?_;show Go h0 o0 (_ :: _ :: _ :: _ :: wr uX w i t (X ++ V)) _;with_reducible refine aQ .h1 .j6 ?_
    refine nk (cs' := (D, aE (as.map fun p => .ref p.1)) :: (L, cNs [(ud "tag", .str tag u), (ud "attrs", .ref a'), (ud "new_namespaces", .ref lD.a), (ud "qname_text", .none), (ud "qattrs", .none), (ud "parsed_qnames", .ref D2), (ud "attr_list", .ref D)]) :: (L + 1, aO (some (.ref i.x))) :: wr uX w i t (X ++ V)) (.pick .h3 (.pick .here (.pick .here (.pick .here (.tail .refl))))) ?_;with_reducible refine aM (aH (bq (bF (aI .h1 .i6 (cS PySem.F.slot_list_sort PySem.F.type_list_sort .here ?_))))); refine gq ?_
    have h7 : ∀ l : List At4, (l.map (fun p : At4 => ((p.1, p.2.1, uN.str p.2.2.1 p.2.2.2) : uR × (Str × Tok) × uN))).map (fun p => tW p.1) = l.map fun p => tW p.1 := fun l => by rw [tI]; rfl
    rw [← h7 as];refine qV (fun p hp => .t2 (hx p hp)) (by rw [ak]; exact x7) (by rw [hk]; exact (h9.map _).nodup_iff.mpr nd) ?_;intro x8 x1 x4;obtain ⟨W, rfl⟩ : ∃ W : List At4, x8 = W.map fun p : At4 => ((p.1, p.2.1, uN.str p.2.2.1 p.2.2.2) : uR × (Str × Tok) × uN) := by
     have key : ∀ l : List (uR × (Str × Tok) × uN), (∀ p ∈ l, ∃ x k, p.2.2 = uN.str x k) → ∃ W : List At4, l = W.map fun p : At4 => ((p.1, p.2.1, uN.str p.2.2.1 p.2.2.2) : uR × (Str × Tok) × uN) := by
      intro l;induction l with
      | nil => intro _; exact ⟨[], rfl⟩
      | cons p r ih =>
       intro h;obtain ⟨W, e⟩ := ih fun p hp => h p (au _ hp)
       obtain ⟨x, k, e2⟩ := h p aB;exact ⟨(p.1, p.2.1, (x, k)) :: W, by rw [e, az]; congr 1; rw [← e2]⟩
     refine key x8 fun p hp => ?_
     obtain ⟨r, _, rfl⟩ := tG.mp (x1.mem_iff.mp hp);exact ⟨_, _, rfl⟩
    have y3 : (W.map At4.v).Perm (as.map At4.v) := by
     have := x1.map fun p : uR × (Str × Tok) × uN => (p.2.1.1, match p.2.2 with | .str x _ => x | _ => tZ)
     rw [tI, tI] at this;exact this
    have y1 : W.map At4.v = ys := cK (c := eM) (f := uo) gD hH (y3.trans h9) (by rw [tI] at x4 ⊢; exact x4) y2;have x9 : ∀ p ∈ W, Has X p.1 (bn [.str p.2.1.1 p.2.1.2, .str p.2.2.1 p.2.2.2]) := by
     intro p hp;obtain ⟨r, hr, e⟩ := tG.mp (x1.mem_iff.mp (tG.mpr ⟨p, hp, rfl⟩));simp only [Prod.mk.injEq, uN.str.injEq] at e;obtain ⟨e1, e2, e3, e4⟩ := e;have := hX r hr;rw [e1, e2, e3, e4] at this;exact this
    with_reducible refine aM (aV ?_)
    rw [h7 W];refine Go.sel (cs' := (L, cNs [(ud "tag", .str tag u), (ud "attrs", .ref a'), (ud "new_namespaces", .ref lD.a), (ud "qname_text", .none), (ud "qattrs", .none), (ud "parsed_qnames", .ref D2), (ud "attr_list", .ref D)]) :: (L + 1, aO (some (.ref i.x))) :: (D, aE (W.map fun p => .ref p.1)) :: wr uX w i t (X ++ V)) (.pick .h1 (.pick .h1 (.pick .here (.tail .refl)))) ?_;exact jp ⟨rfl, D, W, X, y1, x9, rfl⟩
  ·have x0 : lD.ps = [] := by
    have : lD.refs = [] := by cases hq : lD.refs with | nil => rfl | cons a b => rw [hq] at x0; simp at x0
    exact sq.mp this
   have y0 : ys = [] := by unfold Lv.v at hz; rw [x0] at hz; exact List.perm_nil.mp hz
   subst y0;with_reducible refine aH (bR (bd (aJ (ba fun _ => aQ .h1 .j6 ?_)))); refine aM (aV ?_)
   rename_i AL;refine Go.sel (cs' := (L, cNs [(ud "tag", .str tag u), (ud "attrs", .ref a'), (ud "new_namespaces", .ref lD.a), (ud "qname_text", .none), (ud "qattrs", .none), (ud "parsed_qnames", .ref D2), (ud "attr_list", .ref AL)]) :: (L + 1, aO (some (.ref i.x))) :: (AL, aE []) :: wr uX w i t V) (.pick .h1 (.pick .h1 (.pick .here (.tail .refl)))) ?_;exact jp ⟨rfl, AL, [], [], rfl, (by intro p hp; cases hp), rfl⟩
 rintro f C ⟨rfl, AL, as, X, e1, e2, rfl⟩;exact aM (h AL as X e1 e2)
end
section
variable {b : Bool} {M : Model} {cs cs' r : aF} {K : aF} {P : GP} {Q : VP}
theorem qW {ks : List Str} {κ : Str → List Str} (hh : A.handled = none) (hu : A.units + 2 < cLine) (ha : Has cs a (a8 true w ks)) (hk : ks ≠ []) (h4 : ks.length ≤ 6) (nd : ks.Nodup) (inj : ∀ x ∈ ks, ∀ y ∈ ks, κ x = κ y → x = y)
  (W : ∀ cs1 x u (Q : VP), x ∈ ks → (∀ p ∈ cs, p ∈ cs1) → (∀ k, Go h0 o0 ((k, dX (κ x)) :: cs1) (Q (.ref k))) → Go h0 o0 cs1 (uL (uM uX w) A.in1.in1 (uW (.ref q) [.str x u]) Q NoE))
  (h : ∀ D (xs : List (Str × Tok)), (xs.map (·.1)).Perm ks → bP (fun x y => d3 (κ x) (κ y)) (xs.map (·.1)) → Go h0 o0 ((D, aE (tv xs)) :: cs) (Q (.ref D))) :
  Go h0 o0 cs (uL (uM uX w) A (uW (.builtin "sorted") [.ref a] [(ud "key", .ref q)]) Q E) := fun s H =>
 jt H hh hu ha hk h4 nd inj (fun cs1 x u s Q hx hm Hs hq => W cs1 x u Q hx hm (fun k s' H' => hq k s' H') s Hs) fun D xs s' hp hr H' => h D xs hp hr s' H'
end
def UOk (U : List Str) : Prop := U.length ≤ 90 ∧ ∀ u ∈ U, u.length ≤ 100
theorem f6 (dl : List (List Sp)) : (aK dl).length = (dl.map tQ).sum := by
 unfold aK;rw [List.length_flatten, List.map_reverse, List.sum_reverse]
theorem mem_flatV {dl : List (List Sp)} {x : Sp} : x ∈ aK dl ↔ ∃ l ∈ dl, x ∈ l := by
 unfold aK;rw [List.mem_flatten];constructor
 ·rintro ⟨l, h1, h2⟩; exact ⟨l, sZ.mp h1, h2⟩
 ·rintro ⟨l, h1, h2⟩; exact ⟨l, sZ.mpr h1, h2⟩
theorem fD : ∀ (dl : List (List Sp)) (p : Sp), (bB dl p).length = dl.length ∧ ((bB dl p).map tQ).sum ≤ (dl.map tQ).sum + 1 ∧ ∀ l ∈ bB dl p, ∀ x ∈ l, x = p ∨ ∃ l ∈ dl, x ∈ l
 | [], p => ⟨rfl, tO _, fun l h => by cases h⟩
 | [l], p => ⟨rfl, by simp [bB], fun m h x W => by
   have hm : m = l ++ [p] := by simpa [bB] using h
   subst hm;rcases s8.mp W with q | q
   ·exact .inr ⟨l, aB, q⟩
   ·exact .inl (by simpa using q)⟩
 | l :: m :: r, p => by
  obtain ⟨h1, h2, h3⟩ := fD (m :: r) p;refine ⟨by show (l :: bB (m :: r) p).length = _; rw [sO, h1]; rfl, ?_, ?_⟩
  ·show ((l :: bB (m :: r) p).map tQ).sum ≤ ((l :: m :: r).map tQ).sum + 1;rw [az, List.sum_cons, az, List.sum_cons]; (exact (bZ 0x796b799e636a3de0d2 0) h2)
  ·intro k hk x W;rcases tB.mp (show k ∈ l :: bB (m :: r) p from hk) with rfl | hk
   ·exact .inr ⟨_, aB, W⟩
   ·rcases h3 k hk x W with q | ⟨j, hj, q⟩
    ·exact .inl q
    ·exact .inr ⟨j, au _ hj, q⟩
theorem jh : ∀ (l : List Sp) (sn : List Str) {p : Str} {s2 : List Str}, bM uri l sn = (some p, s2) → (uri, p) ∈ l
 | [], sn, p, s2, h => by cases h
 | (u, q) :: r, sn, p, s2, h => by
  unfold bM at h;split at h
  ·rename_i hc;cases h;exact hc.1 ▸ aB
  ·exact au _ (jh r _ h)
structure QB (U : List Str) (n : Nat) (s : QS) : Prop where
 dz : s.dl.length ≤ 1000
 nz : s.nl.length ≤ 1000
 dc : (aK s.dl).length ≤ n
 dp : ∀ p ∈ aK s.dl, p.1.length ≤ 100 ∧ p.2.length ≤ 100
 nc : ∀ l ∈ s.nl, l.length ≤ 1000
 np : ∀ p ∈ aK s.nl, p.1.length ≤ 100 ∧ p.2.length ≤ 100
 pk : (s.pm.map (·.1)).Nodup
 pu : ∀ p ∈ s.pm, p.1 ∈ U ∧ p.2.length ≤ 100
theorem fW {α : Type} [DecidableEq α] : ∀ {l U : List α}, l.Nodup → (∀ x ∈ l, x ∈ U) → l.length ≤ U.length
 | [], U, _, _ => tO _
 | a :: r, U, nd, h => by
  have h1 := s9.mp nd;have ha := h a aB;have : r.length ≤ (U.erase a).length := fW h1.2 fun x hx => by
   have W : x ≠ a := fun e => h1.1 (e ▸ hx)
   exact (List.mem_erase_of_ne W).mpr (h x (au _ hx))
  rw [List.length_erase_of_mem ha] at this;have : 0 < U.length := List.length_pos_of_mem ha;rw [sO]; (omega)
theorem QB.pz {U : List Str} {s : QS} (h : QB U n s) : s.pm.length ≤ U.length := by
 have := fW h.pk (U := U) fun x W => by
  obtain ⟨p, hp, rfl⟩ := tG.mp W;exact (h.pu p hp).1
 rwa [ak] at this
theorem QB.mono {U : List Str} {n m : Nat} {s : QS} (h : QB U n s) (hm : n ≤ m) : QB U m s := ⟨h.dz, h.nz, tH h.dc hm, h.dp, h.nc, h.np, h.pk, h.pu⟩
theorem nB (h1 : p.length ≤ 100) (h2 : tag.length ≤ 100) : (iB p tag).length ≤ 201 := by
 have z0 : tZ.length = 0 := by decide +kernel
 have W : (ud ":").length = 1 := by decide +kernel
 unfold iB;split
 ·(apply aP; with_reducible assumption; decide)
 ·simp only [am]; (apply aP; apply aU; apply aU; apply aU; exact ap (by assumption); with_reducible assumption; exact ap (by assumption); with_reducible assumption; decide)
theorem QB.push {s : QS} (h : QB U n s) {p : Sp} (hp : p.1.length ≤ 100 ∧ p.2.length ≤ 100) : (bB s.dl p).length ≤ 1000 ∧ (aK (bB s.dl p)).length ≤ n + 1 ∧ ∀ q ∈ aK (bB s.dl p), q.1.length ≤ 100 ∧ q.2.length ≤ 100 := by
 obtain ⟨h1, h2, h3⟩ := fD s.dl p;refine ⟨by rw [h1]; exact h.dz, by rw [f6]; have := h.dc; rw [f6] at this; (exact (bZ 0x37f3f41fb322f2e3e 0) h2 this), fun q W => ?_⟩;obtain ⟨l, hl, W⟩ := mem_flatV.mp W;rcases h3 l hl q W with rfl | W
 ·exact hp
 ·exact h.dp q (mem_flatV.mpr W)
theorem hO {pm : List Sp} (h : pm.lookup uri = some p) : (uri, p) ∈ pm := by
 induction pm with
 | nil => cases h
 | cons a r ih =>
  rw [sR] at h;cases e : uri == a.1 with
  | true => rw [e] at h; cases h; rw [beq_iff_eq.mp e]; exact aB
  | false => rw [e] at h; exact au _ (ih h)
theorem gk {pm : List Sp} (h : pm.lookup uri = none) : uri ∉ pm.map (·.1) := by
 induction pm with
 | nil => simp
 | cons a r ih =>
  rw [sR] at h;cases e : uri == a.1 with
  | true => rw [e] at h; cases h
  | false =>
   rw [e] at h;intro hm;rcases tB.mp hm with q | q
   ·exact (beq_eq_false_iff_ne.mp e) q
   ·exact ih h q
theorem QB.step {s s' : QS} {uri tag q : Str} (h : QB U n s) (hu : uri ∈ U) (h7 : tag.length ≤ 100) (hU : UOk U) (W : kz rw s uri tag = some (q, s')) : QB U (n + 1) s' ∧ q.length ≤ 201 ∧ s'.nl = s.nl ∧ s'.dl.length = s.dl.length := by
 have h9 := hU.2 uri hu;have hU := hU.1;have z0 : tZ.length = 0 := by decide +kernel
 have z1 : (ud ":").length = 1 := by decide +kernel
 unfold kz at W;split at W
 ·rename_i p sn hf;cases W;exact ⟨h.mono (tP _), nB (h.dp _ (jh _ _ hf)).2 h7, rfl, rfl⟩
 ·split at W
  ·cases W;have x1 := h.pz;have key : (pmF s.pm uri).1.length ≤ 100 ∧ ((pmF s.pm uri).2.map (·.1)).Nodup ∧ ∀ p ∈ (pmF s.pm uri).2, p.1 ∈ U ∧ p.2.length ≤ 100 := by
    unfold pmF;split
    ·rename_i p hl;exact ⟨(h.pu _ (hO hl)).2, h.pk, h.pu⟩
    ·rename_i hl;have hn := (nN_len (n := s.pm.length) (by exact (a9 0x474db258024abf33100a5c 0) hU x1)).1;refine ⟨by dsimp only; (apply aP; with_reducible assumption; decide), ?_, ?_⟩
     ·dsimp only;rw [ao, sH];refine ⟨h.pk, by simp, fun a ha b hb e => ?_⟩;rw [az, tJ, su] at hb;exact gk hl (by rw [← show b = uri from hb, ← e]; exact ha)
     ·intro p hp;rcases s8.mp hp with hp | hp
      ·exact h.pu p hp
      ·rw [su] at hp; subst hp; exact ⟨hu, by dsimp only; (apply aP; with_reducible assumption; decide)⟩
   obtain ⟨k1, k2, k3⟩ := key;obtain ⟨p1, p2, p3⟩ := h.push (p := (uri, (pmF s.pm uri).1)) ⟨h9, k1⟩;exact ⟨⟨p1, h.nz, p2, p3, h.nc, h.np, k2, k3⟩, by simp only [am]; (apply aP; apply aU; apply aU; apply aU; exact ap (by assumption); with_reducible assumption; exact ap (by assumption); with_reducible assumption; decide), rfl, (fD _ _).1⟩
  ·split at W
   ·cases W;exact ⟨h.mono (tP _), by (apply aP; with_reducible assumption; decide), rfl, rfl⟩
   ·split at W
    ·rename_i p hf;cases W;have hm := List.mem_of_find?_eq_some hf;have x0 := h.np _ hm;obtain ⟨p1, p2, p3⟩ := h.push (p := (uri, p.2)) ⟨h9, x0.2⟩;exact ⟨⟨p1, h.nz, p2, p3, h.nc, h.np, h.pk, h.pu⟩, nB x0.2 h7, rfl, (fD _ _).1⟩
    ·split at W
     ·cases W;exact ⟨h.mono (tP _), by (apply aP; with_reducible assumption; decide), rfl, rfl⟩
     ·cases W
theorem WB.of {U : List Str} {n : Nat} {t : d0} {dl : List Lv} {pm : List (Str × Str × Tok)} (h : WB t) (hq : QB U n (QS.of { t with dl := dl, pm := pm })) (hn : n ≤ 490) (hU : UOk U) : WB { t with dl := dl, pm := pm } ∧ (prs dl).length ≤ 490 := by
 have hc : (aK (dl.map Lv.v)).length ≤ n := hq.dc;have hl : ∀ l ∈ dl, l.ps.length ≤ n := fun l hl => by
  rw [f6] at hc;have : l.ps.length ∈ (dl.map Lv.v).map tQ := tG.mpr ⟨l.v, tG.mpr ⟨l, hl, rfl⟩, by unfold Lv.v; rw [ak]⟩;have h2 : ∀ (L : List Nat) x, x ∈ L → x ≤ L.sum := by
   intro L;induction L with
   | nil => intro x hx; cases hx
   | cons a r ih =>
    intro x hx;rw [List.sum_cons];rcases tB.mp hx with rfl | hx
    ·(exact a9 36868308 0)
    ·have := ih x hx; (exact (bZ 1421256932218 0) this)
  have := h2 _ _ this
  (exact (bZ 48322710335118 0) hc this)
 have hz := hq.pz;obtain ⟨hU, h9⟩ := hU;have h7 : (pm.map fun q => (q.1, q.2.1)).length ≤ U.length := hz;rw [ak] at h7;refine ⟨⟨h.tot, h.dz, h.psn, h.psz, by have := hq.dz; rw [show (QS.of { t with dl := dl, pm := pm }).dl = dl.map Lv.v from rfl, ak] at this; exact this, h.nlz, fun l hm => ⟨tH (hl l hm) (by apply aP; with_reducible assumption; decide), fun q W => ?_⟩, h.nll, ⟨by show pm.length ≤ 100; (exact (a9 0x474db258024abf33100a5c 0) hU h7), fun q W => ?_⟩, h.igz⟩, ?_⟩
 ·exact hq.dp q.v (mem_flatV.mpr ⟨l.v, tG.mpr ⟨l, hm, rfl⟩, tG.mpr ⟨q, W, rfl⟩⟩)
 ·have := hq.pu (q.1, q.2.1) (tG.mpr ⟨q, W, rfl⟩);exact ⟨h9 _ this.1, this.2⟩
 ·have : (prs dl).length = (aK (dl.map Lv.v)).length := by rw [← iZ, ak]
  (exact (bZ 0x2c643a2a4d8ca3f6bceafb0f6c 1500706519) hn hc this)
noncomputable def dm (rw : Bool) : QS → List Str → Option (List (Str × Str) × QS)
 | s, [] => some ([], s)
 | s, n :: r => match kz rw s (bX n).1 (bX n).2 with
  | none => none
  | some (q, s1) => match dm rw s1 r with
   | none => none
   | some (l, s2) => some ((n, q) :: l, s2)
def KWK (uX : uy) (w : uQ) (A : uJ) (pos : Pos) (id : String) (env : Env) (kws : List Keyword) (Q : VP) (E : VP) : List uN → uF → Prop := fun vs s₁ => uL (uM uX w) A (evalAll ((backToKw pos (keywordEach kws env)).map (·.2)))
   (fun kvs s₂ => uL (uM uX w) A (uW (.builtin id) vs (((backToKw pos (keywordEach kws env)).filterMap (·.1)).zip kvs)) Q E s₂) E s₁
section
variable {cs cs' V X Y : aF} {Q : VP}
theorem e_ckw (h : Go h0 o0 cs (uL (uM uX w) A (uU func env) (fun f => uL (uM uX w) A (ur pos f [] (uI pos (ue args env)) (backToKw pos (keywordEach kws env))) Q E) E))
  (W : uU (.Call func args kws pos) env = (do ur pos (← uU func env) [] (uI pos (ue args env)) (backToKw pos (keywordEach kws env)))) : Go h0 o0 cs (uL (uM uX w) A (uU (.Call func args kws pos) env) Q E) := fun s H => Call_kw (h s H) W
theorem c_kw {pos : Pos} {id : String} {e : Expr} {rest : List Expr} {kws : List Keyword} (h : Go h0 o0 cs (uL (uM uX w) A (spliced (uI pos (ue (e :: rest) env))) (KWK uX w A pos id env kws Q E) E))
  (he : uI pos (ue (e :: rest) env) = (false, uU e env) :: uI pos (ue rest env)) (W : (uI pos (ue (e :: rest) env)).any (·.1) = false) (h7 : (backToKw pos (keywordEach kws env)).all (·.1.isSome) = true) (h9 : (backToKw pos (keywordEach kws env)).any (·.1.isNone) = false) :
  Go h0 o0 cs (uL (uM uX w) A (ur pos (.builtin id) [] (uI pos (ue (e :: rest) env)) (backToKw pos (keywordEach kws env))) Q E) := fun s H => callWith_kw (h s H) he W h7 h9
theorem kwk {pos p2 : Pos} {id : String} {kws : List Keyword} {vs : List uN} {x : Str} {e : Expr} (h1 : backToKw pos (keywordEach kws env) = [(some x, do let v ← uU e env; standAt p2; uT v)]) (h : Go h0 o0 cs (uL (uM uX w) A (uU e env) (fun v => uL (uM uX w) A (uW (.builtin id) vs [(x, v)]) Q E) E)) :
  Go h0 o0 cs (KWK uX w A pos id env kws Q E vs) := by
 intro s H;unfold KWK;rw [h1];exact wpAny_evalAll_cons (ad (af (h s H) (fun v W q => ad (tD (ae (wpAny_evalAll_nil q)))) fun _ _ q => q))
end
section
variable {cs cs' V X Y : aF} {i : Wid} {t : d0} {Q : VP}
noncomputable abbrev lamPos : Pos := ⟨139, 71, 139, 96⟩
noncomputable abbrev lamQ : Str := ud "C14NWriterTarget._start.<locals>.<lambda>"
noncomputable def κQ (x : Str) : List Str := Txt.splitMax x (ud "}") 1
theorem gZ {rw : Bool} {s s' : QS} {x : Str} {r : List Str} {l : List (Str × Str)} (h : dm rw s (x :: r) = some (l, s')) : ∃ q W l2, kz rw s (bX x).1 (bX x).2 = some (q, W) ∧ dm rw W r = some (l2, s') ∧ l = (x, q) :: l2 := by
 unfold dm at h;split at h
 ·cases h
 ·rename_i q W h1;split at h
  ·cases h
  ·rename_i l2 s2 h2;cases h;exact ⟨q, W, l2, h1, h2, rfl⟩
theorem db (h : iM x = true) : x.length ≤ 100 ∧ (bX x).1.length ≤ 100 ∧ (bX x).2.length ≤ 100 := by
 unfold iM at h;simp only [sP, decide_eq_true_eq] at h;exact ⟨h.1.1.1, h.1.2, h.2⟩
theorem gM {α : Type} {f : α → Str} {g : α → uN} : ∀ {l : List α}, (l.map f).Nodup → ∀ q ∈ l, uE (l.map fun q => (f q, g q)) (f q) = some (g q)
 | [], _, q, h => by cases h
 | a :: r, nd, q, h => by
  rw [az, s9] at nd;rcases tB.mp h with rfl | h
  ·simp [uE]
  ·have W : ¬ f a = f q := fun e => nd.1 (e ▸ aA h)
   have := gM (g := g) nd.2 q h;rw [← this];simp [uE, W]
theorem c_stC (B : Base (KF w.params) h0) (LB : LamBase h0 fO bG) (hh : A.handled = none) (a1 : A.depth + 3 < ty) (hu : A.units + 1000 < cLine)
  (hT : Tb bG lamPos lamQ T) (hb : WB t) (hd : t.dl ≠ []) (hU : UOk U) (z8 : QB U n0 (QS.of t)) (a3 : n0 ≤ 480) (b4 : ks ≠ []) (h5 : ks.length ≤ 6) (nd : ks.Nodup) (y7 : ∀ x ∈ ks, iM x = true ∧ (bX x).1 ∈ U) (inj : ∀ x ∈ ks, ∀ y ∈ ks, κQ x = κQ y → x = y)
  (hx : xs.Perm ks) (b5 : bP (fun x y => d3 (κQ x) (κQ y)) xs) (hq : dm i.rw (QS.of t) xs = some (l, s'))
  (h : ∀ D2 dd dl pm T' X, QS.of { t with dl := dl, pm := pm } = s' → dl.map (·.a) = t.dl.map (·.a) → Tb bG lamPos lamQ T' → Has X D2 (aL uX w dd) → (∀ p ∈ l, ∃ Tq k1 k2 k3, uE dd p.1 = some (.ref Tq) ∧ Has X Tq (bn [.str p.2 k1, .str (bX p.1).2 k2, .str (bX p.1).1 k3])) →
   Go h0 o0 ((L, cNs [(ud "tag", .str tag u), (ud "attrs", .ref a'), (ud "new_namespaces", .ref n1), (ud "qname_text", .none), (ud "qattrs", .none), (ud "parsed_qnames", .ref D2)]) :: (L + 1, aO (some (.ref i.x))) :: wr uX w i { t with dl := dl, pm := pm } (X ++ (T' ++ V)))
   (uL (uM uX w) (A.deeper (um (aZ (KF w.params) aN) L aN)) (uP ((a7 (KF w.params) aN).drop 7) (um (aZ (KF w.params) aN) L aN)) (RK R) NoE)) :
  Go h0 o0 ([(L, cNs [(ud "tag", .str tag u), (ud "attrs", .ref a'), (ud "new_namespaces", .ref n1), (ud "qname_text", .none), (ud "qattrs", .none), (ud "qnames", .ref S)]), (S, a8 true w ks), (q, dY lX i.x), (L + 1 + 1, aO (some (.ref q))), (L + 1, aO (some (.ref i.x)))] ++ (T ++ wr uX w i t V))
   (uL (uM uX w) (A.deeper (um (aZ (KF w.params) aN) L aN)) (uP ((a7 (KF w.params) aN).drop 6) (um (aZ (KF w.params) aN) L aN)) (RK R) NoE) := by
 have x6 : ∀ env, (A.deeper env).handled = none := fun _ => hh
 have z0 : ∀ env, (A.deeper env).depth + 1 < ty := fun _ => by show A.depth + 1 + 1 < _; (exact da 1 (by with_reducible assumption))
 have y9 : ∀ env, (A.deeper env).depth < ty := fun _ => by show A.depth + 1 < _; (exact da 2 (by with_reducible assumption))
 have x2 : ∀ env, (A.deeper env).depth + 2 < ty := fun _ => by show A.depth + 1 + 2 < _; (with_reducible assumption)
 have c3 : cD h0 (ud "sorted") (.builtin "sorted") := B.bltAt (by kernel_rfl!) (by kernel_rfl!) (by decide +kernel) (by decide +kernel);have y0 : xs.Nodup := hx.nodup_iff.mpr nd;refine aH ?_;refine s_cdl (cl := [(ud "parse_qname", L + 1 + 1)]) (x6 _) (by kernel_rfl!) (by kernel_rfl!) (by decide) rfl (by decide) ?_ (fun _ => by with_unfolding_all rfl);with_reducible refine e_ckw ?_ (by with_unfolding_all rfl)
 show Go h0 o0 (_ :: _ :: _ :: _ :: _ :: (T ++ wr uX w i t V)) _;with_reducible refine dg (by assumption) (by kernel_rfl!) (by kernel_rfl!) (by kernel_rfl!) (by kernel_rfl!) (by decide +kernel) ?_
 refine c_kw ?_ (by with_unfolding_all rfl) (by with_unfolding_all rfl) (by with_unfolding_all rfl) (by with_unfolding_all rfl);with_reducible refine aG (aI .here .i5 (aJ ?_))
 refine kwk rfl ?_;refine e_lam (X := [_, _, _, _, _]) LB hT (by with_unfolding_all rfl) (by kernel_rfl!) (by kernel_rfl!) (by kernel_rfl!) (by kernel_rfl!) ?_;intro f c';show Go h0 o0 (_ :: _ :: _ :: _ :: _ :: _ :: _ :: _ :: wr uX w i t V) _;refine qW (κ := κQ) (x6 _) (by show A.units + 3 + 2 < cLine; (exact (a9 0x293536e4d956ff2c6568cb1878 0) hu)) .h4 b4 h5 nd inj ?_ ?_
 ·intro cs1 x ux Q a4 x3 hq;refine k_lam (x := ud "n") B.lim (Has.of_mem (x3 _ aB)) (Has.of_mem (x3 _ (au _ aB))) (by show A.depth + 1 < ty; (exact da 2 (by with_reducible assumption))) (fun pm c4 => by with_unfolding_all rfl) (by with_unfolding_all rfl) rfl rfl rfl (by decide) ?_;intro L3;with_reducible refine bF (aI .here .here (g_split (dJ (aG (aR ?_))))); intro _ _; refine aG (aY fun _ => aJ ?_); refine qU (by decide +kernel) (by decide +kernel) (by have := (db (y7 x a4).1).1; rw [aj]; (apply aP; apply aU; with_reducible assumption; exact ah _; decide)) ?_; intro a2 l2 h9
  refine Go.weak (c' := dX (κQ x)) .here (fun o ho => ⟨l2, h9, ho⟩) (Go.sub (rY _ (aq _ _)) (hq a2))
 intro D zs x8 z7;have x7 : zs.map (·.1) = xs := cK (c := fun x y => d3 (κQ x) (κQ y)) (f := fun x => x) (fun x => ltL_irr _) (fun x y z => eG) (x8.trans hx.symm) (by rw [List.map_id']; exact z7) (by rw [List.map_id']; exact b5);have z2 : zs.length ≤ 6 := by have := x8.length_eq; rw [ak] at this; (exact (a9 0x3a04ed665a1c61dd4 44138427) h5 this)
 refine Go.thin (a := L) (m' := [(ud "tag", .str tag u), (ud "attrs", .ref a'), (ud "new_namespaces", .ref n1), (ud "qname_text", .none), (ud "qattrs", .none)]) .h4 (.ix 4399365) ?_;refine Go.sel (cs' := (c', eZ lamQ) :: (bG, cTab #[uH lamPos.line, uH lamPos.col, .ref c']) :: (D, aE (tv zs)) :: (L, cNs [(ud "tag", .str tag u), (ud "attrs", .ref a'), (ud "new_namespaces", .ref n1), (ud "qname_text", .none), (ud "qattrs", .none)]) :: (q, dY lX i.x) :: (L + 1 + 1, aO (some (.ref q))) :: (L + 1, aO (some (.ref i.x))) :: wr uX w i t V) (.pick .h2 (.pick .h2 (.pick .here (.pick .h1 (.pick .h2 (.pick .h2 (.pick .h2 (.tail (.t2 .refl))))))))) ?_;refine Go.wPull (X := [_, _]) (Y := [_, _, _, _, _]) ?_;have x9 : Tb bG lamPos lamQ [(c', eZ lamQ), (bG, cTab #[uH lamPos.line, uH lamPos.col, .ref c'])] := .one;generalize [(c', (eZ lamQ : cP)), (bG, cTab #[uH lamPos.line, uH lamPos.col, .ref c'])] = T2 at x9 ⊢
 refine lk0 (xs := tv zs) (fun n ys C => ∃ dl pm, ∃ ts : List (uR × Str × Str), ∃ X, dl.map (·.a) = t.dl.map (·.a) ∧ QB U (n0 + n) (QS.of { t with dl := dl, pm := pm }) ∧ dm i.rw (QS.of { t with dl := dl, pm := pm }) (xs.drop n) = some (l.drop n, s') ∧ ts.map (·.2) = l.take n ∧ ts.map (·.2.1) = xs.take n ∧ ys = ts.map (fun q => (q.2.1, tW q.1)) ∧
  (∀ r ∈ ts, ∃ k1 k2 k3, Has X r.1 (bn [.str r.2.2 k1, .str (bX r.2.1).2 k2, .str (bX r.2.1).1 k3])) ∧ C = [(D, aE (tv zs)), (L, cNs [(ud "tag", .str tag u), (ud "attrs", .ref a'), (ud "new_namespaces", .ref n1), (ud "qname_text", .none), (ud "qattrs", .none)]), (q, dY lX i.x), (L + 1 + 1, aO (some (.ref q))), (L + 1, aO (some (.ref i.x)))] ++ wr uX w i { t with dl := dl, pm := pm } (X ++ (T2 ++ V)))
  ⟨t.dl, t.pm, [], [], rfl, z8, hq, rfl, rfl, rfl, (by intro r W; cases W), rfl⟩ (by unfold tv; rw [ak, aj]; (apply aP; with_reducible assumption; decide)) ?_ ?_ ?_
 ·rintro n ys C ⟨dl, pm, ts, X, _, _, _, _, _, _, _, rfl⟩;exact .here
 ·rintro L2 n v ys C K' hv ⟨dl, pm, ts, X, ha, hqn, hrun, hts, htx, rfl, hX, rfl⟩;obtain ⟨z, hz, rfl⟩ : ∃ z, zs[n]? = some z ∧ v = uN.str z.1 z.2 := by
   unfold tv at hv;rw [sD] at hv;cases hzz : zs[n]? with
   | none => rw [hzz] at hv; cases hv
   | some p => rw [hzz] at hv; exact ⟨p, rfl, by cases hv; rfl⟩
  have h7 : xs[n]? = some z.1 := by rw [← x7, sD, hz]; rfl
  have y3 : n < xs.length := (rO.mp h7).1;have x5 : xs.length ≤ 6 := by rw [← x7, ak]; exact z2
  have c2 : xs.drop n = z.1 :: xs.drop (n + 1) := by
   rw [rP y3, (rO.mp h7).2]
  rw [c2] at hrun;obtain ⟨q1, s1, l2, y1, b6, h9⟩ := gZ hrun;have x4 := y7 z.1 (hx.mem_iff.mp (se h7));obtain ⟨z4, _, _, _⟩ := hqn.step x4.2 (db x4.1).2.2 hU y1;have z9 : l[n]? = some (z.1, q1) := by
   have := congrArg (fun z => z[0]?) h9;simpa [List.getElem?_drop] using this
  have z1 : l2 = l.drop (n + 1) := by
   have := congrArg List.tail h9;rw [List.tail_drop] at this;exact this.symm
  obtain ⟨b3, c1⟩ := hb.of hqn (by exact (bZ 0x3775077f56cdd13ab82c7a07c109c22 0) a3 y3 x5) hU;have z5 : dl ≠ [] := fun e => hd (sq.mp (by rw [← ha, e]; rfl))
  show Go h0 o0 (_ :: _ :: _ :: _ :: _ :: _ :: (wr uX w i { t with dl := dl, pm := pm } (X ++ (T2 ++ V)) ++ K')) _;rw [← bN];with_reducible refine pq (aQ .here .new (aI .here .here (bf (bw .h4 ?_))))
  refine c_meth (x := i.x) B (show fnIn _ lX = true from by kernel_rfl!) ?_ (by with_unfolding_all rfl) (by with_unfolding_all rfl);with_reducible refine aG (aI .here .here (aJ ?_))
  refine bk .h3 ?_;refine Go.wIn [_, _, _, _, _, _] ?_;refine nZ B (x6 _) (x2 _) b3 z5 (tH c1 (by decide)) x4.1 y1 ?_;intro Tq k1 k2 k3 x1 x0 y2 z6;refine Go.mono (P := CV h0 o0 _ _ _ _ _ _) ?_ (fun _ q => q);refine Go.wOutTX (X := [_, _, _, _, _, _]) ?_;refine Go.wPull (X := [_]) (Y := [_, _, _, _, _, _]) ?_;refine cv0 (m := [(ud "n", .str z.1 z.2)]) (C' := [(D, aE (tv zs)), (L, cNs [(ud "tag", .str tag u), (ud "attrs", .ref a'), (ud "new_namespaces", .ref n1), (ud "qname_text", .none), (ud "qattrs", .none)]), (q, dY lX i.x), (L + 1 + 1, aO (some (.ref q))), (L + 1, aO (some (.ref i.x)))] ++ wr uX w i { t with dl := x1, pm := x0 } (((Tq, bn [.str q1 k1, .str (bX z.1).2 k2, .str (bX z.1).1 k3]) :: X) ++ (T2 ++ V))) ⟨x1, x0, ts ++ [(Tq, z.1, q1)], _, z6.trans ha, ?_, ?_, ?_, ?_, ?_, ?_, rfl⟩ ?_
  ·rw [show QS.of { t with dl := x1, pm := x0 } = s1 from y2];exact z4
  ·rw [show QS.of { t with dl := x1, pm := x0 } = s1 from y2, b6, z1]
  ·rw [ao, hts, sE, z9]; rfl
  ·rw [ao, htx, sE, h7]; rfl
  ·have y4 : z.1 ∉ (ts.map (fun q => (q.2.1, tW q.1))).map (·.1) := by
    intro hm;rw [tI, show ts.map ((fun x : Str × uN => x.1) ∘ fun q => (q.2.1, tW q.1)) = ts.map (·.2.1) from rfl, htx] at hm;obtain ⟨j, hj, y8⟩ := List.getElem_of_mem hm;rw [List.length_take] at hj;rw [List.getElem_take] at y8;have y6 : j < xs.length := sw hj (Nat.min_le_right ..);have h1 : xs[j]? = some z.1 := by rw [rQ y6, y8]
    have := (List.getElem?_inj y6 y0).mp (h1.trans h7.symm)
    (exact (bZ 50055966160117 0x71ff16ee0acdb) hj this)
   rw [fg y4, ao]; rfl
  ·intro r W;rcases s8.mp W with W | W
   ·obtain ⟨j1, j2, j3, hh⟩ := hX r W;exact ⟨j1, j2, j3, .there hh⟩
   ·rw [su] at W; subst W; exact ⟨k1, k2, k3, .here⟩
  ·simp only [sN, te, av, ← bN]
 ·rintro L2 D2 ys C ⟨dl, pm, ts, X, ha, hqn, hrun, hts, htx, rfl, hX, rfl⟩;have x5 : (tv zs).length = xs.length := by unfold tv; rw [← x7, ak, ak]
  rw [x5] at hrun hts htx;rw [List.drop_length] at hrun;have y5 : l.drop xs.length = [] ∧ QS.of { t with dl := dl, pm := pm } = s' := by
   unfold dm at hrun;cases e : l.drop xs.length with
   | nil => rw [e] at hrun; cases hrun; exact ⟨rfl, rfl⟩
   | cons a b => rw [e] at hrun; cases hrun
  have z3 : ts.map (·.2) = l := by rw [hts, rZ (List.drop_eq_nil_iff.mp y5.1)]
  have b2 : (ts.map (·.2.1)).Nodup := by rw [htx, List.take_length]; exact y0
  show Go h0 o0 ([_, _, _, _, _, _] ++ (wr uX w i { t with dl := dl, pm := pm } (X ++ (T2 ++ V)) ++ [(L2, cNs [])])) _;refine Go.tl (Y := [_, _, _, _, _, _]) ?_;show Go h0 o0 (_ :: _ :: _ :: _ :: _ :: _ :: _ :: wr uX w i { t with dl := dl, pm := pm } (X ++ (T2 ++ V))) _;with_reducible refine aQ .h2 .j5 ?_
  refine nk (cs' := (D2, aL uX w (ts.map fun q => (q.2.1, tW q.1))) :: (L, cNs [(ud "tag", .str tag u), (ud "attrs", .ref a'), (ud "new_namespaces", .ref n1), (ud "qname_text", .none), (ud "qattrs", .none), (ud "parsed_qnames", .ref D2)]) :: (L + 1, aO (some (.ref i.x))) :: wr uX w i { t with dl := dl, pm := pm } (X ++ (T2 ++ V))) (.pick .h6 (.pick .here (.pick .h1 (.pick .h3 (.tail (.t3 .refl)))))) ?_;refine Go.wPull (X := [_]) (Y := [_, _]) ?_;refine aM ?_;have h := h D2 (ts.map fun q => (q.2.1, tW q.1)) dl pm T2 ((D2, aL uX w (ts.map fun q => (q.2.1, tW q.1))) :: X) y5.2 ha x9 .here ?_
  ·exact h
  ·intro p hp;rw [← z3] at hp;obtain ⟨r, W, rfl⟩ := tG.mp hp;obtain ⟨k1, k2, k3, hT⟩ := hX r W;exact ⟨r.1, k1, k2, k3, gM (f := fun q : uR × Str × Str => q.2.1) (g := fun q => tW q.1) b2 r W, .there hT⟩
def XA (w : uQ) (ea : uN) (EC : aF) (xa : List Str) : Prop := (ea = .none ∧ xa = []) ∨ ∃ g, ea = .ref g ∧ Has EC g (a8 false w xa)
noncomputable def keepA (xa : List Str) (k : Str) : Bool := !decide (k ∈ xa)
noncomputable def gl (xa : List Str) (kvs : List (Str × Str × Tok)) : List (Str × Str × Tok) := kvs.filter fun p => keepA xa p.1
theorem eH (kvs : List (Str × Str × Tok)) : gl [] kvs = kvs := by unfold gl keepA; simp
theorem c_stA (B : Base (KF w.params) h0) (hh : A.handled = none)
  (ha : Has V a (aL uX w (bH kvs))) (nd : (kvs.map (·.1)).Nodup) (h7 : kvs.length ≤ 1000) (W : XA w i.ea i.EC xa)
  (h : ∀ a' X, Has (X ++ V) a' (aL uX w (bH (gl xa kvs))) → Go h0 o0 ([(L, cNs [(ud "tag", .str tag u), (ud "attrs", .ref a'), (ud "new_namespaces", .ref n1), (ud "qname_text", .none)]), (L + 1 + 1, aO none), (L + 1, aO (some (.ref i.x)))] ++ (T ++ wr uX w i t (X ++ V)))
   (uL (uM uX w) (A.deeper (um (aZ (KF w.params) aN) L aN)) (uP ((a7 (KF w.params) aN).drop 1) (um (aZ (KF w.params) aN) L aN)) (RK R) NoE)) :
  Go h0 o0 ([(L, cNs [(ud "tag", .str tag u), (ud "attrs", .ref a), (ud "new_namespaces", .ref n1), (ud "qname_text", .none)]), (L + 1 + 1, aO none), (L + 1, aO (some (.ref i.x)))] ++ (T ++ wr uX w i t V))
   (uL (uM uX w) (A.deeper (um (aZ (KF w.params) aN) L aN)) (uP (a7 (KF w.params) aN) (um (aZ (KF w.params) aN) L aN)) (RK R) NoE) := by
 refine aH ?_;show Go h0 o0 (_ :: _ :: _ :: (T ++ wr uX w i t V)) _;rcases W with ⟨_, rfl⟩ | ⟨g, he, _⟩
 ·refine bQ (fun f C => f = .next ∧ C = [(L, cNs [(ud "tag", .str tag u), (ud "attrs", .ref a), (ud "new_namespaces", .ref n1), (ud "qname_text", .none)]), (L + 1 + 1, aO none), (L + 1, aO (some (.ref i.x)))] ++ (T ++ wr uX w i t V)) ?_ ?_
  ·refine b9 ?_;with_reducible refine c6 (b7 (bv ?_)); refine dW ?_ (by with_unfolding_all rfl); refine bw .h2 ?_; refine gf (by assumption) (.t3 (.skip bu)) (.t3 (.skip a6)) tg_ea (by decide +kernel) (by kernel_rfl!) ?_; refine df (gj (a0 (lE (eW (aV ?_)))))
   exact jp ⟨rfl, rfl⟩
  rintro f C ⟨rfl, rfl⟩;exact aM (h a [] (by rw [eH]; exact ha))
 ·cases he
theorem k4 (hU : UOk U) : ∀ {xs : List Str} {n : Nat} {s s' : QS} {l : List (Str × Str)}, QB U n s → (∀ x ∈ xs, iM x = true ∧ (bX x).1 ∈ U) → dm rw s xs = some (l, s') →
  l.map (·.1) = xs ∧ (∀ p ∈ l, p.2.length ≤ 201) ∧ QB U (n + xs.length) s' ∧ s'.nl = s.nl ∧ s'.dl.length = s.dl.length
 | [], n, s, s', l, hb, _, h => by cases h; exact ⟨rfl, (by intro p hp; cases hp), hb, rfl, rfl⟩
 | x :: r, n, s, s', l, hb, hx, h => by
  obtain ⟨q, s1, l2, h1, h2, rfl⟩ := gZ h;have W := hx x aB;obtain ⟨b1, b2, b3, b4⟩ := hb.step W.2 (db W.1).2.2 hU h1;obtain ⟨c1, c2, c3, c4, c5⟩ := k4 hU b1 (fun y hy => hx y (au _ hy)) h2;refine ⟨by rw [az, c1], fun p hp => ?_, by rw [sO, show n + (r.length + 1) = n + 1 + r.length from by (exact a9 0xd1ae2df91d358e 0)]; exact c3, c4.trans b3, c5.trans b4⟩;rcases tB.mp hp with rfl | hp
  ·exact b2
  ·exact c2 p hp
noncomputable def iL (l : List (Str × Str)) (k : Str) : Str × Str × Str := ((l.lookup k).getD tZ, (bX k).2, (bX k).1)
theorem qfL_mem (h : k ∈ l.map (·.1)) : (k, (iL l k).1) ∈ l := by
 unfold iL;cases e : l.lookup k with
 | none => exact absurd h (gk e)
 | some p => exact hO e
theorem fu : ∀ (r ks : List Str), ks.Nodup → (bU ks r).Nodup
 | [], ks, h => h
 | x :: r, ks, h => by
  unfold bU;refine fu r _ ?_;split
  ·exact h
  ·rename_i W;rw [sH];exact ⟨h, by simp, fun a ha b hb => by rw [su] at hb; subst hb; exact fun e => W (e ▸ ha)⟩
theorem pT (h : V1.Sublist V2) : (wr uX w i t V1).Sublist (wr uX w i t V2) := by
 rw [eR (V := V1), eR (V := V2)];exact sr (sI _) h
noncomputable def stT (t : d0) (dl : List Lv) (pm : List (Str × Str × Tok)) (q : Str) (al : List (Str × Str)) (sp : Option Str) (ll : uR) (k1 k2 k3 : Tok) : d0 :=
 { t with dl := dl, pm := pm, out := t.out ++ ((ud "<" ++ q, k1) :: fr al k2 ++ [(ud ">", k3)]), ps := t.ps ++ [qh t.ps sp], rs := true, nl := t.nl ++ [⟨ll, []⟩] }
theorem c_stB (B : Base (KF w.params) h0) (hh : A.handled = none)
  (ha : Has V a (aL uX w (bH kvs))) (x0 : kvs.length ≤ 6)
  (h : ∀ S q, Go h0 o0 ([(L, cNs [(ud "tag", .str tag u), (ud "attrs", .ref a), (ud "new_namespaces", .ref n1), (ud "qname_text", .none), (ud "qattrs", .none), (ud "qnames", .ref S)]), (S, a8 true w (bU [tag] (kvs.map (·.1)))), (q, dY lX i.x), (L + 1 + 1, aO (some (.ref q))), (L + 1, aO (some (.ref i.x)))] ++ (T ++ wr uX w i t V))
   (uL (uM uX w) (A.deeper (um (aZ (KF w.params) aN) L aN)) (uP ((a7 (KF w.params) aN).drop 6) (um (aZ (KF w.params) aN) L aN)) (RK R) NoE)) :
  Go h0 o0 ([(L, cNs [(ud "tag", .str tag u), (ud "attrs", .ref a), (ud "new_namespaces", .ref n1), (ud "qname_text", .none)]), (L + 1 + 1, aO none), (L + 1, aO (some (.ref i.x)))] ++ (T ++ wr uX w i t V))
   (uL (uM uX w) (A.deeper (um (aZ (KF w.params) aN) L aN)) (uP ((a7 (KF w.params) aN).drop 1) (um (aZ (KF w.params) aN) L aN)) (RK R) NoE) := by
 have x2 : ∀ env, (A.deeper env).handled = none := fun _ => hh
 have W : (bH kvs).map (·.1) = kvs.map (·.1) := by unfold bH; rw [tI]; rfl
 have x1 : (bH kvs).length ≤ 6 := by unfold bH; rw [ak]; exact x0
 refine aH ?_;show Go h0 o0 (_ :: _ :: _ :: (T ++ wr uX w i t V)) _;with_reducible refine bR ?_
 refine e_setd B (by kernel_rfl!) (by simp) (x2 _) (by with_unfolding_all rfl) ?_;intro S;with_reducible refine aI .h1 .here ?_
 refine sd1 ?_;with_reducible refine aI .h1 .i1 ?_
 refine sd2 (.t3 (.skip (d5 ha))) x1 ?_;rw [W];with_reducible refine aQ .h1 .j4 (aM (aH (bR (mT fun _ => aQ .h2 .j5 ?_)))); refine aM (aH (b9 (bv (aI .h2 .i3 (df ?_))))); refine gj (a0 (lE (aV (aM (aH ?_))))); refine b9 (c6 (b7 (bv ?_))); refine dW ?_ (by with_unfolding_all rfl); refine bw .h4 ?_; refine gf (by assumption) (.t5 (.skip bu)) (.t5 (.skip a6)) tg_qa (by decide +kernel) (by kernel_rfl!) ?_; refine df (gj (a0 (lE (eW (aH ?_))))); refine bR (df (aQ .h2 .j6 (aM (aV (aM ?_))))); refine aH (bR ?_); refine dW ?_ (by with_unfolding_all rfl); refine bw .h4 ?_
 have h9 : kl (KF w.params) cb (ud "_qname") lX = true := by kernel_rfl!
 have h7 : (cE i t).lookup (ud "_qname") = none := tg_no (by decide +kernel);with_reducible refine k_bind B (.t5 (.skip bu)) (.t5 (.skip a6)) h7 h9 ?_; intro q; refine il .h4 (by kernel_rfl!) (by kernel_rfl!) (by kernel_rfl!) ?_
 refine aM ?_;refine Go.thin (a := L) (m' := [(ud "tag", .str tag u), (ud "attrs", .ref a), (ud "new_namespaces", .ref n1), (ud "qname_text", .none), (ud "qattrs", .none), (ud "qnames", .ref S)]) .h3 (.ix 73605382) ?_;exact Go.sel (cs' := (L, cNs [(ud "tag", .str tag u), (ud "attrs", .ref a), (ud "new_namespaces", .ref n1), (ud "qname_text", .none), (ud "qattrs", .none), (ud "qnames", .ref S)]) :: (S, a8 true w (bU [tag] (kvs.map (·.1)))) :: (q, dY lX i.x) :: (L + 1 + 1, aO (some (.ref q))) :: (L + 1, aO (some (.ref i.x))) :: (T ++ wr uX w i t V)) (.pick .h3 (.pick .h2 (.pick .here (.pick .h1 (.pick .h1 (.tail (.there .refl))))))) (h S q)
theorem ry {a : uR} {tag : Str} {u : Tok} {T : aF} {kvs : List (Str × Str × Tok)} {xa : List Str} {R : RP} {ND : List Lv} {lD : Lv} {U : List Str} {n0 : Nat} {xs : List Str} {l ys zs : List (Str × Str)} {s' : QS}
  (B : Base (KF w.params) h0) (LB : LamBase h0 fO bG) (hh : A.handled = none) (y1 : A.depth + 3 < ty) (hu : A.units + 1000 < cLine) (hT : Tb bG lamPos lamQ T) (hb : WB t) (hoz : t.out.length ≤ 100000) (hN : t.dl = ND ++ [lD])
  (hU : UOk U) (y6 : QB U n0 (QS.of t)) (b2 : n0 ≤ 480) (ha : Has V a (aL uX w (bH kvs))) (nd : (kvs.map (·.1)).Nodup) (b4 : kvs.length ≤ 5) (y8 : ∀ p ∈ kvs, p.2.1.length ≤ 100 ∧ (iC p.2.1).length ≤ 900000) (b6 : XA w i.ea i.EC xa)
  (x5 : ∀ x, (x = tag ∨ x ∈ (gl xa kvs).map (·.1)) → iM x = true ∧ (bX x).1 ∈ U) (inj : ∀ x ∈ bU [tag] ((gl xa kvs).map (·.1)), ∀ y ∈ bU [tag] ((gl xa kvs).map (·.1)), κQ x = κQ y → x = y)
  (hx : xs.Perm (bU [tag] ((gl xa kvs).map (·.1)))) (c1 : bP (fun x y => d3 (κQ x) (κQ y)) xs) (hq : dm i.rw (QS.of t) xs = some (l, s'))
  (hy : ys.Perm ((s'.dl.getLastD []).map g6)) (b5 : bP eM (ys.map (·.1))) (z9 : (ys.map (·.1)).Nodup) (y9 : ys.length ≤ 5) (a2 : ∀ p ∈ ys, p.2.length ≤ 100 ∧ (iC p.2).length ≤ 900000)
  (hz : zs.Perm ((gl xa kvs).map fun p => (p.1, p.2.1))) (a3 : bP eM (zs.map (·.1)))
  (h : ∀ T' dl pm ll k1 k2 k3, Tb bG lamPos lamQ T' → QS.of { t with dl := dl, pm := pm } = s' → dl.map (·.a) = t.dl.map (·.a) →
   Go h0 o0 (T' ++ wr uX w i (stT t dl pm (iL l tag).1 (ys ++ zs.map (iR (iL l))) (jF (gl xa kvs)) ll k1 k2 k3) V) (R (.ok (.ret .none)))) :
  Go h0 o0 (T ++ wr uX w i t V) (uD (uM uX w) A (.call (.ref aN) ⟨[.ref i.x, .str tag u, .ref a, .ref lD.a], []⟩) R) := by
 have hd : t.dl ≠ [] := by rw [hN]; simp
 have h7 : (gl xa kvs).Sublist kvs := List.filter_sublist;have x6 : (gl xa kvs).length ≤ 5 := tH h7.length_le b4;have z6 : ((gl xa kvs).map (·.1)).Nodup := (h7.map _).nodup nd;have x3 : ∀ x, x ∈ bU [tag] ((gl xa kvs).map (·.1)) ↔ (x = tag ∨ x ∈ (gl xa kvs).map (·.1)) := fun x => by rw [cM, su]
 have x7 := iu ((gl xa kvs).map (·.1)) [tag];rw [ak, r4] at x7;obtain ⟨q1, q2, q3, q4, q5⟩ := k4 hU y6 (fun x x1 => x5 x ((x3 x).mp (hx.mem_iff.mp x1))) hq;have x2 : ∀ x, (x = tag ∨ x ∈ (gl xa kvs).map (·.1)) → (x, (iL l x).1) ∈ l := fun x x1 => qfL_mem (by rw [q1]; exact hx.mem_iff.mpr ((x3 x).mpr x1))
 refine lR (binds := [(ud "self", .ref i.x), (ud "tag", .str tag u), (ud "attrs", .ref a), (ud "new_namespaces", .ref lD.a), (ud "qname_text", .none)]) B (by kernel_rfl!) (by exact da 3 (by with_reducible assumption)) (fun s X => by with_reducible refine kp_binds X ?_; intro S; kernel_rfl!) fun L => ?_
 rw [show (cellsFrom (L + 1) (aZ (KF w.params) aN).scope.names []) = [(ud "parse_qname", L + 1 + 1), (ud "self", L + 1)] from by kernel_rfl!];show Go h0 o0 ((L, cNs []) :: (L + 1 + 1, aO none) :: (L + 1, aO none) :: (T ++ wr uX w i t V)) _;refine mt ?_;with_reducible refine il (c := L + 1) .h2 (by kernel_rfl!) (by kernel_rfl!) (by kernel_rfl!) ?_; refine mt (aQ .here .new (mt (aQ .here .j1 (mt (aQ .here .j2 ?_))))); refine mt (aQ .here .j3 (sa_n ?_))
 show Go h0 o0 ([_, _, _] ++ (T ++ wr uX w i t V)) _;refine c_stA B hh ha nd (by apply aP; with_reducible assumption; decide) b6 ?_;intro a' y4 y5;refine c_stB B hh y5 (by exact Nat.le_succ_of_le (by with_reducible assumption)) ?_;intro S q;refine c_stC (ks := bU [tag] ((gl xa kvs).map (·.1))) (xs := xs) (l := l) (s' := s') (U := U) (n0 := n0) B LB hh y1 hu hT hb hd hU y6 b2 (fun e => by have := (x3 tag).mpr (.inl rfl); rw [e] at this; cases this) (by exact (a9 0x101e028df72db00a8554 0) x6 x7) (fu _ _ (by simp)) (fun x x1 => x5 x ((x3 x).mp x1)) inj hx c1 hq ?_;intro D2 dd dl pm T' XC y0 x0 c2 c3 z5;obtain ⟨y3, W, x9, a1⟩ : ∃ y3 W, dl = y3 ++ [W] ∧ W.a = lD.a := by
  have y2 : dl ≠ [] := fun e => by rw [e, hN] at x0; simp at x0
  refine ⟨dl.dropLast, dl.getLast y2, (rL y2).symm, ?_⟩;rw [← rL y2, hN, ao, ao] at x0;simpa using (List.append_inj' x0 rfl).2
 have c5 : s'.dl.getLastD [] = W.v := by
  rw [← y0, show (QS.of { t with dl := dl, pm := pm }).dl = dl.map Lv.v from rfl, x9, ao]; simp
 rw [c5] at hy;have hlz : W.ps.length ≤ 5 := by have := hy.length_eq; unfold Lv.v at this; rw [ak, ak] at this; (exact (a9 0x39f5ccf82299c5cd0 44139549) y9 this)
 rw [← a1];have z3 : ∀ p ∈ W.ps, p.u.length ≤ 100 ∧ p.p.length ≤ 100 := fun p hp => by
  refine q3.dp p.v (mem_flatV.mpr ⟨W.v, ?_, tG.mpr ⟨p, hp, rfl⟩⟩);rw [← y0, show (QS.of { t with dl := dl, pm := pm }).dl = dl.map Lv.v from rfl, x9, ao]; simp
 refine c_stD (ND := y3) (ys := ys) B hh x9 (fun p hp => (z3 p hp).2) hlz hy b5 z9 ?_;intro AL as XD has c4;have z0 : Has (XD ++ (XC ++ (T' ++ (y4 ++ V)))) D2 (aL uX w dd) := .skip c3.app;have y7 : Has (XD ++ (XC ++ (T' ++ (y4 ++ V)))) a' (aL uX w (bH (gl xa kvs))) := .skip (.skip (.skip y5));have z7 : as.length ≤ 5 := by have := congrArg tQ has; rw [ak] at this; (exact oq7 y9 this)
 refine c_stE (kvs := gl xa kvs) (qf := iL l) (zs := zs) (as0 := as) (dd := dd) B hh y7 z0 (fun p hp => ?_) (fun p hp => ?_) (by with_reducible assumption) z6 (by apply aP; with_reducible assumption; decide) hz a3 ?_
 ·obtain ⟨Tq, k1, k2, k3, e1, e2⟩ := z5 _ (x2 p.1 (.inr (aA hp)));exact ⟨Tq, k1, k2, k3, e1, .skip e2.app⟩
 ·have := (db (x5 p.1 (.inr (aA hp))).1).2.1;show (bX p.1).1.length ≤ 1000
  (apply aP; with_reducible assumption; decide)
 intro x4 XE x8 b3;obtain ⟨Tq, k1, k2, k3, e1, e2⟩ := z5 _ (x2 tag (.inl rfl));refine Go.thin (a := L) (m' := [(ud "tag", .str tag u), (ud "attrs", .ref a'), (ud "qname_text", .none), (ud "parsed_qnames", .ref D2), (ud "attr_list", .ref AL)]) .here (.ix 6631685) ?_;refine Go.sel (cs' := (AL, aE ((as ++ x4).map fun p => .ref p.1)) :: (L, cNs [(ud "tag", .str tag u), (ud "attrs", .ref a'), (ud "qname_text", .none), (ud "parsed_qnames", .ref D2), (ud "attr_list", .ref AL)]) :: (L + 1, aO (some (.ref i.x))) :: wr uX w i { t with dl := dl, pm := pm } (XE ++ (XD ++ (XC ++ (T' ++ (y4 ++ V)))))) (.pick .h2 (.pick .here (.pick .here (.tail .refl)))) ?_;refine Go.wPull (X := [_]) (Y := [_, _]) ?_;have z4 : (as ++ x4).map At4.v = ys ++ zs.map (iR (iL l)) := by rw [ao, has, x8]
 have z8 : zs.length ≤ 5 := by have := hz.length_eq; rw [ak] at this; (exact oq7 x6 this)
 have a4 : ∀ p ∈ as ++ x4, p.2.1.1.length ≤ 1000 ∧ p.2.2.1.length ≤ 100 ∧ (iC p.2.2.1).length ≤ 900000 := by
  intro p hp;have hm : At4.v p ∈ ys ++ zs.map (iR (iL l)) := by rw [← z4]; exact aA hp
  show (At4.v p).1.length ≤ 1000 ∧ (At4.v p).2.length ≤ 100 ∧ (iC (At4.v p).2).length ≤ 900000;generalize At4.v p = v at hm;rcases s8.mp hm with hm | hm
  ·refine ⟨?_, a2 v hm⟩;obtain ⟨r, hr, rfl⟩ := tG.mp (hy.mem_iff.mp hm);obtain ⟨p0, h9, rfl⟩ := tG.mp hr;have h1 := (z3 p0 h9).2;have z1 : (ud "xmlns:").length = 6 := by decide +kernel
   have z2 : (ud "xmlns").length = 5 := by decide +kernel
   unfold g6;dsimp only;split
   ·rw [z2]; (apply aP; exact ah _; decide)
   ·rw [am, z1];show 6 + p0.p.length ≤ 1000
    (apply aP; apply aU; exact ah _; with_reducible assumption; decide)
  ·obtain ⟨z, hz2, rfl⟩ := tG.mp hm;obtain ⟨p0, h9, rfl⟩ := tG.mp (hz.mem_iff.mp hz2);refine ⟨?_, y8 p0 (h7.subset h9)⟩;have h1 := q2 _ (x2 p0.1 (.inr (aA h9)));have h2 := (db (x5 p0.1 (.inr (aA h9))).1).2.2;unfold iR;dsimp only at h1 ⊢;split
   ·show (bX p0.1).2.length ≤ 1000; (apply aP; with_reducible assumption; decide)
   ·(apply aP; with_reducible assumption; decide)
 refine c_stF (as := as ++ x4) (kvs := gl xa kvs) (dd := dd) (q := (iL l tag).1) (T := Tq) (kq := k1) B hh (by exact da 2 (by with_reducible assumption)) (.skip (.skip y7)) (.skip (.skip z0)) e1 (.skip (.skip (.skip e2.app))) .here ?_ hb.psn hb.psz (by have := hb.nlz; exact this) hoz (by have := q2 _ (x2 tag (.inl rfl)); dsimp only at this; (apply aP; with_reducible assumption; decide)) (by rw [aw]; have := congrArg tQ x8; rw [ak, ak] at this; (with_unfolding_all exact (bZ 0x2c64951a3743b8ecf5932b19e2 1500706519) z7 z8 this)) a4 (fun p hp => (y8 p (h7.subset hp)).1) ?_
 ·intro p hp;rcases s8.mp hp with hp | hp
  ·exact .skip (.skip (c4 p hp).app)
  ·exact .skip (b3 p hp).app
 ·intro ll j1 j2 j3;rw [z4];refine Go.sub (pT (V1 := T' ++ V) ?_) (Go.wOut (X := T') (h T' dl pm ll j1 j2 j3 c2 y0 x0));refine .trans ?_ (rM _ _);refine .trans ?_ (rM _ _);refine .trans ?_ (rM _ _);refine .trans ?_ (rM _ _);exact sr (sI _) (rM _ _)
noncomputable def f8 (xt : Option (List Str)) (t : d0) (tag : Str) : Bool := match xt with
 | none => false
 | some l => t.ig != 0 || decide (tag ∈ l)
noncomputable def XT (w : uQ) (et : uN) (EC : aF) : Option (List Str) → Prop
 | none => et = .none
 | some l => ∃ g, et = .ref g ∧ Has EC g (a8 false w l)
theorem c_start {a : uR} {tag : Str} {u : Tok} {T : aF} {kvs : List (Str × Str × Tok)} {xa : List Str} {xt : Option (List Str)} {R : RP} {U : List Str} {n0 : Nat} {xs : List Str} {l ys zs : List (Str × Str)} {s' : QS}
  (B : Base (KF w.params) h0) (LB : LamBase h0 fO bG) (hh : A.handled = none) (x7 : A.depth + 4 < ty) (hu : A.units + 2000 < cLine) (hT : Tb bG lamPos lamQ T) (hb : WB t) (x6 : t.out.length ≤ 99990) (y4 : XT w i.et i.EC xt)
  (h1 : f8 xt t tag = true → ∀ k, Go h0 o0 (T ++ wr uX w i { t with ig := t.ig + 1, ti := k } V) (R (.ok (.ret .none))))
  (hU : UOk U) (h9 : f8 xt t tag = false → QB U n0 ⟨(QS.of t).dl ++ [[]], (QS.of t).nl, (QS.of t).pm⟩) (x8 : n0 ≤ 480) (ha : Has V a (aL uX w (bH kvs))) (nd : (kvs.map (·.1)).Nodup) (y0 : kvs.length ≤ 5) (x9 : ∀ p ∈ kvs, p.2.1.length ≤ 100 ∧ (iC p.2.1).length ≤ 900000) (y3 : XA w i.ea i.EC xa)
  (z5 : ∀ x, (x = tag ∨ x ∈ (gl xa kvs).map (·.1)) → iM x = true ∧ (bX x).1 ∈ U) (inj : ∀ x ∈ bU [tag] ((gl xa kvs).map (·.1)), ∀ y ∈ bU [tag] ((gl xa kvs).map (·.1)), κQ x = κQ y → x = y)
  (hx : xs.Perm (bU [tag] ((gl xa kvs).map (·.1)))) (y7 : bP (fun x y => d3 (κQ x) (κQ y)) xs) (hq : f8 xt t tag = false → dm i.rw ⟨(QS.of t).dl ++ [[]], (QS.of t).nl, (QS.of t).pm⟩ xs = some (l, s'))
  (hy : ys.Perm ((s'.dl.getLastD []).map g6)) (y2 : bP eM (ys.map (·.1))) (y9 : (ys.map (·.1)).Nodup) (y1 : ys.length ≤ 5) (z3 : ∀ p ∈ ys, p.2.length ≤ 100 ∧ (iC p.2).length ≤ 900000)
  (hz : zs.Perm ((gl xa kvs).map fun p => (p.1, p.2.1))) (z6 : bP eM (zs.map (·.1)))
  (h2 : f8 xt t tag = false → ∀ T' dl pm n1 ll k k1 k2 k3, Tb bG lamPos lamQ T' → QS.of { t with dl := dl, pm := pm } = s' →
   Go h0 o0 (T' ++ wr uX w i (stT { cm i t k with dl := t.dl ++ [⟨n1, []⟩] } dl pm (iL l tag).1 (ys ++ zs.map (iR (iL l))) (jF (gl xa kvs)) ll k1 k2 k3) V) (R (.ok (.ret .none)))) :
  Go h0 o0 (T ++ wr uX w i t V) (uD (uM uX w) A (.call (.ref ky) ⟨[.ref i.x, .str tag u, .ref a], []⟩) R) := by
 have y8 : ∀ env, (A.deeper env).handled = none := fun _ => hh
 have W : ∀ env, (A.deeper env).depth + 3 < ty := fun _ => by show A.depth + 1 + 3 < _; (with_reducible assumption)
 have h7 : ∀ env, (A.deeper env).depth + 1 < ty := fun _ => by show A.depth + 1 + 1 < _; (exact da 2 (by with_reducible assumption))
 refine cJ (m := [(ud "attrs", .ref a), (ud "tag", .str tag u), (ud "self", .ref i.x)]) B (by kernel_rfl!) (by exact da 4 (by with_reducible assumption)) (fun s X => by with_reducible refine kp_binds X ?_; intro S; kernel_rfl!) (by kernel_rfl!) fun L => ?_
 refine aH ?_;obtain rfl : xt = none := by cases xt with | none => rfl | some l => obtain ⟨g, he, _⟩ := y4; cases he
 have x3 : f8 none t tag = false := rfl;refine bQ (fun f C => f = .next ∧ C = (L, cNs [(ud "attrs", .ref a), (ud "tag", .str tag u), (ud "self", .ref i.x)]) :: (T ++ wr uX w i t V)) ?_ ?_
 ·refine b9 ?_;with_reducible refine c6 (b7 (bv ?_)); refine cW (by assumption) .here .i2 (.there (.skip bu)) (.there (.skip a6)) tg_et ?_; refine df (gj (a0 (lE (eW (aV ?_)))))
  exact jp ⟨rfl, rfl⟩
 rintro f C ⟨rfl, rfl⟩;with_reducible refine aM (aH ?_)
 refine bQ (fun f C => f = .next ∧ ∃ k, C = (L, cNs [(ud "attrs", .ref a), (ud "tag", .str tag u), (ud "self", .ref i.x)]) :: (T ++ wr uX w i (cm i t k) V)) ?_ ?_
 ·with_reducible refine b9 (bK ?_); refine cW (by assumption) .here .i2 (.there (.skip bu)) (.there (.skip a6)) ew ?_; refine kP (.there (.skip pV)) (by have := hb.dz; (simp only [tv, ak, sO, aw, tf, r7, aj]; apply aP; with_reducible assumption; decide)) ?_
  refine dT (fun hd => ?_) fun hd => ?_
  ·with_reducible refine aH (bq (bF (aI .here .i2 ?_))); refine j9 (by assumption) (.there (.skip bu)) (.there (.skip a6)) ?_; refine rz (by assumption) (dS (by decide +kernel)) ?_; refine cz ?_
   show Go h0 o0 (([_] ++ T) ++ wr uX w i t V) _;refine Go.wIn _ (kh B (h7 _) hb.tot hb.dz (tH x6 (by decide)) hb.psn hb.psz ?_);intro k;refine Go.wOut ?_;show Go h0 o0 (_ :: (T ++ wr uX w i (flT i t k) V)) _;with_reducible refine aM (aV ?_)
   exact jp ⟨rfl, k, by unfold cm; rw [if_neg (by simpa [tv] using hd)]⟩
  ·with_reducible refine aV ?_
   exact jp ⟨rfl, 0, by unfold cm; rw [if_pos (by simpa [tv] using hd)]⟩
 rintro f C ⟨rfl, k, rfl⟩;with_reducible refine aM (aH (bR (bd (aJ (ba ?_))))); intro _; refine aQ .h1 .j3 (aM (aH (bq (bF ?_)))); refine cW (by assumption) .h1 .i2 (.t2 (.skip bu)) (.t2 (.skip a6)) no ?_; refine cS PySem.F.slot_list_append PySem.F.type_list_append (.t2 (.skip ni)) (dJ (aG (aI .h1 .i3 (aJ ?_))))
 rename_i n1;refine Go.perm (r8 [_, _] (wr_in (X := T))) ?_;have x1 : (cm i t k).dl = t.dl := fo;have z7 := hb.dlz;refine k_newD (by rw [x1]; (apply aP; with_reducible assumption; decide)) ?_;rw [x1];have h9 := h9 x3;have hq := hq x3;have z1 := hb.fl (i := i) k;have x0 : (cm i t k).nl = t.nl := dC;have x5 : (cm i t k).pm = t.pm := mP;have y5 : (cm i t k).out.length ≤ 99991 := by have := nT (i := i) (t := t) (k := k); (exact (a9 0x216110a39cc607269cb53f171fe70c8c85c 0) x6 this)
 have h2 := h2 x3;have hQ : ∀ dl pm, QS.of { cm i t k with dl := dl, pm := pm } = QS.of { t with dl := dl, pm := pm } := fun dl pm => by unfold QS.of; dsimp only; rw [x0]
 have eQ : QS.of { cm i t k with dl := t.dl ++ [⟨n1, []⟩] } = ⟨(QS.of t).dl ++ [[]], (QS.of t).nl, (QS.of t).pm⟩ := by
  unfold QS.of; dsimp only; rw [x0, x5, ao]; rfl
 have x4 : WB { cm i t k with dl := t.dl ++ [⟨n1, []⟩] } := by
  have := z1.of (U := U) (n := n0) (dl := t.dl ++ [⟨n1, []⟩]) (pm := (cm i t k).pm) (by rw [show QS.of { cm i t k with dl := t.dl ++ [⟨n1, []⟩], pm := (cm i t k).pm } = QS.of { cm i t k with dl := t.dl ++ [⟨n1, []⟩] } from rfl, eQ]; exact h9) (by apply aP; with_reducible assumption; decide) hU;exact this.1
 have h2 := fun T' dl pm ll => h2 T' dl pm n1 ll k
 generalize x2 : ({ cm i t k with dl := t.dl ++ [⟨n1, []⟩] } : d0) = t2 at eQ x4 h2 ⊢;have z8 : t2.out.length ≤ 99991 := by rw [← x2]; exact y5
 have z2 : t2.dl = t.dl ++ [⟨n1, []⟩] := by rw [← x2]
 have y6 : ∀ dl pm, QS.of { t2 with dl := dl, pm := pm } = QS.of { t with dl := dl, pm := pm } := fun dl pm => by rw [← x2]; exact hQ dl pm
 with_reducible refine aM (aH (b9 (c6 (b7 (bv ?_))))); refine cW (by assumption) .here .i2 (.there bu) (.there a6) tg_qt ?_; refine df (gj (a0 (lE (eW (aV ?_))))); refine aM (aH (bq (bF (aI .here .i2 ?_)))); refine re (by assumption) (.there bu) (.there a6) ?_; refine kg (by assumption) (dS (by decide +kernel)) ?_ (by with_unfolding_all rfl) (by with_unfolding_all rfl); refine aG (aI .here .i1 (aG (aI .here .here (aG (aI .here .i3 ?_))))); refine aJ (ck (cz ?_))
 refine Go.wOutTX ?_;refine Go.wPull (X := [_]) (Y := T) ?_;refine ry (lD := ⟨n1, []⟩) (T := T) (kvs := kvs) (xa := xa) (U := U) (n0 := n0) (xs := xs) (l := l) (ys := ys) (zs := zs) (s' := s') B LB (y8 _) (W _) (by show A.units + 3 + 1000 < cLine; (exact (a9 0x34843bcca1d97bd526b4ffcc19c89b8 0) hu)) hT x4 (by apply aP; with_reducible assumption; decide) z2 hU (by rw [eQ]; exact h9) x8 (.skip ha) nd y0 x9 y3 z5 inj hx y7 (by rw [eQ]; exact hq) hy y2 y9 y1 z3 hz z6 ?_;intro T' dl pm ll k1 k2 k3 z0 z4 _;have h2 := h2 T' dl pm ll k1 k2 k3 z0 (by rw [← y6]; exact z4);with_reducible refine aM (aV (iK ?_))
 exact Go.sub (sr (sI _) (pT (rM _ _))) h2
end
section
variable {cs cs' V X Y : aF} {Q : VP}
theorem kF (H : St h0 o0 cs s) (hh : A.handled = none) (hv : Has cs v (fM d)) (D : DIn uX w h0 d kvs) (hz : kvs.length ≤ 4096)
  (h : ∀ l (ps : List (uR × (Str × Tok) × uN)) s', ps.map (fun p => (p.2.1.1, p.2.2)) = kvs → St h0 o0 ((l, aE (ps.map fun p => .ref p.1)) :: (aW ps ++ cs)) s' → Q (.ref l) s') : uL (uM uX w) A (uW (.type "list") [.ref v]) Q E s := by
 obtain ⟨ep, hD⟩ := D.now H;obtain ⟨ov, h9, rfl⟩ := H.get hv;refine fb (kdx_call (knd := tC uX w) (kvs := kvs) (ep := ep) hh ⟨_, h9, rfl, rfl⟩ hD (by rw [aj]; omega) fun h' tk x1 c as hk hl h7 hG W x0 => ?_);obtain ⟨ps, e1, e2, e3⟩ := i9 h7 hG;have he : x1.toList = ps.map fun p => tW p.1 := by rw [W, ← e1, tI]; rfl
 refine h _ ps _ e2 (H.moreN ((s.heap.objs.size, aE (ps.map fun p : uR × (Str × Tok) × uN => tW p.1)) :: aW ps) (fun q hq => ?_) ?_ hk x0)
 ·rcases tB.mp hq with rfl | hq
  ·exact ⟨ah _, _, hl, c, by simp [← he]⟩
  ·obtain ⟨p, hp, rfl⟩ := eT hq;exact ⟨tL (hG.above p.1 (by rw [← e1]; exact aA hp)), e3 p hp⟩
 ·rw [az, s9, cQ, e1];exact ⟨fun hm => tE _ (hG.above _ hm), hG.rise.imp tN⟩
theorem k_listV (hh : A.handled = none) (W : Has cs v (fM d)) (D : DIn uX w h0 d kvs) (hz : kvs.length ≤ 4096)
  (h : ∀ l (ps : List (uR × (Str × Tok) × uN)), ps.map (fun p => (p.2.1.1, p.2.2)) = kvs → Go h0 o0 ((l, aE (ps.map fun p => .ref p.1)) :: (aW ps ++ cs)) (Q (.ref l))) : Go h0 o0 cs (uL (uM uX w) A (uW (.type "list") [.ref v]) Q E) := fun s H =>
 kF H hh W D hz fun l ps s' e H' => h l ps e s' H'
theorem rm {d : uR} {kvs : List (Str × uN)} {pl : Sem Bool} {Q : uN × List uN → uF → Prop} (D : DIn uX w h0 d kvs) (h : Go h0 o0 cs (Q (.builtin "dict.items", [.ref d]))) : Go h0 o0 cs (uL (uM uX w) A (ua (.ref d) (ud "items") pl) Q E) := fun s H =>
 pN PySem.F.slot_dict_items PySem.F.type_dict_items H D (h s H)
theorem qZ (D : DIn uX w h0 d kvs) (hs : (d == sysModules) = false) (h : ∀ v, Go h0 o0 ((v, fM d) :: cs) (Q (.ref v))) : Go h0 o0 cs (uL (uM uX w) A (uW (.builtin "dict.items") [.ref d]) Q E) := fun s H => pL H D hs fun v s' W => h v s' W
end
section
variable {cs cs' V X Y : aF} {i : Wid} {t : d0} {Q : VP}
noncomputable def xmlPr : Sp := (ud "http://www.w3.org/XML/1998/namespace", ud "xml")
noncomputable def mapNs : List Sp := [(ud "http://www.w3.org/XML/1998/namespace", ud "xml"), (ud "http://www.w3.org/1999/xhtml", ud "html"), (ud "http://www.w3.org/1999/02/22-rdf-syntax-ns#", ud "rdf"), (ud "http://schemas.xmlsoap.org/wsdl/", ud "wsdl"), (ud "http://www.w3.org/2001/XMLSchema", ud "xs"), (ud "http://www.w3.org/2001/XMLSchema-instance", ud "xsi"), (ud "http://purl.org/dc/elements/1.1/", ud "dc")]
structure Ab where
 (out data : List Str) (q : QS) (ps : List Bool) (rs rd : Bool)
noncomputable def Ab.of (t : d0) : Ab := ⟨t.out.map (·.1), t.data.map (·.1), QS.of t, t.ps, t.rs, t.rd⟩
noncomputable def Ab.new (rw : Bool) : Ab := ⟨[], [], ⟨[[xmlPr]], (if rw then [] else [mapNs]) ++ [[]], []⟩, [false], false, false⟩
theorem mapDIn (B : Base (KF w.params) h0) : ∃ kvs : List (Str × Str × Tok), kvs.map (fun p => (p.1, p.2.1)) = mapNs ∧ DIn uX w h0 aMap (bH kvs) :=
 ⟨[(ud "http://www.w3.org/XML/1998/namespace", ud "xml", 330), (ud "http://www.w3.org/1999/xhtml", ud "html", 332), (ud "http://www.w3.org/1999/02/22-rdf-syntax-ns#", ud "rdf", 334), (ud "http://schemas.xmlsoap.org/wsdl/", ud "wsdl", 336), (ud "http://www.w3.org/2001/XMLSchema", ud "xs", 338), (ud "http://www.w3.org/2001/XMLSchema-instance", ud "xsi", 340), (ud "http://purl.org/dc/elements/1.1/", ud "dc", 342)], rfl, DIn.lit (kvs := [(ud "http://www.w3.org/XML/1998/namespace", 329, .str (ud "xml") 330), (ud "http://www.w3.org/1999/xhtml", 331, .str (ud "html") 332), (ud "http://www.w3.org/1999/02/22-rdf-syntax-ns#", 333, .str (ud "rdf") 334), (ud "http://schemas.xmlsoap.org/wsdl/", 335, .str (ud "wsdl") 336), (ud "http://www.w3.org/2001/XMLSchema", 337, .str (ud "xs") 338), (ud "http://www.w3.org/2001/XMLSchema-instance", 339, .str (ud "xsi") 340), (ud "http://purl.org/dc/elements/1.1/", 341, .str (ud "dc") 342)]) (ep := 7) (B.X _ _ (by kernel_rfl!)) (by decide +kernel)⟩
theorem pr_of : ∀ {ps : List (uR × (Str × Tok) × uN)} {kvs : List (Str × Str × Tok)}, ps.map (fun p => (p.2.1.1, p.2.2)) = bH kvs → ∃ W : List Pr, W.map Pr.cell = aW ps ∧ W.map Pr.v = kvs.map (fun p => (p.1, p.2.1)) ∧ W.map (·.a) = ps.map (·.1)
 | [], [], _ => ⟨[], rfl, rfl, rfl⟩
 | [], _ :: _, h => by cases h
 | _ :: _, [], h => by cases h
 | p :: r, q :: s, h => by
  unfold bH at h;rw [az, az] at h;obtain ⟨h1, h2⟩ := List.cons.inj h;obtain ⟨e1, e2⟩ := Prod.mk.inj h1;obtain ⟨W, a1, a2, a3⟩ := pr_of (ps := r) (kvs := s) h2;obtain ⟨a, ⟨k, ku⟩, v⟩ := p;dsimp only at e1 e2;subst e1 e2;exact ⟨⟨a, q.1, ku, q.2.1, q.2.2⟩ :: W, by rw [az, a1]; rfl, by rw [az, a2]; rfl, by rw [az, a3]; rfl⟩
theorem o9 : (a :: b :: c :: (M ++ V)).Perm (a :: b :: ((M ++ [c]) ++ V)) := by
 refine .cons _ (.cons _ ?_);rw [av];exact sQ.symm
theorem c_init (B : Base (KF w.params) h0) (hh : A.handled = none) (h9 : A.depth < ty)
  (x1 : ∀ i t, i.x = x → i.O = O → Ab.of t = Ab.new false → t.ig = 0 → Go h0 o0 (wr uX w i t V) (R (.ok (.ret .none))))
  (x0 : ∀ s, (KF w.params).In s.heap → BindsTo s (aZ (KF w.params) rH) ar [(ud "self", .ref x), (ud "write", .ref W), (ud "with_comments", .bool false), (ud "strip_text", .bool false), (ud "rewrite_prefixes", .bool false), (ud "qname_aware_tags", .none), (ud "qname_aware_attrs", .none), (ud "exclude_attrs", .none), (ud "exclude_tags", .none)]) :
  Go h0 o0 ((x, be cb dx) :: (dx, cAttrs []) :: (W, bO "list.append" O) :: (O, aE []) :: V) (uD (uM uX w) A (.call (.ref rH) ar) R) := by
 have x5 : ∀ env, (A.deeper env).handled = none := fun _ => hh
 have x4 : cD h0 (ud "list") (.type "list") := B.bltAt (by kernel_rfl!) (by kernel_rfl!) (by decide +kernel) (by decide +kernel);have x6 : dh h0 (ud "_namespace_map") (.ref aMap) := B.glob (by kernel_rfl!) (by kernel_rfl!);obtain ⟨kvs, x2, DI⟩ := mapDIn (uX := uX) B;have x7 : kvs.length = 7 := by have := congrArg tQ x2; rwa [ak] at this
 refine cJ (m := [(ud "exclude_tags", .none), (ud "exclude_attrs", .none), (ud "qname_aware_attrs", .none), (ud "qname_aware_tags", .none), (ud "rewrite_prefixes", .bool false), (ud "strip_text", .bool false), (ud "with_comments", .bool false), (ud "write", .ref W), (ud "self", .ref x)]) B (by kernel_rfl!) h9 x0 (by kernel_rfl!) fun L => ?_
 refine aH ?_;with_reducible refine co (aI .here (.nx6 .i1) (aI .here (.nx6 .i2) ?_)); refine ch (by assumption) .h1 .h2 .new ?_; refine aM (aH (co (bd (aJ (ba ?_))))); intro _; refine aI .h1 (.nx6 .i2) ?_; refine ch (by assumption) .h2 .h3 .j1 ?_; refine aM (aH (co (aI .h1 .i6 (aI .h1 (.nx6 .i2) ?_)))); refine ch (by assumption) .h2 .h3 .j2 ?_; refine aM (aH (co (aI .h1 .i5 (aI .h1 (.nx6 .i2) ?_)))); refine ch (by assumption) .h2 .h3 .j3 ?_; refine aM (aH (co ?_))
 rename_i D;with_reducible refine cO (bK (aI .h1 .i1 (gQ (eW (df ?_))))); refine aI .h1 (.nx6 .i2) ?_; refine ch (by assumption) .h2 .h3 .j4 ?_; refine aM (aH (co (cO (bK (aI .h1 .here ?_))))); refine gQ (eW (df (aI .h1 (.nx6 .i2) ?_))); refine ch (by assumption) .h2 .h3 .j5 ?_; refine aM (aH (co (aI .h1 .i4 (aI .h1 (.nx6 .i2) ?_)))); refine ch (by assumption) .h2 .h3 .j6 ?_; refine aM (aH (b9 (bK (aI .h1 .i3 (gQ ?_))))); refine eW (aH (co (df (aI .h1 (.nx6 .i2) ?_)))); refine ch (by assumption) .h2 .h3 (.nx6 .j1) ?_; refine aM (aV (aM (aH (b9 (bK ?_))))); refine aI .h1 .i2 (gQ (eW (aH (co (df ?_))))); refine aI .h1 (.nx6 .i2) ?_; refine ch (by assumption) .h2 .h3 (.nx6 .j2) ?_; refine aM (aV (aM (aH (co (bd ?_))))); refine aG (bd (aG (eh (aG (aR ?_))))); intro _ _; refine aG (aR fun _ _ => aJ (ed fun _ => aJ (ba ?_))); intro _; refine aJ (ba fun _ => aI .h4 (.nx6 .i2) ?_); refine ch (by assumption) .h5 .h6 (.nx6 .j3) ?_; refine aM (aH (co (bd (aJ (ba ?_))))); intro _; refine aI .h5 (.nx6 .i2) ?_; refine ch (by assumption) .h6 (.t6 .h1) (.nx6 .j4) ?_; refine aM (aH ?_)
 rename_i u1 _ u2 _ t0 l0 DS h7;refine bQ (fun f C => f = .next ∧ ∃ (l : uR) (qs : List Pr), qs.map Pr.v = mapNs ∧ C = (h7, aE [.ref l]) :: (DS, aE [.ref l0]) :: (l0, aE [.ref t0]) :: (t0, bn [.str (ud "http://www.w3.org/XML/1998/namespace") u1, .str (ud "xml") u2]) :: (D, aE []) :: (L, cNs [(ud "self", .ref x)]) :: (x, be cb dx) :: (dx, cAttrs [(ud "_write", .ref W), (ud "_data", .ref D), (ud "_with_comments", .bool false), (ud "_strip_text", .bool false), (ud "_exclude_attrs", .none), (ud "_exclude_tags", .none), (ud "_rewrite_prefixes", .bool false), (ud "_qname_aware_tags", .none), (ud "_find_qname_aware_attrs", .none), (ud "_declared_ns_stack", .ref DS), (ud "_ns_stack", .ref h7)]) :: (W, bO "list.append" O) :: (O, aE []) :: (cG [⟨l, qs⟩] ++ V)) ?_ ?_
 ·refine b9 ?_;with_reducible refine nq (bK (aI .h5 .i4 (a0 (ifNF (aH ?_))))); refine bq (bF ?_); refine dW ?_ (by with_unfolding_all rfl); refine aI .h5 (.nx6 .i2) ?_; refine nQ B .h6 (.t6 .h1) (.nx6 .i4) (lU (by decide +kernel)) rfl ?_; refine cS PySem.F.slot_list_append PySem.F.type_list_append .here (dJ (aG (bf ?_))); refine dg (by assumption) (by kernel_rfl!) (by kernel_rfl!) (by kernel_rfl!) (by kernel_rfl!) (by decide +kernel) ?_; refine c_ty ?_ (by with_unfolding_all rfl) (by with_unfolding_all rfl); refine aG (bF ?_); refine eY (by assumption) (by kernel_rfl!) (by kernel_rfl!) (by kernel_rfl!) (by decide +kernel) ?_; refine rm DI (gq ?_); refine qZ DI (by decide +kernel) ?_; intro vw; refine aJ ?_
  refine k_listV (x5 _) .here DI (by unfold bH; rw [ak]; (apply aP; exact ap (by assumption); decide)) ?_;intro l ps x3;with_reducible refine aJ ?_; refine cI (ys := [.ref l]) (.there (.skip .h1)) rfl (by simp only [tv, ak, sO, aw, tf, r7, aj]; apply aP; exact ah _; decide) ?_
  obtain ⟨qs, a1, a2, a3⟩ := pr_of x3;with_reducible refine aM (aV ?_)
  have e1 : (ps.map fun p => tW p.1) = (⟨l, qs⟩ : Lv).refs := by
   show _ = qs.map fun q => tW q.a
   rw [show (fun p : uR × (Str × Tok) × uN => tW p.1) = (fun a => tW a) ∘ (·.1) from rfl, ← tI, ← a3, tI]; rfl
  have e2 : cG [⟨l, qs⟩] = (l, aE (⟨l, qs⟩ : Lv).refs) :: aW ps := by
   unfold cG Lv.cells;rw [sM, List.flatMap_nil, s7, ← a1]
  rw [e1];refine Go.thin (a := L) (m' := [(ud "self", .ref x)]) (.there (.skip .h6)) (.cons (.nx6 .i2) .nil) ?_;refine Go.sel ?_ (jp ⟨rfl, l, qs, a2.trans x2, rfl⟩);rw [e2, sN];with_reducible exact .pick (.there (.skip .h1)) (.pick (.there (.skip .h1)) (.pick (.there (.skip .h1)) (.pick (.there (.skip .h1)) (.pick (.there (.skip .h1)) (.pick (.there (.skip .h1)) (.pick (.there (.skip .h1)) (.pick (.there (.skip .h1)) (.pick (.there (.skip .h1)) (.pick (.there (.skip .h1)) (.pick .here (.tail (.both (.there .refl)))))))))))))
 rintro f C ⟨rfl, l, qs, hqs, rfl⟩;with_reducible refine aM (aH (bq (bF ?_))); refine dW ?_ (by with_unfolding_all rfl); refine aI .h5 .here ?_; refine nQ B .h6 (.t6 .h1) (.nx6 .i4) (lU (by decide +kernel)) rfl ?_; refine cS PySem.F.slot_list_append PySem.F.type_list_append .here (dJ (aG (bd (aJ (ba ?_))))); intro _; refine aJ ?_
 rename_i n1;with_reducible refine cI (ys := [.ref l, .ref n1]) .h1 rfl (by simp only [tv, ak, sO, aw, tf, r7, aj]; apply aP; apply aU; exact ah _; exact ah _; decide) ?_; refine aM (aH (co (mT fun _ => aI (.t6 .h1) .here ?_))); refine ch (by assumption) (.t6 .h2) (.t6 .h3) (.nx6 .j5) ?_; refine aM (aH (co (bd (aG (nV ?_))))); refine aJ (ba fun _ => aI (.t6 .h2) .here ?_); refine ch (by assumption) (.t6 .h3) (.t6 .h4) (.nx6 .j6) ?_; refine aM (aH (co (df (aI (.t6 .h2) .here ?_)))); refine ch (by assumption) (.t6 .h3) (.t6 .h4) (.nx6 (.nx6 .j1)) ?_; refine aM (aH (co (nV (aI (.t6 .h2) .here ?_)))); refine ch (by assumption) (.t6 .h3) (.t6 .h4) (.nx6 (.nx6 .j2)) ?_; refine aM (aH (co (nV (aI (.t6 .h2) .here ?_)))); refine ch (by assumption) (.t6 .h3) (.t6 .h4) (.nx6 (.nx6 .j3)) ?_; refine aM (aH (co (aY fun _ => aI (.t6 .h2) .here ?_))); refine ch (by assumption) (.t6 .h3) (.t6 .h4) (.nx6 (.nx6 .j4)) ?_; refine aM (aV (iK ?_))
 rename_i PM PS ti;have q := x1 ⟨x, dx, W, O, D, DS, h7, PM, PS⟩ ⟨[], [], [⟨l0, [⟨t0, xmlPr.1, u1, xmlPr.2, u2⟩]⟩], [⟨l, qs⟩] ++ [⟨n1, []⟩], [], [false], false, false, 0, ti⟩ rfl rfl (by
  unfold Ab.of Ab.new QS.of;rw [← hqs]; rfl) rfl
 refine Go.sel (cs' := (x, be cb dx) :: (dx, cAttrs [(ud "_write", .ref W), (ud "_data", .ref D), (ud "_with_comments", .bool false), (ud "_strip_text", .bool false), (ud "_exclude_attrs", .none), (ud "_exclude_tags", .none), (ud "_rewrite_prefixes", .bool false), (ud "_qname_aware_tags", .none), (ud "_find_qname_aware_attrs", .none), (ud "_declared_ns_stack", .ref DS), (ud "_ns_stack", .ref h7), (ud "_prefix_map", .ref PM), (ud "_preserve_space", .ref PS), (ud "_pending_start", .none), (ud "_root_seen", .bool false), (ud "_root_done", .bool false), (ud "_ignored_depth", .int 0 ti)]) :: (W, bO "list.append" O) :: (O, aE []) :: (D, aE []) :: (DS, aE [.ref l0]) :: (h7, aE [.ref l, .ref n1]) :: (PM, aL uX w []) :: (PS, aE [.bool false]) :: (l0, aE [.ref t0]) :: (t0, bn [.str (ud "http://www.w3.org/XML/1998/namespace") u1, .str (ud "xml") u2]) :: (n1, aE []) :: (cG [⟨l, qs⟩] ++ V)) (.pick (.t6 .h3) (.pick (.t6 .h3) (.pick (.t6 .h3) (.pick (.t6 .h3) (.pick (.t6 .h1) (.pick .h4 (.pick .h3 (.pick .h1 (.pick .here (.pick .h1 (.pick .h1 (.pick .here (.tail (.there .refl)))))))))))))) ?_;refine Go.perm ?_ q;unfold wr;rw [c7];exact .cons _ (.cons _ (.cons _ (.cons _ (.cons _ (.cons _ (.cons _ (.cons _ (.cons _ o9))))))))
end
def CP (h0 : uV) (o0 : uF) (cut : List uN → List uN) (Q : VP) : uN → uF → Prop := fun o s => ∃ l xs cs, o = .ref l ∧ St h0 o0 cs s ∧ s.heap.IsList l (List.toArray xs) ∧ xs.length ≤ ug ∧ ∀ a s', St h0 o0 ((a, aE (cut xs)) :: cs) s' → Q (.ref a) s'
def UPK (h0 : uV) (o0 : uF) (Q : VP) (o : uN) : uN → uF → Prop := fun vu s => ∃ (n : Nat) (u : Tok), vu = .int n u ∧ CP h0 o0 (fun xs => xs.take n) Q o s
def UP (uX : uy) (w : uQ) (A : uJ) (env : Env) (h0 : uV) (o0 : uF) (hi : Expr) (Q : VP) (E : VP) : uN → uF → Prop := fun o s1 => uL (uM uX w) A (uU hi env) (UPK h0 o0 Q o) E s1
def IB (x : uR) (Q : VP) (E : VP) : Result → uF → Prop := InitBack x fun r s' => match r with | .ok (.ret v) => Q v s' | .ok _ => False | .error e => E e s'
def DC (uX : uy) (w : uQ) (A : uJ) (env : Env) (h0 : uV) (o0 : uF) (cl : List (Str × uR)) (scope : Scope) (kx vx target : Expr) (ifs : List Expr) (Q : VP) (E : VP) : uN → uF → Prop := Ov uX w A env h0 o0 ([] : List (Str × uN)) (EvD uX w A h0 o0 kx vx) target ifs scope cl (FnV h0 o0 (aL uX w) Q) E
def SK (h0 : uV) (o0 : uF) (P : List (Str × uN) → aF → Prop) (ys : List (Str × uN)) (L : uR) (K' : aF) : uF → Prop := fun s₃ => ∃ m C', P ys C' ∧ St h0 o0 ((L, cNs m) :: (C' ++ K')) s₃
section
variable {b : Bool} {M : Model} {cs cs' V X Y : aF} {P1 : GP} {Q : VP}
theorem cp (hl : LAt h0 cs l xs) (hz : xs.length ≤ ug) (h : ∀ a, Go h0 o0 ((a, aE (cut xs)) :: cs) (Q (.ref a))) : Go h0 o0 cs (CP h0 o0 cut Q (.ref l)) := fun s H => ⟨l, xs, cs, rfl, H, hl.isList H, hz, fun a s' W => h a s' W⟩
theorem e_upL (h : Go h0 o0 cs (uL (uM uX w) A (uU value env) (UP uX w A env h0 o0 hi Q E) E)) : Go h0 o0 cs (uL (uM uX w) A (uU (.Subscript value (.Slice none (some hi) none p) pos) env) Q E) := fun s H =>
 x_slice (h0 := h0) (o0 := o0) (af (h s H) (fun o s1 q => sC (evalPart_some_step (af q (fun W s2 ⟨n, u, e2, l, xs, cs1, e, H1, hl, hz, hq⟩ => ⟨l, _, none, some n, cs1, xs.take n, e, H1, hl, by simpa using hz, .none, by rw [e2]; exact .int _ _, by rw [slicePick_upto'], hq⟩) fun _ _ q => q))) fun _ _ q => q)
theorem up (h : Go h0 o0 cs (uL (uM uX w) A (uU hi env) (UPK h0 o0 Q o) E)) : Go h0 o0 cs (UP uX w A env h0 o0 hi Q E o) := h
theorem upk {o : uN} {n : Nat} {k : Int} {u : Tok} (e : k = (n : Int)) (h : Go h0 o0 cs (CP h0 o0 (fun xs => xs.take n) Q o)) : Go h0 o0 cs (UPK h0 o0 Q o (.int k u)) := fun s H => ⟨n, u, by rw [e], h s H⟩
theorem g2 (hb : c ≠ 0) (h : ∀ t, Go h0 o0 cs (Q (.int (a.fmod c) t))) : Go h0 o0 cs (uL (uM uX w) A (binaryOp .Mod (.int a t) (.int c u)) Q E) := fun s H => x_mod H hb fun t' s' W => h t' s' W
theorem fV (hb : c ≠ 0) (hs : c.natAbs < 1073741824) (h : ∀ t, Go h0 o0 cs (Q (.int (a.fdiv c) t))) : Go h0 o0 cs (uL (uM uX w) A (binaryOp .FloorDiv (.int a t) (.int c u)) Q E) := fun s H => x_fdiv H hb hs fun W s' H' => h W s' H'
theorem o_lti (h : Go h0 o0 cs (Q (.bool (decide (a < c))))) : Go h0 o0 cs (uL (uM uX w) A (uc .Lt (.int a t) (.int c u)) Q E) := fun s H => PyProof.Rows.lt_int (h s H)
theorem o_gti (h : Go h0 o0 cs (Q (.bool (decide (c < a))))) : Go h0 o0 cs (uL (uM uX w) A (uc .Gt (.int a t) (.int c u)) Q E) := fun s H => PyProof.Rows.gt_int (h s H)
theorem jc (h : Go h0 o0 cs (Q (.bool (x != y)))) : Go h0 o0 cs (uL (uM uX w) A (uc .NotEq (.str x t) (.str y u)) Q E) := fun s H => x_nestr (h s H)
theorem qF (hl : Has cs l (aE xs)) (hc : Has cs c (aE ys)) (hz : xs.length + ys.length ≤ ug) (h : ∀ a, Go h0 o0 ((a, aE (xs ++ ys)) :: cs) (Q (.ref a))) : Go h0 o0 cs (uL (uM uX w) A (binaryOp .Add (.ref l) (.ref c)) Q E) := fun s H => x_addL H hl hc hz fun a s' W => h a s' W
theorem bI (hl : LAt h0 cs l xs) (W : 0 ≤ k) (h7 : k < 2 ^ 63) (hx : xs[k.toNat]? = some v)
  (h : Go h0 o0 cs (Q v)) (hs : subscripted slice false (.ref l) (.int k u) = operate [.ref l, .int k u] (getItem (.ref l) (.int k u)) := by with_unfolding_all rfl) : Go h0 o0 cs (uL (uM uX w) A (subscriptTail value slice (.ref l) (.int k u)) Q E) := fun s H => x_itemG H hl W h7 hx hs (h s H)
theorem g_app (hl : Has cs l (aE xs)) (h : ∀ a, Go h0 o0 ((a, bO "list.append" l) :: cs) (Q (.ref a))) : Go h0 o0 cs (uL (uM uX w) A (getAttr (.ref l) (ud "append") ex) Q E) := fun s H => kG H hl fun a s' W => h a s' W
theorem gU {x : Str} {pos' pos : Pos} {op : Operator} {value : Expr} {Q : FP} (h : Go h0 o0 cs (uL M A (loadName env x) (fun old => uL M A (uU value env) (fun v => uL M A (inplaceOp op old v) (fun r => uL M A (tX env x r) (fun _ => Q .next) E) E) E) E)) :
  Go h0 o0 cs (uL M A (exec (.AugAssign (.Name x pos') op value pos) env) Q E) := fun s H => wpAny_AugAssign_Name (h s H)
theorem k_str (W : (if a < 0 then 0 - a else a) < N) (hN : N ≤ 4611686018427387904) (h : ∀ t, Go h0 o0 cs (Q (.str (ud (toString a)) t))) : Go h0 o0 cs (uL (uM uX w) A (uW (.type "str") [.int a t]) Q E) := fun s H => str_of_int_fit W hN fun _ => h _ _ (H.toks (tP _))
theorem qY (h : ∀ a, Go h0 o0 ((a, ej 0 n 1) :: cs) (Q (.ref a))) : Go h0 o0 cs (uL (uM uX w) A (uW (.type "range") [.int n t]) Q E) := fun s H => pH H fun a s' W => h a s' W
theorem o_mulL (hl : Has cs l (aE xs)) (h9 : 0 ≤ x) (h7 : x < 2 ^ 40) (hz : xs.length * x.toNat ≤ 1000000) (h : ∀ a, Go h0 o0 ((a, aE (List.replicate x.toNat xs).flatten) :: cs) (Q (.ref a))) : Go h0 o0 cs (uL (uM uX w) A (binaryOp .Mult (.ref l) (.int x u)) Q E) := by
 intro s H;obtain ⟨n, W⟩ := bt H hl;have key : ∀ (k : Nat) (a : Array uN), (List.foldl (fun x1 x2 => x1 ++ x2) a (List.replicate k xs.toArray)) = a ++ (List.replicate k xs).flatten.toArray := by
  intro k;induction k with
  | zero => intro a; simp
  | succ k ih => intro a; rw [List.replicate_succ, List.foldl_cons, ih, List.replicate_succ, List.flatten_cons]; simp
 refine wpAny_binaryOp_repeat_ref (T := "list") (U := "int") (by decide) ⟨_, W, rfl⟩ (fun s' => typeIs_int s' x u) noFill_list_mul F.fills_int_mul F.slot_int_rmul repeat_list F.slot_int_index.lookup
  (call_meets F.slot_int_rmul (typeIs_int s x u) F.entry_int_rmul (F.args_int_rmul_2 _ _) (int___rmul___int_list x u l xs.toArray n)
   ⟨W, rfl, ⟨_, W, rfl⟩, call_meets F.slot_list_mul ⟨_, W, rfl⟩ F.entry_list_mul (F.args_list_mul_2 _ _)
    (AutoListH.list___mul___list_int_3 l xs.toArray n x u (by simp [uv.List.listFitsIndex]; (omega)) (by simp; (apply aP; with_reducible assumption; decide)) (by simp [uv.List.listTooLong, ug]; (apply aP; with_reducible assumption; decide)))
    ⟨W, ?_⟩⟩)
 refine h _ _ (H.push (k := s.toks) ⟨0, ?_⟩ (ah _));rw [key];cases xs with
 | nil => simp
 | cons a r => simp
theorem k_make {C fI : uR} {rest : List uN} {kw : List (Str × uN)} {K : Frag} (B : Base K h0) (hm : makesIn K C = true) (hi : findIn K (.ref C) "__init__" = some (some (.ref fI))) (hf : typeIn K (.ref fI) = some (.type "function"))
  (h : ∀ x dx, Go h0 o0 ((x, be C dx) :: (dx, cAttrs []) :: cs) (uD (uM uX w) (A.under (.builtin "type.__call__" ⟨.ref C :: rest, kw⟩)) (.call (.ref fI) ⟨.ref x :: rest, kw⟩) (IB x Q E))) : Go h0 o0 cs (uL (uM uX w) A (uW (.ref C) rest kw) Q E) := fun s H =>
 wpAny_call (x_make B H hm hi hf fun x dx s' W => h x dx s' W)
theorem ib (h : Go h0 o0 cs (Q (.ref x))) : Go h0 o0 cs (IB x Q E (.ok (.ret .none))) := fun s H => ⟨rfl, h s H⟩
theorem e_dc {kx vx target iter : Expr} {ifs : List Expr} {scope : Scope} {pos : Pos} {cl : List (Str × uR)} (h9 : closureFor scope env = uT cl) (x0 : ∀ y ∈ scope.names, y.2 ≠ .cell) (h7 : scope.kind = .function) (W : ∀ y ∈ scope.names, y.2 = .local → scope.names.lookup y.1 = some .local)
  (h : Go h0 o0 cs (uL (uM uX w) A (uU iter env) (DC uX w A env h0 o0 cl scope kx vx target ifs Q E) E)) (hs : ∀ x, sF iter env x = uT x) : Go h0 o0 cs (uL (uM uX w) A (uU (.DictComp kx vx [⟨target, iter, ifs, 0⟩] scope pos) env) Q E) :=
 fun s H => e_ov nX h9 x0 h7 W (h s H) hs
theorem o_pickN {value slice : Expr} {l : uR} {vs : List uN} {ps : List (Str × Tok)} {ls : List Str} {k : Int} {u : Tok} {d : Str} (hl : Has cs l (aE vs)) (e : vs = tv ps) (e2 : ps.map (·.1) = ls) (h9 : 0 ≤ k) (h7 : k < ls.length) (hz : ls.length ≤ 1000)
  (hs : subscripted slice false (.ref l) (.int k u) = operate [.ref l, .int k u] (getItem (.ref l) (.int k u))) (h : ∀ t, Go h0 o0 cs (Q (.str (ls.getD k.toNat d) t))) : Go h0 o0 cs (uL (uM uX w) A (subscriptTail value slice (.ref l) (.int k u)) Q E) := by
 subst e e2;rw [ak] at h7 hz;have W : k.toNat < ps.length := by (omega)
 refine bI (xs := tv ps) (v := .str ps[k.toNat].1 ps[k.toNat].2) (.new hl) h9 (by omega) (by unfold tv; rw [sD, rQ W]; rfl) (hs := hs) ?_;have := h ps[k.toNat].2;rwa [List.getD_eq_getElem?_getD, sD, rQ W] at this
theorem qQ (hp : Has cs L (cNs m)) (hL : env.locals = L) (W : Look m x v) (hk : env.scope.kind = .function) (hl : env.kindOf x = some .local)
  (h : Go h0 o0 cs (Q v)) : Go h0 o0 cs (uL M A (loadName env x) Q E) := fun s H => by
 obtain ⟨f, hf, hm⟩ := k9 H hp;subst hL;exact wpAny_loadName_local hk hl hf (hm _ _ W.eq) (h s H)
end
section
variable {κ : uu} {S : uO → Prop} {K : uO → Nat}
noncomputable abbrev sT (κ : uu) (xs : Array uO) (pd : Array (Nat × Nat × Nat)) (g : Nat) : uK := uK.mk' κ xs pd g none
def dZ (uX : uy) (w : uQ) (A : uJ) (s : uF) (κ : uu) (S : uO → Prop) (K : uO → Nat) : Prop :=
 ∀ x y, S x → S y → uL (uM uX w) A (keyLt' κ x.1 y.1) (fun b s' => s' = s ∧ b = decide (K x < K y)) (fun _ _ => False) s
variable {xs : Array uO} {pd : Array (Nat × Nat × Nat)} {g : Nat}
theorem qb (hc : dZ uX w A s κ S K) (hx : S x) (hy : S y) (h : Q (some (decide (K x < K y))) (sT κ xs pd g)) : wpS (uM uX w) A E s (lt' x y) Q (sT κ xs pd g) := by
 rw [lt'_eq];refine uh (wpS_get ?_);refine uh ?_;unfold wpS;show uL _ _ ((StateT.lift (keyLt' κ x.1 y.1).attempt : StateT uK Sem _).run _) _ _ _;rw [StateT.run_lift];refine ad (wpAny_attempt (af (hc x y hx hy) (fun b s' hb => ?_) fun _ _ W => W.elim));obtain ⟨rfl, rfl⟩ := hb;exact ae ⟨rfl, ul h⟩
theorem bx {a : Array uO} {i : Nat} {st : uK} {Q : uO → uK → Prop} (hi : i < a.size) (h : Q a[i] st) : wpS (uM uX w) A E s (elem' a i) Q st := by
 rw [elem'_eq, rN hi];exact ul h
theorem fS {st : uK} {n : String} {Q : Unit → uK → Prop} (h : Q () st) : wpS (uM uX w) A E s (liftM (rule n)) Q st := by
 unfold wpS;show uL _ _ ((StateT.lift (rule n) : StateT uK Sem _).run _) _ _ _;rw [StateT.run_lift];exact ad (wpAny_rule (ae ⟨rfl, h⟩))
noncomputable abbrev Sm (α : Type) := StateT uK Sem α
noncomputable abbrev Mt (ρ τ : Type) := Option ρ × τ
section
variable {ρ τ : Type}
def Wl (κ : uu) (xs : Array uO) (pd : Array (Nat × Nat × Nat)) (J : τ → Prop) (P : ρ → Prop) (c : Mt ρ τ) (t : uK) : Prop := ∃ g, t = sT κ xs pd g ∧ match c.1 with
 | some res => P res
 | none => J c.2
def Wi (κ : uu) (xs : Array uO) (pd : Array (Nat × Nat × Nat)) (J : τ → Prop) (c : Mt ρ τ) (t : uK) : Prop := ∃ g, t = sT κ xs pd g ∧ c.1 = none ∧ J c.2
def Ws (κ : uu) (xs : Array uO) (pd : Array (Nat × Nat × Nat)) (J I : τ → Prop) (P : ρ → Prop) (r : ForInStep (Mt ρ τ)) (t : uK) : Prop := match r with
 | .done c => Wl κ xs pd J P c t
 | .yield c => Wi κ xs pd I c t
section
variable {J I : τ → Prop} {P : ρ → Prop} {e : τ} {res : ρ}
theorem bT (h : P res) : wpS (uM uX w) A E s (uT (.done (some res, e)) : Sm (ForInStep (Mt ρ τ))) (Ws κ xs pd J I P) (sT κ xs pd g) := ul ⟨g, rfl, h⟩
theorem w_go (h : I e) : wpS (uM uX w) A E s (uT (.yield (none, e)) : Sm (ForInStep (Mt ρ τ))) (Ws κ xs pd J I P) (sT κ xs pd g) := ul ⟨g, rfl, rfl, h⟩
theorem iW {c : Prop} {_ : Decidable c} (h : I e) : wpS (uM uX w) A E s (if c then uT (.done (none, e)) else uT (.yield (none, e)) : Sm (ForInStep (Mt ρ τ))) (Ws κ xs pd I I P) (sT κ xs pd g) := by
 split
 ·exact ul ⟨g, rfl, h⟩
 ·exact w_go h
theorem dw {β : Type} {p q : Nat} {x y : Sm β} {Q : β → uK → Prop} {t : uK} (h1 : p = q → wpS (uM uX w) A E s x Q t) (h2 : p ≠ q → wpS (uM uX w) A E s y Q t) : wpS (uM uX w) A E s (if (p == q) = true then x else y) Q t := by
 by_cases e : p = q
 ·rw [if_pos (beq_iff_eq.mpr e)]; exact h1 e
 ·rw [if_neg fun z => e (beq_iff_eq.mp z)]; exact h2 e
theorem fR {f : Mt ρ τ → Sm (ForInStep (Mt ρ τ))} {I : Nat → τ → Prop} (h : I 0 e) (hs : ∀ i c g, I i c.2 → wpS (uM uX w) A E s (f c) (Ws κ xs pd J (I (i + 1)) P) (sT κ xs pd g))
  (hj : ∀ c, I N c → J c) : wpS (uM uX w) A E s (forIn [0:N] ((none, e) : Mt ρ τ) fun _ c => f c) (Wl κ xs pd J P) (sT κ xs pd g) := by
 refine wpS_forRange (I := fun i => Wi κ xs pd (I i)) (fun i c t _ hi W => W.elim fun g W => ?_) (fun c t W => W.elim fun g W => ⟨g, W.1, ?_⟩) ⟨g, rfl, rfl, h⟩
 ·rw [W.1];exact wpS_mono (hs i c g W.2.2) fun r t hr => by cases r <;> exact hr
 ·rw [W.2.1]; exact hj _ (Nat.zero_max N ▸ W.2.2)
theorem eu {α : Type} {c : Mt ρ τ} {f : Option ρ → Sm α} {Q : α → uK → Prop} (h : Wl κ xs pd J P c t) (h1 : ∀ r g, P r → wpS (uM uX w) A E s (f (some r)) Q (sT κ xs pd g)) (h2 : ∀ g, J c.2 → wpS (uM uX w) A E s (f none) Q (sT κ xs pd g)) :
  wpS (uM uX w) A E s (f c.1) Q t := h.elim fun g h => by
 rw [h.1];have h := h.2;cases e : c.1 with
 | some r => rw [e] at h; exact h1 r g h
 | none => rw [e] at h; exact h2 g h
end
end
noncomputable def du : Bool → uO → Array uO → Nat → Nat → Nat → StateT uK Sem (Option Nat) := sortPriv% PySem.Builtin.gallop
noncomputable def fN (left : Bool) (key : uO) (arr : Array uO) (base : Nat) (i : Nat) : StateT uK Sem (Option Bool) := do
 let x ← elem' arr (base + i)
 if left then lt' x key else return (← lt' key x).map (!·)
noncomputable abbrev Gs := Mt (Option Nat) (Nat × Nat)
noncomputable def gUp (f : Nat → Sm (Option Bool)) (hint maxofs : Nat) (c : Gs) : Sm (ForInStep Gs) :=
 if c.2.2 ≥ maxofs then uT (.done (none, c.2.1, c.2.2))
 else do
  let x ← f (hint + c.2.2)
  match x with
  | some more => if (!more) = true then uT (.done (none, c.2.1, c.2.2)) else uT (.yield (none, c.2.2, 2 * c.2.2 + 1))
  | _ => uT (.done (some none, c.2.1, c.2.2))
noncomputable def gDown (f : Nat → Sm (Option Bool)) (hint maxofs : Nat) (c : Gs) : Sm (ForInStep Gs) :=
 if c.2.2 ≥ maxofs then uT (.done (none, c.2.1, c.2.2))
 else do
  let x ← f (hint - c.2.2)
  match x with
  | some found => if found = true then uT (.done (none, c.2.1, c.2.2)) else uT (.yield (none, c.2.2, 2 * c.2.2 + 1))
  | _ => uT (.done (some none, c.2.1, c.2.2))
noncomputable def gLp (f : Nat → Sm (Option Bool)) (c : Gs) : Sm (ForInStep Gs) :=
 if c.2.1 ≥ c.2.2 then uT (.done (none, c.2.1, c.2.2))
 else do
  let x ← f (c.2.1 + (c.2.2 - c.2.1) / 2)
  match x with
  | some more => if more = true then uT (.yield (none, c.2.1 + (c.2.2 - c.2.1) / 2 + 1, c.2.2)) else uT (.yield (none, c.2.1, c.2.1 + (c.2.2 - c.2.1) / 2))
  | _ => uT (.done (some none, c.2.1, c.2.2))
noncomputable def gFin (r : Option (Option Nat)) (o : Nat) : Sm (Option Nat) := match r with
 | some r => uT r
 | none => uT (some o)
noncomputable def gBin (f : Nat → Sm (Option Bool)) (n lo hi : Nat) (r : Option (Option Nat)) : Sm (Option Nat) := match r with
 | some r => uT r
 | none => do
  let c ← forIn [0:n] ((none, lo, hi) : Gs) fun _ c => gLp f c
  gFin c.1 c.2.2
noncomputable def gTwo (f : Nat → Sm (Option Bool)) (n hint : Nat) (right : Bool) : Sm (Option Nat) :=
 if right = true then do
  let c ← forIn [0:n] ((none, 0, 1) : Gs) fun _ c => gUp f hint (n - hint) c
  gBin f n (hint + c.2.1 + 1) (hint + min c.2.2 (n - hint)) c.1
 else do
  let c ← forIn [0:n] ((none, 0, 1) : Gs) fun _ c => gDown f hint (hint + 1) c
  gBin f n (hint + 1 - min c.2.2 (hint + 1)) (hint - c.2.1) c.1
noncomputable def galI (f : Nat → Sm (Option Bool)) (n hint : Nat) : Option Bool → Sm (Option Nat)
 | some right => gTwo f n hint right
 | _ => uT none
theorem mI (left : Bool) (key : uO) (h7 : Array uO) (W n hint : Nat) : du left key h7 W n hint = fN left key h7 W hint >>= galI (fN left key h7 W) n hint := by
 kernel_rfl!
variable {st : uK} {f : Nat → Sm (Option Bool)} {B : Nat → Bool} {n hint : Nat}
def oj (uX : uy) (w : uQ) (A : uJ) (E : VP) (s : uF) (st : uK) (n : Nat) (f : Nat → StateT uK Sem (Option Bool)) (B : Nat → Bool) : Prop :=
 ∀ i, i < n → ∀ Q : Option Bool → uK → Prop, Q (some (B i)) st → wpS (uM uX w) A E s (f i) Q st
theorem mid_lt (h : l < o) : l + (o - l) / 2 < o := Nat.add_lt_of_lt_sub' (Nat.div_lt_self (Nat.sub_pos_of_lt h) Nat.one_lt_two)
theorem mJ {ff : Gs → Sm (ForInStep Gs)} {k : Gs → Sm (Option Nat)} {I : Nat → Nat → Nat → Prop} {J : Nat → Nat → Prop} {Q : Option Nat → uK → Prop} (h : I 0 l o)
  (hs : ∀ i l o Q, I i l o → (J l o → Q (.done (none, l, o)) st) → (∀ l' o', I (i + 1) l' o' → Q (.yield (none, l', o')) st) → wpS (uM uX w) A E s (ff (none, l, o)) Q st)
  (hj : ∀ l o, I N l o → J l o) (hq : ∀ l o, J l o → wpS (uM uX w) A E s (k (none, l, o)) Q st) : wpS (uM uX w) A E s (forIn [0:N] ((none, l, o) : Gs) (fun _ c => ff c) >>= k) Q st :=
 uh (wpS_forRange (I := fun i c t => t = st ∧ ∃ l o, c = (none, l, o) ∧ I i l o) (fun i c t _ hi W => by
  obtain ⟨rfl, l, o, rfl, W⟩ := W;exact hs i l o _ W (hq l o) fun l' o' h => ⟨rfl, l', o', rfl, h⟩) (fun c t W => by
  obtain ⟨rfl, l, o, rfl, W⟩ := W;exact hq l o (hj l o (Nat.zero_max N ▸ W))) ⟨rfl, l, o, rfl, h⟩)
section
variable (hf : oj uX w A E s st n f B) (hh : hint < n)
include hf
theorem qd {lo hi : Nat} {Q : Option Nat → uK → Prop} (hh : hi ≤ n) (h0 : hi < n → B hi = false)
  (h : ∀ k, k ≤ hi → (k < n → B k = false) → Q (some k) st) : wpS (uM uX w) A E s (gBin f n lo hi none) Q st :=
 mJ (I := fun _ l o => o ≤ hi ∧ (o < n → B o = false)) (J := fun l o => o ≤ hi ∧ (o < n → B o = false)) ⟨ah _, h0⟩ (fun i l o Q W hd hy => by
  unfold gLp;by_cases ho : l ≥ o
  ·rw [if_pos ho];exact ul (hd W)
  ·rw [if_neg ho];have hm := mid_lt (Nat.lt_of_not_le ho);refine uh (hf _ (sw hm (tH W.1 hh)) _ ?_);cases e : B (l + (o - l) / 2) with
   | true => exact ul (hy _ _ W)
   | false => exact ul (hy _ _ ⟨tH (tL hm) W.1, fun _ => e⟩)) (fun _ _ h => h) fun l o W => ul (h _ W.1 W.2)
include hh
theorem t_gTwo (h : ∀ k, k ≤ n → (k < n → B k = false) → (hint = 0 → 0 < k → B 0 = true) → Q (some k) st) : wpS (uM uX w) A E s (gTwo f n hint (B hint)) Q st := by
 unfold gTwo;cases e : B hint with
 | true =>
  refine mJ (I := fun i l o => i < o ∧ (o < n - hint → True)) (J := fun l o => o < n - hint → B (hint + o) = false) ⟨Nat.zero_lt_one, fun _ => trivial⟩ (fun i l o Q hI hd hy => ?_) (fun l o hI hq => absurd (Nat.lt_trans hI.1 hq) (Nat.not_lt.mpr (Nat.sub_le _ _))) fun l o hJ => ?_
  ·unfold gUp;by_cases W : o ≥ n - hint
   ·rw [if_pos W];exact ul (hd fun q => absurd q (Nat.not_lt.mpr W))
   ·rw [if_neg W];refine uh (hf _ (Nat.add_lt_of_lt_sub' (Nat.lt_of_not_le W)) _ ?_);cases e : B (hint + o) with
    | false => exact ul (hd fun _ => e)
    | true => exact ul (hy _ _ ⟨Nat.succ_lt_succ (sw hI.1 (Nat.le_mul_of_pos_left o Nat.two_pos)), fun _ => trivial⟩)
  ·have hz := Nat.add_le_of_le_sub' (tL hh) (Nat.min_le_right o (n - hint));refine qd hf hz (fun q => ?_) fun k hk hb => h k (tH hk hz) hb fun e0 _ => e0 ▸ e
   rcases Nat.lt_or_ge o (n - hint) with z | z
   ·dsimp only;rw [Nat.min_eq_left (tL z)];exact hJ z
   ·dsimp only at q;rw [Nat.min_eq_right z, Nat.add_sub_of_le (tL hh)] at q;exact absurd q (tE _)
 | false =>
  refine mJ (I := fun _ l o => B (hint - l) = false) (J := fun l o => B (hint - l) = false) e (fun i l o Q hI hd hy => ?_) (fun _ _ h => h) fun l o hJ => qd hf (tH (Nat.sub_le _ _) (tL hh)) (fun _ => hJ) fun k hk hb => h k (tH (tH hk (Nat.sub_le _ _)) (tL hh)) hb fun e0 q => absurd (tH hk (e0 ▸ Nat.sub_le _ _)) (Nat.not_le.mpr q)
  unfold gDown;by_cases W : o ≥ hint + 1
  ·rw [if_pos W];exact ul (hd hI)
  ·rw [if_neg W];refine uh (hf _ (sx (Nat.sub_le _ _) hh) _ ?_);cases e : B (hint - o) with
   | true => exact ul (hd hI)
   | false => exact ul (hy _ _ e)
end
theorem dG (hf : oj uX w A E s st n (fN left key arr base) B) (hh : hint < n)
  (h : ∀ k, k ≤ n → (k < n → B k = false) → (hint = 0 → 0 < k → B 0 = true) → Q (some k) st) : wpS (uM uX w) A E s (du left key arr base n hint) Q st := by
 rw [mI];exact uh (hf hint hh _ (t_gTwo hf hh h))
theorem d7 (hc : dZ uX w A s κ S K) (hk : S key) (hz : base + n ≤ arr.size) (ha : ∀ i (hi : i < arr.size), S arr[i]) :
  oj uX w A E s (sT κ xs pd g) n (fN false key arr base) fun i => !decide (K key < K (arr.getD (base + i) default)) := by
 intro i hi Q h;refine uh (bx (by omega) ?_);rw [if_neg (by decide)];refine uh (qb hc hk (ha _ (by omega)) (ul ?_));have e : arr.getD (base + i) default = arr[base + i]'(by omega) := by simp [Array.getD, show base + i < arr.size by omega]
 dsimp only at h;rw [e] at h;exact h
theorem fc (hc : dZ uX w A s κ S K) (hk : S key) (hz : base + n ≤ arr.size) (ha : ∀ i (hi : i < arr.size), S arr[i]) :
  oj uX w A E s (sT κ xs pd g) n (fN true key arr base) fun i => decide (K (arr.getD (base + i) default) < K key) := by
 intro i hi Q h;refine uh (bx (by omega) ?_);rw [if_pos rfl];have e : arr.getD (base + i) default = arr[base + i]'(by omega) := by simp [Array.getD, show base + i < arr.size by omega]
 dsimp only at h;rw [e] at h;exact qb hc (ha _ (by omega)) hk h
end
noncomputable def g9 : Array uO → Array uO → StateT uK Sem (Array uO) := sortPriv% PySem.Builtin.mergeLo
noncomputable def b8 : Nat → StateT uK Sem Unit := sortPriv% PySem.Builtin.setMinGallop
noncomputable abbrev Ma (τ : Type) := Mt (Array uO) τ
noncomputable def mlF (a b out : Array uO) (ia ib : Nat) : Array uO := out ++ a.extract ia a.size ++ b.extract ib b.size
noncomputable def mlG (a b out : Array uO) (ia ib : Nat) : Array uO := out ++ b.extract ib b.size ++ a.extract ia a.size
noncomputable def mlaB (a b : Array uO) (mg ac bc : Nat) (out : Array uO) (ia ib : Nat) : Sm (ForInStep (Ma (Array uO × Nat × Nat × Nat × Nat))) := do
 let y ← elem' b ib
 if (ib + 1 == b.size) = true then uT (.done (some (mlF a b (out.push y) ia (ib + 1)), out.push y, ia, ib + 1, 0, bc + 1))
 else if bc + 1 ≥ mg then uT (.done (none, out.push y, ia, ib + 1, 0, bc + 1)) else uT (.yield (none, out.push y, ia, ib + 1, 0, bc + 1))
noncomputable def mlaA (a b : Array uO) (mg ac bc : Nat) (out : Array uO) (ia ib : Nat) : Sm (ForInStep (Ma (Array uO × Nat × Nat × Nat × Nat))) := do
 let x ← elem' a ia
 if (ia + 1 + 1 == a.size) = true then uT (.done (some (mlG a b (out.push x) (ia + 1) ib), out.push x, ia + 1, ib, ac + 1, 0))
 else if ac + 1 ≥ mg then uT (.done (none, out.push x, ia + 1, ib, ac + 1, 0)) else uT (.yield (none, out.push x, ia + 1, ib, ac + 1, 0))
noncomputable def mla (a b : Array uO) (mg ac bc : Nat) (out : Array uO) (ia ib : Nat) : Sm (ForInStep (Ma (Array uO × Nat × Nat × Nat × Nat))) := do
 let y ← elem' b ib
 let x ← elem' a ia
 let z ← lt' y x
 match z with
 | some w => if w = true then mlaB a b mg ac bc out ia ib else mlaA a b mg ac bc out ia ib
 | _ => uT (.done (some (mlF a b out ia ib), out, ia, ib, ac, bc))
noncomputable def ml3 (a b : Array uO) (mg ac bc ib ia : Nat) (out : Array uO) : Sm (ForInStep (Ma (Array uO × Nat × Nat × Nat × Nat × Nat))) := do
 let x ← elem' a ia
 if (ia + 1 + 1 == a.size) = true then uT (.done (some (mlG a b (out.push x) (ia + 1) ib), out.push x, ia + 1, ib, mg, ac, bc))
 else if (decide (ac < 7) && decide (bc < 7)) = true then uT (.done (none, out.push x, ia + 1, ib, mg, ac, bc)) else uT (.yield (none, out.push x, ia + 1, ib, mg, ac, bc))
noncomputable def ml2b (a b : Array uO) (mg ac ib ia : Nat) (out : Array uO) (k : Nat) : Sm (ForInStep (Ma (Array uO × Nat × Nat × Nat × Nat × Nat))) :=
 if k > 0 then
  if (ib + k == b.size) = true then uT (.done (some (mlF a b (out ++ b.extract ib (ib + k)) ia (ib + k)), out ++ b.extract ib (ib + k), ia, ib + k, mg, ac, k))
  else ml3 a b mg ac k (ib + k) ia (out ++ b.extract ib (ib + k))
 else ml3 a b mg ac k ib ia out
noncomputable def ml2 (a b : Array uO) (mg ac bc ib ia : Nat) (out : Array uO) : Sm (ForInStep (Ma (Array uO × Nat × Nat × Nat × Nat × Nat))) := do
 let y ← elem' b ib
 if (ib + 1 == b.size) = true then uT (.done (some (mlF a b (out.push y) ia (ib + 1)), out.push y, ia, ib + 1, mg, ac, bc))
 else do
  let x ← elem' a ia
  let z ← du true x b (ib + 1) (b.size - (ib + 1)) 0
  match z with
  | some k => ml2b a b mg ac (ib + 1) ia (out.push y) k
  | _ => uT (.done (some (mlF a b (out.push y) ia (ib + 1)), out.push y, ia, ib + 1, mg, ac, bc))
noncomputable def ml1b (a b : Array uO) (bc ib ia : Nat) (out : Array uO) (mg k : Nat) : Sm (ForInStep (Ma (Array uO × Nat × Nat × Nat × Nat × Nat))) :=
 if k > 0 then
  if (ia + k + 1 == a.size) = true then uT (.done (some (mlG a b (out ++ a.extract ia (ia + k)) (ia + k) ib), out ++ a.extract ia (ia + k), ia + k, ib, mg, k, bc))
  else if (ia + k == a.size) = true then uT (.done (some (mlF a b (out ++ a.extract ia (ia + k)) (ia + k) ib), out ++ a.extract ia (ia + k), ia + k, ib, mg, k, bc))
  else ml2 a b mg k bc ib (ia + k) (out ++ a.extract ia (ia + k))
 else ml2 a b mg k bc ib ia out
noncomputable def ml1 (a b : Array uO) (ac bc ib ia : Nat) (out : Array uO) (mg : Nat) : Sm (ForInStep (Ma (Array uO × Nat × Nat × Nat × Nat × Nat))) := do
 b8 mg
 let y ← elem' b ib
 let z ← du false y a ia (a.size - ia) 0
 match z with
 | some k => ml1b a b bc ib ia out mg k
 | _ => uT (.done (some (mlF a b out ia ib), out, ia, ib, mg, ac, bc))
noncomputable def mlb (a b : Array uO) (ac bc ib ia : Nat) (out : Array uO) (mg : Nat) : Sm (ForInStep (Ma (Array uO × Nat × Nat × Nat × Nat × Nat))) := if mg > 1 then ml1 a b ac bc ib ia out (mg - 1) else ml1 a b ac bc ib ia out mg
noncomputable def mle (r : Option (Array uO)) (out : Array uO) (ia ib mg : Nat) : Sm (ForInStep (Ma (Array uO × Nat × Nat × Nat))) := match r with
 | some r => uT (.done (some r, out, ia, ib, mg))
 | none => do
  b8 (mg + 1)
  uT (.yield (none, out, ia, ib, mg + 1))
noncomputable def mlc (a b : Array uO) (mg : Nat) (r : Option (Array uO)) (out : Array uO) (ia ib ac bc : Nat) : Sm (ForInStep (Ma (Array uO × Nat × Nat × Nat))) := match r with
 | some r => uT (.done (some r, out, ia, ib, mg))
 | none => do
  liftM (rule "list.sort.gallop")
  let c ← forIn [0:a.size + b.size] ((none, out, ia, ib, mg + 1, ac, bc) : Ma (Array uO × Nat × Nat × Nat × Nat × Nat)) fun _ c => mlb a b c.2.2.2.2.2.1 c.2.2.2.2.2.2 c.2.2.2.1 c.2.2.1 c.2.1 c.2.2.2.2.1
  mle c.1 c.2.1 c.2.2.1 c.2.2.2.1 c.2.2.2.2.1
noncomputable def mld (a b : Array uO) (out : Array uO) (ia ib mg : Nat) : Sm (ForInStep (Ma (Array uO × Nat × Nat × Nat))) := do
 let c ← forIn [0:a.size + b.size] ((none, out, ia, ib, 0, 0) : Ma (Array uO × Nat × Nat × Nat × Nat)) fun _ c => mla a b mg c.2.2.2.2.1 c.2.2.2.2.2 c.2.1 c.2.2.1 c.2.2.2.1
 mlc a b mg c.1 c.2.1 c.2.2.1 c.2.2.2.1 c.2.2.2.2.1 c.2.2.2.2.2
noncomputable def mlz (r : Option (Array uO)) (e : String) : Sm (Array uO) := match r with
 | some r => uT r
 | none => liftM (unsupported e : Sem (Array uO))
theorem lg (a b : Array uO) : g9 a b = (do
 liftM (rule "list.sort.merge-lo")
 let y ← elem' b 0
 if (1 == b.size) = true then uT (mlF a b #[y] 0 1)
 else if (0 + 1 == a.size) = true then uT (mlG a b #[y] 0 1)
 else do
  let t ← get;let c ← forIn [0:a.size + b.size] ((none, #[y], 0, 1, gallopOf t) : Ma (Array uO × Nat × Nat × Nat)) fun _ c => mld a b c.2.1 c.2.2.1 c.2.2.2.1 c.2.2.2.2
  mlz c.1 "internal:list.sort.merge-bound") := by
 kernel_rfl!
section
variable {κ : uu} {S : uO → Prop} {K : uO → Nat} {xs : Array uO} {pd : Array (Nat × Nat × Nat)} {g : Nat} {a b out : Array uO} {x : uO} {n m j mg ac bc ib ia : Nat} {τ : Type}
theorem jA (h : Q () (sT κ xs pd n)) : wpS (uM uX w) A E s (b8 n) Q (sT κ xs pd g) :=
 wpS_modify (M := uM uX w) (A := A) (E := E) (s := s) (f := fun t => uK.mk' (kindOf t) (arrOf t) (pendingOf t) n (failedOf t)) h
def Hd (x : uO) (out : Array uO) : Prop := out[0]? = some x
theorem Hd.app (h : Hd x out) : Hd x (out ++ ys) := (Array.getElem?_append_left (Array.getElem?_eq_some_iff.mp h).1).trans h
theorem Hd.push (h : Hd x out) : Hd x (out.push y) := Array.push_eq_append ▸ h.app
structure MlJ (x : uO) (n m j : Nat) (out : Array uO) (ia ib : Nat) : Prop where
 h : Hd x out
 a : ia + 1 < n
 b : ib < m
 c : j < ia + ib
theorem MlJ.up (h : MlJ x n m j out ia ib) (hk : k ≤ j) : MlJ x n m k out ia ib := ⟨h.h, h.a, h.b, sx hk h.c⟩
theorem MlJ.pa (h : MlJ x n m j out ia ib) (e : ia + 1 + 1 ≠ n) : MlJ x n m (j + 1) (out.push y) (ia + 1) ib := ⟨h.h.push, sy h.a e, h.b, Nat.add_right_comm ia ib 1 ▸ Nat.succ_lt_succ h.c⟩
theorem MlJ.pb (h : MlJ x n m j out ia ib) (e : ib + 1 ≠ m) : MlJ x n m (j + 1) (out.push y) ia (ib + 1) := ⟨h.h.push, h.a, sy h.b e, Nat.succ_lt_succ h.c⟩
theorem MlJ.aa (h : MlJ x n m j out ia ib) (hk : k ≤ n - ia) (e : ia + k + 1 ≠ n) (W : ia + k ≠ n) : MlJ x n m j (out ++ ys) (ia + k) ib := ⟨h.h.app, sy (sy (Nat.add_le_of_le_sub' (tL (Nat.lt_of_succ_lt h.a)) hk) W) e, h.b, sw h.c (Nat.add_le_add_right (sU _ _) _)⟩
theorem MlJ.ab (h : MlJ x n m j out ia ib) (hk : k ≤ m - ib) (e : ib + k ≠ m) : MlJ x n m j (out ++ ys) ia (ib + k) := ⟨h.h.app, h.a, sy (Nat.add_le_of_le_sub' (tL h.b) hk) e, sw h.c (sj (sU _ _) _)⟩
theorem MlJ.iA (h : MlJ x n m j out ia ib) : ia < n := Nat.lt_of_succ_lt h.a
noncomputable abbrev MlE (x : uO) (a b : Array uO) (j : Nat) (c : Array uO × Nat × Nat × τ) : Prop := MlJ x a.size b.size j c.1 c.2.1 c.2.2.1
noncomputable abbrev MlP (κ : uu) (xs : Array uO) (pd : Array (Nat × Nat × Nat)) (x : uO) (a b : Array uO) (j : Nat) : ForInStep (Ma (Array uO × Nat × Nat × τ)) → uK → Prop := Ws κ xs pd (MlE x a b j) (MlE x a b j) (Hd x)
noncomputable def jj (j : Nat) : Nat → Nat
 | 0 => j
 | _ + 1 => j + 1
theorem le_jj (j : Nat) : ∀ i, j ≤ jj j i
 | 0 => ah _
 | _ + 1 => tP _
theorem jj_le (h : 0 < N) : j + 1 ≤ jj j N := match N, h with
 | _ + 1, _ => ah _
section
variable (hc : dZ uX w A s κ S K) (ha : ∀ i (hi : i < a.size), S a[i]) (hb : ∀ i (hi : i < b.size), S b[i])
include hc ha hb
theorem t_mla (h : MlJ x a.size b.size j out ia ib) : wpS (uM uX w) A E s (mla a b mg ac bc out ia ib) (MlP κ xs pd x a b (j + 1)) (sT κ xs pd g) := by
 refine uh (bx h.b (uh (bx h.iA (uh (qb hc (hb _ h.b) (ha _ h.iA) ?_)))));show wpS _ _ _ _ (if _ then _ else _) _ _;split
 ·exact uh (bx h.b (dw (fun _ => bT h.h.push.app.app) fun e => iW (h.pb e)))
 ·exact uh (bx h.iA (dw (fun _ => bT h.h.push.app.app) fun e => iW (h.pa e)))
theorem t_ml1 (h : MlJ x a.size b.size j out ia ib) : wpS (uM uX w) A E s (ml1 a b ac bc ib ia out mg) (MlP κ xs pd x a b (j + 1)) (sT κ xs pd g) := by
 have t3 : ∀ {mg ac bc ib ia out g}, MlJ x a.size b.size j out ia ib → wpS (uM uX w) A E s (ml3 a b mg ac bc ib ia out) (MlP κ xs pd x a b (j + 1)) (sT κ xs pd g) := fun h =>
  uh (bx h.iA (dw (fun _ => bT h.h.push.app.app) fun e => iW (h.pa e)))
 have t2 : ∀ {mg ac bc ib ia out g}, MlJ x a.size b.size j out ia ib → wpS (uM uX w) A E s (ml2 a b mg ac bc ib ia out) (MlP κ xs pd x a b (j + 1)) (sT κ xs pd g) := fun {mg ac bc ib ia out g} h =>
  uh (bx h.b (dw (fun _ => bT h.h.push.app.app) fun e => uh (bx h.iA (uh (dG (fc hc (ha _ h.iA) (ap (Nat.add_sub_of_le (tL (h.pb (y := x) e).b))) hb) (Nat.sub_pos_of_lt (h.pb (y := x) e).b) fun k hk _ _ => by
   have h' := (h.pb (y := b[ib]'h.b) e).up (tP j);show wpS _ _ _ _ (if _ then _ else _) _ _;split
   ·exact dw (fun _ => bT h'.h.app.app.app) fun e => t3 (h'.ab hk e)
   ·exact t3 h')))))
 refine uh (jA (uh (bx h.b (uh (dG (d7 hc (hb _ h.b) (ap (Nat.add_sub_of_le (tL h.iA))) ha) (Nat.sub_pos_of_lt h.iA) fun k hk _ _ => ?_)))));show wpS _ _ _ _ (if _ then _ else _) _ _;split
 ·exact dw (fun _ => bT h.h.app.app.app) fun e => dw (fun _ => bT h.h.app.app.app) fun W => t2 (h.aa hk e W)
 ·exact t2 h
noncomputable abbrev MlO (κ : uu) (xs : Array uO) (pd : Array (Nat × Nat × Nat)) (x : uO) (a b : Array uO) (j : Nat) : ForInStep (Ma (Array uO × Nat × Nat × τ)) → uK → Prop := Ws κ xs pd (fun _ => False) (MlE x a b j) (Hd x)
theorem t_mlc {c : Ma (Array uO × Nat × Nat × Nat × Nat)} (h : Wl κ xs pd (MlE x a b (j + 1)) (Hd x) c t) : wpS (uM uX w) A E s (mlc a b mg c.1 c.2.1 c.2.2.1 c.2.2.2.1 ac bc) (MlO κ xs pd x a b (j + 1)) t :=
 eu (f := fun r => mlc a b mg r c.2.1 c.2.2.1 c.2.2.2.1 ac bc) h (fun r g h => bT h) fun g h =>
  uh (fS (uh (wpS_mono (fR (I := fun _ => MlE x a b (j + 1)) (J := MlE x a b (j + 1)) (P := Hd x) h (fun i c g W => by
   unfold mlb;split <;> exact t_ml1 hc ha hb (W.up (tP j))) (fun _ h => h)) fun c t h => eu (f := fun r => mle r c.2.1 c.2.2.1 c.2.2.2.1 c.2.2.2.2.1) h (fun r g h => bT h) fun g h => uh (jA (w_go h)))))
theorem t_mld (h : MlJ x a.size b.size j out ia ib) : wpS (uM uX w) A E s (mld a b out ia ib mg) (MlO κ xs pd x a b (j + 1)) (sT κ xs pd g) :=
 uh (wpS_mono (fR (I := fun i => MlE x a b (jj j i)) (J := MlE x a b (j + 1)) (P := Hd x) h (fun i c g W => t_mla hc ha hb (W.up (le_jj j i)))
  fun _ W => W.up (jj_le (Nat.add_pos_right _ (sx (tO _) h.b)))) fun c t h => t_mlc hc ha hb h)
theorem oO (h1 : 0 < a.size) (h2 : 0 < b.size) (h : ∀ res g, Hd b[0] res → Q res (sT κ xs pd g)) : wpS (uM uX w) A E s (g9 a b) Q (sT κ xs pd g) := by
 have o0 : Hd b[0] #[b[0]] := rfl;rw [lg]
 exact uh (fS (uh (bx h2 (dw (fun _ => ul (h _ _ o0.app.app)) fun e1 => dw (fun _ => ul (h _ _ o0.app.app)) fun e2 => uh (wpS_get (uh
  (wpS_mono (fR (I := MlE b[0] a b) (J := fun _ => False) (P := Hd b[0]) ⟨o0, sy h1 e2, sy h2 e1, Nat.zero_lt_one⟩ (fun i c g W => t_mld hc ha hb W)
   (fun _ W => tE _ (Nat.lt_trans W.c (Nat.add_lt_add W.iA W.b)))) fun c t h3 => eu (f := fun r => mlz r _) h3 (fun r g h3 => ul (h _ _ h3)) fun g h3 => h3.elim)))))))
end
end
noncomputable def hA : Array uO → Array uO → StateT uK Sem (Array uO) := sortPriv% PySem.Builtin.mergeHi
noncomputable abbrev Mh1 := Ma (Nat × Nat × Array uO × Nat × Nat)
noncomputable abbrev Mh2 := Ma (Nat × Nat × Array uO × Nat × Nat × Nat)
noncomputable abbrev Mh0 := Ma (Nat × Nat × Array uO × Nat)
noncomputable def mhF (a b out : Array uO) (na nb : Nat) : Array uO := a.extract 0 na ++ b.extract 0 nb ++ out.reverse
noncomputable def mhG (a b out : Array uO) (na nb : Nat) : Array uO := b.extract 0 nb ++ a.extract 0 na ++ out.reverse
noncomputable def mhaA (a b : Array uO) (mg ac bc na nb : Nat) (out : Array uO) : Sm (ForInStep Mh1) := do
 let x ← elem' a (na - 1)
 if (na - 1 == 0) = true then uT (.done (some (mhF a b (out.push x) (na - 1) nb), na - 1, nb, out.push x, ac + 1, 0))
 else if ac + 1 ≥ mg then uT (.done (none, na - 1, nb, out.push x, ac + 1, 0)) else uT (.yield (none, na - 1, nb, out.push x, ac + 1, 0))
noncomputable def mhaB (a b : Array uO) (mg ac bc na nb : Nat) (out : Array uO) : Sm (ForInStep Mh1) := do
 let y ← elem' b (nb - 1)
 if (nb - 1 == 1) = true then uT (.done (some (mhG a b (out.push y) na (nb - 1)), na, nb - 1, out.push y, 0, bc + 1))
 else if bc + 1 ≥ mg then uT (.done (none, na, nb - 1, out.push y, 0, bc + 1)) else uT (.yield (none, na, nb - 1, out.push y, 0, bc + 1))
noncomputable def mha (a b : Array uO) (mg ac bc na nb : Nat) (out : Array uO) : Sm (ForInStep Mh1) := do
 let y ← elem' b (nb - 1)
 let x ← elem' a (na - 1)
 let z ← lt' y x
 match z with
 | some w => if w = true then mhaA a b mg ac bc na nb out else mhaB a b mg ac bc na nb out
 | _ => uT (.done (some (mhF a b out na nb), na, nb, out, ac, bc))
noncomputable def mh3 (a b : Array uO) (mg ac bc na nb : Nat) (out : Array uO) : Sm (ForInStep Mh2) := do
 let x ← elem' a (na - 1)
 if (na - 1 == 0) = true then uT (.done (some (mhF a b (out.push x) (na - 1) nb), na - 1, nb, out.push x, mg, ac, bc))
 else if (decide (ac < 7) && decide (bc < 7)) = true then uT (.done (none, na - 1, nb, out.push x, mg, ac, bc)) else uT (.yield (none, na - 1, nb, out.push x, mg, ac, bc))
noncomputable def mh2b (a b : Array uO) (mg ac na nb : Nat) (out : Array uO) (k : Nat) : Sm (ForInStep Mh2) :=
 if nb - k > 0 then
  if (k == 1) = true then uT (.done (some (mhG a b (out ++ (b.extract k nb).reverse) na k), na, k, out ++ (b.extract k nb).reverse, mg, ac, nb - k))
  else if (k == 0) = true then uT (.done (some (mhF a b (out ++ (b.extract k nb).reverse) na k), na, k, out ++ (b.extract k nb).reverse, mg, ac, nb - k))
  else mh3 a b mg ac (nb - k) na k (out ++ (b.extract k nb).reverse)
 else mh3 a b mg ac (nb - k) na nb out
noncomputable def mh2 (a b : Array uO) (mg ac bc na nb : Nat) (out : Array uO) : Sm (ForInStep Mh2) := do
 let y ← elem' b (nb - 1)
 if (nb - 1 == 1) = true then uT (.done (some (mhG a b (out.push y) na (nb - 1)), na, nb - 1, out.push y, mg, ac, bc))
 else do
  let x ← elem' a (na - 1)
  let z ← du true x b 0 (nb - 1) (nb - 1 - 1)
  match z with
  | some k => mh2b a b mg ac na (nb - 1) (out.push y) k
  | _ => uT (.done (some (mhF a b (out.push y) na (nb - 1)), na, nb - 1, out.push y, mg, ac, bc))
noncomputable def mh1b (a b : Array uO) (bc na nb : Nat) (out : Array uO) (mg k : Nat) : Sm (ForInStep Mh2) :=
 if na - k > 0 then
  if (k == 0) = true then uT (.done (some (mhF a b (out ++ (a.extract k na).reverse) k nb), k, nb, out ++ (a.extract k na).reverse, mg, na - k, bc))
  else mh2 a b mg (na - k) bc k nb (out ++ (a.extract k na).reverse)
 else mh2 a b mg (na - k) bc na nb out
noncomputable def mh1 (a b : Array uO) (ac bc na nb : Nat) (out : Array uO) (mg : Nat) : Sm (ForInStep Mh2) := do
 b8 mg
 let y ← elem' b (nb - 1)
 let z ← du false y a 0 na (na - 1)
 match z with
 | some k => mh1b a b bc na nb out mg k
 | _ => uT (.done (some (mhF a b out na nb), na, nb, out, mg, ac, bc))
noncomputable def mhb (a b : Array uO) (ac bc na nb : Nat) (out : Array uO) (mg : Nat) : Sm (ForInStep Mh2) := if mg > 1 then mh1 a b ac bc na nb out (mg - 1) else mh1 a b ac bc na nb out mg
noncomputable def mhe (r : Option (Array uO)) (na nb : Nat) (out : Array uO) (mg : Nat) : Sm (ForInStep Mh0) := match r with
 | some r => uT (.done (some r, na, nb, out, mg))
 | none => do
  b8 (mg + 1)
  uT (.yield (none, na, nb, out, mg + 1))
noncomputable def mhc (a b : Array uO) (mg : Nat) (r : Option (Array uO)) (na nb : Nat) (out : Array uO) (ac bc : Nat) : Sm (ForInStep Mh0) := match r with
 | some r => uT (.done (some r, na, nb, out, mg))
 | none => do
  liftM (rule "list.sort.gallop")
  let c ← forIn [0:a.size + b.size] ((none, na, nb, out, mg + 1, ac, bc) : Mh2) fun _ c => mhb a b c.2.2.2.2.2.1 c.2.2.2.2.2.2 c.2.1 c.2.2.1 c.2.2.2.1 c.2.2.2.2.1
  mhe c.1 c.2.1 c.2.2.1 c.2.2.2.1 c.2.2.2.2.1
noncomputable def mhd (a b : Array uO) (na nb : Nat) (out : Array uO) (mg : Nat) : Sm (ForInStep Mh0) := do
 let c ← forIn [0:a.size + b.size] ((none, na, nb, out, 0, 0) : Mh1) fun _ c => mha a b mg c.2.2.2.2.1 c.2.2.2.2.2 c.2.1 c.2.2.1 c.2.2.2.1
 mhc a b mg c.1 c.2.1 c.2.2.1 c.2.2.2.1 c.2.2.2.2.1 c.2.2.2.2.2
theorem lh (a b : Array uO) : hA a b = (do
 liftM (rule "list.sort.merge-hi")
 let x ← elem' a (a.size - 1)
 if (a.size - 1 == 0) = true then uT (mhF a b #[x] (a.size - 1) b.size)
 else if (b.size == 1) = true then uT (mhG a b #[x] (a.size - 1) b.size)
 else do
  let t ← get;let c ← forIn [0:a.size + b.size] ((none, a.size - 1, b.size, #[x], gallopOf t) : Mh0) fun _ c => mhd a b c.2.1 c.2.2.1 c.2.2.2.1 c.2.2.2.2
  mlz c.1 "internal:list.sort.merge-bound") := by
 kernel_rfl!
section
variable {κ : uu} {S : uO → Prop} {K : uO → Nat} {xs : Array uO} {pd : Array (Nat × Nat × Nat)} {g : Nat} {a b out : Array uO} {x : uO} {n m j mg ac bc na nb : Nat} {τ : Type}
def HdK (K : uO → Nat) (a : Array uO) (x : uO) (res : Array uO) : Prop := (∀ i (hi : i < a.size), K x < K a[i]) → Hd x res
theorem rb (h0 : 0 < b.size) (W : 0 < n) : Hd b[0] (b.extract 0 n ++ ys) :=
 Hd.app (x := b[0]) (Array.getElem?_extract_of_lt (Nat.lt_min.mpr ⟨W, h0⟩))
theorem hdF (h0 : 0 < b.size) (W : 0 < nb) (hk : na = 0) : HdK K a b[0] (mhF a b out na nb) := fun _ => by
 subst hk;unfold mhF;rw [Array.append_assoc, Array.extract_zero, Array.empty_append];exact rb h0 W
theorem hdG (h0 : 0 < b.size) (W : 0 < nb) : HdK K a b[0] (mhG a b out na nb) := fun _ => (rb h0 W).app
structure MhJ (n m j na nb : Nat) : Prop where
 a : 0 < na
 a' : na ≤ n
 b : 1 < nb
 b' : nb ≤ m
 c : na + nb + j < n + m
theorem MhJ.dn (h : MhJ n m j na nb) (hk : k ≤ j) : MhJ n m k na nb := ⟨h.a, h.a', h.b, h.b', sx (sj hk _) h.c⟩
theorem cH (h : 0 < p) : p - 1 < p := Nat.sub_lt h Nat.zero_lt_one
theorem mh_p (h : 0 < p) : p + q + j = p - 1 + q + (j + 1) := match p, h with
 | p + 1, _ => (congrArg (· + j) (Nat.add_right_comm p 1 q)).trans (Nat.add_right_comm (p + q) 1 j)
theorem mh_q (h : 0 < q) : p + q + j = p + (q - 1) + (j + 1) := match q, h with
 | q + 1, _ => Nat.add_right_comm (p + q) 1 j
theorem MhJ.pa (h : MhJ n m j na nb) (e : na - 1 ≠ 0) : MhJ n m (j + 1) (na - 1) nb := ⟨Nat.pos_of_ne_zero e, tH (Nat.sub_le _ _) h.a', h.b, h.b', mh_p h.a ▸ h.c⟩
theorem MhJ.pb (h : MhJ n m j na nb) (e : nb - 1 ≠ 1) : MhJ n m (j + 1) na (nb - 1) := ⟨h.a, h.a', sy (Nat.sub_pos_of_lt h.b) (Ne.symm e), tH (Nat.sub_le _ _) h.b', mh_q (Nat.lt_of_succ_lt h.b) ▸ h.c⟩
theorem MhJ.aa (h : MhJ n m j na nb) (hk : k ≤ na) (e : k ≠ 0) : MhJ n m j k nb := ⟨Nat.pos_of_ne_zero e, tH hk h.a', h.b, h.b', sx (Nat.add_le_add_right (Nat.add_le_add_right hk _) _) h.c⟩
theorem MhJ.ab (h : MhJ n m j na nb) (hk : k ≤ nb) (e : k ≠ 1) (e0 : k ≠ 0) : MhJ n m j na k := ⟨h.a, h.a', sy (Nat.pos_of_ne_zero e0) (Ne.symm e), tH hk h.b', sx (Nat.add_le_add_right (sj hk _) _) h.c⟩
theorem MhJ.b0 (h : MhJ n m j na nb) : 0 < nb := Nat.lt_of_succ_lt h.b
theorem MhJ.ai (h : MhJ n m j na nb) : na - 1 < n := sw (cH h.a) h.a'
theorem MhJ.bi (h : MhJ n m j na nb) : nb - 1 < m := sw (cH h.b0) h.b'
theorem MhJ.b1 (h : MhJ n m j na nb) : 0 < nb - 1 := Nat.sub_pos_of_lt h.b
noncomputable abbrev MhE (a b : Array uO) (j : Nat) (c : Nat × Nat × τ) : Prop := MhJ a.size b.size j c.1 c.2.1
noncomputable abbrev MhP (κ : uu) (K : uO → Nat) (xs : Array uO) (pd : Array (Nat × Nat × Nat)) (x : uO) (a b : Array uO) (j : Nat) : ForInStep (Ma (Nat × Nat × τ)) → uK → Prop := Ws κ xs pd (MhE a b j) (MhE a b j) (HdK K a x)
section
variable (hc : dZ uX w A s κ S K) (ha : ∀ i (hi : i < a.size), S a[i]) (hb : ∀ i (hi : i < b.size), S b[i]) (h0 : 0 < b.size)
include hc ha hb
theorem t_mha (h : MhJ a.size b.size j na nb) : wpS (uM uX w) A E s (mha a b mg ac bc na nb out) (MhP κ K xs pd b[0] a b (j + 1)) (sT κ xs pd g) := by
 refine uh (bx h.bi (uh (bx h.ai (uh (qb hc (hb _ h.bi) (ha _ h.ai) ?_)))));show wpS _ _ _ _ (if _ then _ else _) _ _;split
 ·exact uh (bx h.ai (dw (fun e => bT (hdF h0 h.b0 e)) fun e => iW (h.pa e)))
 ·exact uh (bx h.bi (dw (fun e => bT (hdG h0 h.b1)) fun e => iW (h.pb e)))
theorem t_mh1 (h : MhJ a.size b.size j na nb) : wpS (uM uX w) A E s (mh1 a b ac bc na nb out mg) (MhP κ K xs pd b[0] a b (j + 1)) (sT κ xs pd g) := by
 have t3 : ∀ {mg ac bc na nb out g}, MhJ a.size b.size j na nb → wpS (uM uX w) A E s (mh3 a b mg ac bc na nb out) (MhP κ K xs pd b[0] a b (j + 1)) (sT κ xs pd g) := fun h =>
  uh (bx h.ai (dw (fun e => bT (hdF h0 h.b0 e)) fun e => iW (h.pa e)))
 have t2 : ∀ {mg ac bc na nb out g}, MhJ a.size b.size j na nb → wpS (uM uX w) A E s (mh2 a b mg ac bc na nb out) (MhP κ K xs pd b[0] a b (j + 1)) (sT κ xs pd g) := fun {mg ac bc na nb out g} h =>
  uh (bx h.bi (dw (fun _ => bT (hdG h0 h.b1)) fun e => uh (bx h.ai (uh (dG (fc hc (ha _ h.ai) (tH (ap (Nat.zero_add _)) (h.pb e).b') hb) (cH h.b1) fun k hk h7 _ => by
   have h' := (h.pb e).dn (tP j);show wpS _ _ _ _ (if _ then _ else _) _ _;split
   ·refine dw (fun e1 => bT (hdG h0 (e1 ▸ Nat.zero_lt_one))) fun e1 => dw (fun W => bT fun q => absurd (q _ h.ai) ?_) fun W => t3 (h'.ab hk e1 W)
    have := h7 (W ▸ h'.b0);rw [W, show b.getD (0 + 0) default = b[0] by simp [Array.getD, h0]] at this;exact of_decide_eq_false this
   ·exact t3 h')))))
 refine uh (jA (uh (bx h.bi (uh (dG (d7 hc (hb _ h.bi) (tH (ap (Nat.zero_add _)) h.a') ha) (cH h.a) fun k hk _ _ => ?_)))));show wpS _ _ _ _ (if _ then _ else _) _ _;split
 ·exact dw (fun e => bT (hdF h0 h.b0 e)) fun e => t2 (h.aa hk e)
 ·exact t2 h
noncomputable abbrev MhO (κ : uu) (K : uO → Nat) (xs : Array uO) (pd : Array (Nat × Nat × Nat)) (x : uO) (a b : Array uO) (j : Nat) : ForInStep (Ma (Nat × Nat × τ)) → uK → Prop := Ws κ xs pd (fun _ => False) (MhE a b j) (HdK K a x)
theorem t_mhc {c : Mh1} (h : Wl κ xs pd (MhE a b (j + 1)) (HdK K a b[0]) c t) : wpS (uM uX w) A E s (mhc a b mg c.1 c.2.1 c.2.2.1 c.2.2.2.1 ac bc) (MhO κ K xs pd b[0] a b (j + 1)) t :=
 eu (f := fun r => mhc a b mg r c.2.1 c.2.2.1 c.2.2.2.1 ac bc) h (fun r g h => bT h) fun g h =>
  uh (fS (uh (wpS_mono (fR (I := fun _ => MhE a b (j + 1)) (J := MhE a b (j + 1)) (P := HdK K a b[0]) h (fun i c g W => by
   unfold mhb;split <;> exact t_mh1 hc ha hb h0 (W.dn (tP j))) (fun _ h => h)) fun c t h => eu (f := fun r => mhe r c.2.1 c.2.2.1 c.2.2.2.1 c.2.2.2.2.1) h (fun r g h => bT h) fun g h => uh (jA (w_go h)))))
theorem t_mhd (h : MhJ a.size b.size j na nb) : wpS (uM uX w) A E s (mhd a b na nb out mg) (MhO κ K xs pd b[0] a b (j + 1)) (sT κ xs pd g) :=
 uh (wpS_mono (fR (I := fun i => MhE a b (jj j i)) (J := MhE a b (j + 1)) (P := HdK K a b[0]) h (fun i c g W => t_mha hc ha hb h0 (W.dn (le_jj j i)))
  fun _ W => W.dn (jj_le (Nat.add_pos_right _ h0))) fun c t h => t_mhc hc ha hb h0 h)
theorem oP (h1 : 0 < a.size) (h : ∀ res g, HdK K a b[0] res → Q res (sT κ xs pd g)) : wpS (uM uX w) A E s (hA a b) Q (sT κ xs pd g) := by
 rw [lh]
 exact uh (fS (uh (bx (cH h1) (dw (fun e => ul (h _ _ (hdF h0 h0 e))) fun e1 => dw (fun _ => ul (h _ _ (hdG h0 h0))) fun e2 => uh (wpS_get (uh
  (wpS_mono (fR (I := MhE a b) (J := fun _ => False) (P := HdK K a b[0]) ⟨Nat.pos_of_ne_zero e1, Nat.sub_le _ _, sy h0 (Ne.symm e2), ah _, Nat.add_lt_add_right (cH h1) _⟩ (fun i c g W => t_mhd hc ha hb h0 W)
   (fun _ W => Nat.not_lt.mpr (Nat.le_add_left _ _) W.c)) fun c t h3 => eu (f := fun r => mlz r _) h3 (fun r g h3 => ul (h _ _ h3)) fun g h3 => h3.elim)))))))
end
end
noncomputable def laid (sa : Nat) (xs merged : Array uO) : Array uO := merged.toList.zipIdx.foldl (fun a (p, j) => a.setIfInBounds (sa + j) p) xs
noncomputable def ma4 (sa : Nat) (merged : Array uO) : Sm Bool := do
 modify fun s => setArr s (laid sa (arrOf s) merged)
 return (failedOf (← get)).isNone
noncomputable def ma3 (xs : Array uO) (sa sb na nb : Nat) : Sm Bool :=
 if na ≤ nb then g9 (xs.extract sa sb) (xs.extract sb (sb + nb)) >>= ma4 sa else hA (xs.extract sa sb) (xs.extract sb (sb + nb)) >>= ma4 sa
noncomputable def ma2 (xs : Array uO) (sa sb na : Nat) : Option Nat → Sm Bool
 | some nb => if (nb == 0) = true then uT true else ma3 xs sa sb na nb
 | _ => uT false
noncomputable def ma1 (xs : Array uO) (sa sb na nb : Nat) : Option Nat → Sm Bool
 | some k => if (na - k == 0) = true then uT true else do
  let y ← elem' xs (sa + k + (na - k) - 1)
  let z ← du true y xs sb nb (nb - 1)
  ma2 xs (sa + k) sb (na - k) z
 | _ => uT false
noncomputable def ma0 (s : uK) (i : Nat) : Option (Nat × Nat × Nat) × Option (Nat × Nat × Nat) → Sm Bool
 | (some (sa, na, power), some (sb, nb, _)) => do
  set (setPending s (((pendingOf s).setIfInBounds i (sa, na + nb, power)).eraseIdxIfInBounds (i + 1)))
  let x ← elem' (arrOf s) sb
  let z ← du false x (arrOf s) sa na 0
  ma1 (arrOf s) sa sb na nb z
 | _ => liftM (unsupported "internal:list.sort.pending" : Sem Bool)
theorem li (i : Nat) : mergeAt' i = (do
 let s ← get
 ma0 s i ((pendingOf s)[i]?, (pendingOf s)[i + 1]?)) := by
 kernel_rfl!
section
variable {κ : uu} {K : uO → Nat} {a₀ xs ys : Array uO} {pd : Array (Nat × Nat × Nat)} {g : Nat}
noncomputable def kk (K : uO → Nat) (xs : Array uO) (i : Nat) : Nat := K (xs.getD i default)
def FM (K : uO → Nat) (xs : Array uO) (lo hi : Nat) : Prop := ∀ j, lo ≤ j → j < hi → kk K xs lo ≤ kk K xs j
theorem getD_at (h : i < xs.size) : xs.getD i default = xs[i] := dif_pos h
theorem ee (h : i < xs.size) : kk K xs i = K xs[i] := congrArg K (getD_at h)
theorem cu (h : xs[i]? = ys[j]?) : kk K xs i = kk K ys j := by
 unfold kk;rw [Array.getD_eq_getD_getElem?, Array.getD_eq_getD_getElem?, h]
theorem cg (hp : xs.Perm a₀) : ∀ i (hi : i < xs.size), xs[i] ∈ a₀ := fun i hi => hp.mem_iff.mp (Array.getElem_mem hi)
theorem g7 (hp : xs.Perm a₀) (nd : (a₀.toList.map K).Nodup) (hi : i < xs.size) (hj : j < xs.size) (h9 : i ≠ j) : kk K xs i ≠ kk K xs j := by
 have h7 : (xs.toList.map K).Nodup := (tY.map K (Array.perm_iff_toList_perm.mp hp)).nodup_iff.mpr nd;rw [ee hi, ee hj];intro e;apply h9;have W : i < (xs.toList.map K).length := by simpa using hi
 refine (List.getElem?_inj W h7).mp ?_;simp [hi, hj, e]
theorem pW {st W : uK} {Q : PUnit → uK → Prop} (h : Q ⟨⟩ W) : wpS (uM uX w) A E s (set W : StateT uK Sem PUnit) Q st := by
 unfold wpS; rw [StateT.run_set]; exact ae ⟨rfl, h⟩
theorem ic (k : Nat) : ∀ (l : List uO) (m : Nat) (xs : Array uO), ((l.zipIdx m).foldl (fun a (p : uO × Nat) => a.setIfInBounds (k + p.2) p.1) xs).size = xs.size ∧ (0 < k + m → ((l.zipIdx m).foldl (fun a (p : uO × Nat) => a.setIfInBounds (k + p.2) p.1) xs)[0]? = xs[0]?)
 | [], m, xs => ⟨rfl, fun _ => rfl⟩
 | x :: l, m, xs => by
  have W := ic k l (m + 1) (xs.setIfInBounds (k + m) x);rw [List.zipIdx_cons, List.foldl_cons];refine ⟨W.1.trans Array.size_setIfInBounds, fun h => (W.2 (Nat.succ_pos _)).trans (Array.getElem?_setIfInBounds_ne (Nat.ne_of_gt h))⟩
theorem oZ (h : Hd x res) (h0 : 0 < xs.size) : (laid 0 xs res)[0]? = some x := by
 unfold Hd at h;unfold laid;rw [← sd] at h;cases hl : res.toList with
 | nil => rw [hl] at h; cases h
 | cons y l =>
  rw [hl] at h;refine ((ic 0 l 1 _).2 Nat.one_pos).trans ?_;rw [Array.getElem?_setIfInBounds_self_of_lt h0];exact h
def Front (K : uO → Nat) (a₀ ys : Array uO) : Prop := ys.size = a₀.size ∧ ∃ x, ys[0]? = some x ∧ x ∈ a₀ ∧ ∀ y ∈ a₀, K x ≤ K y
theorem Front.at (hp : xs.Perm a₀) (hi : i < xs.size) (hz : ys.size = xs.size) (e : ys[0]? = some xs[i]) (hm : ∀ j, j < xs.size → kk K xs i ≤ kk K xs j) : Front K a₀ ys :=
 ⟨hz.trans hp.size_eq, xs[i], e, cg hp i hi, fun y hy => by
  obtain ⟨j, W, rfl⟩ := Array.getElem_of_mem (hp.mem_iff.mpr hy);exact ee (K := K) hi ▸ ee (K := K) W ▸ hm j W⟩
theorem Front.of (hp : xs.Perm a₀) (h0 : 0 < xs.size) (hm : ∀ i, i < xs.size → kk K xs 0 ≤ kk K xs i) : Front K a₀ xs := .at hp h0 rfl (rN h0) hm
structure MA (K : uO → Nat) (a₀ xs : Array uO) (n1 n2 : Nat) : Prop where
 hp : xs.Perm a₀
 hz : n1 + n2 = xs.size
 h1 : 0 < n1
 h2 : 0 < n2
 f1 : FM K xs 0 n1
 f2 : FM K xs n1 (n1 + n2)
namespace MA
variable {n1 n2 : Nat}
theorem lt (m : MA K a₀ xs n1 n2) : n1 < xs.size := m.hz ▸ Nat.lt_add_of_pos_right m.h2
theorem le (m : MA K a₀ xs n1 n2) : n1 ≤ xs.size := tL m.lt
theorem pos (m : MA K a₀ xs n1 n2) : 0 < xs.size := Nat.lt_trans m.h1 m.lt
theorem min (m : MA K a₀ xs n1 n2) (h1 : kk K xs i ≤ kk K xs 0) (h2 : kk K xs i ≤ kk K xs n1) : ∀ j, j < xs.size → kk K xs i ≤ kk K xs j := fun j W => by
 rcases Nat.lt_or_ge j n1 with q | q
 ·exact tH h1 (m.f1 j (tO _) q)
 ·exact tH h2 (m.f2 j q (m.hz ▸ W))
theorem front (m : MA K a₀ xs n1 n2) (h : kk K xs 0 ≤ kk K xs n1) : Front K a₀ xs := .of m.hp m.pos (m.min (ah _) h)
end MA
section
variable {n1 n2 k : Nat} {Q : Bool → uK → Prop} (hc : dZ uX w A s κ (· ∈ a₀) K) (m : MA K a₀ xs n1 n2) (hk : k ≤ n1) (hz : 0 < k → kk K xs 0 ≤ kk K xs n1) (h1 : k = 0 → kk K xs n1 < kk K xs 0) (h : ∀ ys g, Front K a₀ ys → Q true (sT κ ys pd g))
include hc m hk hz h1 h
theorem t_ma4 (W : k = 0 → Hd (xs[n1]'m.lt) res) : wpS (uM uX w) A E s (ma4 (0 + k) res) Q (sT κ xs pd g) := by
 have hf := ic (0 + k) res.toList 0 xs;refine uh (wpS_modify (uh (wpS_get (ul (h (laid (0 + k) xs res) g ?_)))));rcases Nat.eq_zero_or_pos k with q | q
 ·subst q;exact .at m.hp m.lt hf.1 (oZ (W rfl) m.pos) (m.min (tL (h1 rfl)) (ah _))
 ·exact .at m.hp m.pos hf.1 ((hf.2 (sw q (Nat.le_add_left _ _))).trans (rN m.pos)) (m.min (ah _) (hz q))
theorem t_ma3 (hn : n1 - k ≠ 0) (hb : nb ≠ 0) (x0 : nb ≤ n2) : wpS (uM uX w) A E s (ma3 xs (0 + k) n1 (n1 - k) nb) Q (sT κ xs pd g) := by
 have hS := cg m.hp;have hx : ∀ i (hi : i < (xs.extract (0 + k) n1).size), (xs.extract (0 + k) n1)[i] ∈ a₀ := fun i hi => Array.getElem_extract hi ▸ hS _ _
 have hy : ∀ i (hi : i < (xs.extract n1 (n1 + nb)).size), (xs.extract n1 (n1 + nb))[i] ∈ a₀ := fun i hi => Array.getElem_extract hi ▸ hS _ _
 have h7 : 0 < (xs.extract (0 + k) n1).size := by rw [Array.size_extract, Nat.min_eq_left m.le, Nat.zero_add]; exact Nat.pos_of_ne_zero hn
 have W : 0 < (xs.extract n1 (n1 + nb)).size := by rw [Array.size_extract, Nat.min_eq_left (m.hz ▸ sj x0 n1), Nat.add_sub_cancel_left]; exact Nat.pos_of_ne_zero hb
 have e : (xs.extract n1 (n1 + nb))[0] = xs[n1]'m.lt := Array.getElem_extract W;unfold ma3;split
 ·exact uh (oO (xs := xs) hc hx hy h7 W fun res g hr => t_ma4 hc m hk hz h1 h fun _ => e ▸ hr)
 ·refine uh (oP (xs := xs) hc hx hy W h7 fun res g hr => t_ma4 hc m hk hz h1 h fun q => e ▸ hr fun i hi => ?_);have h9 : 0 + k + i < n1 := Nat.add_lt_of_lt_sub' (by rw [Array.size_extract, Nat.min_eq_left m.le] at hi; exact hi);rw [e, Array.getElem_extract hi];exact ee (K := K) m.lt ▸ ee (K := K) (Nat.lt_trans h9 m.lt) ▸ sw (h1 q) (m.f1 _ (tO _) h9)
theorem t_ma1 : wpS (uM uX w) A E s (ma1 xs 0 n1 n1 n2 (some k)) Q (sT κ xs pd g) := by
 have hS := cg m.hp;refine dw (fun e => ul (h _ _ (m.front (hz (sw m.h1 (Nat.le_of_sub_eq_zero e)))))) fun e => ?_
 have ei : 0 + k + (n1 - k) - 1 = n1 - 1 := by rw [Nat.zero_add, Nat.add_sub_of_le hk]
 have hi : 0 + k + (n1 - k) - 1 < xs.size := ei ▸ sx (Nat.sub_le _ _) m.lt;refine uh (bx hi (uh (dG (fc (xs := xs) hc (hS _ hi) (ap m.hz) hS) (cH m.h2) fun j hj W _ => dw (fun e2 => ul (h _ _ (m.front ?_))) fun e2 => t_ma3 hc m hk hz h1 h e e2 hj)));rcases Nat.eq_zero_or_pos k with q | q
 ·subst e2;have z : ¬ kk K xs n1 < kk K xs (0 + k + (n1 - k) - 1) := ee (K := K) hi ▸ of_decide_eq_false (W m.h2);exact absurd (sw (h1 q) (m.f1 _ (tO _) (ei ▸ cH m.h1))) z
 ·exact hz q
end
theorem er {α : Type} {x y z : α} : ((#[x, y] : Array α).setIfInBounds 0 z).eraseIdxIfInBounds (0 + 1) = #[z] := by simp
theorem oQ (hc : dZ uX w A s κ (· ∈ a₀) K) (m : MA K a₀ xs n1 n2)
  (h : ∀ ys g, Front K a₀ ys → Q true (sT κ ys #[(0, n1 + n2, p1)] g)) : wpS (uM uX w) A E s (mergeAt' 0) Q (sT κ xs #[(0, n1, p1), (n1, n2, p2)] g) := by
 have hS := cg m.hp;rw [li];refine uh (wpS_get (uh (pW ?_)));show wpS _ _ _ _ _ _ (sT κ xs ((#[(0, n1, p1), (n1, n2, p2)].setIfInBounds 0 (0, n1 + n2, p1)).eraseIdxIfInBounds (0 + 1)) g);rw [er];refine uh (bx m.lt (uh (dG (d7 (xs := xs) hc (hS _ m.lt) (tH (ap (Nat.zero_add _)) m.le) hS) m.h1 fun k hk h7 W => ?_)));refine t_ma1 hc m hk (fun q => ?_) (fun q => ?_) h
 ·have z : ¬ K (xs[n1]'m.lt) < kk K xs (0 + 0) := of_decide_eq_false (Bool.not_eq_true' _ ▸ W rfl q);exact ee (K := K) m.lt ▸ sX z
 ·subst q;have z : K (xs[n1]'m.lt) < kk K xs (0 + 0) := of_decide_eq_true (Bool.not_eq_false' _ ▸ h7 m.h1);exact ee (K := K) m.lt ▸ z
end
noncomputable def asB (lo : Nat) (c : AscSt) : Sm (ForInStep AscSt) := do
 let x ← ltAt' (lo + c.2) (lo + c.2 - 1)
 match x with
 | some smaller => if smaller = true then uT (.done (none, c.2)) else uT (.yield (none, c.2 + 1))
 | _ => uT (.done (some none, c.2))
noncomputable def asc (lo a nrem : Nat) : Sm AscSt := forIn [a:nrem] ((none, a) : AscSt) fun _ c => asB lo c
noncomputable def cr3 (lo n nrem : Nat) : Sm (Option Nat) := do
 reverseSlice' lo (lo + n)
 let c ← asc lo n nrem
 gFin c.1 c.2
noncomputable def deC (n q : Nat) : Option Bool → Sm (ForInStep DescSt)
 | some larger => if larger = true then uT (.done (none, n, q)) else uT (.yield (none, n + 1, q + 1))
 | _ => uT (.done (some none, n, q))
noncomputable def deY (lo n q : Nat) : Sm (ForInStep DescSt) := if q > 0 then reverseSlice' (lo + n - (q + 1)) (lo + n) >>= fun _ => uT (.yield (none, n + 1, 0)) else uT (.yield (none, n + 1, 0))
noncomputable def deX (lo n q : Nat) : Option Bool → Sm (ForInStep DescSt)
 | some smaller => if smaller = true then deY lo n q else ltAt' (lo + n - 1) (lo + n) >>= deC n q
 | _ => uT (.done (some none, n, q))
noncomputable def deB (lo : Nat) (c : DescSt) : Sm (ForInStep DescSt) := ltAt' (lo + c.2.1) (lo + c.2.1 - 1) >>= deX lo c.2.1 c.2.2
noncomputable def crT (lo nrem : Nat) (r : Option (Option Nat)) (n q : Nat) : Sm (Option Nat) := match r with
 | some r => uT r
 | none => if q > 0 then reverseSlice' (lo + n - (q + 1)) (lo + n) >>= fun _ => cr3 lo n nrem else cr3 lo n nrem
noncomputable def cr2 (lo n nrem : Nat) : Sm (Option Nat) := do
 liftM (rule "list.sort.descending-run")
 let c ← forIn [n + 1:nrem] ((none, n + 1, 0) : DescSt) fun _ c => deB lo c
 crT lo nrem c.1 c.2.1 c.2.2
noncomputable def cr1 (lo nrem n : Nat) : Option Bool → Sm (Option Nat)
 | some rose => if rose = true then uT (some n) else reverseSlice' lo (lo + n) >>= fun _ => cr2 lo n nrem
 | _ => uT none
noncomputable def cr0 (lo nrem : Nat) (r : Option (Option Nat)) (n : Nat) : Sm (Option Nat) := match r with
 | some r => uT r
 | none => if (n == nrem) = true then uT (some n) else if n > 1 then ltAt' lo (lo + n - 1) >>= cr1 lo nrem n else cr2 lo n nrem
theorem ke (lo nrem : Nat) : countRun' lo nrem = asc lo 1 nrem >>= fun c => cr0 lo nrem c.1 c.2 := by
 kernel_rfl!
noncomputable abbrev BiS := Option Bool × Nat × Nat
noncomputable def biC (l r m : Nat) : Option Bool → Sm (ForInStep BiS)
 | some less => if less = true then uT (.yield (none, l, m)) else uT (.yield (none, m + 1, r))
 | _ => uT (.done (some false, l, r))
noncomputable def biB (lo k : Nat) (c : BiS) : Sm (ForInStep BiS) := if c.2.1 ≥ c.2.2 then uT (.done (none, c.2.1, c.2.2)) else ltAt' (lo + k) (lo + (c.2.1 + c.2.2) / 2) >>= biC c.2.1 c.2.2 ((c.2.1 + c.2.2) / 2)
noncomputable def biA (lo k : Nat) (r : Option Bool) (l : Nat) : Sm (ForInStep (Option Bool × PUnit)) := match r with
 | some r => uT (.done (some r, ⟨⟩))
 | none => moveDown' (lo + k) (lo + l) >>= fun _ => uT (.yield (none, ⟨⟩))
noncomputable def biD (lo k : Nat) : Sm (ForInStep (Option Bool × PUnit)) := do
 let c ← forIn [0:k] ((none, 0, k) : BiS) fun _ c => biB lo k c
 biA lo k c.1 c.2.1
noncomputable def biE (r : Option Bool) : Sm Bool := match r with
 | some r => uT r
 | none => uT true
theorem mZ (lo n ok : Nat) : binarySort' lo n ok = (do
 let c ← forIn [max ok 1:n] ((none, ⟨⟩) : Option Bool × PUnit) fun k _ => biD lo k
 biE c.1) := by
 kernel_rfl!
section
variable {κ : uu} {K : uO → Nat} {a₀ xs ys : Array uO} {pd : Array (Nat × Nat × Nat)} {g : Nat} {lo nrem n : Nat}
theorem gR (hc : dZ uX w A s κ (· ∈ a₀) K) (hp : xs.Perm a₀) (hi : i < xs.size) (W : j < xs.size) (h : Q (some (decide (kk K xs i < kk K xs j))) (sT κ xs pd g)) :
  wpS (uM uX w) A E s (ltAt' i j) Q (sT κ xs pd g) := by
 rw [ltAt'_eq];exact uh (wpS_get (uh (bx hi (uh (bx W (qb hc (cg hp i hi) (cg hp j W) (ee (K := K) hi ▸ ee (K := K) W ▸ h)))))))
theorem t_rev (h : Q () (sT κ (mirror xs i j ((j - i) / 2)) pd g)) : wpS (uM uX w) A E s (reverseSlice' i j) Q (sT κ xs pd g) := by
 rw [reverseSlice'_eq];exact wpS_modify h
theorem lo_le (h : 0 < n) : lo ≤ lo + n - 1 := Nat.le_sub_one_of_lt (Nat.lt_add_of_pos_right h)
theorem h8 (h : 0 < n) : lo + n - 1 < lo + n := cH (sw h (Nat.le_add_left _ _))
theorem FM.ext (f : FM K xs lo (lo + n)) (h1 : 0 < n) (h : ¬ kk K xs (lo + n) < kk K xs (lo + n - 1)) : FM K xs lo (lo + (n + 1)) := fun j h2 h3 =>
 (Nat.lt_succ_iff_lt_or_eq.mp h3).elim (f j h2) fun e => e ▸ tH (f _ (lo_le h1) (h8 h1)) (sX h)
theorem FM.one : FM K xs lo (lo + 1) := fun j h1 h2 => to h1 (Nat.le_of_lt_succ h2) ▸ ah _
def LM (K : uO → Nat) (xs : Array uO) (lo hi : Nat) : Prop := ∀ j, lo ≤ j → j < hi → kk K xs (hi - 1) ≤ kk K xs j
theorem LM.ext (f : LM K xs lo (lo + n)) (h : kk K xs (lo + n) < kk K xs (lo + n - 1)) : LM K xs lo (lo + (n + 1)) := fun j h2 h3 =>
 (Nat.lt_succ_iff_lt_or_eq.mp h3).elim (fun h3 => tH (tL h) (f j h2 h3)) fun e => e ▸ ah _
theorem qI {a b : Nat} (h : a ≤ b) : max a b = b := Nat.max_eq_right h
section
variable {Q : Option Nat → uK → Prop} (hc : dZ uX w A s κ (· ∈ a₀) K) (hz : lo + nrem ≤ a₀.size)
noncomputable abbrev CrQ (κ : uu) (K : uO → Nat) (a₀ xs : Array uO) (pd : Array (Nat × Nat × Nat)) (g lo nrem : Nat) (Q : Option Nat → uK → Prop) : Prop := ∀ ys m, 1 ≤ m → m ≤ nrem → ys.Perm a₀ → FM K ys lo (lo + m) → (∀ i, i < lo → ys[i]? = xs[i]?) → Q (some m) (sT κ ys pd g)
include hc hz
theorem n9 (hp : xs.Perm a₀) (h : j < nrem) : lo + j < xs.size := hp.size_eq ▸ sw (Nat.add_lt_add_left h lo) hz
theorem t_asc {a : Nat} {Q : AscSt → uK → Prop} (hp : xs.Perm a₀) (h1 : 1 ≤ a) (ha : a ≤ nrem) (f : FM K xs lo (lo + a))
  (h : ∀ n, a ≤ n → n ≤ nrem → FM K xs lo (lo + n) → (n < nrem → kk K xs (lo + n) < kk K xs (lo + n - 1)) → Q (none, n) (sT κ xs pd g)) :
  wpS (uM uX w) A E s (asc lo a nrem) Q (sT κ xs pd g) := by
 refine wpS_forRange (I := fun j c t => t = sT κ xs pd g ∧ c = (none, j) ∧ FM K xs lo (lo + j)) (fun j c t h7 hj hI => ?_) (fun c t hI => ?_) ⟨rfl, rfl, f⟩
 ·obtain ⟨rfl, rfl, f⟩ := hI;have W := sw h1 h7;refine uh (gR hc hp (n9 hc hz hp hj) (Nat.lt_trans (h8 W) (n9 hc hz hp hj)) ?_);show wpS _ _ _ _ (if _ then _ else _) _ _;split
  ·rename_i e;exact ul (h j h7 (tL hj) f fun _ => of_decide_eq_true e)
  ·rename_i e;exact ul ⟨rfl, rfl, f.ext W fun q => e (decide_eq_true q)⟩
 ·obtain ⟨rfl, rfl, f⟩ := hI;rw [qI ha] at f ⊢;exact h nrem ha (ah _) f fun q => absurd q (tE _)
theorem t_cr3 (hp : xs.Perm a₀) (h1 : 1 ≤ n) (hn : n ≤ nrem) (f : LM K xs lo (lo + n)) (h : CrQ κ K a₀ xs pd g lo nrem Q) : wpS (uM uX w) A E s (cr3 lo n nrem) Q (sT κ xs pd g) := by
 have e := fun k => getElem?_mirror_all (xs := xs) (i := lo) (j := lo + n) (hp.size_eq ▸ tH (sj hn lo) hz) k
 have W := (mirror_perm xs lo (lo + n) ((lo + n - lo) / 2)).trans hp;refine uh (t_rev (uh (t_asc hc hz W h1 hn (fun j h2 h3 => ?_) fun m h7 h9 hf _ => ul (h _ m (tH h1 h7) h9 W hf fun i hi => (e i).trans (if_neg fun q => Nat.not_lt.mpr q.1 hi)))));rw [cu ((e lo).trans (if_pos ⟨ah _, Nat.lt_add_of_pos_right h1⟩)), cu ((e j).trans (if_pos ⟨h2, h3⟩))];have em : lo + (lo + n) - 1 - lo = lo + n - 1 := (Nat.sub_right_comm _ _ _).trans (congrArg (· - 1) (Nat.add_sub_cancel_left _ _));exact em ▸ f _ (Nat.le_sub_of_add_le (Nat.le_sub_one_of_lt (Nat.add_lt_add_left h3 lo))) (sx (Nat.sub_le_sub_left h2 _) (em ▸ h8 h1))
theorem t_cr2 (nd : (a₀.toList.map K).Nodup) (hp : xs.Perm a₀) (hn : 2 ≤ nrem) (f : kk K xs (lo + 1) < kk K xs (lo + 1 - 1)) (h : CrQ κ K a₀ xs pd g lo nrem Q) : wpS (uM uX w) A E s (cr2 lo 1 nrem) Q (sT κ xs pd g) := by
 refine uh (fS (uh ?_));refine wpS_forRange (I := fun j c t => t = sT κ xs pd g ∧ c = (none, j, 0) ∧ LM K xs lo (lo + j)) (fun j c t h7 hj hI => ?_) (fun c t hI => ?_) ⟨rfl, rfl, LM.ext (fun j h1 h2 => to h1 (Nat.le_of_lt_succ h2) ▸ ah _) f⟩
 ·obtain ⟨rfl, rfl, f⟩ := hI;have W := sw Nat.two_pos h7;have l1 := n9 hc hz hp hj;have l2 := Nat.lt_trans (h8 (lo := lo) W) l1;refine uh (gR hc hp l1 l2 ?_);show wpS _ _ _ _ (if _ then _ else _) _ _;split
  ·rename_i e;exact ul ⟨rfl, rfl, f.ext (of_decide_eq_true e)⟩
  ·rename_i e;refine uh (gR hc hp l2 l1 ?_);rw [decide_eq_true ((Nat.lt_or_gt_of_ne (g7 hp nd l1 l2 (Nat.ne_of_gt (h8 W)))).resolve_left fun q => e (decide_eq_true q))];exact ul (t_cr3 hc hz hp W (tL hj) f h)
 ·obtain ⟨rfl, rfl, f⟩ := hI;rw [qI hn] at f ⊢;exact t_cr3 hc hz hp (Nat.le_of_succ_le hn) (ah _) f h
theorem t_count (nd : (a₀.toList.map K).Nodup) (hp : xs.Perm a₀) (hn : 1 ≤ nrem) (h : CrQ κ K a₀ xs pd g lo nrem Q) : wpS (uM uX w) A E s (countRun' lo nrem) Q (sT κ xs pd g) := by
 rw [ke];refine uh (t_asc hc hz hp (ah 1) hn FM.one fun n W h9 hf hl => dw (fun e => ul (h xs n W h9 hp hf fun _ _ => rfl)) fun e => ?_);have h7 : n < nrem := sy h9 e;split
 ·rename_i e2;have l1 := Nat.lt_trans (h8 (lo := lo) W) (n9 hc hz hp h7);have l0 : lo < lo + n - 1 := Nat.lt_sub_of_add_lt (Nat.add_lt_add_left e2 lo);refine uh (gR hc hp (Nat.lt_trans l0 l1) l1 ?_);rw [decide_eq_true (sy (hf _ (tL l0) (h8 W)) (g7 hp nd (Nat.lt_trans l0 l1) l1 (tN l0)))];exact ul (h xs n W h9 hp hf fun _ _ => rfl)
 ·rename_i e2;obtain rfl : n = 1 := to (sX e2) W;exact t_cr2 hc hz nd hp h7 (hl h7) h
end
theorem half_lt (h : l < r) : (l + r) / 2 < r := (Nat.div_lt_iff_lt_mul Nat.two_pos).mpr (by rw [Nat.mul_two]; exact Nat.add_lt_add_right h r)
theorem nP (h : l < r) : l ≤ (l + r) / 2 := (Nat.le_div_iff_mul_le Nat.two_pos).mpr (by rw [Nat.mul_two]; exact sj (tL h) l)
structure Bi (K : uO → Nat) (ys : Array uO) (lo hi l r : Nat) : Prop where
 a : 0 < l → kk K ys lo ≤ kk K ys hi
 b : r = 0 → kk K ys hi < kk K ys lo
theorem FM.bub (hl : l ≤ k) (hk : lo + k < ys.size) (f : FM K ys lo (lo + k)) (B : Bi K ys lo (lo + k) l l) : FM K (bubble ys (lo + k) (lo + k - (lo + l))) lo (lo + (k + 1)) ∧ ∀ i, i < lo → (bubble ys (lo + k) (lo + k - (lo + l)))[i]? = ys[i]? := by
 have W := fun i => getElem?_bubble (xs := ys) hk (lo + k - (lo + l)) (Nat.sub_le _ _) i
 have ez : lo + k - (lo + k - (lo + l)) = lo + l := Nat.sub_sub_self (sj hl lo);simp only [ez] at W;have lu := sU lo l;have h7 : kk K (bubble ys (lo + k) (lo + k - (lo + l))) lo ≤ kk K ys (lo + k) ∧ (0 < k → kk K (bubble ys (lo + k) (lo + k - (lo + l))) lo ≤ kk K ys lo) := by
  rcases Nat.eq_zero_or_pos l with q | q
  ·subst q;rw [cu ((W lo).trans (if_pos rfl))];exact ⟨ah _, fun _ => tL (B.b rfl)⟩
  ·rw [cu ((W lo).trans ((if_neg (tN (Nat.lt_add_of_pos_right q))).trans (if_neg fun z => Nat.not_lt.mpr lu z.1)))];exact ⟨B.a q, fun _ => ah _⟩
 refine ⟨fun j h1 h2 => ?_, fun i hi => (W i).trans ((if_neg (tN (sw hi lu))).trans (if_neg fun z => Nat.not_lt.mpr (tH lu (tL z.1)) hi))⟩;have up : ∀ i, lo ≤ i → i < lo + k → kk K (bubble ys (lo + k) (lo + k - (lo + l))) lo ≤ kk K ys i := fun i z1 z2 => tH (h7.2 (Nat.pos_of_lt_add_right (sx z1 z2))) (f i z1 z2)
 by_cases e : j = lo + l
 ·rw [cu (xs := bubble ys _ _) (i := j) ((W j).trans (if_pos e))];exact h7.1
 ·by_cases e2 : lo + l < j ∧ j ≤ lo + k
  ·rw [cu (xs := bubble ys _ _) (i := j) ((W j).trans ((if_neg e).trans (if_pos e2)))];have hj : 0 < j := sx (tO _) e2.1;exact up _ (tH lu (Nat.le_sub_one_of_lt e2.1)) (sw (cH hj) e2.2)
  ·rw [cu (xs := bubble ys _ _) (i := j) ((W j).trans ((if_neg e).trans (if_neg e2)))];refine up j h1 (sy (Nat.le_of_lt_succ h2) fun z => e2 ⟨?_, ap z⟩);exact sy (z ▸ sj hl lo) (Ne.symm e)
section
variable (hc : dZ uX w A s κ (· ∈ a₀) K)
include hc
theorem t_biS (hp : ys.Perm a₀) (hk : lo + k < ys.size) (h0 : 0 < k) (f : FM K ys lo (lo + k)) (h : ∀ l, l ≤ k → Bi K ys lo (lo + k) l l → Q (none, l, l) (sT κ ys pd g)) :
  wpS (uM uX w) A E s (forIn [0:k] ((none, 0, k) : BiS) fun _ c => biB lo k c) Q (sT κ ys pd g) := by
 refine wpS_forRange (I := fun j c t => t = sT κ ys pd g ∧ ∃ l r, c = (none, l, r) ∧ l ≤ r ∧ r ≤ k ∧ r + j ≤ k + l ∧ Bi K ys lo (lo + k) l r) (fun j c t _ hj hI => ?_) (fun c t hI => ?_)
  ⟨rfl, 0, k, rfl, tO _, ah _, ah _, fun q => absurd q (tE _), fun q => absurd q (Nat.ne_of_gt h0)⟩
 ·obtain ⟨rfl, l, r, rfl, h1, h2, h3, hB⟩ := hI;unfold biB;by_cases e : l ≥ r
  ·rw [if_pos e];obtain rfl := to h1 e;exact ul (h l h2 hB)
  ·rw [if_neg e];have lt := Nat.lt_of_not_le e;have hm := half_lt lt;have W := Nat.add_lt_add_left (sw hm h2) lo;refine uh (gR hc hp hk (Nat.lt_trans W hk) ?_);show wpS _ _ _ _ (if _ then _ else _) _ _;split
   ·rename_i e2;refine ul ⟨rfl, l, _, rfl, nP lt, tH (tL hm) h2, tH (ap (Nat.add_right_comm _ 1 j).symm) (tH (Nat.add_le_add_right hm j) h3), hB.a, fun q => ?_⟩;have := of_decide_eq_true e2;rw [q] at this;exact this
   ·rename_i e2;refine ul ⟨rfl, _, r, rfl, hm, h2, ?_, fun _ => tH (f _ (sU _ _) W) (sX fun q => e2 (decide_eq_true q)), hB.b⟩;exact Nat.succ_le_succ (tH h3 (sj (nP lt) k))
 ·obtain ⟨rfl, l, r, rfl, h1, h2, h3, hB⟩ := hI;rw [Nat.zero_max] at h3;obtain rfl := to h1 (Nat.le_of_add_le_add_right (tH h3 (ap (Nat.add_comm _ _))));exact h l h2 hB
theorem t_bin (hp : xs.Perm a₀) (h1 : 1 ≤ ok) (h9 : ok ≤ n) (hz : lo + n ≤ a₀.size) (f : FM K xs lo (lo + ok))
  (h : ∀ ys, ys.Perm a₀ → FM K ys lo (lo + n) → (∀ i, i < lo → ys[i]? = xs[i]?) → Q true (sT κ ys pd g)) : wpS (uM uX w) A E s (binarySort' lo n ok) Q (sT κ xs pd g) := by
 rw [mZ, Nat.max_eq_left h1];refine uh (wpS_forRange (I := fun k c t => ∃ ys, t = sT κ ys pd g ∧ c = (none, ⟨⟩) ∧ ys.Perm a₀ ∧ FM K ys lo (lo + k) ∧ ∀ i, i < lo → ys[i]? = xs[i]?) (fun k c t x0 hk hI => ?_) (fun c t hI => ?_) ⟨xs, rfl, rfl, hp, f, fun _ _ => rfl⟩)
 ·obtain ⟨ys, rfl, rfl, hy, hf, W⟩ := hI;have x1 := sw h1 x0;have h7 : lo + k < ys.size := hy.size_eq ▸ sw (Nat.add_lt_add_left hk lo) hz;refine uh (t_biS hc hy h7 x1 hf fun l hl hB => ?_);refine uh ?_;rw [moveDown'_eq];have hb := hf.bub hl h7 hB;exact wpS_modify (ul ⟨_, rfl, rfl, (bubble_perm _ _ _).trans hy, hb.1, fun i hi => (hb.2 i hi).trans (W i hi)⟩)
 ·obtain ⟨ys, rfl, rfl, hy, hf, W⟩ := hI;rw [Nat.max_eq_right h9] at hf;exact ul (h ys hy hf W)
end
end
noncomputable abbrev Ru := Option Unit × Nat
noncomputable abbrev Uu := Option Unit × Unit
noncomputable abbrev Pd := Array (Nat × Nat × Nat)
noncomputable def srP (lo n : Nat) : Sm (ForInStep Ru) := (modify fun s => setPending s ((pendingOf s).push (lo, n, 0)) : Sm PUnit) >>= fun _ => uT (.yield (none, lo + n))
noncomputable def srG (i : Nat) : Sm (ForInStep Uu) := mergeAt' i >>= fun b => if (!b) = true then uT (.done (some (), ())) else uT (.yield (none, ()))
noncomputable def srM1 (pw : Nat) (p : Pd) : Sm (ForInStep Uu) := match (if p.size > 1 then p[p.size - 2]? else none) with
 | some (_, _, older) => if older ≤ pw then uT (.done (none, ())) else srG (p.size - 2)
 | _ => uT (.done (none, ()))
noncomputable def srM (pw : Nat) : Sm (ForInStep Uu) := get >>= fun t => srM1 pw (pendingOf t)
noncomputable def srL (lo n pw : Nat) (r : Option Unit) : Sm (ForInStep Ru) := match r with
 | some r => uT (.done (some r, lo))
 | none => (modify fun s => setPending s ((pendingOf s).modify ((pendingOf s).size - 1) fun (st, len, _) => (st, len, pw)) : Sm PUnit) >>= fun _ => srP lo n
noncomputable def srB (size lo n : Nat) : Option (Nat × Nat × Nat) → Sm (ForInStep Ru)
 | some (s1, n1, _) => do
  let c ← forIn [0:size] ((none, ()) : Uu) fun _ _ => srM (power' size (2 * s1 + n1) (2 * s1 + n1 + n1 + n) size)
  srL lo n (power' size (2 * s1 + n1) (2 * s1 + n1 + n1 + n) size) c.1
 | _ => srP lo n
noncomputable def srN (size lo n : Nat) : Sm (ForInStep Ru) := get >>= fun t => srB size lo n (pendingOf t).back?
noncomputable def srI (size mr lo : Nat) : Option Nat → Sm (ForInStep Ru)
 | some n => if n < mr then do
   liftM (rule "list.sort.binary-insertion")
   let b ← binarySort' lo (min (size - lo) mr) n
   if (!b) = true then uT (.done (some (), lo)) else srN size lo (min (size - lo) mr)
  else srN size lo n
 | _ => uT (.done (some (), lo))
noncomputable def srA (size mr : Nat) (c : Ru) : Sm (ForInStep Ru) := if c.2 ≥ size then uT (.done (none, c.2)) else countRun' c.2 (size - c.2) >>= srI size mr c.2
noncomputable def srX (p : Pd) (i : Nat) : Nat := if ((if i > 0 then p[i - 1]?.map (·.2.1) else none).any fun x => decide (x < p[i + 1]?.elim 0 (·.2.1))) = true then i - 1 else i
noncomputable def srE : Sm (ForInStep Uu) := get >>= fun t => if (pendingOf t).size ≤ 1 then uT (.done (none, ())) else srG (srX (pendingOf t) ((pendingOf t).size - 2))
noncomputable def srY (r : Option Unit) : Sm Unit := match r with
 | some r => uT r
 | none => uT ()
noncomputable def srZ (size : Nat) (r : Option Unit) : Sm Unit := match r with
 | some r => uT r
 | none => do
  let c ← forIn [0:size] ((none, ()) : Uu) fun _ _ => srE
  srY c.1
theorem jG : sortRuns' = (do
 let t ← get;let c ← forIn [0:(arrOf t).size] ((none, 0) : Ru) fun _ c => srA (arrOf t).size (minRun' (arrOf t).size (arrOf t).size 0) c
 srZ (arrOf t).size c.1) := by
 kernel_rfl!
section
variable {κ : uu} {K : uO → Nat} {a₀ xs ys : Array uO} {pd : Array (Nat × Nat × Nat)} {g : Nat} {lo mr n : Nat}
theorem lf (h1 : 0 < n) (h : n < 128) : n ≤ 2 * minRun' n n 0 ∧ 0 < minRun' n n 0 := by
 have z : ∀ m : Fin 128, 0 < m.1 → m.1 ≤ 2 * minRun' m.1 m.1 0 ∧ 0 < minRun' m.1 m.1 0 := by decide +kernel
 exact z ⟨n, h⟩ h1
def Two (κ : uu) (K : uO → Nat) (a₀ : Array uO) (t : uK) : Prop :=
 (∃ xs, t = sT κ xs #[(0, a₀.size, 0)] 7 ∧ xs.Perm a₀ ∧ FM K xs 0 a₀.size) ∨ ∃ xs n1 n2 p1, t = sT κ xs #[(0, n1, p1), (n1, n2, 0)] 7 ∧ MA K a₀ xs n1 n2
def RunI (κ : uu) (K : uO → Nat) (a₀ : Array uO) (mr j : Nat) (c : Ru) (t : uK) : Prop :=
 c.1 = none ∧ ((j = 0 ∧ c.2 = 0 ∧ t = sT κ a₀ #[] 7) ∨ (∃ xs lo, j = 1 ∧ c.2 = lo ∧ lo < a₀.size ∧ mr ≤ lo ∧ t = sT κ xs #[(0, lo, 0)] 7 ∧ xs.Perm a₀ ∧ FM K xs 0 lo) ∨ (c.2 = a₀.size ∧ Two κ K a₀ t))
theorem RunI.fin (h : RunI κ K a₀ mr j c t) (W : 2 ≤ j) : c.1 = none ∧ Two κ K a₀ t := ⟨h.1, by
 rcases h.2 with h | ⟨xs, lo, h, _⟩ | h
 ·exact absurd (h.1 ▸ W) (by decide)
 ·exact absurd (h ▸ W) (by decide)
 ·exact h.2⟩
theorem t_srN1 (h : ∀ pw, Q (.yield (none, lo + n)) (sT κ ys #[(0, lo, pw), (lo, n, 0)] 7)) : wpS (uM uX w) A E s (srN size lo n) Q (sT κ ys #[(0, lo, 0)] 7) :=
 uh (wpS_get (uh (wpS_forRange (I := fun _ c t => t = sT κ ys #[(0, lo, 0)] 7 ∧ c = (none, ())) (fun i c t _ _ W => by
  obtain ⟨rfl, rfl⟩ := W;exact uh (wpS_get (ul (uh (wpS_modify (uh (wpS_modify (ul (h _)))))))) ) (fun c t W => by
  obtain ⟨rfl, rfl⟩ := W;exact uh (wpS_modify (uh (wpS_modify (ul (h _)))))) ⟨rfl, rfl⟩)))
section
variable (hc : dZ uX w A s κ (· ∈ a₀) K) (nd : (a₀.toList.map K).Nodup) (hz : a₀.size ≤ 2 * mr) (hm : 0 < mr)
include hc nd
theorem qa (hp : xs.Perm a₀) (hl : lo < a₀.size)
  (h : ∀ zs m, zs.Perm a₀ → FM K zs lo (lo + m) → m ≤ a₀.size - lo → min (a₀.size - lo) mr ≤ m → (∀ i, i < lo → zs[i]? = xs[i]?) → wpS (uM uX w) A E s (srN a₀.size lo m) Q (sT κ zs pd 7)) :
  wpS (uM uX w) A E s (countRun' lo (a₀.size - lo) >>= srI a₀.size mr lo) Q (sT κ xs pd 7) := by
 have hz : lo + (a₀.size - lo) ≤ a₀.size := ap (Nat.add_sub_of_le (tL hl));refine uh (t_count hc hz nd hp (Nat.sub_pos_of_lt hl) fun ys n h1 h2 h9 hf W => ?_);show wpS _ _ _ _ (if _ then _ else _) _ _;split
 ·rename_i e;have x0 := Nat.le_min.mpr ⟨h2, tL e⟩;exact uh (fS (uh (t_bin hc h9 h1 x0 (tH (sj (Nat.min_le_left _ _) lo) hz) hf fun zs x1 x2 h7 => h zs _ x1 x2 (Nat.min_le_left _ _) (ah _) fun i hi => (h7 i hi).trans (W i hi))))
 ·rename_i e;exact h ys n h9 hf h2 (tH (Nat.min_le_right _ _) (sX e)) W
include hz hm
theorem t_srA (h : RunI κ K a₀ mr j c t) (h0 : 0 < a₀.size) : wpS (uM uX w) A E s (srA a₀.size mr c) (fun r t => match r with | .done c => RunI κ K a₀ mr 2 c t | .yield c => RunI κ K a₀ mr (j + 1) c t) t := by
 obtain ⟨r, l⟩ := c;obtain ⟨rfl, h⟩ := h;unfold srA;rcases h with ⟨rfl, rfl, rfl⟩ | ⟨xs, lo, rfl, rfl, h1, h2, rfl, hp, hf⟩ | ⟨rfl, hT⟩
 ·rw [if_neg (Nat.not_le.mpr h0)];refine qa hc nd (Array.Perm.refl _) h0 fun zs m hp hf h1 h2 _ => uh (wpS_get (uh (wpS_modify (ul ⟨rfl, .inr ?_⟩))))
  show (∃ xs lo, 0 + 1 = 1 ∧ 0 + m = lo ∧ lo < a₀.size ∧ mr ≤ lo ∧ sT κ zs #[(0, m, 0)] 7 = sT κ xs #[(0, lo, 0)] 7 ∧ xs.Perm a₀ ∧ FM K xs 0 lo) ∨ (0 + m = a₀.size ∧ Two κ K a₀ (sT κ zs #[(0, m, 0)] 7));have ez := Nat.zero_add m;rw [ez] at hf;rcases Nat.lt_or_ge m a₀.size with q | q
  ·exact .inl ⟨zs, m, rfl, ez, q, sX fun z => Nat.not_lt.mpr h2 (Nat.lt_min.mpr ⟨q, z⟩), rfl, hp, hf⟩
  ·obtain rfl := to h1 q;exact .inr ⟨ez, .inl ⟨zs, rfl, hp, hf⟩⟩
 ·rw [if_neg (Nat.not_le.mpr h1)];refine qa hc nd hp h1 fun zs m h7 x0 h3 h4 W => t_srN1 fun pw => ⟨rfl, .inr (.inr ?_)⟩
  have x1 : a₀.size - l ≤ mr := Nat.sub_le_of_le_add (tH (tH hz (ap (Nat.two_mul mr))) (sj h2 mr));rw [Nat.min_eq_left x1] at h4;obtain rfl := to h3 h4;have e := Nat.add_sub_of_le (tL h1);have h9 : 0 < l := sw hm h2;exact ⟨e, .inr ⟨zs, l, _, pw, rfl, h7, e.trans h7.size_eq.symm, h9, Nat.sub_pos_of_lt h1, fun j z1 z2 => cu (W 0 h9) ▸ cu (W j z2) ▸ hf j z1 z2, x0⟩⟩
 ·rw [if_pos (ah _)];exact ul ⟨rfl, .inr (.inr ⟨rfl, hT⟩)⟩
def One (κ : uu) (K : uO → Nat) (a₀ : Array uO) (t : uK) : Prop := ∃ ys p g, Front K a₀ ys ∧ t = sT κ ys #[p] g
theorem t_srE (h0 : 0 < a₀.size) (h : Two κ K a₀ t ∨ One κ K a₀ t) : wpS (uM uX w) A E s srE (fun r t => One κ K a₀ t ∧ match r with | .done c => c.1 = none | .yield c => c.1 = none) t := by
 rcases h with (⟨xs, rfl, hp, hf⟩ | ⟨xs, n1, n2, p1, rfl, hM⟩) | ⟨ys, p, g, W, rfl⟩
 ·exact uh (wpS_get (ul ⟨⟨xs, _, _, .of hp (hp.size_eq ▸ h0) fun i hi => hf i (tO _) (hp.size_eq ▸ hi), rfl⟩, rfl⟩))
 ·exact uh (wpS_get (uh (oQ hc hM fun ys g W => ul ⟨⟨ys, _, g, W, rfl⟩, rfl⟩)))
 ·exact uh (wpS_get (ul ⟨⟨ys, p, g, W, rfl⟩, rfl⟩))
end
theorem t_runs (hc : dZ uX w A s κ (· ∈ a₀) K) (nd : (a₀.toList.map K).Nodup) (h2 : 2 ≤ a₀.size) (hz : a₀.size < 128)
  (h : ∀ ys pd g, Front K a₀ ys → Q () (sT κ ys pd g)) : wpS (uM uX w) A E s sortRuns' Q (sT κ a₀ #[] 7) := by
 have h0 : 0 < a₀.size := sw Nat.two_pos h2;obtain ⟨h7, h9⟩ := lf h0 hz;rw [jG];refine uh (wpS_get (uh (wpS_mono (wpS_forRange (I := RunI κ K a₀ (minRun' a₀.size a₀.size 0)) (Q := fun c t => c.1 = none ∧ Two κ K a₀ t) (fun j c t _ _ W => wpS_mono (t_srA hc nd h7 h9 W h0) fun r t hr => ?_) (fun c t W => W.fin (tH h2 (Nat.le_max_right _ _))) ⟨rfl, .inl ⟨rfl, rfl, rfl⟩⟩) fun c t W => ?_)))
 ·cases r with
  | done c => exact hr.fin (ah _)
  | yield c => exact hr
 ·rw [W.1];refine uh (wpS_mono (wpS_forRange (I := fun j c t => c.1 = none ∧ (j = 0 ∧ Two κ K a₀ t ∨ One κ K a₀ t)) (Q := fun c t => c.1 = none ∧ One κ K a₀ t) (fun j c t _ _ W => wpS_mono (t_srE hc nd h7 h9 h0 (W.2.imp_left And.right)) fun r t hr => ?_) (fun c t W => ⟨W.1, W.2.resolve_left fun q => ?_⟩) ⟨rfl, .inl ⟨rfl, W.2⟩⟩) fun c t W => ?_)
  ·cases r with
   | done c => exact ⟨hr.2, hr.1⟩
   | yield c => exact ⟨hr.2, .inr hr.1⟩
  ·exact absurd (q.1 ▸ Nat.le_max_right 0 a₀.size : a₀.size ≤ 0) (Nat.not_le.mpr h0)
  ·rw [W.1];obtain ⟨ys, p, g, hF, rfl⟩ := W.2;exact ul (h ys _ g hF)
end
section
variable {cs cs' r : aF} {κ : uu} {P : ub → uF → Prop} {K : uN → Nat} {vs : List uN}
theorem mK (h1 : vs ≠ []) (hz : vs.length < 128) (nd : (vs.map K).Nodup)
  (h9 : ∀ Q : uu → uF → Prop, 2 ≤ vs.length → Q κ s → uL (uM uX w) A (keyKind' vs.toArray) Q E s)
  (x4 : ∀ x ∈ vs, ∀ y ∈ vs, ∀ C : Bool → uF → Prop, C (decide (K x < K y)) s → uL (uM uX w) A (keyLt' κ x y) C (fun _ _ => False) s)
  (h : ∀ v x0 st, v ∈ vs → (∀ y ∈ vs, K v ≤ K y) → x0.length + 1 = vs.length → (arrOf st).map (·.2) = List.toArray (v :: x0) → failedOf st = none → uL (uM uX w) A (k st) P E s) :
  uL (uM uX w) A (eA vs.length vs.toArray (vs.toArray.zip vs.toArray) k) P E s := by
 have e2 : (vs.toArray.zip vs.toArray).map (fun x : uO => x.2) = vs.toArray := Array.toList_inj.mp (by rw [Array.toList_map, Array.toList_zip]; exact List.map_snd_zip (ah _));unfold eA;by_cases hs : vs.length < 2
 ·rw [if_pos hs, if_pos hs];rcases lt2 hs with rfl | ⟨v, rfl⟩
  ·exact absurd rfl h1
  ·exact ad (ae (ad (ae (h v [] _ aB (fun y hy => ap (congrArg K (su.mp hy).symm)) rfl e2 rfl))))
 ·have h2 := sX hs;rw [if_neg hs, if_neg hs];refine ad (h9 _ h2 ?_);have mem : ∀ x : uO, x ∈ vs.toArray.zip vs.toArray → x.1 ∈ vs ∧ x.2 = x.1 := fun x hx => by
   obtain ⟨i, hi, rfl⟩ := Array.mem_iff_getElem.mp hx;rw [Array.getElem_zip];exact ⟨sS _, rfl⟩
  have hsz : (vs.toArray.zip vs.toArray).size = vs.length := by rw [Array.size_zip]; exact Nat.min_self _
  have hl : (vs.toArray.zip vs.toArray).toList.map (fun x => K x.1) = vs.map K := by
   rw [Array.toList_zip];exact m6 (f := K) rfl
  refine ad (af (t_runs (Q := fun _ st => ∃ ys pd g, Front (fun x => K x.1) (vs.toArray.zip vs.toArray) ys ∧ st = sT κ ys pd g) (fun x y hx hy => x4 _ (mem x hx).1 _ (mem y hy).1 _ ⟨rfl, rfl⟩) (hl ▸ nd) (hsz ▸ h2) (hsz ▸ hz) fun ys pd g hF => ⟨ys, pd, g, hF, rfl⟩) (fun q s' hq => ?_) fun _ _ e => e);obtain ⟨rfl, ys, pd, g, ⟨x2, x, W, x3, x1⟩, e⟩ := hq;have hm := mem x x3;have h7 : ∃ l, ys.toList = x :: l := by
   rw [← sd] at W;cases hl2 : ys.toList with
   | nil => rw [hl2] at W; cases W
   | cons y l => rw [hl2] at W; cases W; exact ⟨l, rfl⟩
  obtain ⟨l, h7⟩ := h7;show uL _ _ (k q.2) _ _ _;rw [e];refine h x.2 (l.map (·.2)) (sT κ ys pd g) (hm.2 ▸ hm.1) (fun y hy => ?_) ?_ ?_ rfl
  ·obtain ⟨i, hi, rfl⟩ := List.getElem_of_mem hy;rw [hm.2];exact x1 (vs[i], vs[i]) (Array.mem_iff_getElem.mpr ⟨i, hsz ▸ hi, Array.getElem_zip ..⟩)
  ·rw [ak];exact (congrArg tQ h7).symm.trans ((so).trans (x2.trans hsz))
  ·exact Array.toList_inj.mp (by rw [show arrOf (sT κ ys pd g) = ys from rfl, Array.toList_map, h7]; rfl)
theorem kD (h1 : vs ≠ []) (hz : vs.length < 128) (nd : (vs.map K).Nodup) (H : St h0 o0 ((a, aE vs) :: r) s)
  (h7 : ∀ (Q : uu → uF → Prop) s, 2 ≤ vs.length → St h0 o0 r s → Q κ s → uL (uM uX w) A (keyKind' vs.toArray) Q E s)
  (x0 : ∀ x ∈ vs, ∀ y ∈ vs, ∀ (C : Bool → uF → Prop) s, St h0 o0 r s → C (decide (K x < K y)) s → uL (uM uX w) A (keyLt' κ x y) C (fun _ _ => False) s)
  (h : ∀ v W s', v ∈ vs → (∀ y ∈ vs, K v ≤ K y) → St h0 o0 ((a, aE (v :: W)) :: r) s' → P (.done (.ret .none)) s') : uL (uM uX w) A (uv.«list.sort» ⟨[.ref a], []⟩) P E s := by
 have hs : vs.length ≤ ug := by rw [aj]; exact tH (tL hz) (by decide)
 rw [kU];refine d8 H hs fun e kS s3 H3 => ?_
 have H4 := H3.tail.tail;exact mK (K := K) h1 hz nd (fun Q h2 q => h7 Q _ h2 H4 q) (fun x hx y hy C q => x0 x hx y hy C _ H4 q) fun v W st hv hm hl ha hf => fh H3.tail (by rw [show (v :: W).length = vs.length from hl]; exact hs) ha hf fun h9 x1 => h v W h9 hv hm x1
end
noncomputable def gm (d : Int) (k : Nat) (p : Str) (a b c : Tok) : List uN := [.int d a, .int k b, .str p c]
theorem eq_int (h : (m == n) = r) : rK (.int m t) (.int n u) r := fun _ _ _ _ _ _ q => wpAny_eqBool_int (by rw [h]; exact q)
theorem lex_fit (hp : k1 = k2 → p1 = p2) : iy (gm d1 k1 p1 a1 b1 c1) (gm d2 k2 p2 a2 b2 c2) (decide (d1 < d2 ∨ d1 = d2 ∧ k1 < k2)) := by
 by_cases W : d1 = d2
 ·subst W;refine .inl ⟨eq_int (beq_self_eq_true _), ?_⟩;by_cases e2 : k1 = k2
  ·subst e2;exact .inl ⟨eq_int (beq_self_eq_true _), .inl ⟨fun _ _ _ _ _ _ q => wpAny_eqBool_str (by rw [decide_eq_true (hp rfl)]; exact q), decide_eq_false fun q => q.elim (Int.lt_irrefl _) fun q => tE _ q.2⟩⟩
  ·exact .inr ⟨eq_int (beq_eq_false_iff_ne.mpr fun q => e2 (Int.ofNat.inj q)), fun _ _ _ _ _ _ q => P.lt_int (by rw [show decide ((k1 : Int) < k2) = decide (d1 < d1 ∨ d1 = d1 ∧ k1 < k2) from decide_eq_decide.mpr ⟨fun h => .inr ⟨rfl, Int.ofNat_lt.mp h⟩, fun h => h.elim (fun h => absurd h (Int.lt_irrefl _)) fun h => Int.ofNat_lt.mpr h.2⟩]; exact q)⟩
 ·exact .inr ⟨eq_int (beq_eq_false_iff_ne.mpr W), fun _ _ _ _ _ _ q => P.lt_int (by rw [show decide (d1 < d2) = decide (d1 < d2 ∨ d1 = d2 ∧ k1 < k2) from decide_eq_decide.mpr ⟨.inl, fun h => h.elim id fun h => absurd h.1 W⟩]; exact q)⟩
section
variable {cs cs' : aF} {Q : VP}
theorem x_ltFit {x y : uR} {d1 d2 : Int} {k1 k2 : Nat} {p1 p2 : Str} {a1 b1 c1 a2 b2 c2 : Tok} {Q : Bool → uF → Prop} (H : St h0 o0 cs s) (hu : A.units < cLine) (hx : Has cs x (aE (gm d1 k1 p1 a1 b1 c1))) (hy : Has cs y (aE (gm d2 k2 p2 a2 b2 c2))) (hp : k1 = k2 → p1 = p2) (h : Q (decide (d1 < d2 ∨ d1 = d2 ∧ k1 < k2)) s) :
  uL (uM uX w) A (keyLt' oneType' (.ref x) (.ref y)) Q E s :=
 (bt H hx).elim fun n ho => (bt H hy).elim fun n2 W => ju hu ho W (lex_fit hp) h
end
structure Fit where
 a : uR
 d : Int
 k : Nat
 p : Str
 x : Tok
 y : Tok
 z : Tok
noncomputable def Fit.v (f : Fit) : List uN := gm f.d f.k f.p f.x f.y f.z
noncomputable def Fit.r (f : Fit) : Nat := (f.d + 1000).toNat * 1000 + f.k
noncomputable def fitK (fs : List Fit) : uN → Nat
 | .ref a => match fs.find? (fun f => f.a == a) with
  | some f => f.r
  | none => 0
 | _ => 0
section
variable {cs cs' : aF} {Q : VP}
theorem fit_inj {fs : List Fit} (H : St h0 o0 cs s) (W : ∀ f ∈ fs, Has cs f.a (aE f.v)) (nd : (fs.map (·.k)).Nodup) : ∀ f ∈ fs, ∀ g ∈ fs, f.a = g.a → f = g := fun f hf g hg e => by
 obtain ⟨n, ho⟩ := bt H (W f hf);obtain ⟨n2, h7⟩ := bt H (W g hg);rw [e, h7] at ho;have e1 : Data.seq g.v.toArray n2 = Data.seq f.v.toArray n := congrArg Obj.data (tq ho);have e2 : g.v = f.v := congrArg Array.toList (Data.seq.inj e1).1;exact fn nd hf hg (Int.ofNat.inj (uN.int.inj (List.cons.inj (List.cons.inj e2).2).1).1).symm
theorem fL (inj : ∀ f ∈ fs, ∀ g ∈ fs, f.a = g.a → f = g) (hf : f ∈ fs) : fitK fs (.ref f.a) = f.r := by
 unfold fitK;dsimp only;cases e : fs.find? (fun g => g.a == f.a) with
 | none =>
  have := List.find?_eq_none.mp e f hf;simp at this
 | some g =>
  have h1 := List.mem_of_find?_eq_some e;have h2 := List.find?_some e;rw [inj g h1 f hf (by simpa using h2)]
theorem lex_num (h3 : k < 1000) (h4 : l < 1000) : m * 1000 + k < n * 1000 + l ↔ m < n ∨ m = n ∧ k < l := by
 have up : ∀ {m n k l : Nat}, k < 1000 → m < n → m * 1000 + k < n * 1000 + l := fun {m n k l} hk h => sw (sw (Nat.add_lt_add_left hk _) (tH (ap (Nat.succ_mul m 1000).symm) (Nat.mul_le_mul_right 1000 h))) (sU _ _)
 refine ⟨fun h => ?_, fun h => h.elim (up h3) fun h => h.1 ▸ Nat.add_lt_add_left h.2 _⟩;rcases Nat.lt_trichotomy m n with q | q | q
 ·exact .inl q
 ·exact .inr ⟨q, Nat.lt_of_add_lt_add_left (q ▸ h)⟩
 ·exact absurd (up h4 q) (Nat.lt_asymm h)
theorem mQ {f g : Fit} (h1 : -1000 < f.d) (h2 : -1000 < g.d) (h3 : f.k < 1000) (h4 : g.k < 1000) : decide (f.r < g.r) = decide (f.d < g.d ∨ f.d = g.d ∧ f.k < g.k) := by
 have p : ∀ {d : Int}, -1000 < d → 0 < d + 1000 := fun h => Int.lt_of_le_of_lt (Int.le_of_eq (by decide)) (Int.add_lt_add_right h 1000)
 have lt : ∀ {d e : Int}, -1000 < e → ((d + 1000).toNat < (e + 1000).toNat ↔ d < e) := fun h => (Int.toNat_lt_toNat (p h)).trans ⟨Int.lt_of_add_lt_add_right, fun q => Int.add_lt_add_right q 1000⟩
 refine decide_eq_decide.mpr ((lex_num h3 h4).trans ⟨fun h => h.elim (fun h => .inl ((lt h2).mp h)) fun h => .inr ⟨?_, h.2⟩, fun h => h.elim (fun h => .inl ((lt h2).mpr h)) fun h => .inr ⟨h.1 ▸ rfl, h.2⟩⟩);exact Int.le_antisymm (Int.not_lt.mp fun q => tE _ (h.1 ▸ (lt h1).mpr q)) (Int.not_lt.mp fun q => tE _ (h.1 ▸ (lt h2).mpr q))
theorem kB {fs : List Fit} (H : St h0 o0 cs s) (hu : A.units + 2 < cLine) (hl : Has cs l (aE (fs.map fun f => .ref f.a))) (h7 : ∀ f ∈ fs, Has cs f.a (aE f.v)) (h1 : fs ≠ []) (hz : fs.length < 100) (nd : (fs.map (·.k)).Nodup)
  (hb : ∀ f ∈ fs, -1000 < f.d ∧ f.k < 1000)
  (h : ∀ f D vs s', f ∈ fs → (∀ g ∈ fs, f.r ≤ g.r) → St h0 o0 ((D, aE (.ref f.a :: vs)) :: cs) s' → Q (.ref D) s') :
  uL (uM uX w) A (uW (.builtin "sorted") [.ref l]) Q E s := by
 have inj := fit_inj H h7 nd;have h9 : (fs.map fun f => tW f.a).length = fs.length := ak ..;have hs : (fs.map fun f => tW f.a).length ≤ ug := by rw [h9, aj]; exact tH (tL hz) (by decide)
 have ek : (fs.map fun f => tW f.a).map (fitK fs) = fs.map Fit.r := tI.trans (List.map_congr_left fun f hf => fL inj hf);have x2 : (fs.map Fit.r).Nodup := sG.mpr ((sG.mp nd).imp_of_mem fun {f g} hf W hk e => hk (by
  have key : ∀ {f g : Fit}, f ∈ fs → g ∈ fs → f.r = g.r → ¬ f.k < g.k := fun {f g} hf W e q => by
   have z := mQ (hb f hf).1 (hb g W).1 (hb f hf).2 (hb g W).2;have y := mQ (hb g W).1 (hb f hf).1 (hb g W).2 (hb f hf).2;rw [decide_eq_false (Nat.not_lt.mpr (ap e.symm))] at z;rw [decide_eq_false (Nat.not_lt.mpr (ap e))] at y;have z := of_decide_eq_false z.symm;have y := of_decide_eq_false y.symm;exact z (.inr ⟨Int.le_antisymm (Int.not_lt.mp fun q => y (.inl q)) (Int.not_lt.mp fun q => z (.inl q)), q⟩)
  exact to (sX (key W hf e.symm)) (sX (key hf W e))))
 refine gG (h0 := h0) (o0 := o0) (eP H hl hs fun s1 H1 => ⟨cs, H1, hs, fun D s2 H2 => kD (κ := oneType') (K := fitK fs) (fun e => h1 (sq.mp e)) (h9 ▸ Nat.lt_trans hz (by decide)) (ek ▸ x2) H2 (fun Q' s3 h2 Hs hq => ?_) (fun x hx y hy C s3 Hs hC => ?_) fun v x1 s3 hv x0 H4 => ⟨rfl, ?_⟩⟩)
 ·refine kas_kind (T := .type "list") h2 (fun v hv => ?_) (by decide) (by decide) hq;obtain ⟨f, hf, rfl⟩ := tG.mp hv;obtain ⟨n, ho⟩ := bt Hs (h7 f hf);exact (Looks.ld ho).andThen .now
 ·obtain ⟨f, hf, rfl⟩ := tG.mp hx;obtain ⟨g, W, rfl⟩ := tG.mp hy;rw [fL inj hf, fL inj W, mQ (hb f hf).1 (hb g W).1 (hb f hf).2 (hb g W).2] at hC;exact x_ltFit Hs (by show A.units + 1 + 1 < cLine; exact hu) (h7 f hf) (h7 g W) (fun e => congrArg Fit.p (fn nd hf W e)) hC
 ·obtain ⟨f, hf, rfl⟩ := tG.mp hv;refine h f D x1 _ hf (fun g W => ?_) H4;have := x0 (.ref g.a) (aA (f := fun f : Fit => tW f.a) W);rwa [fL inj hf, fL inj W] at this
end
noncomputable def uA : Str := ud "urn:a"
noncomputable def uB : Str := ud "urn:b"
noncomputable def uC : Str := ud "urn:c"
noncomputable def uS : Str := ud "http://www.w3.org/2001/XMLSchema"
noncomputable def U4 : List Str := [uA, uB, uC, uS]
noncomputable def U5 : List Str := ud "" :: U4
noncomputable def dE : Sp := (uS, ud "xs")
noncomputable def P9 : List Sp := [(uA, ud "p"), (uA, ud "o"), (uA, ud "q"), (uB, ud "t"), (uB, ud "s"), (uS, ud "w"), (uS, ud "v"), (uC, ud "r"), dE]
theorem jO : ∀ p ∈ P9, ∀ q ∈ P9, p.2 = q.2 → p.1 = q.1 := by decide +kernel
theorem cf : ∀ p ∈ P9, p.1 ∈ U4 ∧ p.1.length ≤ 40 ∧ p.2.length ≤ 2 ∧ p.2 ≠ ud "" ∧ p.1 ≠ ud "" ∧ p.2.length ≠ 0 ∧ p.2 ≠ ud "xml" := by decide +kernel
theorem u4_ok : ∀ u ∈ U4, u ≠ ud "" ∧ u.length ≠ 0 ∧ u.length ≤ 40 ∧ u ≠ xmlPr.1 := by decide +kernel
theorem u4_map : ∀ u ∈ U4, (mapNs.find? fun q => q.1 == u) = ([dE].find? fun q => q.1 == u) := by decide +kernel
noncomputable def dy (D : List (List Sp)) (u : Str) : Option Str := ((aK D).find? fun q => q.1 == u).map (·.2)
noncomputable def bS (N : List (List Sp)) (u : Str) : Option Str := ((aK ([dE] :: N)).find? fun q => q.1 == u).map (·.2)
noncomputable def c9 (N : List (List Sp)) (u : Str) : Str := (bS N u).getD (ud "")
theorem bE (l : List Sp) (D : List (List Sp)) : aK (l :: D) = aK D ++ l := by unfold aK; rw [List.reverse_cons, List.flatten_append]; simp
theorem a5 (l : List Sp) (D : List (List Sp)) : aK (D ++ [l]) = l ++ aK D := by unfold aK; rw [List.reverse_append]; simp
theorem find_none_iff {l : List Sp} : (l.find? fun q => q.1 == u) = none ↔ ∀ p ∈ l, p.1 ≠ u := by
 rw [List.find?_eq_none];exact ⟨fun h p hp e => h p hp (by simp [e]), fun h p hp e => h p hp (by simpa using e)⟩
theorem cY {l : List Sp} {p : Sp} (h : (l.find? fun q => q.1 == u) = some p) : p ∈ l ∧ p.1 = u := ⟨List.mem_of_find?_eq_some h, by have := List.find?_some h; simpa using this⟩
theorem mR (hu : u ≠ xmlPr.1) : ∀ (l : List Sp) (seen : List Str), (∀ p ∈ l, p ∈ P9) → (∀ p ∈ P9, p.1 = u → p.2 ∉ seen) → ud "" ∉ seen →
  (∀ p, (l.find? fun q => q.1 == u) = some p → ∃ s, bM u (l ++ [xmlPr]) seen = (some p.2, s)) ∧ ((l.find? fun q => q.1 == u) = none → ∃ s, bM u (l ++ [xmlPr]) seen = (none, s) ∧ ud "" ∉ s)
 | [], seen, _, _, h0 => by
  refine ⟨fun p h => (by cases h), fun _ => ⟨cn seen xmlPr.2, ?_, ?_⟩⟩
  ·show (if xmlPr.1 = u ∧ xmlPr.2 ∉ seen then _ else bM u [] (cn seen xmlPr.2)) = _;rw [if_neg fun q => hu q.1.symm]; rfl
  ·unfold cn; split
   ·exact h0
   ·rw [s8, su];exact fun q => q.elim h0 (by decide)
 | q :: r, seen, hl, hs, h0 => by
  have hq := hl q aB;rw [sN];by_cases e : q.1 = u
  ·have e2 : bM u (q :: (r ++ [xmlPr])) seen = (some q.2, seen) := by
    show (if q.1 = u ∧ q.2 ∉ seen then _ else _) = _;rw [if_pos ⟨e, hs q hq e⟩]
   have e3 : ((q :: r).find? fun q => q.1 == u) = some q := by rw [List.find?_cons_of_pos (by simp [e])]
   rw [e3];exact ⟨fun p h => ⟨seen, by cases h; exact e2⟩, fun h => by cases h⟩
  ·have e2 : bM u (q :: (r ++ [xmlPr])) seen = bM u (r ++ [xmlPr]) (cn seen q.2) := by
    show (if q.1 = u ∧ q.2 ∉ seen then _ else _) = _;rw [if_neg fun q => e q.1]
   have e3 : ((q :: r).find? fun q => q.1 == u) = (r.find? fun q => q.1 == u) := by rw [List.find?_cons_of_neg (by simp [e])]
   rw [e2, e3];refine mR hu r _ (fun p hp => hl p (au _ hp)) (fun p hp W => ?_) ?_
   ·unfold cn; split
    ·exact hs p hp W
    ·rw [s8, su];refine fun x => x.elim (hs p hp W) fun x => e ?_
     rw [← W]; exact (jO p hp q hq x).symm
   ·unfold cn; split
    ·exact h0
    ·rw [s8, su];exact fun x => x.elim h0 fun x => (cf q hq).2.2.2.1 x.symm
theorem fj (h : D ≠ []) : bB (l :: D) q = l :: bB D q := by
 cases D with
 | nil => exact absurd rfl h
 | cons a r => rfl
theorem dN : ∀ (D : List (List Sp)) (l : List Sp) (q : Sp), bB (D ++ [l]) q = D ++ [l ++ [q]]
 | [], l, q => rfl
 | a :: r, l, q => by
  rw [sN, fj (by simp), dN r l q]; rfl
noncomputable def q5 (D N : List (List Sp)) : QS := ⟨[xmlPr] :: D, mapNs :: N, []⟩
theorem qn5 {D N : List (List Sp)} {u tag : Str} (hD : ∀ p ∈ aK D, p ∈ P9) (W : D ≠ []) (hu : u ∈ U4) :
  kz false (q5 D N) u tag = match dy D u with
   | some p => some (iB p tag, q5 D N)
   | none => match bS N u with
    | some p => some (iB p tag, q5 (bB D (u, p)) N)
    | none => none := by
 obtain ⟨u1, u2, u3, u4⟩ := u4_ok u hu;obtain ⟨f1, f2⟩ := mR u4 (aK D) [] hD (fun _ _ _ q => by cases q) (by simp);have e1 : aK (q5 D N).dl = aK D ++ [xmlPr] := bE _ _;have e2 : ((aK (q5 D N).nl).find? fun q => q.1 == u) = ((aK ([dE] :: N)).find? fun q => q.1 == u) := by
  show ((aK (mapNs :: N)).find? fun q => q.1 == u) = _;rw [bE, bE, List.find?_append, List.find?_append, u4_map u hu]
 unfold kz dy bS;rw [e1];cases e : (aK D).find? fun q => q.1 == u with
 | some p => obtain ⟨s, hs⟩ := f1 p e; rw [hs]; rfl
 | none =>
  obtain ⟨s, hs, _⟩ := f2 e;rw [hs];dsimp only [Option.map];rw [if_neg (by decide), if_neg fun q => u2 q.1, e2];cases (aK ([dE] :: N)).find? fun q => q.1 == u with
  | none => dsimp only; rw [if_neg u2]
  | some p =>
   show some (iB p.2 tag, (⟨bB ([xmlPr] :: D) (u, p.2), mapNs :: N, []⟩ : QS)) = _;rw [fj W]; rfl
theorem qn5_0 (W : ∀ p ∈ aK D, p ∈ P9) : kz false (q5 D N) (ud "") tag = some (tag, q5 D N) := by
 obtain ⟨f1, f2⟩ := mR (u := ud "") (by decide +kernel) (aK D) [] W (fun _ _ _ q => by cases q) (by simp);have e1 : aK (q5 D N).dl = aK D ++ [xmlPr] := bE _ _;obtain ⟨s, hs, hn⟩ := f2 (find_none_iff.mpr fun p hp => (cf p (W p hp)).2.2.2.2.1);unfold kz;rw [e1, hs];dsimp only;rw [if_neg (by decide), if_pos ⟨by decide +kernel, hn⟩]
noncomputable def dA (D N : List (List Sp)) : List Sp → List Str → List Sp
 | lv, [] => lv
 | lv, u :: r => dA D N (if u = ud "" ∨ (dy D u).isSome = true ∨ u ∈ lv.map (·.1) then lv else lv ++ [(u, c9 N u)]) r
noncomputable def kA (D N : List (List Sp)) (u : Str) : Str := (dy D u).getD (c9 N u)
noncomputable def jS (D N : List (List Sp)) (x : Str) : Str := if (bX x).1 = ud "" then (bX x).2 else iB (kA D N (bX x).1) (bX x).2
structure LvOk (D N : List (List Sp)) (lv : List Sp) : Prop where
 p9 : ∀ p ∈ lv, p ∈ P9
 pk : ∀ p ∈ lv, p.2 = c9 N p.1 ∧ dy D p.1 = none
 nd : (lv.map (·.1)).Nodup
theorem jR (h : LvOk D N lv) (u : Str) : dy (D ++ [lv]) u = if u ∈ lv.map (·.1) then some (c9 N u) else dy D u := by
 unfold dy;rw [a5, List.find?_append];cases e : lv.find? fun q => q.1 == u with
 | some p =>
  obtain ⟨hp, rfl⟩ := cY e;rw [if_pos (aA hp)];show some p.2 = _;rw [(h.pk p hp).1]
 | none =>
  rw [if_neg]
  ·rfl
  ·intro hm;obtain ⟨p, hp, rfl⟩ := tG.mp hm;exact find_none_iff.mp e p hp rfl
theorem k5 (hN : ∀ p ∈ aK N, p ∈ P9) (h : bS N u = some p) : (u, p) ∈ P9 := by
 unfold bS at h;rw [bE] at h;cases e : (aK N ++ [dE]).find? fun q => q.1 == u with
 | none => rw [e] at h; cases h
 | some q =>
  rw [e] at h;cases h;obtain ⟨W, rfl⟩ := cY e;rcases s8.mp W with W | W
  ·exact hN q W
  ·rw [su.mp W]; decide
theorem LvOk.step (h : LvOk D N lv) (hN : ∀ p ∈ aK N, p ∈ P9) (hp : (bS N u).isSome = true) (hn : dy D u = none) (hl : u ∉ lv.map (·.1)) : LvOk D N (lv ++ [(u, c9 N u)]) := by
 obtain ⟨p, e⟩ := rS.mp hp;have e2 : c9 N u = p := by unfold c9; rw [e]; rfl
 refine ⟨fun q W => ?_, fun q W => ?_, ?_⟩
 ·rcases s8.mp W with W | W
  ·exact h.p9 q W
  ·rw [su.mp W, e2]; exact k5 hN e
 ·rcases s8.mp W with W | W
  ·exact h.pk q W
  ·rw [su.mp W]; exact ⟨rfl, hn⟩
 ·rw [ao, sH];refine ⟨h.nd, by simp, fun a ha b hb e => hl ?_⟩;rw [az, tJ, su] at hb;rw [← show b = u from hb, ← e]; exact ha
theorem jT (W : ∀ p ∈ aK N, p ∈ P9) : ∀ (us : List Str) (lv : List Sp), (∀ u ∈ us, u = ud "" ∨ (bS N u).isSome = true) → LvOk D N lv →
  LvOk D N (dA D N lv us) ∧ ∀ u, u ∈ (dA D N lv us).map (·.1) ↔ (u ∈ lv.map (·.1) ∨ u ∈ us ∧ u ≠ ud "" ∧ dy D u = none)
 | [], lv, _, h => ⟨h, fun u => ⟨.inl, fun q => q.elim id fun q => by cases q.1⟩⟩
 | v :: r, lv, hu, h => by
  unfold dA;split
  ·rename_i hc;obtain ⟨i1, i2⟩ := jT W r lv (fun u q => hu u (au _ q)) h;refine ⟨i1, fun u => (i2 u).trans ⟨fun q => q.imp id fun q => ⟨au _ q.1, q.2⟩, fun q => q.elim .inl fun q => ?_⟩⟩;rcases tB.mp q.1 with rfl | hm
   ·rcases hc with hc | hc | hc
    ·exact absurd hc q.2.1
    ·rw [q.2.2] at hc; cases hc
    ·exact .inl hc
   ·exact .inr ⟨hm, q.2⟩
  ·rename_i hc;have c1 : v ≠ ud "" := fun e => hc (.inl e)
   have c2 : dy D v = none := by
    cases e : dy D v with
    | none => rfl
    | some p => exact absurd (.inr (.inl (by rw [e]; rfl))) hc
   have c3 : v ∉ lv.map (·.1) := fun e => hc (.inr (.inr e))
   obtain ⟨i1, i2⟩ := jT W r _ (fun u q => hu u (au _ q)) (h.step W ((hu v aB).resolve_left c1) c2 c3);refine ⟨i1, fun u => (i2 u).trans ?_⟩;rw [ao, s8, az, tJ, su, tB];constructor
   ·rintro ((q | q) | q)
    ·exact .inl q
    ·exact .inr ⟨.inl q, by rw [show u = v from q]; exact ⟨c1, c2⟩⟩
    ·exact .inr ⟨.inr q.1, q.2⟩
   ·rintro (q | ⟨q | q, q2⟩)
    ·exact .inl (.inl q)
    ·exact .inl (.inr q)
    ·exact .inr ⟨q, q2⟩
theorem qt (hD : ∀ p ∈ aK D, p ∈ P9) (hN : ∀ p ∈ aK N, p ∈ P9) : ∀ (xs : List Str) (lv : List Sp), (∀ x ∈ xs, (bX x).1 = ud "" ∨ (bX x).1 ∈ U4 ∧ (bS N (bX x).1).isSome = true) → LvOk D N lv →
  dm false (q5 (D ++ [lv]) N) xs = some (xs.map fun x => (x, jS D N x), q5 (D ++ [dA D N lv (xs.map fun x => (bX x).1)]) N)
 | [], lv, _, _ => rfl
 | x :: r, lv, hx, h => by
  have h7 : ∀ p ∈ aK (D ++ [lv]), p ∈ P9 := fun p hp => by
   rw [a5] at hp;exact (s8.mp hp).elim (h.p9 p) (hD p)
  have hr := fun y q => hx y (au _ q)
  have go : ∀ W, LvOk D N W → (if (bX x).1 = ud "" ∨ (dy D (bX x).1).isSome = true ∨ (bX x).1 ∈ lv.map (·.1) then lv else lv ++ [((bX x).1, c9 N (bX x).1)]) = W →
    kz false (q5 (D ++ [lv]) N) (bX x).1 (bX x).2 = some (jS D N x, q5 (D ++ [W]) N) → dm false (q5 (D ++ [lv]) N) (x :: r) = some ((x :: r).map fun x => (x, jS D N x), q5 (D ++ [dA D N lv ((x :: r).map fun x => (bX x).1)]) N) := by
   intro W h' e1 e2;rw [az, az]
   conv => rhs; unfold dA
   rw [e1];unfold dm;rw [e2];dsimp only;rw [qt hD hN r W hr h']
  by_cases e0 : (bX x).1 = ud ""
  ·refine go lv h (if_pos (.inl e0)) ?_;unfold jS;rw [if_pos e0, e0];exact qn5_0 h7
  ·obtain ⟨hu, hp⟩ := (hx x aB).resolve_left e0;obtain ⟨p, ep⟩ := rS.mp hp;have e2 : c9 N (bX x).1 = p := by unfold c9; rw [ep]; rfl
   have q := qn5 (N := N) (tag := (bX x).2) h7 (by simp) hu;rw [jR h] at q;by_cases hl : (bX x).1 ∈ lv.map (·.1)
   ·rw [if_pos hl] at q;refine go lv h (if_pos (.inr (.inr hl))) (q.trans ?_);obtain ⟨z, hz, ez⟩ := tG.mp hl;have hn := (h.pk z hz).2;rw [ez] at hn;unfold jS kA;rw [if_neg e0, hn]; rfl
   ·rw [if_neg hl] at q;cases en : dy D (bX x).1 with
    | some p' =>
     rw [en] at q;refine go lv h (if_pos (.inr (.inl (by rw [en]; rfl)))) (q.trans ?_);unfold jS kA;rw [if_neg e0, en]; rfl
    | none =>
     rw [en, ep] at q;refine go _ (h.step hN hp en hl) (if_neg ?_) (q.trans ?_)
     ·rintro (c | c | c)
      ·exact e0 c
      ·rw [en] at c; cases c
      ·exact hl c
     ·unfold jS kA;rw [if_neg e0, en, e2];show some (_, q5 (bB (D ++ [lv]) ((bX x).1, p)) N) = _;rw [dN]; rfl
noncomputable def bj (LV : List (List Sp)) : List (Nat × Sp) := LV.zipIdx.flatMap fun l => l.1.map fun p => (l.2, p)
noncomputable def eg (u : Str) (t : (Nat × Sp) × Nat) : Option (Int × Nat × Str) := if t.1.2.1 = u then some (1 - (t.1.1 : Int), t.2, t.1.2.2) else none
noncomputable def gx (T : List (Nat × Sp)) (u : Str) : List (Int × Nat × Str) := T.zipIdx.filterMap (eg u)
noncomputable def rk (e : Int × Nat × Str) : Nat := (e.1 + 1000).toNat * 1000 + e.2.1
theorem cX (W : List (List Sp)) (l : List Sp) : bj (W ++ [l]) = bj W ++ l.map fun p => (W.length, p) := by
 unfold bj;rw [List.zipIdx_append, List.flatMap_append];simp
theorem jz (h : t ∈ bj LV) : t.1 < LV.length ∧ ∃ l ∈ LV, t.2 ∈ l := by
 unfold bj at h;obtain ⟨x, W, ht⟩ := sV.mp h;obtain ⟨p, hp, rfl⟩ := tG.mp ht;obtain ⟨i, hi, e⟩ := List.getElem_of_mem W;rw [List.getElem_zipIdx] at e;subst e;rw [List.length_zipIdx] at hi;exact ⟨by dsimp only; exact (a9 0x59d6d585b53b6 0) hi, _, sS hi, hp⟩
theorem ph (W : List (List Sp)) (l : List Sp) (u : Str) : gx (bj (W ++ [l])) u = gx (bj W) u ++ ((l.map fun p => (W.length, p)).zipIdx (bj W).length).filterMap (eg u) := by
 unfold gx;rw [cX, List.zipIdx_append, List.filterMap_append, Nat.zero_add]
theorem ka {T : List (Nat × Sp)} (h : e ∈ (T.zipIdx n).filterMap (eg u)) : ∃ j d p, ∃ hj : j < T.length, T[j] = (d, (u, p)) ∧ e = (1 - (d : Int), n + j, p) := by
 obtain ⟨t, ht, W⟩ := List.mem_filterMap.mp h;obtain ⟨j, hj, rfl⟩ := List.getElem_of_mem ht;rw [List.getElem_zipIdx] at W;rw [List.length_zipIdx] at hj;unfold eg at W;dsimp only at W;split at W
 ·rename_i hu;refine ⟨j, T[j].1, T[j].2.2, hj, ?_, by cases W; rfl⟩;rw [← hu]
 ·cases W
theorem fit_in {T : List (Nat × Sp)} (W : j < T.length) (e : T[j] = (d, (u, p))) : (1 - (d : Int), n + j, p) ∈ (T.zipIdx n).filterMap (eg u) := by
 refine List.mem_filterMap.mpr ⟨(T[j], n + j), ?_, ?_⟩
 ·rw [List.mem_iff_getElem];exact ⟨j, by rwa [List.length_zipIdx], by rw [List.getElem_zipIdx]⟩
 ·unfold eg;rw [e];exact if_pos rfl
theorem lL (u : Str) : ∀ (n : Nat) (W : List (List Sp)), W.length = n → n ≤ 900 → (bj W).length < 1000 →
  (((aK W).find? fun q => q.1 == u) = none → gx (bj W) u = []) ∧ ∀ q, ((aK W).find? fun q => q.1 == u) = some q → ∃ e ∈ gx (bj W) u, e.2.2 = q.2 ∧ ∀ e' ∈ gx (bj W) u, rk e ≤ rk e'
 | 0, W, h, _, _ => by
  obtain rfl := rT.mp h;exact ⟨fun _ => rfl, fun q h => by cases h⟩
 | n + 1, W, h, hn, hz => by
  have x1 : W ≠ [] := fun e => by rw [e] at h; cases h
  obtain ⟨L0, l, rfl⟩ : ∃ L0 l, W = L0 ++ [l] := ⟨W.dropLast, W.getLast x1, (rL x1).symm⟩;rw [aw, r4] at h;have x3 := hz;rw [cX, aw, ak] at x3;obtain ⟨i1, i2⟩ := lL u n L0 (by exact (a9 0x62b9a6c0f0c02 1734862092781) h) (by exact (bD 0x2227da30dc353c049723c 0) hn) (by exact (a9 0x20e982aa2aa57eb17a568 0) x3);rw [a5, List.find?_append, ph];have x2 : ∀ e ∈ gx (bj L0) u, e.1 > 1 - (L0.length : Int) ∧ e.2.1 < (bj L0).length ∧ e.1 ≤ 1 := fun e he => by
   obtain ⟨j, d, p, hj, e1, rfl⟩ := ka he;have := (jz (sS hj)).1;rw [e1] at this;dsimp only at this ⊢;omega
  have h9 : ∀ e ∈ ((l.map fun p => (L0.length, p)).zipIdx (bj L0).length).filterMap (eg u), ∃ j, ∃ hj : j < l.length, l[j].1 = u ∧ e = (1 - (L0.length : Int), (bj L0).length + j, l[j].2) := fun e he => by
   obtain ⟨j, d, p, hj, e1, rfl⟩ := ka he;rw [ak] at hj;rw [List.getElem_map] at e1;obtain ⟨e2, e3⟩ := Prod.mk.inj e1;refine ⟨j, hj, by rw [e3], ?_⟩;rw [e3, ← e2]
  cases e : l.find? fun q => q.1 == u with
  | some q =>
   refine ⟨fun h => (by cases h), fun q' x4 => ?_⟩;cases x4;obtain ⟨x0, j, hj, e1, x5⟩ := List.find?_eq_some_iff_getElem.mp e;have x0 : q.1 = u := by simpa using x0
   refine ⟨(1 - (L0.length : Int), (bj L0).length + j, q.2), r6 _ (fit_in (by rwa [ak]) ?_), rfl, fun e' h7 => ?_⟩
   ·rw [List.getElem_map, e1, ← x0]
   ·rcases s8.mp h7 with h7 | h7
    ·obtain ⟨a1, a2, a3⟩ := x2 e' h7;unfold rk;dsimp only;omega
    ·obtain ⟨j', x6, u', rfl⟩ := h9 e' h7;have : j ≤ j' := by
      rcases Nat.lt_or_ge j' j with q | q
      ·have := x5 j' q;simp [u'] at this
      ·exact q
     unfold rk;dsimp only;exact (jP 0x369ed611932e2e9a599dc0417d217e8 0) this
  | none =>
   have e0 : ((l.map fun p => (L0.length, p)).zipIdx (bj L0).length).filterMap (eg u) = [] := by
    refine List.eq_nil_iff_forall_not_mem.mpr fun x hx => ?_
    obtain ⟨j, hj, hu, _⟩ := h9 x hx;exact find_none_iff.mp e _ (sS hj) hu
   rw [e0, s7];exact ⟨i1, i2⟩
theorem pg (hn : LV.length ≤ 900) (hz : (bj LV).length < 1000) : (∀ e ∈ gx (bj LV) u, -1000 < e.1 ∧ e.2.1 < 1000) ∧ ((gx (bj LV) u).map (·.2.1)).Nodup ∧ (gx (bj LV) u).length ≤ (bj LV).length := by
 refine ⟨fun e he => ?_, ?_, ?_⟩
 ·obtain ⟨j, d, p, hj, e1, rfl⟩ := ka he;have := (jz (sS hj)).1;rw [e1] at this;dsimp only at this ⊢;omega
 ·have key : ∀ (T : List (Nat × Sp)) (n : Nat), (((T.zipIdx n).filterMap (eg u)).map (·.2.1)).Nodup ∧ ∀ k ∈ ((T.zipIdx n).filterMap (eg u)).map (·.2.1), n ≤ k := by
   intro T;induction T with
   | nil => intro n; exact ⟨List.nodup_nil, fun k hk => by cases hk⟩
   | cons t r ih =>
    intro n;obtain ⟨a1, W⟩ := ih (n + 1);rw [List.zipIdx_cons];by_cases ht : t.2.1 = u
    ·rw [List.filterMap_cons_some (b := (1 - (t.1 : Int), n, t.2.2)) (by unfold eg; exact if_pos ht), az, s9];refine ⟨⟨fun hm => ?_, a1⟩, fun k hk => ?_⟩
     ·have := W _ hm; dsimp only at this; exact (bD 1227564525 0) this
     ·rcases tB.mp hk with rfl | hk
      ·exact ah _
      ·have := W _ hk; exact oq3 this
    ·rw [List.filterMap_cons_none (by unfold eg; exact if_neg ht)];exact ⟨a1, fun k hk => by have := W _ hk; exact oq3 this⟩
  exact (key _ 0).1
 ·have := List.length_filterMap_le (eg u) (bj LV).zipIdx;rwa [List.length_zipIdx] at this
structure Fam (mk : Nat → List Nat) (G : List Nat) : Prop where
 amp : 38 ∈ G
 head : ∀ s ∈ G, ∃ r, mk s = 38 :: r ∧ r ≠ [] ∧ ∀ c ∈ r, c ∉ G
 apart : ∀ s ∈ G, ∀ t ∈ G, s ≠ t → ¬ mk s <+: mk t
section
variable {mk : Nat → List Nat} {G : List Nat} (F : Fam mk G)
include F
end
theorem qr (c : Nat) (z : List Nat) : ∀ l, rp [c] z 0 l = l.flatMap fun d => if d = c then z else [d]
 | [] => rfl
 | d :: r => by
  have W := qr c z r;by_cases h : d = c
  ·subst h;rw [mu (by simp) (by simp [List.isPrefixOf]), sM, if_pos rfl];simpa using W
  ·have h1 : ([c] : List Nat).isPrefixOf (d :: r) = false := by
    simp only [List.isPrefixOf, Bool.and_true];simpa using Ne.symm h
   rw [jI h1, W, sM, if_neg h]; rfl
section
variable {mk : Nat → List Nat} {G : List Nat} (F : Fam mk G)
include F
end
noncomputable def lkT (T : List (Nat × List Nat)) (d : Nat) : List Nat := (T.lookup d).getD [d]
noncomputable def gw (T : List (Nat × List Nat)) (x : Str) : Str := ⟨(x.cps.toList.flatMap (lkT T)).toArray⟩
theorem eF (T : List (Nat × List Nat)) (x : Str) : (gw T x).cps.toList = x.cps.toList.flatMap (lkT T) := rfl
theorem fy {x y : Str} (h : x.cps.toList = y.cps.toList) : x = y := Str.ext' (Array.toList_inj.mp h)
theorem lenL (x : Str) : x.length = x.cps.toList.length := by simp [Str.length]
theorem qJ (x : Str) : gw [] x = x := fy (by rw [eF]; induction x.cps.toList with | nil => rfl | cons a r ih => rw [sM, ih]; rfl)
theorem nS : ∀ {v : List Nat}, c ∉ v → (v.flatMap fun e => if e = c then r else [e]) = v
 | [], _ => rfl
 | a :: v, h => by
  rw [sM, if_neg (fun e => h (by rw [e]; exact aB)), nS fun m => h (au _ m)]; rfl
theorem lk_step (h1 : ∀ p ∈ T, c ∉ p.2) (d : Nat) : ((lkT T d).flatMap fun e => if e = c then r else [e]) = lkT (T ++ [(c, r)]) d := by
 induction T with
 | nil =>
  show ([d].flatMap _) = (List.lookup d [(c, r)]).getD [d];rw [sM, List.flatMap_nil, s7];by_cases e : d = c
  ·subst e; simp
  ·rw [if_neg e, sR];rw [show (d == c) = false from by simpa using e]; rfl
 | cons p T W =>
  have W := W fun q hq => h1 q (au _ hq)
  unfold lkT at W ⊢;obtain ⟨k, v⟩ := p;rw [sN, sR, sR];cases d == k with
  | true => exact nS (h1 (k, v) aB)
  | false => exact W
theorem cU (ha : a.cps.toList = [c]) (hb : b.cps.toList = r) (h1 : ∀ p ∈ T, c ∉ p.2) : Txt.replace (gw T x) a b = gw (T ++ [(c, r)]) x := by
 refine fy ?_;rw [gX _ _ _ (by rw [lenL, ha]; simp), ha, hb, qr, eF, eF, List.flatMap_assoc]
 congr 1
 funext d;exact lk_step h1 d
noncomputable def kQ : Nat × List Nat := (38, [38, 97, 109, 112, 59])
noncomputable def tLt : Nat × List Nat := (60, [38, 108, 116, 59])
noncomputable def tGt : Nat × List Nat := (62, [38, 103, 116, 59])
noncomputable def tCr : Nat × List Nat := (13, [38, 35, 120, 68, 59])
noncomputable def TC : List (Nat × List Nat) := [kQ, tLt, tGt, tCr]
theorem cdF_map (x : Str) : cdF x = gw TC x := by
 have W : gW x "&" "&amp;" = gw [kQ] x := by
  conv => lhs; rw [← qJ x]
  exact cU (c := 38) (by decide +kernel) (by decide +kernel) (by decide)
 have e2 : gW (gw [kQ] x) "<" "&lt;" = gw [kQ, tLt] x := cU (c := 60) (by decide +kernel) (by decide +kernel) (by decide);have e3 : gW (gw [kQ, tLt] x) ">" "&gt;" = gw [kQ, tLt, tGt] x := cU (c := 62) (by decide +kernel) (by decide +kernel) (by decide);have e4 : gW (gw [kQ, tLt, tGt] x) "\r" "&#xD;" = gw [kQ, tLt, tGt, tCr] x := cU (c := 13) (by decide +kernel) (by decide +kernel) (by decide);unfold cdF;rw [W, e2, e3, e4]; rfl
noncomputable def tT : Str := ud "t"
theorem tT_list : tT.cps.toList = [116] := by decide +kernel
theorem cdF_t : ∀ {l : List Str}, (∀ x ∈ l, x = tT) → cdF (cC l) = cC l := fun {l} h => by
 rw [cdF_map];refine fy ?_;rw [eF, cN];have e : lkT TC 116 = [116] := by decide
 induction l with
 | nil => rfl
 | cons a r ih =>
  rw [sM, List.flatMap_append, ih fun x W => h x (au _ W), h a aB, tT_list, sM, e]; rfl
theorem dP (l m : List Str) : cC (l ++ m) = cC l ++ cC m := fy (by rw [cN, Str.cps_append, Array.toList_append, cN, cN, List.flatMap_append])
theorem fF (x : Str) : cC [x] = x := fy (by rw [cN]; simp)
theorem lB (x : Str) (l : List Str) : cC (x :: l) = x ++ cC l := fy (by rw [cN, Str.cps_append, Array.toList_append, cN, sM])
theorem dq : cC [] = ud "" := by decide +kernel
theorem dv (x : Str) : x ++ ud "" = x := fy (by rw [Str.cps_append, Array.toList_append, show (ud "").cps.toList = [] from by decide +kernel, s7])
theorem eE (x : Str) : tZ ++ x = x := fy (by rw [Str.cps_append, Array.toList_append, show tZ.cps.toList = [] from by decide +kernel, te])
theorem dD (a b c : Str) : a ++ b ++ c = a ++ (b ++ c) := fy (by simp [Str.cps_append])
theorem tot_t (h : ∀ p ∈ l, p.1 = tT) : tot l = l.length := by
 induction l with
 | nil => rfl
 | cons p r ih =>
  have := ih fun q W => h q (au _ W)
  have e : tT.length = 1 := by decide +kernel
  unfold tot at this ⊢;rw [az, List.sum_cons, this, h p aB, sO, e]; exact bD 44188645651 0
structure S5 (D N : List (List Sp)) (k m : Nat) (t : d0) (due : Str) : Prop where
 q : QS.of t = q5 D N
 nz : N.length = D.length + 1
 dp : ∀ p ∈ aK D, p ∈ P9
 dn : ((aK D).map (·.1)).Nodup
 np : ∀ p ∈ aK N, p ∈ P9
 ps : t.ps = List.replicate (D.length + 1) false
 rs : t.data ≠ [] ∨ D ≠ [] → t.rs = true
 ig : t.ig = 0
 outE : cC (t.out.map (·.1)) ++ cC (t.data.map (·.1)) = due
 dt : ∀ p ∈ t.data, p.1 = tT
 dz : t.data.length ≤ k
 oz : t.out.length ≤ 8 * k + m
 tz : (aK N).length ≤ m
 bz : due.length ≤ 800 * k + 100
 lz : D.length ≤ k
theorem flatV_mem : p ∈ aK D ↔ ∃ l ∈ D, p ∈ l := by
 unfold aK;rw [List.mem_flatten];exact ⟨fun ⟨l, h1, h2⟩ => ⟨l, sZ.mp h1, h2⟩, fun ⟨l, h1, h2⟩ => ⟨l, sZ.mpr h1, h2⟩⟩
theorem ie (h : l ∈ D) : l.length ≤ (aK D).length := by
 have : l.Sublist (aK D) := List.sublist_flatten_of_mem (sZ.mpr h);exact this.length_le
theorem jN (h : p ∈ P9) : p.1.length ≤ 100 ∧ p.2.length ≤ 100 := by
 have := cf p h;exact (a9 0x214155643664322ab66be16ffad95df1a5c 0) this.2.1 this.2.2.1
theorem fX {l : List Str} (nd : l.Nodup) (h : ∀ u ∈ l, u ∈ U4) : l.length ≤ 4 := fW nd h
section
variable {i : Wid} {t : d0} {D N : List (List Sp)} {k m : Nat} {due : Str}
theorem S5.dl (h : S5 D N k m t due) : t.dl.map Lv.v = [xmlPr] :: D := congrArg QS.dl h.q
theorem S5.nl (h : S5 D N k m t due) : t.nl.map Lv.v = mapNs :: N := congrArg QS.nl h.q
theorem S5.pm (h : S5 D N k m t due) : t.pm = [] := sq.mp (congrArg QS.pm h.q)
theorem S5.d4 (h : S5 D N k m t due) : (aK D).length ≤ 4 := by
 have := fX h.dn fun u W => by
  obtain ⟨p, hp, rfl⟩ := tG.mp W;exact (cf p (h.dp p hp)).1
 rwa [ak] at this
theorem S5.mono (h : S5 D N k m t due) (hk : k ≤ k') (hm : m ≤ m') : S5 D N k' m' t due := by
 have := h.bz;have := h.oz;have := h.dz;have := h.tz;have := h.lz;exact ⟨h.q, h.nz, h.dp, h.dn, h.np, h.ps, h.rs, h.ig, h.outE, h.dt, by omega, by omega, by omega, by omega, by exact (bZ 48322710335118 0) hk this⟩
theorem qK {ls : List Lv} (e : ls.map Lv.v = X) (h : ∀ l ∈ X, l.length ≤ 1000 ∧ ∀ p ∈ l, p.1.length ≤ 100 ∧ p.2.length ≤ 100) : ∀ l ∈ ls, l.ps.length ≤ 1000 ∧ ∀ q ∈ l.ps, q.u.length ≤ 100 ∧ q.p.length ≤ 100 := by
 intro l hl;obtain ⟨h1, h2⟩ := h l.v (by rw [← e]; exact aA hl);unfold Lv.v at h1 h2;rw [ak] at h1;exact ⟨h1, fun q W => h2 q.v (aA W)⟩
theorem nF : ∀ p ∈ mapNs, p.1.length ≤ 100 ∧ p.2.length ≤ 100 := by decide +kernel
theorem m8 : ∀ p ∈ [xmlPr], p.1.length ≤ 100 ∧ p.2.length ≤ 100 := by decide +kernel
theorem S5.wb (h : S5 D N k m t due) (hk : k ≤ 400) (hm : m ≤ 900) : WB t := by
 have h4 := h.d4;have := h.tz;have := h.nz;have := h.lz;have := h.dz;have e1 : t.dl.length = D.length + 1 := by have := congrArg tQ h.dl; rwa [ak] at this
 have e2 : t.nl.length = N.length + 1 := by have := congrArg tQ h.nl; rwa [ak] at this
 refine ⟨by rw [tot_t h.dt]; exact (a9 0x141fad9670b326a6f5193ddfc 0) hk this, by exact (a9 0x474db25be9ad44bfa9cd28 0) hk this, by rw [h.ps]; simp, by rw [h.ps, r7]; omega, by omega, by omega, qK h.dl fun l hl => ?_, qK h.nl fun l hl => ?_, by rw [h.pm]; exact ⟨tO _, fun q W => (by cases W)⟩, by rw [h.ig]; exact (om0 49131816964982 0)⟩
 ·rcases tB.mp hl with rfl | hl
  ·exact ⟨by decide, m8⟩
  ·exact ⟨by have := ie hl; exact (a9 0xfca57504574eeb7d328 0) h4 this, fun p hp => jN (h.dp p (flatV_mem.mpr ⟨l, hl, hp⟩))⟩
 ·rcases tB.mp hl with rfl | hl
  ·exact ⟨by decide, nF⟩
  ·exact ⟨by have := ie hl; omega, fun p hp => jN (h.np p (flatV_mem.mpr ⟨l, hl, hp⟩))⟩
theorem qb5 (h4 : (aK D).length ≤ 4) (hd : ∀ p ∈ aK D, p ∈ P9) (hn : ∀ p ∈ aK N, p ∈ P9) (hz : D.length ≤ 900) (W : N.length ≤ 900) (ht : (aK N).length ≤ 900) : QB U5 5 (q5 D N) := by
 refine ⟨by show ([xmlPr] :: D).length ≤ 1000; rw [sO]; exact (bD 0x2227da30980adc1015b76 0) hz, by show (mapNs :: N).length ≤ 1000; rw [sO]; exact (bD 0x2227da30980adc1015b76 0) W, ?_, ?_, ?_, ?_, List.nodup_nil, fun p hp => (by cases hp)⟩
 ·show (aK ([xmlPr] :: D)).length ≤ 5;rw [bE, aw];show _ + 1 ≤ 5;exact (bD 0x1aca66a651548d96 0) h4
 ·intro p hp;have hp : p ∈ aK ([xmlPr] :: D) := hp;rw [bE] at hp;exact (s8.mp hp).elim (fun q => jN (hd p q)) (m8 p)
 ·intro l hl;rcases tB.mp (show l ∈ mapNs :: N from hl) with rfl | hl
  ·decide
  ·have := ie hl; exact (a9 0x474db2522f4dc7fb0b7b28 0) ht this
 ·intro p hp;have hp : p ∈ aK (mapNs :: N) := hp;rw [bE] at hp;exact (s8.mp hp).elim (fun q => jN (hn p q)) (nF p)
theorem uok5 : UOk U5 := ⟨by decide, by decide +kernel⟩
theorem S5.fl (h : S5 D N k m t due) (h7 : i.st = false) : S5 D N (k + 1) m (cm i t u) due ∧ (cm i t u).data = [] := by
 refine ⟨?_, rn⟩;have h' := h.mono (k' := k + 1) (m' := m) (by exact oq5) (ah _);unfold cm;by_cases e : t.data = []
 ·rw [if_pos e]; exact h'
 ·rw [if_neg e];have W : mN i.st (t.data.map (·.1)) t.ps = cC (t.data.map (·.1)) := by unfold mN; rw [h7]; rfl
  have hl : (cC (t.data.map (·.1))).length ≠ 0 := by
   rw [j0, tot_t h.dt];have := List.length_pos_iff.mpr e;exact (bD 0xbecbb1a44197ac 1297067) this
  have h9 : cdF (cC (t.data.map (·.1))) = cC (t.data.map (·.1)) := cdF_t fun x hx => by
   obtain ⟨p, hp, rfl⟩ := tG.mp hx;exact h.dt p hp
  unfold flT;rw [W, if_pos ⟨hl, h.rs (.inl e)⟩, h9];refine ⟨h'.q, h'.nz, h'.dp, h'.dn, h'.np, h'.ps, fun _ => h.rs (.inl e), h'.ig, ?_, (fun p hp => by cases hp), tO _, ?_, h'.tz, h'.bz, h'.lz⟩
  ·show cC ((t.out ++ [(cC (t.data.map (·.1)), u)]).map (·.1)) ++ cC [] = _;rw [ao, dP, az, tJ, fF, h.outE, dq, dv]
  ·show (t.out ++ [_]).length ≤ _;have := h.oz;rw [aw, r4]; exact (bZ 0x2ba649ce9d749df66ec902c88e 0) this
theorem S5.dat (h : S5 D N k m t due) (W : D ≠ []) : S5 D N (k + 1) m { t with data := t.data ++ [(tT, u)] } (due ++ tT) := by
 have h' := h.mono (k' := k + 1) (m' := m) (by exact oq5) (ah _);have hb := h.bz;have z : tT.length = 1 := by decide +kernel
 refine ⟨h'.q, h'.nz, h'.dp, h'.dn, h'.np, h'.ps, fun _ => h.rs (.inr W), h'.ig, ?_, fun p hp => ?_, ?_, h'.oz, h'.tz, ?_, h'.lz⟩
 ·show cC (t.out.map (·.1)) ++ cC ((t.data ++ [(tT, u)]).map (·.1)) = _;rw [ao, dP, az, tJ, fF, ← dD, h.outE]
 ·rcases s8.mp (show p ∈ t.data ++ [(tT, u)] from hp) with hp | hp
  ·exact h.dt p hp
  ·rw [su.mp hp]
 ·show (t.data ++ [(tT, u)]).length ≤ _;have := h.dz;rw [aw, r4]; exact (a9 0x5d4a6ae9913ce 0) this
 ·rw [am, z]; exact (a9 0x5a64a50471b2be33504422e8a8322bafab2c3340e 0) hb
theorem S5.ns {nl : List Lv} (h : S5 D N k m t due) (hd : t.data = []) (hp : p ∈ P9) (h7 : nl.map Lv.v = mapNs :: bB N p) : S5 D (bB N p) k (m + 1) { t with nl := nl } due := by
 have h' := h.mono (k' := k) (m' := m + 1) (ah _) (by exact oq5);have hN : N ≠ [] := fun e => by have := h.nz; rw [e] at this; cases this
 obtain ⟨N0, l, rfl⟩ : ∃ N0 l, N = N0 ++ [l] := ⟨N.dropLast, N.getLast hN, (rL hN).symm⟩;rw [dN] at h7 ⊢;refine ⟨?_, by have := h.nz; rw [aw] at this ⊢; exact this, h'.dp, h'.dn, fun q W => ?_, h'.ps, h'.rs, h'.ig, h'.outE, h'.dt, h'.dz, h'.oz, ?_, h'.bz, h'.lz⟩
 ·unfold QS.of q5;dsimp only;rw [h7, h.dl, h.pm]; rfl
 ·rw [a5] at W;rcases s8.mp W with W | W
  ·rcases s8.mp W with W | W
   ·exact h.np q (by rw [a5]; exact sg _ W)
   ·rw [su.mp W]; exact hp
  ·exact h.np q (by rw [a5]; exact r6 _ W)
 ·have := h.tz;rw [a5, aw] at this ⊢;rw [aw, r4]; exact (bZ 0x77184a94950e93119e 0) this
end
noncomputable def kX : Str := ud "x"
noncomputable def kK : Str := ud "k"
noncomputable abbrev e0 : Str := ud ""
noncomputable def aX (u n : Str) : Str := if u = e0 then n else ud "{" ++ u ++ ud "}" ++ n
noncomputable def SU : List Str := [e0, uS, uA, uB, uC]
noncomputable def W10 : List Str := SU.flatMap fun u => [aX u kK, aX u kX]
theorem gL : ∀ x ∈ W10, iM x = true ∧ (bX x).1 ∈ U5 ∧ x ≠ gV := by decide +kernel
theorem dB : ∀ u ∈ U5, bX (aX u kX) = (u, kX) ∧ bX (aX u kK) = (u, kK) ∧ aX u kX ∈ W10 ∧ aX u kK ∈ W10 := by decide +kernel
theorem w10_pw : W10.Pairwise fun x y => d3 (κQ x) (κQ y) = true := by decide +kernel
theorem su_pw : SU.Pairwise fun x y => eM (aX x kK) (aX y kK) = true := by decide +kernel
theorem su_pw2 : SU.Pairwise fun x y => eM x y = true := by decide +kernel
theorem w10_inj : ∀ x ∈ W10, ∀ y ∈ W10, κQ x = κQ y → x = y := by decide +kernel
theorem su_u5 : ∀ u, u ∈ SU ↔ u ∈ U5 := by
 intro u;unfold SU U5 U4 e0;simp only [tB, List.not_mem_nil, or_false];constructor
 ·rintro (h | h | h | h | h)
  ·exact .inl h
  ·exact .inr (.inr (.inr (.inr h)))
  ·exact .inr (.inl h)
  ·exact .inr (.inr (.inl h))
  ·exact .inr (.inr (.inr (.inl h)))
 ·rintro (h | h | h | h | h)
  ·exact .inl h
  ·exact .inr (.inr (.inl h))
  ·exact .inr (.inr (.inr (.inl h)))
  ·exact .inr (.inr (.inr (.inr h)))
  ·exact .inr (.inl h)
theorem p9_ns : ∀ p ∈ P9, ∀ q ∈ P9, eM p.2 q.2 = true → eM (g6 p).1 (g6 q).1 = true := by decide +kernel
theorem p9_ns2 : ∀ p ∈ P9, g6 p = (ud "xmlns:" ++ p.2, p.1) := by decide +kernel
theorem kM : ∀ u ∈ U5, iC u = u ∧ u.length ≤ 40 := by decide +kernel
noncomputable def AU (b : Str → Bool) : List Str := ([uS, uC, uB, uA].filter b) ++ [e0]
noncomputable def SA (b : Str → Bool) : List Str := SU.filter fun u => decide (u ∈ AU b)
noncomputable def tx (v u : Str) : Str := if u = e0 then v else ud "1"
theorem e5 (h : u ∈ AU b) : u ∈ U5 := by
 rcases s8.mp h with h | h
 ·have := (tw.mp h).1;refine (su_u5 u).mp ?_;simp only [tB, List.not_mem_nil, or_false] at this;unfold SU;rcases this with rfl | rfl | rfl | rfl <;> simp
 ·rw [su.mp h]; exact aB
theorem lT (b : Str → Bool) : (AU b).Nodup := by
 refine sH.mpr ⟨List.Nodup.sublist List.filter_sublist (by decide +kernel), by simp, fun x hx y W e => ?_⟩;rw [su.mp W] at e;have h1 := (tw.mp hx).1;rw [e] at h1;revert h1;decide +kernel
theorem iq (b : Str → Bool) : (AU b).length ≤ 5 := by
 unfold AU;have := List.length_filter_le b [uS, uC, uB, uA];rw [aw, r4];simp only [sO, tf] at this;exact (bD 0x2bac3a1cf8403a83d788fde596 0) this
theorem su_nd : SU.Nodup := by decide +kernel
theorem cT (b : Str → Bool) : (SA b).Perm (AU b) := by
 refine (List.perm_ext_iff_of_nodup (List.Nodup.sublist List.filter_sublist su_nd) (lT b)).mpr fun u => ?_
 rw [tw];constructor
 ·intro h; simpa using h.2
 ·intro h; exact ⟨(su_u5 u).mpr (e5 h), by simpa using h⟩
theorem nH (W : u ∈ U5) (hv : v ∈ U5) (e : aX u kK = aX v kK) : u = v := by
 have h1 := (dB u W).2.1;have h2 := (dB v hv).2.1;rw [e, h2] at h1;exact (Prod.mk.inj h1).1.symm
theorem dI {α β : Type} {f : α → β} : ∀ {l : List α}, l.Nodup → (∀ x ∈ l, ∀ y ∈ l, f x = f y → x = y) → (l.map f).Nodup
 | [], _, _ => List.nodup_nil
 | a :: r, h, hf => by
  obtain ⟨h1, h2⟩ := s9.mp h;rw [az];refine s9.mpr ⟨fun hm => ?_, dI h2 fun x hx y W => hf x (au _ hx) y (au _ W)⟩;obtain ⟨y, W, e⟩ := tG.mp hm;have := hf y (au _ W) a aB e;exact h1 (this ▸ W)
noncomputable def XS (u0 : Str) (b : Str → Bool) : List Str := W10.filter fun x => decide (x ∈ bU [aX u0 kX] ((AU b).map fun u => aX u kK))
theorem fm (h0 : u0 ∈ U5) (h : x ∈ bU [aX u0 kX] ((AU b).map fun u => aX u kK)) : x ∈ W10 ∧ (bX x).1 ∈ u0 :: AU b := by
 rw [cM, su] at h;rcases h with rfl | h
 ·have := dB u0 h0;exact ⟨this.2.2.1, by rw [this.1]; exact aB⟩
 ·obtain ⟨u, W, rfl⟩ := tG.mp h;have := dB u (e5 W);exact ⟨this.2.2.2, by rw [this.2.1]; exact au _ W⟩
theorem dL (b : Str → Bool) (h0 : u0 ∈ U5) : (XS u0 b).Perm (bU [aX u0 kX] ((AU b).map fun u => aX u kK)) := by
 refine (List.perm_ext_iff_of_nodup (List.Nodup.sublist List.filter_sublist (by decide +kernel)) (fu _ _ (by simp))).mpr fun x => ?_
 rw [tw];constructor
 ·intro h; simpa using h.2
 ·intro h; exact ⟨(fm h0 h).1, by simpa using h⟩
theorem m7 (h0 : u0 ∈ U5) : u ∈ (XS u0 b).map (fun x => (bX x).1) ↔ u ∈ u0 :: AU b := by
 rw [tG];constructor
 ·rintro ⟨x, W, rfl⟩;exact (fm h0 ((dL b h0).mem_iff.mp W)).2
 ·intro h;rcases tB.mp h with rfl | h
  ·refine ⟨aX u kX, (dL b h0).mem_iff.mpr ?_, by rw [(dB u h0).1]⟩;rw [cM]; exact .inl aB
  ·refine ⟨aX u kK, (dL b h0).mem_iff.mpr ?_, by rw [(dB u (e5 h)).2.1]⟩;rw [cM]; exact .inr (aA h)
theorem fY {f : Str → Str} : ∀ {l : List Str} {x : Str}, x ∈ l → (l.map fun x => (x, f x)).lookup x = some (f x)
 | a :: r, x, h => by
  rw [az, sR];cases e : x == a with
  | true => rw [beq_iff_eq.mp e]
  | false =>
   refine fY ((tB.mp h).resolve_left fun q => ?_);rw [q] at e; simp at e
def LvFor (D N : List (List Sp)) (us : List Str) (lv : List Sp) : Prop := LvOk D N lv ∧ ∀ u, u ∈ lv.map (·.1) ↔ u ∈ us ∧ u ≠ e0 ∧ dy D u = none
theorem mA (W : ∀ p ∈ aK N, p ∈ P9) (hp : ∀ u ∈ us, u = e0 ∨ (bS N u).isSome = true) : LvFor D N us (dA D N [] us) := by
 obtain ⟨h1, h2⟩ := jT (D := D) W us [] hp ⟨fun p q => (by cases q), fun p q => (by cases q), List.nodup_nil⟩;exact ⟨h1, fun u => (h2 u).trans (by simp [e0])⟩
theorem LvFor.perm (h : LvFor D N us lv) (h' : LvFor D N W h7) (e : ∀ u, u ∈ us ↔ u ∈ W) : lv.Perm h7 := by
 have key : ∀ {us W : List Str} {lv h7 : List Sp}, LvFor D N us lv → LvFor D N W h7 → (∀ u, u ∈ us ↔ u ∈ W) → ∀ p ∈ lv, p ∈ h7 := by
  intro us W lv h7 h h' e p hp;have h1 := (h.2 p.1).mp (aA hp);have h2 := (h'.2 p.1).mpr ⟨(e _).mp h1.1, h1.2⟩;obtain ⟨q, hq, e2⟩ := tG.mp h2;have a1 := (h.1.pk p hp).1;have a2 := (h'.1.pk q hq).1;have : q = p := Prod.ext e2 (by rw [a2, a1, e2]);exact this ▸ hq
 have nd : ∀ {us : List Str} {lv : List Sp}, LvFor D N us lv → lv.Nodup := fun h => (sG.mp h.1.nd).imp fun h9 e => h9 (congrArg uo e)
 exact (List.perm_ext_iff_of_nodup (nd h) (nd h')).mpr fun p => ⟨key h h' e p, key h' h (fun u => (e u).symm) p⟩
theorem LvFor.nm (h : LvFor D N us lv) (W : u ∈ us) (h0 : u ≠ e0) : dy (D ++ [lv]) u = some (kA D N u) := by
 rw [jR h.1];unfold kA;cases e : dy D u with
 | some p =>
  rw [if_neg fun q => by have := ((h.2 u).mp q).2.2; rw [e] at this; cases this]; rfl
 | none => rw [if_pos ((h.2 u).mpr ⟨W, h0, e⟩)]; rfl
noncomputable def cL (lv : List Sp) : List Sp := srtS (fun x y : Sp => eM x.2 y.2) lv
theorem nD (h9 : ∀ p ∈ lv, p ∈ P9) (nd : (lv.map (·.1)).Nodup) : (cL lv).Pairwise fun x y => eM x.2 y.2 = true := by
 have tr : ∀ x y z : Sp, eM x.2 y.2 = true → eM y.2 z.2 = true → eM x.2 z.2 = true := fun x y z h1 h2 => hH _ _ _ h1 h2
 refine gz (c := fun x y : Sp => eM x.2 y.2) tr (oT (c := fun x y : Sp => eM x.2 y.2) tr ?_);have h7 : lv.Pairwise fun x y => x.1 ≠ y.1 := sG.mp nd
 refine h7.imp_of_mem fun {x y} hx hy hne => ?_
 have W : x.2 ≠ y.2 := fun e => hne (jO x (h9 x hx) y (h9 y hy) e)
 have := mB W;show eM x.2 y.2 = true ∨ eM y.2 x.2 = true;cases e : eM y.2 x.2 with
 | true => exact .inr rfl
 | false => exact .inl (this.trans (by rw [show decide (y.2.cps.toList < x.2.cps.toList) = false from e]; rfl))
theorem cV (lv : List Sp) : (cL lv).Perm lv := fT _ _
theorem oW (hp : l.Perm lv) (W : bP eM (l.map (·.2))) (h9 : ∀ p ∈ lv, p ∈ P9) (nd : (lv.map (·.1)).Nodup) : l = cL lv := by
 refine cK (c := eM) (f := fun p : Sp => p.2) gD hH (hp.trans (cV lv).symm) W ?_;exact dM (sG.mpr (nD h9 nd))
noncomputable def ci (p : Sp) : Str := ud " xmlns:" ++ p.2 ++ ud "=\"" ++ p.1 ++ ud "\""
noncomputable def nmA (D N : List (List Sp)) (n u : Str) : Str := if u = e0 then n else kA D N u ++ ud ":" ++ n
noncomputable def cA (D N : List (List Sp)) (v u : Str) : Str := ud " " ++ (if u = e0 then e0 else kA D N u ++ ud ":") ++ kK ++ ud "=\"" ++ tx v u ++ ud "\""
noncomputable def fA (D N : List (List Sp)) (lv : List Sp) (u0 : Str) (b : Str → Bool) (v : Str) : Str := ud "<" ++ nmA D N kX u0 ++ cC ((cL lv).map ci) ++ cC ((SA b).map (cA D N v)) ++ ud ">"
theorem pr_ok (hD : ∀ p ∈ aK D, p ∈ P9) (hN : ∀ p ∈ aK N, p ∈ P9) (hp : (bS N u).isSome = true) : (u, kA D N u) ∈ P9 := by
 unfold kA;cases e : dy D u with
 | some p =>
  unfold dy at e;cases W : (aK D).find? fun q => q.1 == u with
  | none => rw [W] at e; cases e
  | some q =>
   rw [W] at e;cases e;obtain ⟨hq, rfl⟩ := cY W;exact hD q hq
 | none =>
  obtain ⟨p, W⟩ := rS.mp hp;show (u, c9 N u) ∈ P9;unfold c9;rw [W];exact k5 hN W
theorem qH (hD : ∀ p ∈ aK D, p ∈ P9) (W : ∀ p ∈ aK N, p ∈ P9) (hx : bX x = (u, n)) (hp : u = e0 ∨ (bS N u).isSome = true) : jS D N x = nmA D N n u := by
 unfold jS nmA;rw [hx];dsimp only;by_cases h : u = e0
 ·rw [if_pos h, if_pos h]
 ·rw [if_neg h, if_neg h];unfold iB;rw [if_neg (cf _ (pr_ok hD W (hp.resolve_left h))).2.2.2.2.2.1];rw [show tZ ++ kA D N u = kA D N u from eE _]
theorem dec_eq (h : p ∈ P9) : ir (g6 p) = ci p := by
 rw [p9_ns2 p h];unfold ir ci;dsimp only;rw [(kM p.1 (au _ (cf p h).1)).1, show tZ ++ ud " " = ud " " from eE _, ← dD, show ud " " ++ ud "xmlns:" = ud " xmlns:" from by decide +kernel]
theorem att_eq (hD : ∀ p ∈ aK D, p ∈ P9) (hN : ∀ p ∈ aK N, p ∈ P9) (h0 : u0 ∈ U5) (hp : ∀ u ∈ u0 :: AU b, u = e0 ∨ (bS N u).isSome = true) (W : u ∈ AU b) (hv : iC v = v) :
  ir (iR (iL ((XS u0 b).map fun x => (x, jS D N x))) (aX u kK, tx v u)) = cA D N v u := by
 have hm : aX u kK ∈ XS u0 b := (dL b h0).mem_iff.mpr (by rw [cM]; exact .inr (aA (f := fun u => aX u kK) W));have hk := (dB u (e5 W)).2.1;have h7 : iC (tx v u) = tx v u := by
  unfold tx;split
  ·exact hv
  ·decide +kernel
 unfold ir cA iR iL;dsimp only;rw [fY hm, hk, h7, Option.getD_some, qH hD hN hk (hp u (au _ W)), show tZ ++ ud " " = ud " " from eE _];dsimp only;by_cases h : u = e0
 ·subst h;rw [if_pos (by decide +kernel), if_pos rfl, dv]
 ·have hl : u.length ≠ 0 := by
   have := (tB.mp (e5 W)).resolve_left h;exact (u4_ok u this).2.1
  rw [if_neg hl, if_neg h];unfold nmA;rw [if_neg h, dD, dD (ud " ")];simp only [dD]
theorem fG (h : ∀ x ∈ l, x.length ≤ n) : (cC l).length ≤ n * l.length := by
 induction l with
 | nil => rw [dq, show (ud "").length = 0 from by decide +kernel]; exact tO _
 | cons a r ih =>
  have h1 := h a aB;have h2 := ih fun x W => h x (au _ W)
  rw [lB, am, sO, Nat.mul_add];exact (jP 0x219797d9f7d9d1c7f6db2 0) h1 h2
theorem sta_len (hD : ∀ p ∈ aK D, p ∈ P9) (hN : ∀ p ∈ aK N, p ∈ P9) (hp : ∀ u ∈ u0 :: AU b, u = e0 ∨ (bS N u).isSome = true) (hL : LvFor D N us lv) (hv : v.length ≤ 3) : (fA D N lv u0 b v).length ≤ 700 := by
 have z0 : e0.length = 0 := by decide +kernel
 have z1 : (ud "<").length = 1 := by decide +kernel
 have z2 : (ud ">").length = 1 := by decide +kernel
 have z3 : (ud ":").length = 1 := by decide +kernel
 have z4 : (ud " xmlns:").length = 7 := by decide +kernel
 have z5 : (ud "=\"").length = 2 := by decide +kernel
 have z6 : (ud "\"").length = 1 := by decide +kernel
 have z7 : (ud " ").length = 1 := by decide +kernel
 have z8 : kX.length = 1 := by decide +kernel
 have z9 : kK.length = 1 := by decide +kernel
 have h9 : (ud "1").length = 1 := by decide +kernel
 have h7 : ∀ u ∈ u0 :: AU b, u ≠ e0 → (kA D N u).length ≤ 2 := fun u W h => (cf _ (pr_ok hD hN ((hp u W).resolve_left h))).2.2.1
 have h4 : lv.length ≤ 4 := by
  have := fX hL.1.nd fun u W => by
   obtain ⟨p, hq, rfl⟩ := tG.mp W;exact (cf p (hL.1.p9 p hq)).1
  rwa [ak] at this
 have a1 : (nmA D N kX u0).length ≤ 10 := by
  unfold nmA;split
  ·exact (bD 1500041849348 1298189) z8
  ·rename_i h;have := h7 u0 aB h;simp only [am]; exact (bZ 0x2b8282529bcaf439e463a03102 51025318645) z3 z8 this
 have a2 : (cC ((cL lv).map ci)).length ≤ 60 * 4 := by
  refine tH (fG (n := 60) fun x hx => ?_) (Nat.mul_le_mul_left _ (by rw [ak, (cV lv).length_eq]; exact h4));obtain ⟨p, hp, rfl⟩ := tG.mp hx;have := cf p (hL.1.p9 p ((cV lv).mem_iff.mp hp));unfold ci;simp only [am]; exact oq8 z4 z5 z6 this.2.1 this.2.2.1
 have a3 : (cC ((SA b).map (cA D N v))).length ≤ 20 * 5 := by
  refine tH (fG (n := 20) fun x hx => ?_) (Nat.mul_le_mul_left _ (by rw [ak, (cT b).length_eq]; exact iq b));obtain ⟨u, W, rfl⟩ := tG.mp hx;have W := (cT b).mem_iff.mp W;have t1 : (tx v u).length ≤ 3 := by
   unfold tx;split
   ·exact hv
   ·exact (bD 1500041841256 1298189) h9
  unfold cA;simp only [am];split
  ·exact (om6 0x44d6383b7391b853dfc3da0a1838a1a026b98d57a17dc94222 0x445e7977e0666ddd5) z0 z5 z6 z7 z9 t1
  ·rename_i h;have := h7 u (au _ W) h;simp only [am]; exact (om7 0xba6a5378e8fd005367800394b9b03667e2288935e7f495c9dbeebc6a 0x9148c93ea26202fdd5) z3 z5 z6 z7 z9 t1 this
 unfold fA;simp only [am];exact (om5 0xbb848b556e93bfa0c6cea3b5ab9a2096c463c9750966f38af0347c22 58985313789045) z1 z2 a1 a2 a3
section
variable {cs cs' : aF}
end
section
variable {M : Model} {cs cs' : aF} {K : Frag} {P : GP} {outer : List Env} {e L : uR} {cls : String} {t c : uN}
structure NoCont (T : String) : Prop where
 c : typeLookup (.type T) "__contains__" = uT none
 i : typeLookup (.type T) "__iter__" = uT none
 g : typeLookup (.type T) "__getitem__" = uT none
 n : (tV T == tV "builtin_function_or_method") = false
 m1 : ((toString "'" ++ toString (shownName T) ++ toString "' object is not iterable" : String) : Str).length ≤ ug
 m2 : ((toString "argument of type '" ++ toString (shownName T) ++ toString "' is not iterable" : String) : Str).length ≤ ug
end
section
variable {M : Model} {cs cs' : aF} {Q : VP}
end
section
variable {M : Model} {cs cs' : aF} {K : Frag} {P : GP} {outer : List Env} {e L : uR} {cls : String} {t c : uN}
structure ExcT (T : String) : Prop where
 exc : isSubtype (.type T) (.type "BaseException") = uT true
 nt : isSubtype (.type ((Manifest.find? T).elim "type" fun x => x.metatype)) (.type "tuple") = uT false
end
section
variable {cs cs' X : aF} {K : Frag} {Q : VP}
theorem o_nen (ha : Has cs a (aE xs)) (hb : Has cs b (aE [])) (W : A.units < cLine) (h : Go h0 o0 cs (Q (.bool (!xs.isEmpty)))) : Go h0 o0 cs (uL (uM uX w) A (uc .NotEq (.ref a) (.ref b)) Q E) := fun s H => x_neNil H ha hb W (h s H)
theorem fE (hz : x.length + y.length ≤ ug) (h : ∀ t, Go h0 o0 cs (Q (.str (x ++ y) t))) : Go h0 o0 cs (uL (uM uX w) A (inplaceOp .Add (.str x t) (.str y u)) Q E) := fun s H => x_iadds H hz fun t' s' W => h t' s' W
theorem gn {M : Model} {b b' : List Stmt} {Q : FP} (e : b = b') (h : Go h0 o0 cs (uL M A (uP b' env) Q E)) : Go h0 o0 cs (uL M A (uP b env) Q E) := e ▸ h
theorem s_two {M : Model} {st : Stmt} {rest : List Stmt} {Q QK : FP} (W : QK = KS M A E env rest Q) (h : Go h0 o0 cs (uL M A (exec st env) QK E)) : Go h0 o0 cs (uL M A (uP (st :: rest) env) Q E) := aH (W ▸ h)
end
def LN (uX : uy) (w : uQ) (A : uJ) (env : Env) (h0 : uV) (o0 : uF) (y : Str) (cl : List (Str × uR)) (scope : Scope) (elt target : Expr) (ifs : List Expr) (Q : FP) (E : VP) : uN → uF → Prop := Ov uX w A env h0 o0 ([] : List uN) (EvL uX w A h0 o0 elt) target ifs scope cl (FnA uX w A env h0 o0 aE y Q E) E
def SL (h0 : uV) (o0 : uF) (P : List uN → aF → Prop) (ys : List uN) (L : uR) (K' : aF) : uF → Prop := fun s₃ => ∃ m C', P ys C' ∧ St h0 o0 ((L, cNs m) :: (C' ++ K')) s₃
section
variable {cs cs' X : aF}
theorem sl (W : P ys C') (e : cs = (L, cNs m) :: (C' ++ K')) : Go h0 o0 cs (SL h0 o0 P ys L K') := fun s H => ⟨m, C', W, e ▸ H⟩
theorem s_cln {elt target iter : Expr} {ifs : List Expr} {scope : Scope} {pos py spos : Pos} {y : Str} {cl : List (Str × uR)} {Q : FP}
  (x1 : swapsWith (.ListComp elt [⟨target, iter, ifs, 0⟩] scope pos) (some (.Name y py)) spos.line env = uT true)
  (h9 : closureFor scope env = uT cl) (x0 : ∀ y ∈ scope.names, y.2 ≠ .cell) (h7 : scope.kind = .function) (W : ∀ y ∈ scope.names, y.2 = .local → scope.names.lookup y.1 = some .local)
  (h : Go h0 o0 cs (uL (uM uX w) A (uU iter env) (LN uX w A env h0 o0 y cl scope elt target ifs Q E) E)) (hs : ∀ x, sF iter env x = uT x) :
  Go h0 o0 cs (uL (uM uX w) A (exec (.Assign [.Name y py] (.ListComp elt [⟨target, iter, ifs, 0⟩] scope pos) spos) env) Q E) :=
 fun s H => a_ov gF x1 h9 x0 h7 W (h s H) hs
theorem lnL {y : Str} {l : uR} {xs : List uN} {cl : List (Str × uR)} {scope : Scope} {elt target : Expr} {ifs : List Expr} {Q : FP} (P : Nat → List uN → aF → Prop) (hh : A.handled = none) (hl : ∀ i ys C, P i ys C → Has C l (aE xs)) (hz : xs.length ≤ 1000) (h7 : P 0 [] cs)
  (turn : ∀ L i v ys C W, xs[i]? = some v → P i ys C → Go h0 o0 ((L, cNs []) :: (C ++ W)) (uL (uM uX w) A (uG target (uq scope cl L env) v) (fun _ => uL (uM uX w) A (bh ifs (uq scope cl L env)) (fun ok =>
   iU ok (uL (uM uX w) A (uU elt (uq scope cl L env)) (CE h0 o0 (P (i + 1)) ys L W) NoE) (SL h0 o0 (P (i + 1)) ys L W)) NoE) NoE))
  (fin : ∀ L D ys C, P xs.length ys C → Go h0 o0 ((D, aE ys) :: (C ++ [(L, cNs [])])) (uL (uM uX w) A (tX env y (.ref D)) (NK h0 o0 L (Q .next)) E)) : Go h0 o0 cs (LN uX w A env h0 o0 y cl scope elt target ifs Q E (.ref l)) := by
 intro s H;refine wpAny_pyIter_list (aS H (hl 0 [] cs h7)) ?_;have H2 := H.push (k := s.toks) (o := { cls := .type "list_iterator", data := .fields #[.ref l, uH 0] }) (c := bA l 0) ⟨rfl, rfl⟩ (ah _);exact ⟨_, xs.length, _, fun C => Has C l (aE xs), cs, [], P, mn (cF (l := l) (xs := xs) hh), h7, tH hz (by rw [aj]; decide), by rw [s7]; exact H2, fun i ys C hP => by rw [s7]; exact hl i ys C hP, fun L i v c ys C W s' hi hv hP _ H' => turn L i v ys C W hv.1 hP s' H', fun L D ys C s hP H => fin L D ys C hP s H⟩
theorem dcL {l : uR} {xs : List uN} {cl : List (Str × uR)} {scope : Scope} {kx vx target : Expr} {ifs : List Expr} {Q : VP} (P : Nat → List (Str × uN) → aF → Prop) (hh : A.handled = none) (hl : ∀ i ys C, P i ys C → Has C l (aE xs)) (hz : xs.length ≤ 1000) (h7 : P 0 [] cs)
  (turn : ∀ L i v ys C W, xs[i]? = some v → P i ys C → Go h0 o0 ((L, cNs []) :: (C ++ W)) (uL (uM uX w) A (uG target (uq scope cl L env) v) (fun _ => uL (uM uX w) A (bh ifs (uq scope cl L env)) (fun ok =>
   iU ok (uL (uM uX w) A (uU kx (uq scope cl L env)) (fun kv => uL (uM uX w) A (uU vx (uq scope cl L env)) (CV h0 o0 (P (i + 1)) ys L W kv) NoE) NoE) (SK h0 o0 (P (i + 1)) ys L W)) NoE) NoE))
  (fin : ∀ D ys C, P xs.length ys C → Go h0 o0 ((D, aL uX w ys) :: C) (Q (.ref D))) : Go h0 o0 cs (DC uX w A env h0 o0 cl scope kx vx target ifs Q E (.ref l)) := by
 intro s H;refine wpAny_pyIter_list (aS H (hl 0 [] cs h7)) ?_;have H2 := H.push (k := s.toks) (o := { cls := .type "list_iterator", data := .fields #[.ref l, uH 0] }) (c := bA l 0) ⟨rfl, rfl⟩ (ah _);refine ⟨_, xs.length, _, fun C => Has C l (aE xs), cs, [], P, mn (cF (l := l) (xs := xs) hh), h7, tH hz (by rw [aj]; decide), by rw [s7]; exact H2, fun i ys C hP => by rw [s7]; exact hl i ys C hP, ?_, fun D ys C s hP H => by rw [s7] at H; exact fin D ys C hP s H⟩;rintro L i v c ys C W s' hi ⟨hv, rfl⟩ hP _ H';exact turn L i v ys C W hv hP s' H'
theorem s_ass (h : Go h0 o0 cs (uL (uM uX w) A (uU value env) (fun v => uL (uM uX w) A (uU o env) (fun ov => uL (uM uX w) A (uU i env) (fun W => uL (uM uX w) A (setItem ov W v) (fun _ => Q .next) E) E) E) E))
  (hs : swapsWith value (some (.Subscript o i pos')) pos.line env = uT false) : Go h0 o0 cs (uL (uM uX w) A (exec (.Assign [.Subscript o i pos'] value pos) env) Q E) := fun s H => wpAny_Assign_Subscript (h s H) hs
theorem Go.name (h : ∀ C0, C0 = cs → Go h0 o0 C0 P) : Go h0 o0 cs P := h cs rfl
end
noncomputable def jl (it : uR) (i : Nat) : cP := fun o => ∃ old, o = { cls := .type "enumerate", dict := none, data := .fields #[.none, .bool false, .ref it, uH i, .none, old], slots := #[] }
section
variable {cs cs' : aF} {K : aF}
theorem gE (H : St h0 o0 cs s) (h : Has cs e (jl it i)) : ∃ old, IsEnum s.heap e it i old := by
 obtain ⟨o, W, old, rfl⟩ := H.get h;exact ⟨old, W⟩
theorem St.upd2 (H : St h0 o0 ((a, c1) :: (b, c2) :: C) s) (h1 : ∃ o, h'.get? a = some o ∧ c1' o) (h2 : ∃ o, h'.get? b = some o ∧ c2' o)
  (hk : ∀ x o, x ≠ a → x ≠ b → s.heap.get? x = some o → h'.get? x = some o) (W : s.toks ≤ k) : St h0 o0 ((a, c1') :: (b, c2') :: C) { s with heap := h', toks := k } := by
 have na : h0.get? a = none := H.new (a, c1) (by simp);have nb : h0.get? b = none := H.new (b, c2) (by simp);have nd := H.nodup;simp only [az, s9, tB, not_or] at nd;refine ⟨fun x o e => hk x o (fun q => ?_) (fun q => ?_) (H.keep x o e), fun p hp => ?_, fun p hp => ?_, ?_, H.gens, H.os, (by have := H.tok; show k ≠ 0; omega), tH H.flo W, fun p hp => ?_, H.g3⟩
 ·subst q; rw [na] at e; cases e
 ·subst q; rw [nb] at e; cases e
 ·rcases tB.mp hp with rfl | hp
  ·exact h1
  ·rcases tB.mp hp with rfl | hp
   ·exact h2
   ·obtain ⟨o, ho, hc⟩ := H.cell p (by simp [hp]);exact ⟨o, hk _ _ (fun q => nd.1.2 (q ▸ aA hp)) (fun q => nd.2.1 (q ▸ aA hp)) ho, hc⟩
 ·rcases tB.mp hp with rfl | hp
  ·exact na
  ·rcases tB.mp hp with rfl | hp
   ·exact nb
   ·exact H.new p (by simp [hp])
 ·simp only [az, s9, tB, not_or];exact nd
 ·rcases tB.mp hp with rfl | hp
  ·exact H.big (a, c1) (by simp)
  ·rcases tB.mp hp with rfl | hp
   ·exact H.big (b, c2) (by simp)
   ·exact H.big p (by simp [hp])
theorem ml {elts : List Expr} {x1 : Nat} {pos : Pos} {e it l : uR} {xs : List uN} (hh : A.handled = none) :
  gc uX w A h0 o0 (.Tuple elts x1 pos) (.ref e) (fun i => [(e, jl it i), (it, bA l i)]) xs.length (fun i v c => ∃ x a u, xs[i]? = some x ∧ v = .ref a ∧ c = [(a, bn [.int i u, x])]) (fun C => Has C l (aE xs)) where
 next := fun i C s Q E hi hd H hQ => by
  obtain ⟨old, he⟩ := gE H .here;have h7 := ct H .h1;have hl := aS H (.t2 hd);have nd := H.nodup;simp only [sN, te, az, s9, tB, not_or] at nd;obtain ⟨x, hx⟩ : ∃ x, xs[i]? = some x := ⟨xs[i], by simp [hi]⟩;refine wpAny_pyNext_enum_item he h7 hl (x := x) (by simpa using hx) nd.1.1 fun h' ho x2 hT hsz hk => ?_
  refine ⟨_, rfl, wpAny_letOwnedTupleGo_enum ho fun h2 x4 h9 => ?_⟩;have x8 : e < s.heap.objs.size := tM he;have x9 : it < s.heap.objs.size := by obtain ⟨_, q, _⟩ := h7; exact tM q
  obtain ⟨oi, x5, x6, x7⟩ := x2;have W : St h0 o0 ((e, jl it (i + 1)) :: (it, bA l (i + 1)) :: C) { s with heap := h2, toks := s.toks + 1 } := H.upd2 (k := s.toks + 1) ⟨_, x4, _, rfl⟩ ⟨oi, (h9.2 it (Ne.symm nd.1.1)).trans x5, x6, x7⟩ (fun b o x0 x3 q => (h9.2 b x0).trans (hk b o x0 x3 q)) (tP _);refine hQ _ _ _ ⟨x, s.heap.objs.size, s.toks, hx, rfl, rfl⟩ ?_;have f := H.fresh (ah s.heap.objs.size);refine ⟨W.keep, fun p hp => ?_, fun p hp => ?_, ?_, W.gens, W.os, W.tok, W.flo, fun p hp => ?_, W.g3⟩
  ·rcases tB.mp hp with rfl | hp
   ·exact ⟨_, (h9.2 _ (Nat.ne_of_gt x8)).trans hT, 0, rfl⟩
   ·exact W.cell p hp
  ·rcases tB.mp hp with rfl | hp
   ·exact f.2.1
   ·exact W.new p hp
  ·show (s.heap.objs.size :: _).Nodup;rw [s9]; exact ⟨f.1, W.nodup⟩
  ·rcases tB.mp hp with rfl | hp
   ·exact f.2.2
   ·exact W.big p hp
 done := fun C s Q E hd H hQ => by
  obtain ⟨old, he⟩ := gE H .here;have h7 := ct H .h1;have hl := aS H (.t2 hd);refine wpAny_pyNext_enum_end hh he h7 hl (by simp) fun h' hx => hQ _ ?_
  refine (St.dropBut (I := it) (c := bA l xs.length) (k := s.toks) ((H.perm (tY.swap _ _ _))) (fun b o hb q => hx b o hb q) (ah _)).tail
 self := fun i C s Q E H h => by
  obtain ⟨old, he⟩ := gE H .here;exact wpAny_pyIter_enum he h
 mono := fun C C' h hs => Has.of_mem (hs _ h.mem)
theorem k_enum (hl : Has cs l (aE xs)) (h : ∀ e it, Go h0 o0 ((e, jl it 0) :: (it, bA l 0) :: cs) (Q (.ref e))) : Go h0 o0 cs (uL (uM uX w) A (uW (.type "enumerate") [.ref l]) Q E) := fun s H => by
 refine call_enumerate_list (aS H hl) fun h' he h9 hsz hk => ?_
 refine h (s.heap.objs.size + 1) s.heap.objs.size _ ?_;have f1 := H.fresh (ah s.heap.objs.size);have f2 := H.fresh (tP s.heap.objs.size);obtain ⟨oi, h7, x0, W⟩ := h9;refine ⟨fun b o q => hk b o (H.keep b o q), fun p hp => ?_, fun p hp => ?_, ?_, H.gens, H.os, H.tok, H.flo, fun p hp => ?_, H.g3⟩
 ·rcases tB.mp hp with rfl | hp
  ·exact ⟨_, he, _, rfl⟩
  ·rcases tB.mp hp with rfl | hp
   ·exact ⟨oi, h7, x0, W⟩
   ·obtain ⟨o, ho, hc⟩ := H.cell p hp;exact ⟨o, hk _ _ ho, hc⟩
 ·rcases tB.mp hp with rfl | hp
  ·exact f2.2.1
  ·rcases tB.mp hp with rfl | hp
   ·exact f1.2.1
   ·exact H.new p hp
 ·simp only [az, s9, tB, not_or];exact ⟨⟨Nat.succ_ne_self _, f2.1⟩, f1.1, H.nodup⟩
 ·rcases tB.mp hp with rfl | hp
  ·exact f2.2.2
  ·rcases tB.mp hp with rfl | hp
   ·exact f1.2.2
   ·exact H.big p hp
end
section
variable {cs cs' : aF}
theorem iE {K : Type} [DecidableEq K] {knd : KeyKind uX w K} {d : uR} {kvs : List (K × uN)} {k : K} {key v : uN} {Q : Unit → uF → Prop} (W : knd.is k key = true) (hm : s.heap.DictOf knd d kvs) (h7 : k ∉ kvs.map (·.1))
  (hQ : ∀ h', h'.DictOf knd d (kvs ++ [(k, v)]) → tK d s.heap h' → Q () { s with heap := h' }) (hsz : kvs.length ≤ ug) :
  uL (uM uX w) A (dictPut d (knd.hash k) key v) Q E s := by
 obtain ⟨o, es, ep, ho, hc, hd, hk, hp, hn⟩ := hm;have x0 : es.size ≤ ug := by
  have e1 := hp.length;have e2 : es.toList.length = es.size := by simp
  exact (jP 0x1b46edec2aea3e4e 51025317523) hsz e1 e2
 unfold dictPut;refine ad (wpAny_dictFind_of W ho hd hk ?_);have h9 : (es.findIdx? fun e => knd.is k e.key) = kvs.findIdx? fun kv => decide (kv.1 = k) := by
  rw [← hp.findIdx k]; obtain ⟨l⟩ := es; simp
 cases hi : es.findIdx? fun e => knd.is k e.key with
 | some i =>
  have := any_of_findIdx_some (h9 ▸ hi);rw [List.any_eq_true] at this;obtain ⟨kv, x1, he⟩ := this;exact absurd (tG.mpr ⟨kv, x1, of_decide_eq_true he⟩) h7
 | none =>
  refine wpAny_updateDictKeys (hz := x0) ho hd (hQ _ ⟨_, _, ep + 1, r5 _ ho (Obj.isFreed_of_dict (Obj.data_mapDictKeys hd _)),
   hc.mapDictKeys _, Obj.data_mapDictKeys hd _, hk.push W _, ?_, ?_⟩ (si ..))
  ·have := hp.append W (knd.hash k) v;obtain ⟨l⟩ := es;simpa using this
  ·rw [ao, sH];refine ⟨hn, by simp, ?_⟩;intro a ha b hb;simp only [az, tJ, su] at hb;subst hb;exact fun e => h7 (e ▸ ha)
noncomputable def mgA (es : Array DictEntry) (e : DictEntry) (_ : PUnit) : Sem (ForInStep PUnit) := do
 if let .ref _ := e.key then
  if (← specialOf e.key "__eq__") != some (.builtin "object.__eq__") then
   if (es.filter (·.hash == e.hash)).size > 1 then unsupported "dict.merge-into-an-empty-dict:keys-of-equal-hash"
 uT (.yield ⟨⟩)
noncomputable def mgB (d a : uR) (epoch : Nat) (i : Nat) (_ : PUnit) : Sem (ForInStep PUnit) := do
 let some e := (← dictEntries a)[i]? | unsupported "dict.changed-during-merge"
 holding [e.key, e.val] do
  dictPut d e.hash e.key e.val
 if (← dictEpoch a) != epoch then unsupported "dict.changed-during-merge"
 uT (.yield ⟨⟩)
noncomputable def mgT (d a : uR) : Sem Unit := do
 let size := (← dictEntries a).size
 let epoch ← dictEpoch a
 forIn (List.range size) PUnit.unit (mgB d a epoch)
 uT ()
noncomputable def mgM (d a : uR) : Sem Unit := do
 if a == sysModules then unsupported "sys.modules:all-start-up-values-wanted"
 if (← dictEntries d).isEmpty then
  let es ← dictEntries a
  forIn es PUnit.unit (mgA es)
 mgT d a
theorem mg_a (hk : ∀ e ∈ es.toList, ∃ k t, e.key = .str k t) : uL (uM uX w) A (forIn es PUnit.unit (mgA es)) (fun _ s' => s' = s) NoE s := by
 rw [← Array.forIn_toList];refine wpAny_forIn_list _ (fun rest _ s' => s' = s ∧ ∀ e ∈ rest, e ∈ es.toList) _ ?_ ?_ _ _ ⟨rfl, fun e q => q⟩
 ·rintro x rest b s' ⟨rfl, hm⟩;obtain ⟨k, t, W⟩ := hk x (hm x aB);unfold mgA;rw [W];exact ae ⟨rfl, fun e q => hm e (au _ q)⟩
 ·rintro b s' ⟨rfl, _⟩; rfl
def MgI (uX : uy) (w : uQ) (d o : uR) (oo : Obj) (n : Nat) (more : List (Str × uN)) (s0 : uF) (rest : List Nat) (s1 : uF) : Prop :=
 ∃ h' i, s1 = { s0 with heap := h' } ∧ rest = List.range' i (n - i) ∧ i ≤ n ∧ h'.DictOf (tC uX w) d (more.take i) ∧ h'.get? o = some oo ∧ tK d s0.heap h'
theorem mg_b (y6 : d ≠ o) (x2 : oo.data = .dict es ep)
  (y2 : KeysOf (tC uX w) es) (y5 : Pairs (tC uX w) es.toList more) (y3 : (more.map (·.1)).Nodup) (x8 : more.length = es.size) (hsz : more.length ≤ ug)
  (h : MgI uX w d o oo es.size more s0 (x :: rest) s1) : uL (uM uX w) A (mgB d o ep x b) (fun r s' => r = .yield ⟨⟩ ∧ MgI uX w d o oo es.size more s0 rest s') NoE s1 := by
 obtain ⟨h', i, rfl, hr, hi, y4, x0, y7⟩ := h;have W : i < es.size := by
  rcases Nat.lt_or_ge i es.size with h | h
  ·exact h
  ·rw [Nat.sub_eq_zero_of_le h] at hr; cases hr
 obtain ⟨rfl, x4⟩ : x = i ∧ rest = List.range' (i + 1) (es.size - (i + 1)) := by
  rw [show es.size - i = (es.size - (i + 1)) + 1 from (Nat.succ_sub_succ_eq_sub es.size i).symm.trans (Nat.succ_sub W), List.range'_succ] at hr;injection hr with h1 h2;exact ⟨h1, h2⟩
 obtain ⟨kv, y0⟩ : ∃ kv, more[x]? = some kv := ⟨more[x]'(x8 ▸ W), rQ _⟩;obtain ⟨k, v⟩ := kv;obtain ⟨x1, y1⟩ := y5.get? (e := es[x]) (by rw [sd]; exact rN W) y0;obtain ⟨k', x6, x5⟩ := y2 es[x] (Array.getElem_mem W);obtain rfl : k' = k := (tC uX w).inj _ _ _ x6 x1;have e1 : more.take (x + 1) = more.take x ++ [(k', v)] := by rw [sE, y0]; rfl
 have h9 : ((more.take (x + 1)).map (·.1)).Nodup := y3.sublist ((List.take_sublist _ _).map _);rw [e1, ao, sH] at h9;refine ad (wpAny_dictEntries x0 x2 ?_);rw [rN W];dsimp only;rw [x5, y1];refine ad (aD (iE x1 y4 (fun q => h9.2.2 _ q k' aB rfl) (fun x9 x7 x3 => ?_) (tH (List.length_take_le' _ _) hsz)));have h7 : x9.get? o = some oo := (x3.2 o (Ne.symm y6)).trans x0;refine ad (wpAny_dictEpoch h7 x2 ?_);rw [if_neg (by simp)];exact ae ⟨rfl, x9, x + 1, rfl, x4, W, by rw [e1]; exact x7, h7, y7.trans x3⟩
theorem l8 (y2 : d ≠ o) (x6 : (o == sysModules) = false)
  (hd : s.heap.DictOf (tC uX w) d []) (ho : s.heap.DictOf (tC uX w) o more) (hsz : more.length ≤ ug)
  (hQ : ∀ h', h'.DictOf (tC uX w) d more → tK d s.heap h' → Q () { s with heap := h' }) :
  uL (uM uX w) A (mergeMapping d (.ref o) false) Q E s := by
 unfold mergeMapping;refine ad (wpAny_isInstance ho.typeIs isSubtype_dict_dict ?_);rw [if_pos rfl];refine ad (wpAny_specialOf ho.typeIs F.slot_dict_iter.lookup ?_);refine ad (ae ?_);show uL (uM uX w) A (mgM d o) Q E s;obtain ⟨od, y4, z1, x8, y8, x9, y9, x7, y7⟩ := id hd;obtain ⟨oo, h7, z0, h9, y6, W, x2, x4, y1⟩ := ho;have x0 : more.length = h7.size := x4.length.symm.trans so;have y0 : y4.isEmpty = true := by
  have := x7.length;rw [so] at this;exact Array.isEmpty_iff_size_eq_zero.mpr this
 unfold mgM;rw [if_neg (by rw [x6]; exact sB)];refine ad (wpAny_dictEntries x8 x9 ?_);rw [if_pos y0];refine ad (wpAny_dictEntries h9 W (ad (af (mg_a fun e he => ?_) (fun _ s' q => ?_) fun _ _ q => q.elim)))
 ·obtain ⟨k', x1, _⟩ := x2 e (Array.mem_toList_iff.mp he);obtain ⟨u, hu⟩ := uN.isStrOf_shape x1;exact ⟨_, _, hu⟩
 rw [q];refine ad (wpAny_dictEntries h9 W (ad (wpAny_dictEpoch h9 W (ad ?_))));rw [List.range_eq_range'];refine af (E := NoE) (Q := fun _ s' => MgI uX w d o oo h7.size more s [] s') (wpAny_forIn_list _ (fun rest _ s1 => MgI uX w d o oo h7.size more s rest s1) _ (fun x rest b s1 q => af (mg_b y2 W x2 x4 y1 x0 hsz q) (fun r s' q => ?_) fun _ _ q => q) (fun b s1 q => q) _ _ ⟨s.heap, 0, rfl, rfl, tO _, hd, h9, tK.refl _ _⟩) (fun _ s1 q => ?_) fun _ _ q => q.elim
 ·obtain ⟨rfl, q⟩ := q;exact q
 ·obtain ⟨h', i, rfl, hr, hi, x3, y5, y3⟩ := q;have x5 : i = h7.size := by
   rcases Nat.lt_or_ge i h7.size with h | h
   ·have := congrArg tQ hr;rw [List.length_range'] at this;exact absurd (Nat.sub_eq_zero_iff_le.mp this.symm) (Nat.not_le_of_lt h)
   ·exact to hi h
  subst x5;rw [← x0, List.take_length] at x3;exact ae (hQ h' x3 y3)
def DS (uX : uy) (w : uQ) (h0 : uV) (o0 : uF) (D : uR) (Q : VP) : uN → uF → Prop := fun v s => ∃ a kvs cs, v = .ref a ∧ St h0 o0 ((D, aL uX w []) :: cs) s ∧ Has cs a (aL uX w kvs) ∧ kvs.length ≤ ug ∧ ∀ s', St h0 o0 ((D, aL uX w kvs) :: cs) s' → Q (.ref D) s'
theorem e_dstar (h : ∀ D, Go h0 o0 ((D, aL uX w []) :: cs) (uL (uM uX w) A (uU e env) (DS uX w h0 o0 D Q) NoE)) : Go h0 o0 cs (uL (uM uX w) A (uU (.Dict [none] [e] pos) env) Q E) := by
 intro s H;rw [arm_eval_Dict];refine ad (tD ?_);show uL _ A (dictDisplay [(none, do let x ← uU e env; standAt pos; uT x)]) _ _ _;unfold dictDisplay;dsimp only;refine ad ?_;rw [List.forIn_cons];refine ad ?_;dsimp only;refine ad (ae ?_);refine ad (wpAny_alloc ?_);have H3 : St h0 o0 ((s.heap.objs.size, aL uX w []) :: cs) { s with heap := s.heap.push { cls := .type "dict", data := .dict #[] } } :=
  H.push (k := s.toks) (c := aL uX w []) (let ⟨o, ho, hc⟩ := uV.dictOf_iff.mp (uV.DictOf.new (knd := tC uX w) s.heap); by
   rw [sm _ rfl] at ho; cases ho; exact hc) (ah _)
 generalize s.heap.objs.size = D at H3 ⊢;refine ad (aD (ad (af (h D _ H3) (fun v s1 q => ?_) fun _ _ q => q.elim)));obtain ⟨a, kvs, cs1, rfl, W, ha, hz, hq⟩ := q;refine ad (tD (ae ?_));have h7 : D ≠ a := fun q => by
  have := W.nodup;rw [az, s9] at this;refine this.1 ?_;rw [show (D, aL uX w []).1 = a from q];exact aA (f := uo) ha.mem
 refine ad (wpAny_onRaise (wpAny_tryCatch (wpAny_onRaise (aD (l8 h7 (eC W (.there ha)) (bW W .here) (bW W (.there ha)) hz fun h' hd hs => ?_)))));refine ae (ae ?_);refine ae (hq _ ?_);exact W.updS (k := s1.toks) .here (uV.dictOf_iff.mp hd) hs (ah _)
theorem d_st (ha : Has cs a (aL uX w kvs)) (hz : kvs.length ≤ ug) (h : Go h0 o0 ((D, aL uX w kvs) :: cs) (Q (.ref D))) : Go h0 o0 ((D, aL uX w []) :: cs) (DS uX w h0 o0 D Q (.ref a)) := fun s H => ⟨a, kvs, cs, rfl, H, ha, hz, fun s' W => h s' W⟩
end
def LT (uX : uy) (w : uQ) (A : uJ) (env : Env) (h0 : uV) (o0 : uF) (y : Str) (cl : List (Str × uR)) (scope : Scope) (elt target : Expr) (ifs : List Expr) (Q : FP) (E : VP) : uN → uF → Prop := Ov uX w A env h0 o0 ([] : List uN) (EvL uX w A h0 o0 elt) target ifs scope cl (FnA uX w A env h0 o0 aE y Q E) E
section
variable {cs cs' X : aF}
theorem s_clt {elt target iter : Expr} {ifs : List Expr} {scope : Scope} {pos py spos : Pos} {y : Str} {cl : List (Str × uR)} {Q : FP}
  (x1 : swapsWith (.ListComp elt [⟨target, iter, ifs, 0⟩] scope pos) (some (.Name y py)) spos.line env = uT true)
  (h9 : closureFor scope env = uT cl) (x0 : ∀ y ∈ scope.names, y.2 ≠ .cell) (h7 : scope.kind = .function) (W : ∀ y ∈ scope.names, y.2 = .local → scope.names.lookup y.1 = some .local)
  (h : Go h0 o0 cs (uL (uM uX w) A (uU iter env) (LT uX w A env h0 o0 y cl scope elt target ifs Q E) E)) (hs : ∀ x, sF iter env x = uT x) :
  Go h0 o0 cs (uL (uM uX w) A (exec (.Assign [.Name y py] (.ListComp elt [⟨target, iter, ifs, 0⟩] scope pos) spos) env) Q E) :=
 fun s H => a_ov gF x1 h9 x0 h7 W (h s H) hs
theorem ltE {y : Str} {elts : List Expr} {x1 : Nat} {tp : Pos} {e it l : uR} {xs : List uN} {cl : List (Str × uR)} {scope : Scope} {elt : Expr} {ifs : List Expr} {Q : FP} (P : Nat → List uN → aF → Prop) (hh : A.handled = none) (hl : ∀ i ys C, P i ys C → Has C l (aE xs)) (hz : xs.length ≤ 1000) (h7 : P 0 [] cs)
  (turn : ∀ L i x a u ys C W, xs[i]? = some x → P i ys C → Has W a (bn [.int i u, x]) → Go h0 o0 ((L, cNs []) :: (C ++ W)) (uL (uM uX w) A (uG (.Tuple elts x1 tp) (uq scope cl L env) (.ref a)) (fun _ => uL (uM uX w) A (bh ifs (uq scope cl L env)) (fun ok =>
   iU ok (uL (uM uX w) A (uU elt (uq scope cl L env)) (CE h0 o0 (P (i + 1)) ys L W) NoE) (SL h0 o0 (P (i + 1)) ys L W)) NoE) NoE))
  (fin : ∀ L D ys C, P xs.length ys C → Go h0 o0 ((D, aE ys) :: (C ++ [(L, cNs [])])) (uL (uM uX w) A (tX env y (.ref D)) (NK h0 o0 L (Q .next)) E)) :
  Go h0 o0 ((e, jl it 0) :: (it, bA l 0) :: cs) (LT uX w A env h0 o0 y cl scope elt (.Tuple elts x1 tp) ifs Q E (.ref e)) := by
 intro s H;obtain ⟨old, he⟩ := gE H .here;refine wpAny_pyIter_enum he ?_;refine ⟨fun i => [(e, jl it i), (it, bA l i)], xs.length, _, fun C => Has C l (aE xs), cs, [], P, ml hh, h7, tH hz (by rw [aj]; decide), by rw [s7]; exact H, fun i ys C hP => by rw [s7]; exact hl i ys C hP, ?_, fun L D ys C s hP H => fin L D ys C hP s H⟩;rintro L i v c ys C W s' hi ⟨x, a, u, hx, rfl, rfl⟩ hP hc H';exact turn L i x a u ys C W hx hP (Has.of_mem (hc _ aB)) s' H'
theorem lY (hh : A.handled = none) (H : St h0 o0 cs s) (ht : Has cs t (aE [u, v, x]))
  (h : ∀ s', St h0 o0 cs s' → uL (uM uX w) A (tX env a u) (fun _ s1 => uL (uM uX w) A (tX env b v) (fun _ s2 => uL (uM uX w) A (tX env c x) Q E s2) E s1) E s') :
  uL (uM uX w) A (uG (.Tuple [.Name a pa, .Name b pb, .Name c pc] k pos) env (.ref t)) Q E s := by
 rw [arm_assign_Tuple];refine ad (tD ?_);unfold unpack;rw [show (assignEach [Expr.Name a pa, Expr.Name b pb, Expr.Name c pc] env).length = 3 from rfl, show (assignEach [Expr.Name a pa, Expr.Name b pb, Expr.Name c pc] env).findIdx? (·.1) = none from rfl];refine ad (aD ?_);unfold unpackItems;refine ad ?_;unfold notIterableAtAll;refine ad (wpAny_specialOf (aS H ht).typeIs slot_list_iter.lookup ?_);refine ae ?_;simp only [sA, if_false];have S : ∀ W, dK uX w A h0 o0 (.ref W) (fun i => [(W, bA t i)]) 3 (fun i y => [u, v, x][i]? = some y) (fun C => Has C t (aE [u, v, x])) := fun W => cF (xs := [u, v, x]) hh
 refine ad (aD (wpAny_pyIter_list (aS H ht) ?_));have H2 : St h0 o0 ((s.heap.objs.size, bA t 0) :: cs) { s with heap := s.heap.push { cls := .type "list_iterator", data := .fields #[.ref t, .int 0 0] } } := H.push (k := s.toks) (c := bA t 0) ⟨rfl, rfl⟩ (ah _);generalize s.heap.objs.size = W at H2 ⊢;refine ad (aD ?_);show uL _ _ (pyNext (.ref W) >>= _) _ _ _;refine ad ((S W).next 0 cs _ _ _ (by decide) ht H2 fun y s1 hx H3 => ?_);cases hx;refine ad (aD ?_);show uL _ _ (pyNext (.ref W) >>= _) _ _ _;refine ad ((S W).next 1 cs _ _ _ (by decide) ht H3 fun y s2 hx H4 => ?_);cases hx;refine ad (aD ?_);show uL _ _ (pyNext (.ref W) >>= _) _ _ _;refine ad ((S W).next 2 cs _ _ _ (by decide) ht H4 fun y s3 hx H5 => ?_);cases hx;refine ad (aD (ae (ae (ae (ae ?_)))));simp only [sO, tf, tE, if_false];refine ad (aD ((S W).done cs _ _ _ ht H5 fun s4 H6 => ?_));simp only [Option.isSome_none, sA, if_false];refine ae ?_;refine rR (t := uG (.Name a pa) env) (ts := [uG (.Name b pb) env, uG (.Name c pc) env]) (x := u) (xs := [v, x]) ?_;refine sJ (af (h _ H6) (fun _ s1 q => ?_) fun _ _ q => q);refine rR (t := uG (.Name b pb) env) (ts := [uG (.Name c pc) env]) (x := v) (xs := [x]) ?_;refine sJ (af q (fun _ s2 q => ?_) fun _ _ q => q);refine rR (t := uG (.Name c pc) env) (ts := []) (x := x) (xs := []) ?_;exact sJ (af q (fun _ s2 q => wpAny_assignInOrder_none q) fun _ _ q => q)
theorem u_3l (hh : A.handled = none) (W : Has cs t (aE [u, v, x]))
  (h : Go h0 o0 cs (uL (uM uX w) A (tX env a u) (fun _ => uL (uM uX w) A (tX env b v) (fun _ => uL (uM uX w) A (tX env c x) Q E) E) E)) :
  Go h0 o0 cs (uL (uM uX w) A (uG (.Tuple [.Name a pa, .Name b pb, .Name c pc] k pos) env (.ref t)) Q E) := fun s H => lY hh H W h
theorem u_2t (hh : A.handled = none) (ht : Has cs t (bn [u, v])) (hb : assignEach [.Name a pa, b] env = [(false, uG (.Name a pa) env), (false, uG b env)])
  (h : Go h0 o0 cs (uL (uM uX w) A (tX env a u) (fun _ => uL (uM uX w) A (uG b env v) Q E) E)) :
  Go h0 o0 cs (uL (uM uX w) A (uG (.Tuple [.Name a pa, b] k pos) env (.ref t)) Q E) := fun s H => by
 refine wpAny_assign_Tuple hh (gN H ht) (by rw [hb]; rfl) (by rw [hb]; rfl) fun h' he => ?_
 have W : St h0 o0 cs { s with heap := h' } := H.grow (k := s.toks) (fun b o e => he b o (tN (tM e)) e) (ah _);rw [hb];refine rR (t := uG (.Name a pa) env) (ts := [uG b env]) (x := u) (xs := [v]) ?_;refine sJ (af (h _ W) (fun _ s1 q => ?_) fun _ _ q => q);refine rR (t := uG b env) (ts := []) (x := v) (xs := []) ?_;exact af q (fun _ s2 q => wpAny_assignInOrder_none q) fun _ _ q => q
theorem l5 (H : St h0 o0 cs s) (hu : A.units + 2 < cLine) (hl : Has cs l (aE (ls.map fun p => .ref p.1))) (W : ∀ p ∈ ls, Has cs p.1 (aE (tv p.2))) (h5 : ls.length ≤ 5) (nd : (ls.map fun p => p.2.map (·.1)).Nodup)
  (h : ∀ D (ls' : List (uR × List (Str × Tok))) s', ls'.Perm ls → bP d3 (ls'.map fun p => p.2.map (·.1)) → St h0 o0 ((D, aE (ls'.map fun p => .ref p.1)) :: cs) s' → Q (.ref D) s') :
  uL (uM uX w) A (uW (.builtin "sorted") [.ref l]) Q E s := by
 have O : OrdL ls fun x y => d3 (x.2.map (·.1)) (y.2.map (·.1)) := ⟨List.Pairwise.of_map (fun p : uR × List (Str × Tok) => p.2.map fun x : Str × Tok => x.1) (fun _ _ n q => n (congrArg (fun p : uR × List (Str × Tok) => p.2.map fun x : Str × Tok => x.1) q)) nd, fun x hx y hy ne => jV fun e => ne (fn nd hx hy e), fun x _ y _ z _ => eG⟩
 have h6 : ls.length ≤ 6 := Nat.le_succ_of_le h5;have hs : (ls.map fun p => tW p.1).length ≤ ug := by rw [ak]; exact le6 h6
 refine gG (h0 := h0) (o0 := o0) (eP H hl hs fun s1 H1 => ⟨cs, H1, hs, fun D s2 H2 => pF (κ := oneType') (vf := fun p => .ref p.1) O h6 H2 (fun Q' s3 h2 Hs hq => ?_) (fun x hx y hy _ C s3 Hs hq => oA Hs (by show A.units + 1 + 1 < cLine; exact hu) (W x hx) (W y hy) (hq s3 rfl)) fun ls' s3 hp hr H3 => ⟨rfl, h D ls' s3 hp (dH (f := fun p : uR × List (Str × Tok) => p.2.map fun x : Str × Tok => x.1) (c := d3) _ hr) H3⟩⟩);refine kas_kind (T := .type "list") (by rw [ak]; exact h2) (fun v hv => ?_) (by decide) (by decide) hq;obtain ⟨p, hp, rfl⟩ := tG.mp hv;obtain ⟨n, ho⟩ := bt Hs (W p hp);exact (Looks.ld ho).andThen .now
theorem lr (hu : A.units + 2 < cLine) (hl : Has cs l (aE (ls.map fun p => .ref p.1))) (W : ∀ p ∈ ls, Has cs p.1 (aE (tv p.2))) (h5 : ls.length ≤ 5) (nd : (ls.map fun p => p.2.map (·.1)).Nodup)
  (h : ∀ D (ls' : List (uR × List (Str × Tok))), ls'.Perm ls → bP d3 (ls'.map fun p => p.2.map (·.1)) → Go h0 o0 ((D, aE (ls'.map fun p => .ref p.1)) :: cs) (Q (.ref D))) : Go h0 o0 cs (uL (uM uX w) A (uW (.builtin "sorted") [.ref l]) Q E) := fun s H => l5 H hu hl W h5 nd fun D ls' s' hp hr H' => h D ls' hp hr s' H'
theorem o8 {fs : List Fit} (hu : A.units + 2 < cLine) (hl : Has cs l (aE (fs.map fun f => .ref f.a))) (W : ∀ f ∈ fs, Has cs f.a (aE f.v)) (h1 : fs ≠ []) (hz : fs.length < 100) (nd : (fs.map (·.k)).Nodup) (hb : ∀ f ∈ fs, -1000 < f.d ∧ f.k < 1000)
  (h : ∀ f D vs, f ∈ fs → (∀ g ∈ fs, f.r ≤ g.r) → Go h0 o0 ((D, aE (.ref f.a :: vs)) :: cs) (Q (.ref D))) : Go h0 o0 cs (uL (uM uX w) A (uW (.builtin "sorted") [.ref l]) Q E) := fun s H => kB H hu hl W h1 hz nd hb fun f D vs s' hf hm H' => h f D vs hf hm s' H'
def RV (h0 : uV) (o0 : uF) (Q : VP) : uN → uF → Prop := fun o s => ∃ l a b c d cs, o = .ref l ∧ St h0 o0 cs s ∧ Has cs l (aE [a, b, c, d]) ∧ ∀ r s', St h0 o0 ((r, aE [d, c, b, a]) :: cs) s' → Q (.ref r) s'
theorem e_rev4 (h : Go h0 o0 cs (uL (uM uX w) A (uU value env) (RV h0 o0 Q) E)) : Go h0 o0 cs (uL (uM uX w) A (uU (.Subscript value (.Slice none none (some (.UnaryOp .USub (.Constant (.int 1) k p1) p2)) p) pos) env) Q E) := fun s H => by
 refine pG (h0 := h0) (o0 := o0) (af (h s H) (fun o s1 q => ?_) fun _ _ q => q);obtain ⟨l, a, b, c, d, cs1, rfl, H1, hl, hq⟩ := q;refine sC (sC ?_);refine (show Go h0 o0 cs1 (uL (uM uX w) A (uU (.UnaryOp .USub (.Constant (.int 1) k p1) p2) env) _ E) from ?_) s1 H1;refine eX (aY fun t => eV fun t' => fun s2 W => ?_);exact ⟨l, _, none, none, some (-1), cs1, [d, c, b, a], rfl, W, aS W hl, by rw [aj]; simp, .none, .none, .int _ _, by decide, by with_unfolding_all rfl, hq⟩
theorem rv (hl : Has cs l (aE [va, vb, vc, vd])) (h : ∀ r, Go h0 o0 ((r, aE [vd, vc, vb, va]) :: cs) (Q (.ref r))) : Go h0 o0 cs (RV h0 o0 Q (.ref l)) := fun s H => ⟨l, va, vb, vc, vd, cs, rfl, H, hl, fun r s' W => h r s' W⟩
theorem o_lei (h : Go h0 o0 cs (Q (.bool (decide (a ≤ c))))) : Go h0 o0 cs (uL (uM uX w) A (uc .LtE (.int a t) (.int c u)) Q E) := fun s H => PyProof.Rows.le_int (h s H)
theorem o_nind (hd : Has cs d (aL uX w kvs)) (h : Go h0 o0 cs (Q (.bool (!(uE kvs k).isSome)))) : Go h0 o0 cs (uL (uM uX w) A (uc .NotIn (.str k u) (.ref d)) Q E) :=
 fun s H => wpAny_notIn_of (strKind_is uX w k u) (no_sys H hd) (bW H hd).mapOf (h _ (H.toks (tP _)))
theorem o_eqn (ha : Has cs a (aE xs)) (hb : Has cs b (aE [])) (W : A.units < cLine) (h : Go h0 o0 cs (Q (.bool xs.isEmpty))) : Go h0 o0 cs (uL (uM uX w) A (uc .Eq (.ref a) (.ref b)) Q E) := fun s H => x_eqNil H ha hb W (h s H)
def FRg (uX : uy) (w : uQ) (A : uJ) (env : Env) (target : Expr) (body : List Stmt) (h0 : uV) (o0 : uF) (Q : FP) : uN → uF → Prop := fun x s₁ => ∃ r a b c n C0 K, ∃ P : Nat → aF → Prop, x = .ref r ∧ P 0 C0 ∧ St h0 o0 (C0 ++ K) s₁ ∧ Has (C0 ++ K) r (ej a b c) ∧ uv.Range.small a b c = true ∧ rX a b c = (n : Nat) ∧
 (∀ i u C K' s, i < n → P i C → (∀ C s, St h0 o0 (C ++ K') s → St h0 o0 (C ++ K) s) → St h0 o0 (C ++ K') s →
  uL (uM uX w) A (uG target env (.int (a + (i : Nat) * c) u)) (fun _ s₂ => uL (uM uX w) A (uP body env) (fun f s₃ => match f with
   | .next | .cont => ∃ C', P (i + 1) C' ∧ St h0 o0 (C' ++ K') s₃
   | .brk => Q .next s₃
   | .ret v => Q (.ret v) s₃) NoE s₂) NoE s) ∧
 (∀ C s, P n C → St h0 o0 (C ++ K) s → Q .next s)
theorem s_forG (hh : A.handled = none) (h : Go h0 o0 cs (uL (uM uX w) A (uU iter env) (FRg uX w A env target body h0 o0 Q) E))
  (hs : ∀ x, sF iter env x = uT x) : Go h0 o0 cs (uL (uM uX w) A (exec (.For target iter body [] pos) env) Q E) := fun s H => kH hh (h s H) hs
theorem frg {target : Expr} {body : List Stmt} {Q : FP} {r : uR} {n : Nat} {b : Int} {C0 K : aF} (P : Nat → aF → Prop) (h7 : P 0 C0) (hr : Has (C0 ++ K) r (ej 0 b 1)) (h9 : uv.Range.small 0 b 1 = true) (hn : rX 0 b 1 = (n : Nat))
  (turn : ∀ i u C W, i < n → P i C → Go h0 o0 (C ++ W) (uL (uM uX w) A (uG target env (.int (i : Nat) u)) (fun _ => uL (uM uX w) A (uP body env) (TK h0 o0 W (P (i + 1)) Q) NoE) NoE))
  (fin : ∀ C, P n C → Go h0 o0 (C ++ K) (Q .next)) : Go h0 o0 (C0 ++ K) (FRg uX w A env target body h0 o0 Q (.ref r)) := fun s H =>
 ⟨r, 0, b, 1, n, C0, K, P, rfl, h7, H, hr, h9, hn, fun i u C W s hi hP hb H => by
  rw [show (0 : Int) + (i : Nat) * 1 = (i : Nat) from by rw [Int.mul_one, Int.zero_add]];exact af (turn i u C W hi hP s H) (fun _ s2 q => af q (fun f s3 q => by cases f <;> exact q) fun _ _ q => q) fun _ _ q => q, fun C s hP H => fin C hP s H⟩
theorem clI {cl : List (Str × uR)} {scope : Scope} {elt target : Expr} {ifs : List Expr} {l : uR} {xs : List uN} {Q : VP} (P : Nat → List uN → aF → Prop) (h7 : P 0 [] cs) (hz : xs.length ≤ ug) (hl : ∀ i ys C, P i ys C → Has C l (aE xs))
  (turn : ∀ L i v ys C W, xs[i]? = some v → P i ys C → Go h0 o0 ((L, cNs []) :: (C ++ W)) (uL (uM uX w) A (uG target (uq scope cl L env) v) (fun _ => uL (uM uX w) A (bh ifs (uq scope cl L env)) (fun ok =>
   iU ok (uL (uM uX w) A (uU elt (uq scope cl L env)) (CE h0 o0 (P (i + 1)) ys L W) NoE) (SL h0 o0 (P (i + 1)) ys L W)) NoE) NoE))
  (fin : ∀ D ys C, P xs.length ys C → Go h0 o0 ((D, aE ys) :: C) (Q (.ref D))) : Go h0 o0 cs (CL uX w A env h0 o0 cl scope elt target ifs Q E (.ref l)) := fun s H =>
 ⟨l, xs, cs, [], P, rfl, h7, hz, by rw [s7]; exact H, fun i ys C hP => by rw [s7]; exact hl i ys C hP, fun L i v c ys C W s _ hv hP _ H => turn L i v ys C W hv.1 hP s H, fun D ys C s hP H => by rw [s7] at H; exact fin D ys C hP s H⟩
end
inductive PE (env : Env) (m : List (Str × uN)) (Ev : Expr → Str → Prop) : Expr → Str → Prop
 | str {x : Str} {k : Nat} {pos : Pos} : PE env m Ev (.Constant (.str x) k pos) x
 | nm {x y : Str} {pos : Pos} {t : Tok} (hv : Look m x (.str y t)) (hl : env.kindOf x = some .local) (hd : (x == ("__debug__" : Str)) = false) : PE env m Ev (.Name x pos) y
 | giv {e : Expr} {x : Str} : Ev e x → PE env m Ev e x
 | add {l r : Expr} {pos : Pos} {a b : Str} : PE env m Ev l a → PE env m Ev r b → PE env m Ev (.BinOp l .Add r pos) (a ++ b)
noncomputable abbrev NoEv : Expr → Str → Prop := fun _ _ => False
section
variable {cs cs' : aF}
theorem e_pureV (hp : Has cs L (cNs m)) (hL : env.locals = L) (hk : env.scope.kind = .function) (he : PE env m Ev e x) (hz : x.length ≤ ug) (W : ∀ e x, Ev e x → ∀ Q : uN → uF → Prop, (∀ t, Go h0 o0 cs (Q (.str x t))) → Go h0 o0 cs (uL (uM uX w) A (uU e env) Q E)) (h : ∀ t, Go h0 o0 cs (Q (.str x t))) :
  Go h0 o0 cs (uL (uM uX w) A (uU e env) Q E) := by
 induction he generalizing Q with
 | str => exact aR fun t _ => h t
 | nm hv hl hd => exact aI hp (hL := hL) hv (hk := hk) (hl := hl) (hd := hd) (h _)
 | giv hv => exact W _ _ hv Q h
 | @add l r pos a b _ _ ih1 ih2 =>
  rw [am] at hz;exact bl (ih1 (by omega) fun t => ih2 (by omega) fun u => cc hz fun v => h v)
theorem qo {m' : Tok → List (Str × uN)} {cs' : Tok → aF} {Ev : Expr → Str → Prop} (hp : Has cs L (cNs m)) (W : ∀ t, Put cs L (cNs m) (cNs (m' t)) (cs' t)) (hL : env.locals = L) (hk : env.scope.kind = .function) (hl : env.kindOf x = some .local) (hx : Look m x (.str a t0)) (he : PE env m Ev value y) (hz : (a ++ y).length ≤ ug)
  (h7 : ∀ e x, Ev e x → ∀ Q : uN → uF → Prop, (∀ t, Go h0 o0 cs (Q (.str x t))) → Go h0 o0 cs (uL (uM uX w) A (uU e env) Q E)) (hs : ∀ t, SetN m x (.str (a ++ y) t) (m' t)) (h : ∀ t, Go h0 o0 (cs' t) (Q .next)) : Go h0 o0 cs (uL (uM uX w) A (exec (.AugAssign (.Name x pos') .Add value pos) env) Q E) := by
 rw [am] at hz;exact gU (qQ hp hL hx hk hl (e_pureV hp hL hk he (by omega) h7 fun t => fE hz fun t' => aQ (W t') (hL := hL) (hs t') (hk := hk) (hl := hl) (h t')))
end
structure Wp (w : uQ) (i : Wid) : Prop where
 st : i.st = false
 rw : i.rw = false
 xt : XT w i.et i.EC none
 xa : XA w i.ea i.EC []
theorem iX {α : Type} {l : List α} (h : l ≠ []) : ∃ m a, l = m ++ [a] := ⟨l.dropLast, l.getLast h, (rL h).symm⟩
section
variable {cs cs' V X Y : aF} {i : Wid} {t : d0} {R : RP} {k m : Nat} {D N : List (List Sp)} {due : Str}
theorem S5.oz' (h : S5 D N k m t due) (hk : k ≤ 400) (hm : m ≤ 900) : t.out.length ≤ 90000 := by have := h.oz; exact (bZ 0xbffe49dc0bc082c2e1909edfcd78141face40cc20c 44139590) hk hm this
theorem S5.nlne (h : S5 D N k m t due) : t.nl ≠ [] := fun e => by
 have := h.nl;rw [e] at this;cases this
theorem l5_data (B : Base (KF w.params) h0) (W : A.depth < ty) (h5 : S5 D N k m t due) (hk : k ≤ 390) (hD : D ≠ [])
  (h : ∀ t', S5 D N (k + 1) m t' (due ++ tT) → Go h0 o0 (wr uX w i t' V) (R (.ok (.ret .none)))) : Go h0 o0 (wr uX w i t V) (uD (uM uX w) A (.call (.ref oh) ⟨[.ref i.x, .str tT u], []⟩) R) := by
 refine c_data B W (by have := h5.dz; exact (a9 0x5adf0bceeafb6a945387692f348 0) hk this) ?_;rw [if_pos h5.ig];exact h _ (h5.dat hD)
theorem l5_ns (B : Base (KF w.params) h0) (W : Wp w i) (h7 : A.depth + 2 < ty) (h5 : S5 D N k m t due) (hk : k ≤ 390) (hm : m ≤ 800) (hp : (uri, p) ∈ P9)
  (h : ∀ t', S5 D (bB N (uri, p)) (k + 1) (m + 1) t' due → Go h0 o0 (wr uX w i t' V) (R (.ok (.ret .none)))) : Go h0 o0 (wr uX w i t V) (uD (uM uX w) A (.call (.ref aNs) ⟨[.ref i.x, .str p pt, .str uri ut], []⟩) R) := by
 obtain ⟨NN, l, hN⟩ := iX h5.nlne;refine c_ns B h7 (h5.wb (by exact oq9 hk) (by exact oV hm)) (by have := h5.oz' (by exact oq9 hk) (by exact oV hm); exact (bD 0xc4795e8ae80b266e079204f3ff9c 0) this) hN (fun hg => absurd h5.ig hg) (fun hg k1 a => h _ ?_);obtain ⟨h6, hd⟩ := h5.fl (u := k1) W.st;refine h6.ns hd hp ?_;have h9 : N ≠ [] := fun e => by have := h5.nz; rw [e] at this; cases this
 rw [jK, h5.nl, fj h9]; rfl
theorem sta_jn (hD : ∀ p ∈ aK D, p ∈ P9) (hN : ∀ p ∈ aK N, p ∈ P9) (h0 : u0 ∈ U5) (hp : ∀ u ∈ u0 :: AU b, u = e0 ∨ (bS N u).isSome = true) (hL : ∀ p ∈ lv, p ∈ P9) (hv : iC v = v) :
  pA ((cL lv).map g6 ++ ((SA b).map fun u => (aX u kK, tx v u)).map (iR (iL ((XS u0 b).map fun x => (x, jS D N x))))) = cC ((cL lv).map ci) ++ cC ((SA b).map (cA D N v)) := by
 have a1 : ((cL lv).map g6).map ir = (cL lv).map ci := by
  rw [tI];exact List.map_congr_left fun p W => dec_eq (hL p ((cV lv).mem_iff.mp W))
 have a2 : (((SA b).map fun u => (aX u kK, tx v u)).map (iR (iL ((XS u0 b).map fun x => (x, jS D N x))))).map ir = (SA b).map (cA D N v) := by
  rw [tI, tI];exact List.map_congr_left fun u hu => att_eq hD hN h0 hp ((cT b).mem_iff.mp hu) hv
 unfold pA;rw [ao, dP, a1, a2]
set_option maxHeartbeats 1000000 in
theorem S5.sta {u0 v : Str} {b : Str → Bool} {lv : List Sp} {dl : List Lv} {n1 ll : uR} {pm kvs : List (Str × Str × Tok)} {k1 k2 k3 : Tok} {us : List Str} (h : S5 D N k m t due) (hd : t.data = []) (h0 : u0 ∈ U5) (hp : ∀ u ∈ u0 :: AU b, u = e0 ∨ (bS N u).isSome = true) (hL : LvFor D N us lv) (hv : iC v = v) (x2 : v.length ≤ 3)
  (hq : QS.of { t with dl := dl, pm := pm } = q5 (D ++ [lv]) N) (h9 : jF kvs = none) :
  S5 (D ++ [lv]) (N ++ [[]]) (k + 1) m (stT { t with dl := t.dl ++ [⟨n1, []⟩] } dl pm (iL ((XS u0 b).map fun x => (x, jS D N x)) (aX u0 kX)).1 ((cL lv).map g6 ++ ((SA b).map fun u => (aX u kK, tx v u)).map (iR (iL ((XS u0 b).map fun x => (x, jS D N x))))) (jF kvs) ll k1 k2 k3) (due ++ fA D N lv u0 b v) := by
 have h' := h.mono (k' := k + 1) (m' := m) (by exact oq5) (ah _);have x0 := sta_len h.dp h.np hp hL x2;have x3 : SA b ≠ [] := fun e => by
  have : e0 ∈ SA b := (cT b).mem_iff.mpr (r6 _ aB);rw [e] at this; cases this
 have x4 : dl.map Lv.v = [xmlPr] :: (D ++ [lv]) := congrArg QS.dl hq;have W : (pm.map fun q => (q.1, q.2.1)) = [] := congrArg QS.pm hq;refine ⟨?_, by rw [aw, aw, h.nz]; rfl, fun p W => ?_, ?_, fun p W => ?_, ?_, fun _ => rfl, h.ig, ?_, (fun p hp => ?_), by show t.data.length ≤ _; rw [hd]; exact tO _, ?_, ?_, ?_, by rw [aw, r4]; exact Nat.succ_le_succ h.lz⟩
 ·unfold QS.of q5 stT;dsimp only;rw [x4, W, ao, h.nl]; rfl
 ·rw [a5] at W;exact (s8.mp W).elim (hL.1.p9 p) (h.dp p)
 ·rw [a5, ao, sH];refine ⟨hL.1.nd, h.dn, fun a ha c hc e => ?_⟩;subst e;have h1 := ((hL.2 a).mp ha).2.2;obtain ⟨p, hp, rfl⟩ := tG.mp hc;unfold dy at h1;rw [Option.map_eq_none_iff] at h1;exact find_none_iff.mp h1 p hp rfl
 ·rw [a5, te] at W;exact h.np p W
 ·show t.ps ++ [qh t.ps (jF kvs)] = _;rw [h9];show t.ps ++ [t.ps.getLastD false] = _;rw [h.ps, aw, r4, List.replicate_succ' (n := D.length + 1)];rw [show (List.replicate (D.length + 1) false).getLastD false = false from by rw [List.replicate_succ', List.getLastD_concat]]
 ·show cC ((t.out ++ ((ud "<" ++ _, k1) :: fr _ k2 ++ [(ud ">", k3)])).map (·.1)) ++ cC (t.data.map (·.1)) = _;have h7 := h.outE;rw [hd, tJ, dq, dv] at h7 ⊢;have x1 : (cL lv).map g6 ++ ((SA b).map fun u => (aX u kK, tx v u)).map (iR (iL ((XS u0 b).map fun x => (x, jS D N x)))) ≠ [] := fun e => by
   have := List.append_eq_nil_iff.mp e;simp [x3] at this
  unfold fr;rw [if_neg x1, ao, dP, h7];refine congrArg (due ++ ·) ?_;have hx : aX u0 kX ∈ XS u0 b := (dL b h0).mem_iff.mpr (by rw [cM]; exact .inl aB);have hk := (dB u0 h0).1;have e1 : (iL ((XS u0 b).map fun x => (x, jS D N x)) (aX u0 kX)).1 = nmA D N kX u0 := by
   unfold iL;rw [fY hx, Option.getD_some];exact qH h.dp h.np hk (hp u0 aB)
  have e2 := sta_jn h.dp h.np h0 hp hL.1.p9 hv;rw [e1, e2];simp only [az, tJ, sN, te, lB, dq, dv];unfold fA;simp only [dD]
 ·exfalso;have hp : p ∈ t.data := hp;rw [hd] at hp; cases hp
 ·show (t.out ++ ((ud "<" ++ _, k1) :: fr _ k2 ++ [(ud ">", k3)])).length ≤ _;have := h.oz;have ha : ∀ al k2, (fr al k2).length ≤ 1 := fun al k2 => by unfold fr; split <;> simp
  have := ha ((cL lv).map g6 ++ ((SA b).map fun u => (aX u kK, tx v u)).map (iR (iL ((XS u0 b).map fun x => (x, jS D N x))))) k2;simp only [aw, sO, tf];omega
 ·rw [a5, te]; exact h.tz
 ·have := h.bz;rw [am]; exact (bZ 0x4516bfe6e4be1108e47750a67fa6df5b9b4268f48993cfcb32 0) x0 this
set_option maxHeartbeats 1000000 in
theorem qR (B : Base (KF w.params) h0) (LB : LamBase h0 fO bG) (W : Wp w i) (hh : A.handled = none) (x2 : A.depth + 4 < ty) (hu : A.units + 2000 < cLine) (hT : Tb bG lamPos lamQ T)
  (h5 : S5 D N k m t due) (hk : k ≤ 390) (hm : m ≤ 800) (h7 : u0 ∈ U5) (hp : ∀ u ∈ u0 :: AU b, u = e0 ∨ (bS N u).isSome = true) (ha : Has V a (aL uX w (bH kvs))) (x3 : kvs.map (fun p => (p.1, p.2.1)) = (AU b).map fun u => (aX u kK, tx v u)) (hv : iC v = v) (y0 : v.length ≤ 3)
  (h : ∀ T' t' lv, Tb bG lamPos lamQ T' → LvFor D N (u0 :: AU b) lv → S5 (D ++ [lv]) (N ++ [[]]) (k + 2) m t' (due ++ fA D N lv u0 b v) → Go h0 o0 (T' ++ wr uX w i t' V) (R (.ok (.ret .none)))) :
  Go h0 o0 (T ++ wr uX w i t V) (uD (uM uX w) A (.call (.ref ky) ⟨[.ref i.x, .str (aX u0 kX) u, .ref a], []⟩) R) := by
 have h9 : kvs.map (·.1) = (AU b).map fun u => aX u kK := by
  have := congrArg (List.map uo) x3;rw [tI, tI] at this;exact this
 have x1 : ∀ x, (x = aX u0 kX ∨ x ∈ kvs.map (·.1)) → x ∈ bU [aX u0 kX] ((AU b).map fun u => aX u kK) := fun x hx => by
  rw [cM, su, ← h9]; exact hx
 have y1 : QS.of t = q5 D N := h5.q;have x6 : kvs.length ≤ 5 := by
  have := congrArg tQ h9;rw [ak, ak] at this;rw [this]; exact iq b
 have y6 : (kvs.map (·.1)).Nodup := by
  rw [h9];exact dI (lT b) fun x hx y hy e => nH (e5 hx) (e5 hy) e
 have y2 : ∀ p ∈ kvs, p.2.1.length ≤ 100 ∧ (iC p.2.1).length ≤ 900000 := fun p hp => by
  have : (p.1, p.2.1) ∈ kvs.map (fun p => (p.1, p.2.1)) := aA hp;rw [x3] at this;obtain ⟨x, _, e⟩ := tG.mp this;have e2 : tx v x = p.2.1 := (Prod.mk.inj e).2;rw [← e2];unfold tx;split
  ·rw [hv]; exact (bD 0x3773b066c9b8b3c03f22e2eb13729dc 0) y0
  ·decide +kernel
 have x9 : ∀ u ∈ (XS u0 b).map (fun x => (bX x).1), u = e0 ∨ (bS N u).isSome = true := fun u hu => hp u ((m7 h7).mp hu)
 have x7 := mA (D := D) h5.np x9;have hL : LvFor D N (u0 :: AU b) (dA D N [] ((XS u0 b).map fun x => (bX x).1)) := ⟨x7.1, fun u => (x7.2 u).trans (by rw [m7 h7])⟩;obtain ⟨lv, x8⟩ : ∃ lv, lv = dA D N [] ((XS u0 b).map fun x => (bX x).1) := ⟨_, rfl⟩;rw [← x8] at hL;have hq : dm false (q5 (D ++ [[]]) N) (XS u0 b) = some ((XS u0 b).map fun x => (x, jS D N x), q5 (D ++ [lv]) N) := by
  rw [x8];refine qt h5.dp h5.np _ [] (fun x hx => ?_) ⟨fun p q => (by cases q), fun p q => (by cases q), List.nodup_nil⟩;have hu := x9 _ (aA hx);rcases hu with hu | hu
  ·exact .inl hu
  ·by_cases he : (bX x).1 = e0
   ·exact .inl he
   ·refine .inr ⟨?_, hu⟩;have := fm h7 ((dL b h7).mem_iff.mp hx);have h2 := (gL x this.1).2.1;exact (tB.mp h2).resolve_left he
 have z0 : QB U5 5 (q5 (D ++ [[]]) N) := by
  have := h5.d4;have := h5.tz;have := h5.nz;have := h5.lz;refine qb5 (by rw [a5, te]; exact h5.d4) (fun p hp => ?_) h5.np (by rw [aw, r4]; exact (a9 0x141fad93b0efed151b82809c6 0) hk this) (by omega) (by omega);rw [a5, te] at hp;exact h5.dp p hp
 have x0 : ∀ p ∈ cL lv, p ∈ P9 := fun p hp => hL.1.p9 p ((cV lv).mem_iff.mp hp)
 have x4 : jF kvs = none := by
  unfold jF;rw [List.find?_eq_none.mpr]; rfl;intro p hp e;have := (gL p.1 (fm h7 (x1 p.1 (.inr (aA hp)))).1).2.2;exact this (by simpa using e)
 have y9 : f8 none t (aX u0 kX) = false := rfl
 refine c_start (xa := []) (xt := none) (U := U5) (n0 := 5) (xs := XS u0 b) (l := (XS u0 b).map fun x => (x, jS D N x)) (s' := q5 (D ++ [lv]) N) (ys := (cL lv).map g6) (zs := (SA b).map fun u => (aX u kK, tx v u)) B LB hh x2 hu hT (h5.wb (by exact oq9 hk) (by exact oV hm)) (by have := h5.oz' (by exact oq9 hk) (by exact oV hm); exact (bD 0xc4795e8ae80b266e2e8c8f8c3f5c 0) this) W.xt
  (fun q => by rw [y9] at q; cases q) uok5 (fun _ => by rw [y1]; exact z0) (by exact om0 49116348875952 0) ha y6 x6 y2 W.xa (fun x hx => ?_) (fun x hx y hy e => ?_) ?_ ?_ (fun _ => by rw [y1, W.rw]; exact hq) ?_ ?_ ?_ ?_ (fun p hp => ?_) ?_ ?_ ?_
 ·rw [eH] at hx;have := (fm h7 (x1 x hx)).1;exact ⟨(gL x this).1, (gL x this).2.1⟩
 ·rw [eH, h9] at hx hy;exact w10_inj x (fm h7 hx).1 y (fm h7 hy).1 e
 ·rw [eH, h9]; exact dL b h7
 ·exact dM (w10_pw.filter _)
 ·have e : (q5 (D ++ [lv]) N).dl.getLastD [] = lv := by
   show ([xmlPr] :: (D ++ [lv])).getLastD [] = lv;rw [← sN, List.getLastD_concat]
  rw [e];exact (cV lv).map _
 ·rw [tI];refine dM (sG.mpr ?_);refine (nD hL.1.p9 hL.1.nd).imp_of_mem fun {x y} hx hy e => ?_
  exact p9_ns x (x0 x hx) y (x0 y hy) e
 ·rw [tI];refine dI ?_ fun x hx y hy e => ?_
  ·exact (cV lv).nodup_iff.mpr ((sG.mp hL.1.nd).imp fun y7 e => y7 (congrArg uo e))
  ·have y3 := x0 x hx;have x5 := x0 y hy;have key : ∀ p ∈ P9, ∀ q ∈ P9, (g6 p).1 = (g6 q).1 → p.2 = q.2 := by decide +kernel
   have e2 := key x y3 y x5 e;exact Prod.ext (jO x y3 y x5 e2) e2
 ·rw [ak, (cV lv).length_eq];have := fX hL.1.nd fun u hu => by
   obtain ⟨p, hq, rfl⟩ := tG.mp hu;exact (cf p (hL.1.p9 p hq)).1
  rw [ak] at this;exact (bD 0x5eed0c0bc1630 0) this
 ·obtain ⟨q, hq, rfl⟩ := tG.mp hp;have h1 := cf q (x0 q hq);have h2 := kM q.1 (au _ h1.1);refine ⟨tH h2.2 (by decide), ?_⟩;show (iC q.1).length ≤ _;rw [h2.1];exact tH h2.2 (by decide)
 ·rw [eH, x3];exact (cT b).map _
 ·rw [tI];exact dM (sG.mpr (su_pw.filter _))
 ·intro _ T' dl pm n1 ll k0 k1 k2 k3 y4 y8;obtain ⟨h6, hd⟩ := h5.fl (u := k0) W.st;refine h T' _ lv y4 hL ?_;have y5 : QS.of { (cm i t k0) with dl := dl, pm := pm } = q5 (D ++ [lv]) N := by
   rw [← y8];unfold QS.of;rw [dC]
  have := h6.sta (n1 := n1) (ll := ll) (k1 := k1) (k2 := k2) (k3 := k3) (kvs := kvs) hd h7 hp hL hv y0 y5 x4;rw [eH];rw [fo] at this;exact this
theorem qS (B : Base (KF w.params) h0) (W : Wp w i) (hh : A.handled = none) (x2 : A.depth + 4 < ty) (h5 : S5 (D ++ [lv]) (N ++ [ln]) k m t due) (hk : k ≤ 390) (hm : m ≤ 800) (x3 : u0 ∈ U5) (hp : u0 = e0 ∨ ∃ p, dy (D ++ [lv]) u0 = some p)
  (h : ∀ t', t'.data = [] → S5 D N (k + 2) m t' (due ++ (ud "</" ++ (if u0 = e0 then kX else (dy (D ++ [lv]) u0).getD e0 ++ ud ":" ++ kX) ++ ud ">")) → Go h0 o0 (wr uX w i t' V) (R (.ok (.ret .none)))) :
  Go h0 o0 (wr uX w i t V) (uD (uM uX w) A (.call (.ref aEnd) ⟨[.ref i.x, .str (aX u0 kX) u], []⟩) R) := by
 have y4 := (dB u0 x3).1;have y5 := (gL _ (dB u0 x3).2.2.1).1;obtain ⟨NN, lN, x9⟩ := iX h5.nlne;obtain ⟨ND, lD, y9⟩ := iX (l := t.dl) fun e => by have := h5.dl; rw [e] at this; cases this
 have x1 := h5.ps;rw [aw, r4, List.replicate_succ'] at x1;have eN : NN.map Lv.v = mapNs :: N := by
  have := h5.nl;rw [x9, ao, ← sN] at this;exact (List.append_inj' this rfl).1
 have nm : ∃ q, kz i.rw (QS.of t) (bX (aX u0 kX)).1 (bX (aX u0 kX)).2 = some (q, q5 (D ++ [lv]) (N ++ [ln])) ∧ q = (if u0 = e0 then kX else (dy (D ++ [lv]) u0).getD e0 ++ ud ":" ++ kX) ∧ q.length ≤ 10 := by
  rw [h5.q, W.rw, y4];by_cases he : u0 = e0
  ·subst he;exact ⟨kX, qn5_0 h5.dp, (if_pos rfl).symm, by decide +kernel⟩
  ·obtain ⟨p, h7⟩ := hp.resolve_left he;have z6 := (tB.mp x3).resolve_left he;have q := qn5 (N := N ++ [ln]) (tag := kX) h5.dp (by simp) z6;rw [h7] at q;have y7 : (u0, p) ∈ P9 := by
    unfold dy at h7;cases e2 : (aK (D ++ [lv])).find? fun q => q.1 == u0 with
    | none => rw [e2] at h7; cases h7
    | some z =>
     rw [e2] at h7;cases h7;obtain ⟨hq, rfl⟩ := cY e2;exact h5.dp z hq
   have h9 := cf _ y7;refine ⟨_, q, ?_, ?_⟩
   ·rw [if_neg he, h7];unfold iB;rw [if_neg h9.2.2.2.2.2.1, show tZ ++ p = p from eE _]; rfl
   ·have z0 : tZ.length = 0 := by decide +kernel
    have z3 : (ud ":").length = 1 := by decide +kernel
    have z8 : kX.length = 1 := by decide +kernel
    have := h9.2.2.1;unfold iB;split
    ·exact (bD 1500041849348 1298189) z8
    ·simp only [am]; dsimp only at this; exact (jP 0x21415564af26ed970647f5bd55c9fb2b322 58985268353621) z0 z3 z8 this
 obtain ⟨q, hq, x7, x6⟩ := nm;have y2 : (prs t.dl).length ≤ 500 := by
  have e : (prs t.dl).length = (aK (t.dl.map Lv.v)).length := by rw [← iZ, ak]
  rw [e, h5.dl, bE, aw];have := h5.d4;show _ + 1 ≤ 500;exact (bD 0x78f9f7870e16cdd106 0) this
 refine c_end B hh x2 (h5.wb (by exact oq9 hk) (by exact oV hm)) (by have := h5.oz' (by exact oq9 hk) (by exact oV hm); exact (bD 0xc4795e8ae80b266e079204f3ff9c 0) this) y5 (fun hg => absurd h5.ig hg) y2 y9 x9 x1 (fun _ => hq) (by exact (bD 0x1acbb1fafac306a8 0) x6) (fun _ k1 k2 y6 z4 y8 z5 => ?_);obtain ⟨h6, hd⟩ := h5.fl (u := k1) W.st;refine h _ hd ?_;have h' := h6.mono (k' := k + 2) (m' := m) (by exact bD 49293279058806 0) (ah _);have x4 : z4.map Lv.v = [xmlPr] :: D := by
  rw [z5];show ([xmlPr] :: (D ++ [lv])).dropLast = _;rw [← sN, List.dropLast_concat]
 have y0 : (y6.map fun q => (q.1, q.2.1)) = [] := y8;have y1 := h5.nz;have y3 := h5.lz;have x5 := h5.tz;rw [aw, aw, r4, r4] at y1;rw [aw, r4] at y3;rw [a5, aw] at x5;have x8 := h5.dn;rw [a5, ao, sH] at x8;refine ⟨?_, by exact (a9 0x7dd20682cb9520ec0e 1734862092781) y1, fun p hp => h5.dp p (by rw [a5]; exact r6 _ hp), x8.2.1, fun p hp => h5.np p (by rw [a5]; exact r6 _ hp), ?_, fun _ => ?_, h6.ig, ?_, (fun p hp => ?_), by show (cm i t k1).data.length ≤ _; rw [hd]; exact tO _, ?_, by exact (bZ 1420584076638 0) x5, ?_, by exact (a9 0x1a58832c2525d9ca 0) y3⟩
 ·unfold QS.of q5;dsimp only;rw [x4, y0, eN]
 ·show List.replicate (D.length + 1) false = _; rfl
 ·show (cm i t k1).rs = true;exact h6.rs (.inr (by simp))
 ·show cC (((cm i t k1).out ++ [(tZ ++ ud "</" ++ q ++ ud ">", k2)]).map (·.1)) ++ cC ((cm i t k1).data.map (·.1)) = _;have x0 := h6.outE;rw [hd, tJ, dq, dv] at x0 ⊢;rw [ao, dP, x0, az, tJ, fF, show tZ ++ ud "</" = ud "</" from eE _, x7]
 ·exfalso;have hp : p ∈ (cm i t k1).data := hp;rw [hd] at hp; cases hp
 ·show ((cm i t k1).out ++ [_]).length ≤ _;have := h6.oz;rw [aw, r4]; exact (bZ 0x37a0d736477b103aa145b915a2503fe 0) this
 ·have := h5.bz;have z1 : (ud "</").length = 2 := by decide +kernel
  have z2 : (ud ">").length = 1 := by decide +kernel
  rw [← x7];simp only [am]; exact (om5 0x93f8acdef62ff1694507d7face4bb9fa7399c7a706e37b3196aeeea816c5cff7a 1734816696695) x6 this z1 z2
end
section
variable {cs cs' V X Y : aF} {i : Wid} {t : d0} {Q : VP}
theorem rA (B : Base (KF w.params) h0) (W : A.depth < ty) (hz : u.length + n.length ≤ 1000) (h : ∀ t', Go h0 o0 cs (Q (.str (aX u n) t'))) :
  Go h0 o0 cs (uL (uM uX w) A (uW (.ref aKey) [.str u t1, .str n t2]) Q E) := by
 have z1 : (ud "{").length = 1 := by decide +kernel
 have z2 : (ud "}").length = 1 := by decide +kernel
 refine cz ?_;refine cJ (m := [(ud "name", .str n t2), (ud "uri", .str u t1)]) B (by kernel_rfl!) W (fun s X => by with_reducible refine kp_binds X ?_; intro S; kernel_rfl!) (by kernel_rfl!) fun L => ?_
 refine aH ?_;with_reducible refine fC (cO (bv (aI .here .i1 (aR fun _ _ => jc ?_)))); refine a0 ?_
 refine dT (fun hg => ?_) fun hg => ?_
 ·have hg : u ≠ e0 := by simpa using hg
  with_reducible refine bl (bl (bl (aR fun _ _ => aI .here .i1 ?_))); refine cc (by simp only [aj]; with_unfolding_all exact (bZ 0x2288a1ec87a8cb212ce4704e3123a0edf82 44138427) hz z1) fun t3 => ?_; refine aR ?_; intro _ _; refine cc (by simp only [am, aj]; with_unfolding_all exact (jP 0x5d87572823e60f4d22f2ee6e2d4470f3b93ae3b02 51024020491) hz z1 z2) fun t4 => ?_; refine aI .here .here ?_; refine cc (by simp only [am, aj]; with_unfolding_all exact (jP 0x1a6572591421add1851d0fca984690e0c906e178b322 51024020491) hz z1 z2) fun t5 => ?_
  have h := h t5;unfold aX at h;rw [if_neg hg] at h;with_reducible refine di (gr ?_)
  exact Go.sub (.cons _ (sI _)) h
 ·have hg : u = e0 := by simpa using hg
  have h := h t2;unfold aX at h;rw [if_pos hg] at h;with_reducible refine aI .here .here (di (gr ?_))
  exact Go.sub (.cons _ (sI _)) h
structure Tel where
 (a : uR) (lv : Nat) (dt : Tok) (p : Str) (pt : Tok) (u : Str) (ut : Tok)
noncomputable def Tel.v (e : Tel) : Nat × Sp := (e.lv, (e.u, e.p))
@[reducible] noncomputable def Tel.c (e : Tel) : cP := aE [.int ((e.lv : Int) - 1) e.dt, .str e.p e.pt, .str e.u e.ut]
noncomputable def cr (LV : List (List Sp)) (u : Str) : Str := (((aK LV).find? fun q => q.1 == u).map (·.2)).getD e0
theorem ro {T : List (Nat × Sp)} {u : Str} {i : Nat} {x : Nat × Sp} (h : T[i]? = some x) : ((T.zipIdx).take (i + 1)).filterMap (eg u) = ((T.zipIdx).take i).filterMap (eg u) ++ (if x.2.1 = u then [(1 - (x.1 : Int), i, x.2.2)] else []) := by
 have e : T.zipIdx[i]? = some (x, i) := by
  rw [List.getElem?_zipIdx, h]; simp
 rw [sE, e, List.filterMap_append]
 congr 1
 unfold eg;simp only [Option.toList, List.filterMap_cons, List.filterMap_nil];split <;> simp_all
theorem pf {LV : List (List Sp)} (hn : LV.length ≤ 900) (hz : (bj LV).length < 100) {fs : List Fit} (hf : fs.map (fun f => (f.d, f.k, f.p)) = gx (bj LV) u) :
  (fs = [] → cr LV u = e0) ∧ (∀ f ∈ fs, (∀ g ∈ fs, f.r ≤ g.r) → f.p = cr LV u) ∧ (fs.map (·.k)).Nodup ∧ (∀ f ∈ fs, -1000 < f.d ∧ f.k < 1000) ∧ fs.length < 100 := by
 obtain ⟨h1, h2⟩ := lL u LV.length LV rfl hn (by exact (bD 0x74af38d7d6af649a68 0) hz);obtain ⟨b1, b2, b3⟩ := pg (u := u) hn (by exact (bD 0x74af38d7d6af649a68 0) hz : (bj LV).length < 1000);have W : ∀ f ∈ fs, (f.d, f.k, f.p) ∈ gx (bj LV) u := fun f hm => hf ▸ aA (f := fun f : Fit => (f.d, f.k, f.p)) hm
 have h7 : (fs.map (·.k)).Nodup := by
  rw [← hf, tI] at b2; exact b2
 refine ⟨fun e => ?_, fun f hm h9 => ?_, h7, fun f hm => b1 _ (W f hm), ?_⟩
 ·subst e;unfold cr;cases e : (aK LV).find? fun q => q.1 == u with
  | none => rfl
  | some q =>
   obtain ⟨e, he, _⟩ := h2 q e;rw [← hf] at he; cases he
 ·unfold cr;cases e : (aK LV).find? fun q => q.1 == u with
  | none =>
   have := h1 e;rw [← hf] at this;rw [sq.mp this] at hm; cases hm
  | some q =>
   obtain ⟨x, hx, x1, x2⟩ := h2 q e;show f.p = q.2;rw [← x1];rw [← hf] at hx;obtain ⟨g, hg, rfl⟩ := tG.mp hx;have a1 := h9 g hg;have a2 := x2 _ (W f hm);have a3 := b1 _ (W f hm);have a4 := b1 _ (W g hg);unfold Fit.r at a1;unfold rk at a2;dsimp only at a1 a2 a3 a4 ⊢;have hk : f.k = g.k := by omega
   obtain ⟨i, hi, rfl⟩ := List.getElem_of_mem hm;obtain ⟨j, hj, rfl⟩ := List.getElem_of_mem hg;have x0 : i < (fs.map (·.k)).length := by rwa [ak]
   have : i = j := (List.getElem?_inj x0 h7).mp (by simp [hi, hj, hk]);subst this; rfl
 ·have := congrArg tQ hf;rw [ak] at this;exact (bZ 0x2c643a2a493824b6072561e21c 1500706519) hz b3 this
theorem mW {TL : uR} {ts : List Tel} {LV : List (List Sp)} {u : Str} {tu : Tok} (B : Base (KF w.params) h0) (hh : A.handled = none) (h7 : A.depth < ty) (hu : A.units + 100 < cLine)
  (x6 : Has cs TL (aE (ts.map fun e => .ref e.a))) (y1 : ∀ e ∈ ts, Has cs e.a e.c) (hv : ts.map Tel.v = bj LV) (hn : LV.length ≤ 900) (hz : ts.length < 100)
  (h : ∀ t', Go h0 o0 cs (Q (.str (cr LV u) t'))) : Go h0 o0 cs (uL (uM uX w) A (uW (.ref og) [.ref TL, .str u tu]) Q E) := by
 have h9 : ∀ env, (A.deeper env).handled = none := fun _ => hh
 have x5 : ∀ env, (A.deeper env).units + 50 < cLine := fun _ => by show A.units + 3 + 50 < _; exact (a9 0xba14522db6aef1368197b26e64b8 0) hu
 have y4 : cD h0 (ud "enumerate") (.type "enumerate") := B.bltAt (by kernel_rfl!) (by kernel_rfl!) (by decide +kernel) (by decide +kernel);have x0 : cD h0 (ud "sorted") (.builtin "sorted") := B.bltAt (by kernel_rfl!) (by kernel_rfl!) (by decide +kernel) (by decide +kernel);have x8 : (bj LV).length < 100 := by rw [← hv, ak]; exact hz
 refine cz ?_;refine lR (binds := [(ud "tellings", .ref TL), (ud "uri", .str u tu)]) B (by kernel_rfl!) h7 (fun s X => by with_reducible refine kp_binds X ?_; intro S; kernel_rfl!) fun L => ?_
 rw [show (cellsFrom (L + 1) (aZ (KF w.params) og).scope.names []) = [(ud "uri", L + 1)] from by kernel_rfl!];show Go h0 o0 ((L, cNs []) :: (L + 1, aO none) :: cs) _;with_reducible refine mt (aQ .here .new (mt ?_)); refine il .h1 (by kernel_rfl!) (by kernel_rfl!) (by kernel_rfl!) ?_; refine sa_n ?_
 refine aH ?_;refine s_clt (cl := [(ud "uri", L + 1)]) (by kernel_rfl!) (by kernel_rfl!) (by decide) rfl (by decide) ?_ (fun _ => by with_unfolding_all rfl);with_reducible refine bf ?_; refine dg (by assumption) (by kernel_rfl!) (by kernel_rfl!) (by kernel_rfl!) (by kernel_rfl!) (by decide +kernel) ?_; refine c_ty ?_ (by with_unfolding_all rfl) (by with_unfolding_all rfl); refine aG (aI .here .here (aJ ?_)); refine k_enum (.t2 x6) fun e it => ?_
 refine ltE (xs := ts.map fun e => .ref e.a) (fun i ys C => ∃ fs : List Fit, ∃ F : aF, ys = fs.map (fun f => .ref f.a) ∧ (∀ f ∈ fs, Has F f.a (aE f.v)) ∧ fs.map (fun f => (f.d, f.k, f.p)) = (((bj LV).zipIdx).take i).filterMap (eg u) ∧
  C = F ++ ((L, cNs [(ud "tellings", .ref TL)]) :: (L + 1, aO (some (.str u tu))) :: cs)) (h9 _) ?_ (by rw [ak]; exact (bD 0x74af38d7d70b7872a8 0) hz) ⟨[], [], rfl, (fun f q => by cases q), rfl, rfl⟩ ?_ ?_
 ·rintro i ys C ⟨fs, F, _, _, _, rfl⟩;exact .skip (.t2 x6)
 ·rintro L2 i x a ui ys C K' hx ⟨fs, F, rfl, hF, hfs, rfl⟩ ha;obtain ⟨e, he, rfl⟩ : ∃ e, ts[i]? = some e ∧ x = .ref e.a := by
   rw [sD] at hx;cases hx2 : ts[i]? with
   | none => rw [hx2] at hx; cases hx
   | some e => rw [hx2] at hx; exact ⟨e, rfl, by cases hx; rfl⟩
  have y0 := se he;have hT : (bj LV)[i]? = some e.v := by rw [← hv, sD, he]; rfl
  have x2 := ro (u := u) hT;have x3 : Has (F ++ ((L, cNs [(ud "tellings", .ref TL)]) :: (L + 1, aO (some (.str u tu))) :: cs) ++ K') e.a e.c := Has.app (.skip (.t2 (y1 e y0)));have x9 : Has (F ++ ((L, cNs [(ud "tellings", .ref TL)]) :: (L + 1, aO (some (.str u tu))) :: cs) ++ K') (L + 1) (aO (some (.str u tu))) := Has.app (.skip .h1);have x4 : Has (F ++ ((L, cNs [(ud "tellings", .ref TL)]) :: (L + 1, aO (some (.str u tu))) :: cs) ++ K') a (bn [.int i ui, .ref e.a]) := .skip ha;obtain ⟨Z, hZ⟩ : ∃ Z, Z = F ++ ((L, cNs [(ud "tellings", .ref TL)]) :: (L + 1, aO (some (.str u tu))) :: cs) ++ K' := ⟨_, rfl⟩;rw [← hZ] at x3 x9 x4 ⊢;refine u_2t (h9 _) (.there x4) (by with_unfolding_all rfl) ?_;with_reducible refine aQ .here .new ?_
  refine u_3l (h9 _) (.there x3) ?_;with_reducible refine aQ .here .j1 (aQ .here .j2 (aQ .here .j3 ?_))
  refine kd ?_;with_reducible refine bv (aI .here .i3 ?_); refine bw (.there (by with_reducible assumption)) ?_; refine g4 (a0 ?_)
  refine dT (fun W => ?_) fun W => ?_
  ·have W : e.u = u := by simpa using W
   with_reducible refine bd (aG (eX (aI .here .i1 (eV fun _ => aG ?_)))); refine aI .here .here (aG (aI .here .i2 (aJ (ba ?_)))); intro _
   rename_i tn aa;refine ce (m := [(ud "k", .int (i : Nat) ui), (ud "depth", .int ((e.lv : Int) - 1) e.dt), (ud "prefix", .str e.p e.pt), (ud "one", .str e.u e.ut)]) (C' := (aa, aE [.int (-((e.lv : Int) - 1)) tn, .int (i : Nat) ui, .str e.p e.pt]) :: (F ++ ((L, cNs [(ud "tellings", .ref TL)]) :: (L + 1, aO (some (.str u tu))) :: cs))) ⟨fs ++ [⟨aa, 1 - (e.lv : Int), i, e.p, tn, ui, e.pt⟩], (aa, aE (gm (1 - (e.lv : Int)) i e.p tn ui e.pt)) :: F, by rw [ao]; rfl, fun f hf => ?_, ?_, ?_⟩ ?_
   ·rcases s8.mp hf with hf | hf
    ·exact .there (hF f hf)
    ·rw [su.mp hf]; exact .here
   ·rw [x2, ao, hfs];show _ = _ ++ (if e.u = u then _ else _);rw [if_pos W]; rfl
   ·rw [show gm (1 - (e.lv : Int)) i e.p tn ui e.pt = [.int (-((e.lv : Int) - 1)) tn, .int (i : Nat) ui, .str e.p e.pt] from by unfold gm; rw [show -((e.lv : Int) - 1) = 1 - (e.lv : Int) from by omega]];rfl
   ·rw [hZ]; exact .pick .h1 (.pick .here (.tail .refl))
  ·have W : ¬ e.u = u := by simpa using W
   refine sl (C' := F ++ ((L, cNs [(ud "tellings", .ref TL)]) :: (L + 1, aO (some (.str u tu))) :: cs)) ⟨fs, F, rfl, hF, ?_, rfl⟩ (by rw [hZ]);rw [x2, hfs];show _ = _ ++ (if e.u = u then _ else _);rw [if_neg W, s7]
 ·rintro L2 DD ys C ⟨fs, F, rfl, hF, hfs, rfl⟩;rw [rZ (by rw [List.length_zipIdx, ← hv, ak, ak]; exact ah _)] at hfs;obtain ⟨f1, f2, f3, f4, f5⟩ := pf hn x8 hfs;rw [av];show Go h0 o0 ((DD, aE _) :: (F ++ ((L, cNs [(ud "tellings", .ref TL)]) :: (L + 1, aO (some (.str u tu))) :: (cs ++ [(L2, cNs [])])))) _;with_reducible refine aQ (.there (.skip .here)) .j1 ?_
  refine nk (cs' := (DD, aE _) :: (F ++ ((L, cNs [(ud "tellings", .ref TL), (ud "fit", .ref DD)]) :: (L + 1, aO (some (.str u tu))) :: (cs ++ [])))) (.pick (.there (.skip (.t2 (.skip .here)))) (.pick .here (.tail .refl))) ?_;rw [s7];have x7 : ∀ f ∈ fs, Has ((DD, aE (fs.map fun f => .ref f.a)) :: (F ++ ((L, cNs [(ud "tellings", .ref TL), (ud "fit", .ref DD)]) :: (L + 1, aO (some (.str u tu))) :: cs))) f.a (aE f.v) := fun f hf => .there (hF f hf).app
  refine aM (aH ?_);refine fC ?_;refine cO ?_;with_reducible refine bv (aI (.there (.skip .here)) .i1 (bd (aJ (ba fun _ => o_nen .h1 .here (sx (sU _ 50) (x5 _)) ?_)))); refine a0 ?_
  refine Go.sub (.cons _ (sI _)) ?_;refine dT (fun W => ?_) fun W => ?_
  ·have W : fs ≠ [] := fun e => by subst e; simp at W
   with_reducible refine br (br (bf ?_)); refine dg (by assumption) (by kernel_rfl!) (by kernel_rfl!) (by kernel_rfl!) (by kernel_rfl!) (by decide +kernel) ?_; refine ki ?_ (by with_unfolding_all rfl) (by with_unfolding_all rfl); refine aG (aI (.there (.skip .here)) .i1 (aJ ?_)); refine o8 (sx (sj (by decide : 2 ≤ 50) _) (x5 _)) .here x7 W f5 f3 f4 fun f SD vs hf x1 => ?_
   have y2 := x7 f hf;with_reducible refine aY ?_; intro _; refine bI (.new .here) (by decide) (by decide) (v := .ref f.a) rfl ?_; refine aY ?_; intro _; refine bI (.new (.there y2)) (by decide) (by decide) (v := .str f.p f.z) rfl ?_
   have h := h f.z;rw [← f2 f hf x1] at h;with_reducible refine di (gr ?_)
   refine Go.sub (.cons _ (.cons _ ?_)) h;exact (List.Sublist.cons _ (.cons _ (sI _))).trans (rM _ _)
  ·have W : fs = [] := by
    cases fs with
    | nil => rfl
    | cons f r => simp at W
   with_reducible refine aR fun _ _ => di (gr ?_)
   rename_i y3 _;have h := h y3;rw [f1 W] at h;refine Go.sub (.cons _ ?_) h;exact (List.Sublist.cons _ (.cons _ (sI _))).trans (rM _ _)
noncomputable def jf : Stmt → List Stmt
 | .If _ b _ _ => b
 | _ => []
noncomputable def ifE : Stmt → List Stmt
 | .If _ _ e _ => e
 | _ => []
noncomputable def forB : Stmt → List Stmt
 | .For _ _ b _ _ => b
 | _ => []
noncomputable def nth (l : List Stmt) (n : Nat) : Stmt := l.getD n (.Pass ⟨0, 0, 0, 0⟩)
noncomputable abbrev lwB (P : Params) : List Stmt := a7 (KF P) iT
noncomputable abbrev lwF (P : Params) : List Stmt := forB (nth (lwB P) 9)
noncomputable abbrev jU (P : Params) : Stmt := nth (lwF P) 1
noncomputable abbrev lw1 (P : Params) : Stmt := nth (ifE (jU P)) 0
noncomputable abbrev ca (P : Params) (L : uR) : Env := um (aZ (KF P) iT) L iT
structure Opn where
 (a : uR) (nm : Str) (nt : Tok) (key : Str) (kt : Tok)
structure fQ where
 (a : uR) (kvs : List (Str × Str × Tok))
@[reducible] noncomputable def Opn.c (o : Opn) : cP := aE [.str o.nm o.nt, .str o.key o.kt]
structure Jd where
 (L OP SH PA : uR) (sk : Tok)
@[reducible] noncomputable def lawF (j : Jd) (i : Wid) (due : Str) (dk : Tok) (r : List (Str × uN)) : List (Str × uN) :=
 (ud "due", .str due dk) :: (ud "shown", .ref j.SH) :: (ud "writer", .ref i.x) :: (ud "pairs", .ref j.PA) :: (ud "schema", .str uS j.sk) :: (ud "pieces", .ref i.O) :: r
@[reducible] noncomputable def lawX (j : Jd) (i : Wid) (due : Str) (dk : Tok) (r : List (Str × uN)) (TL : uR) (ts : List Tel) (os : List Opn) (ds : List fQ) (qv : Option uN) (Z : aF) : aF :=
 (j.L, cNs (lawF j i due dk r)) :: (j.L + 1, aO (some (.ref TL))) :: (j.L + 1 + 1, aO (some (.ref j.OP))) :: (j.L + 1 + 1 + 1, aO qv) :: (TL, aE (ts.map fun e => .ref e.a)) :: (j.OP, aE (os.map fun o => .ref o.a)) :: (j.SH, aE (ds.map fun d => .ref d.a)) :: Z
theorem o_nei {a c : Int} {t u : Tok} (h : Go h0 o0 cs (Q (.bool (a != c)))) : Go h0 o0 cs (uL (uM uX w) A (uc .NotEq (.int a t) (.int c u)) Q E) := fun s H => PyProof.Rows.ne_int (h s H)
theorem Go.u4 (h : ∀ y1 y2 W y4, Go h0 o0 ((a, aE [.str uA y1, .str uB y2, .str uC W, .str uS y4]) :: C) P) : Go h0 o0 ((a, aE [.str uA x1, .str uB x2, .str uC x3, .str uS x4]) :: C) P := h x1 x2 x3 x4
theorem Go.tg (h : ∀ y, Go h0 o0 ((a, aE [.str u0 t0, .str kX y]) :: C) P) : Go h0 o0 ((a, aE [.str u0 t0, .str kX x]) :: C) P := h x
theorem Go.rp (ps : List (Str × Tok)) (e : ps.map (·.1) = ls) (h : ∀ W : List (Str × Tok), W.map (·.1) = ls → Go h0 o0 (X ++ (a, aE (tv W)) :: Z) P) : Go h0 o0 (X ++ (a, aE (tv ps)) :: Z) P := h ps e
theorem Go.nm3 (h : ∀ ta W, Go h0 o0 ((a, aE [.str u x, .str kK ta, .str (ud "1") W]) :: C) P) : Go h0 o0 ((a, aE [.str u x, .str kK y, .str (ud "1") z]) :: C) P := h y z
theorem Go.nm4 (h : ∀ ta W, Go h0 o0 ((a, aE [.str e0 ta, .str kK W, .str u z]) :: C) P) : Go h0 o0 ((a, aE [.str e0 x, .str kK y, .str u z]) :: C) P := h x y
theorem num_all : ∀ m : Nat, m < 100 → iC (ud (toString (m : Int))) = ud (toString (m : Int)) ∧ (ud (toString (m : Int))).length ≤ 3 := by decide +kernel
theorem num_ok (m : Nat) (h : m < 100) : iC (ud (toString (m : Int))) = ud (toString (m : Int)) ∧ (ud (toString (m : Int))).length ≤ 3 := num_all m h
theorem revU_ne : ∀ u ∈ [uS, uC, uB, uA], u ≠ e0 := by decide +kernel
theorem au_tx : (([uS, uC, uB, uA].filter b).map fun u => [u, kK, ud "1"]) ++ [[e0, kK, v]] = (AU b).map fun u => [u, kK, tx v u] := by
 unfold AU;rw [ao]
 congr 1
 ·refine List.map_congr_left fun u W => ?_
  unfold tx;rw [if_neg (revU_ne u (tw.mp W).1)]
noncomputable abbrev LLs := List (uR × List (Str × Tok))
noncomputable abbrev LLs.r (l : LLs) : List uN := l.map fun p => .ref p.1
noncomputable def LLs.v (l : LLs) : List (List Str) := l.map fun p => p.2.map (·.1)
noncomputable def revU : List Str := [uS, uC, uB, uA]
theorem i0 (h : cr ([dE] :: N) u ≠ e0) : (bS N u).isSome = true := by
 cases e : bS N u with
 | some p => rfl
 | none =>
  refine absurd ?_ h;show (bS N u).getD e0 = e0;rw [e]; rfl
theorem Go.tIn (h : Go h0 o0 (T ++ wr uX w i t (X ++ Z)) P) : Go h0 o0 (X ++ (T ++ wr uX w i t Z)) P := by
 refine Go.perm ?_ h;rw [eR (V := Z), eR (V := X ++ Z)];refine perm3.trans (r8 _ perm3)
theorem Go.tOut (h : Go h0 o0 (X ++ (T ++ wr uX w i t Z)) P) : Go h0 o0 (T ++ wr uX w i t (X ++ Z)) P := by
 refine Go.perm ?_ h;rw [eR (V := Z), eR (V := X ++ Z)];exact (perm3.trans (r8 _ perm3)).symm
theorem Go.sIn (h : Go h0 o0 (wr uX w i t (X ++ (T ++ Z))) P) : Go h0 o0 (X ++ (T ++ wr uX w i t Z)) P := by
 refine Go.perm ?_ h;rw [← av, ← av];exact wr_in
theorem Go.sOut (h : Go h0 o0 (X ++ (T ++ wr uX w i t Z)) P) : Go h0 o0 (wr uX w i t (X ++ (T ++ Z))) P := by
 refine Go.perm ?_ h;rw [← av, ← av];exact wr_in.symm
theorem LLs.at {ls : LLs} {us : List Str} {f : Str → List Str} (e : ls.v = us.map f) {n : Nat} {p : uR × List (Str × Tok)} (hp : ls[n]? = some p) : ∃ u, us[n]? = some u ∧ p.2.map (·.1) = f u := by
 have h1 : ls.v[n]? = some (p.2.map (·.1)) := by unfold LLs.v; rw [sD, hp]; rfl
 rw [e, sD] at h1;cases hu : us[n]? with
 | none => rw [hu] at h1; cases h1
 | some u => rw [hu] at h1; exact ⟨u, rfl, (tq h1).symm⟩
theorem pY {l : List (Str × Tok)} (e : l.map (·.1) = [a, b, c]) : ∃ x y z, l = [(a, x), (b, y), (c, z)] := by
 match l, e with
 | [(_, x), (_, y), (_, z)], e => simp at e; obtain ⟨rfl, rfl, rfl⟩ := e; exact ⟨x, y, z, rfl⟩
theorem LLs.rAt {ls : LLs} {n : Nat} {v : uN} (h : ls.r[n]? = some v) : ∃ p, ls[n]? = some p ∧ v = .ref p.1 := by
 unfold LLs.r at h;rw [sD] at h;cases hx : ls[n]? with
 | none => rw [hx] at h; cases h
 | some p => rw [hx] at h; exact ⟨p, rfl, (tq h).symm⟩
section
variable {j : Jd} {due : Str} {dk : Tok} {r : List (Str × uN)} {TL : uR} {ts : List Tel} {os : List Opn} {ds : List fQ} {qv : Option uN} {T Z G : aF} {D N : List (List Sp)} {k m : Nat} {Q : FP}
theorem c5_b2 {TG AT : uR} {ls : LLs} {t1 t2 : Tok} {u0 v : Str} {b : Str → Bool} (B : Base (KF w.params) h0) (LB : LamBase h0 fO bG) (W : Wp w i) (hh : A.handled = none) (h7 : A.depth + 6 < ty) (hu : A.units + 2000 < cLine) (hT : Tb bG lamPos lamQ T)
  (h5 : S5 D N k m t due) (hk : k ≤ 390) (hm : m ≤ 800) (x7 : u0 ∈ U5) (hp : ∀ u ∈ u0 :: AU b, u = e0 ∨ (bS N u).isSome = true) (hv : iC v = v) (y6 : v.length ≤ 3) (y0 : ls.v = (AU b).map (fun u => [u, kK, tx v u])) (hG : ∀ p ∈ ls, Has G p.1 (aE (tv p.2)))
  (h : ∀ T' t' lv, Tb bG lamPos lamQ T' → LvFor D N (u0 :: AU b) lv → S5 (D ++ [lv]) (N ++ [[]]) (k + 2) m t' (due ++ fA D N lv u0 b v) →
   Go h0 o0 ((TG, aE [.str u0 t1, .str kX t2]) :: (AT, aE ls.r) :: lawX j i due dk [(ud "tag", .ref TG), (ud "attrs", .ref AT)] TL ts os ds qv (G ++ (T' ++ wr uX w i t' V))) (uL (uM uX w) A (uP ((jf (jU w.params)).drop 7) (ca w.params j.L)) Q NoE)) :
  Go h0 o0 ((TG, aE [.str u0 t1, .str kX t2]) :: (AT, aE ls.r) :: lawX j i due dk [(ud "tag", .ref TG), (ud "attrs", .ref AT)] TL ts os ds qv (G ++ (T ++ wr uX w i t V))) (uL (uM uX w) A (uP ((jf (jU w.params)).drop 6) (ca w.params j.L)) Q NoE) := by
 have z2 : dh h0 (ud "_law_key") (.ref aKey) := B.glob (by kernel_rfl!) (by kernel_rfl!);have z8 : kX.length = 1 := by decide +kernel
 have z9 : kK.length = 1 := by decide +kernel
 have x9 := (kM u0 x7).2;refine aH ?_;with_reducible refine bq (bF (aI .h2 .i2 ?_)); refine rh (by assumption) (.t6 (.t3 (.skip (.skip bu)))) (.t6 (.t3 (.skip (.skip a6)))) ?_; refine kg (by assumption) (dS (by decide +kernel)) ?_ (by with_unfolding_all rfl) (by with_unfolding_all rfl); refine aG (bf ?_); refine eY (by assumption) (by kernel_rfl!) (by kernel_rfl!) (by kernel_rfl!) (by decide +kernel) ?_; refine lS (by assumption) (by kernel_rfl!) ?_ (by with_unfolding_all rfl); refine aG (br (aI .h2 .i6 (aY ?_))); intro _; refine bI (.new .here) (by decide) (by decide) (v := .str u0 t1) rfl ?_; refine aG (br (aI .h2 .i6 (aY ?_))); intro _; refine bI (.new .here) (by decide) (by decide) (v := .str kX t2) rfl ?_; refine aJ (ck ?_); refine rA B (by with_unfolding_all exact mw h7) (by with_unfolding_all exact oq12 z8 x9) fun t5 => ?_
 repeat ((fail_if_success (with_reducible show Go _ _ _ (uL _ _ (uU (Expr.DictComp _ _ _ _ _) _) _ _))); with_reducible refine aG ?_)
 refine e_dc (cl := []) (by kernel_rfl!) (by decide) rfl (by decide) ?_ (fun _ => by with_unfolding_all rfl);with_reducible refine aI .h2 (.nx6 .i1) ?_
 obtain ⟨C1, h9⟩ : ∃ C1, C1 = (TG, aE [.str u0 t1, .str kX t2]) :: (AT, aE ls.r) :: lawX j i due dk [(ud "tag", .ref TG), (ud "attrs", .ref AT)] TL ts os ds qv (G ++ (T ++ wr uX w i t V)) := ⟨_, rfl⟩;rw [← h9];have y4 : ls.length = (AU b).length := by have := congrArg tQ y0; unfold LLs.v at this; rwa [ak, ak] at this
 have y8 := iq b;refine dcL (xs := ls.r) (fun n ys C => ∃ kvs, ys = bH kvs ∧ kvs.map (fun p => (p.1, p.2.1)) = ((AU b).take n).map (fun u => (aX u kK, tx v u)) ∧ C = C1) hh ?_ (by unfold LLs.r; rw [ak]; exact (a9 0x10115405a67b307801a8 44139549) y4 y8) ⟨[], rfl, rfl, rfl⟩ ?_ ?_
 ·rintro n ys C ⟨_, _, _, rfl⟩;rw [h9]; exact .h1
 ·rintro L2 n x ys C K' hx ⟨kvs, rfl, e1, rfl⟩;obtain ⟨p, x8, rfl⟩ := LLs.rAt hx;obtain ⟨u, x0, z1⟩ := LLs.at y0 x8;obtain ⟨x1, x2, x3, y9⟩ := pY z1;have y2 := hG p (se x8);rw [y9] at y2;have y3 := se x0;have y7 := (kM u (e5 y3)).2;have x4 : Has (C ++ K') p.1 (aE [.str u x1, .str kK x2, .str (tx v u) x3]) := Has.app (by rw [h9]; exact .t6 (.t3 y2.app));obtain ⟨Z2, x6⟩ : ∃ Z2, Z2 = C ++ K' := ⟨_, rfl⟩;rw [← x6] at x4 ⊢;refine u_3l hh (.there x4) ?_;with_reducible refine aQ .here .new (aQ .here .j1 (aQ .here .j2 ?_))
  refine lP (lW ?_);with_reducible refine bf ?_; refine eY (by assumption) (by kernel_rfl!) (by kernel_rfl!) (by kernel_rfl!) (by decide +kernel) ?_; refine lS (by assumption) (by kernel_rfl!) ?_ (by with_unfolding_all rfl); refine aG (aI .here .here (aG (aI .here .i1 (aJ (ck ?_))))); refine rA B (by with_unfolding_all exact mw h7) (by with_unfolding_all exact oq12 z9 y7) fun t6 => ?_; refine aI .here .i2 ?_
  refine cv0 (C' := C) ⟨kvs ++ [(aX u kK, tx v u, x3)], ?_, ?_, rfl⟩ (by rw [x6])
  ·rw [fg]
   ·unfold bH; rw [ao]; rfl
   ·have e2 : (bH kvs).map (·.1) = ((AU b).take n).map (fun u => aX u kK) := by
     have := congrArg (List.map uo) e1;rw [tI, tI] at this;unfold bH;rw [tI]; exact this
    rw [e2];intro hm;obtain ⟨u', y5, e⟩ := tG.mp hm;have := nH (e5 (List.mem_of_mem_take y5)) (e5 y3) e;subst this;have nd := lT b;have hn : n < (AU b).length := (rO.mp x0).1;obtain ⟨i', x5, e'⟩ := List.getElem_of_mem y5;rw [List.getElem_take] at e';rw [List.length_take] at x5;have y1 : i' < (AU b).length := sw x5 (Nat.min_le_right ..);have : i' = n := (List.getElem?_inj y1 nd).mp (by rw [x0, rQ y1, e']);exact (bZ 50055966160117 0x71ff16ee0acdb) x5 this
  ·rw [ao, e1, sE, x0, ao]; rfl
 ·rintro DD ys C ⟨kvs, rfl, e1, rfl⟩;rw [rZ (by unfold LLs.r; rw [ak]; exact (a9 1272262422 1298222) y4)] at e1;rw [h9];clear h9 C;with_reducible refine aJ (ck ?_)
  refine cz ?_;show Go h0 o0 ((_ :: _ :: _ :: _ :: _ :: _ :: _ :: _ :: _ :: _ :: G) ++ (T ++ wr uX w i t V)) _;refine Go.tIn (qR B LB W hh (by exact (a9 0x72919dbb1e8353ea5c 0) h7) hu hT h5 hk hm x7 hp .here e1 hv y6 fun T' t' lv z0 hL h6 => Go.tOut ?_);have h := h T' t' lv z0 hL h6;refine Go.sub (aq _ _) ?_;refine aM (gn (b' := (jf (jU w.params)).drop 7) (by kernel_rfl!) ?_);exact h
end
structure ShOk (kvs : List (Str × Str × Tok)) (D : List (List Sp)) : Prop where
 iff : ∀ u p, (∃ x, (u, p, x) ∈ kvs) ↔ dy D u = some p
 nd : (kvs.map (·.1)).Nodup
 len : kvs.length ≤ 4
theorem mc (nd : (kvs.map (·.1)).Nodup) (W : (u, p, x) ∈ kvs) : uE (bH kvs) u = some (.str p x) := by
 induction kvs with
 | nil => cases W
 | cons a r ih =>
  have h7 := s9.mp nd;unfold uE bH at ih ⊢;rcases tB.mp W with rfl | W
  ·rw [az, List.find?_cons_of_pos (by simp)]; rfl
  ·have h9 : a.1 ≠ u := fun e => h7.1 (by show a.1 ∈ _; rw [e]; exact aA W)
   rw [az, List.find?_cons_of_neg (by simpa using h9)];exact ih h7.2 W
theorem val_no (h : u ∉ kvs.map (·.1)) : uE (bH kvs) u = none := by
 unfold uE bH;rw [List.find?_eq_none.mpr]; rfl;intro q W e;obtain ⟨z, hz, rfl⟩ := tG.mp W;exact h (by rw [← show z.1 = u by simpa using e]; exact aA hz)
theorem dv2_k (kvs : List (Str × Str × Tok)) : (bH kvs).map (·.1) = kvs.map (·.1) := by unfold bH; rw [tI]; rfl
theorem je (D N : List (List Sp)) : ∀ (us : List Str) (lv : List Sp) (u : Str), dA D N lv (us ++ [u]) = if u = e0 ∨ (dy D u).isSome = true ∨ u ∈ (dA D N lv us).map (·.1) then dA D N lv us else dA D N lv us ++ [(u, c9 N u)]
 | [], lv, u => rfl
 | a :: r, lv, u => je D N r _ u
theorem ShOk.keys (h : ShOk kvs D) : u ∈ kvs.map (·.1) ↔ (dy D u).isSome = true := by
 rw [tG];constructor
 ·rintro ⟨⟨a, p, x⟩, hm, rfl⟩;rw [(h.iff a p).mp ⟨x, hm⟩]; rfl
 ·intro hs;obtain ⟨p, hp⟩ := rS.mp hs;obtain ⟨x, W⟩ := (h.iff u p).mpr hp;exact ⟨_, W, rfl⟩
theorem k8 {kvs : List (Str × Str × Tok)} : (∃ x, (u, p, x) ∈ kvs) ↔ (u, p) ∈ kvs.map fun q => (q.1, q.2.1) := by
 rw [tG];constructor
 ·rintro ⟨x, W⟩; exact ⟨_, W, rfl⟩
 ·rintro ⟨⟨a, b, x⟩, W, e⟩;cases e; exact ⟨x, W⟩
theorem ShOk.ext (h : ShOk kvs D) (h1 : LvFor D N us lv) (h2 : LvFor D N us lv2) (e : (kvs2.map fun q => (q.1, q.2.1)) = (kvs.map fun q => (q.1, q.2.1)) ++ lv2) (h4 : ((aK (D ++ [lv])).map (·.1)).Nodup) (hU : ∀ p ∈ aK (D ++ [lv]), p ∈ P9) : ShOk kvs2 (D ++ [lv]) := by
 have ek : kvs2.map (·.1) = kvs.map (·.1) ++ lv2.map (·.1) := by
  have := congrArg (List.map uo) e;rw [ao, tI, tI] at this;exact this
 have h7 : ∀ u, u ∈ lv.map (·.1) ↔ u ∈ lv2.map (·.1) := fun u => (h1.2 u).trans (h2.2 u).symm
 have h9 : (kvs2.map (·.1)).Nodup := by
  rw [ek, sH];refine ⟨h.nd, h2.1.nd, fun a ha c hc e => ?_⟩;subst e;have := h.keys.mp ha;rw [((h2.2 a).mp hc).2.2] at this; cases this
 refine ⟨fun u p => ?_, h9, ?_⟩
 ·rw [k8, e, s8, ← k8, h.iff, jR h1.1];by_cases W : u ∈ lv.map (·.1)
  ·rw [if_pos W];have hn := ((h1.2 u).mp W).2.2;rw [hn];constructor
   ·rintro (q | q)
    ·cases q
    ·exact congrArg some (h2.1.pk (u, p) q).1.symm
   ·intro q;obtain ⟨z, hz, rfl⟩ := tG.mp ((h7 u).mp W);refine .inr ?_;have := (h2.1.pk z hz).1;cases q;rwa [show (z.1, c9 N z.1) = z from Prod.ext rfl this.symm]
  ·rw [if_neg W];constructor
   ·rintro (q | q)
    ·exact q
    ·exact absurd ((h7 u).mpr (aA (f := fun x : Sp => x.1) q)) W
   ·exact .inl
 ·have x0 : ∀ u ∈ kvs2.map (·.1), u ∈ U4 := by
   intro u W;rw [ek, s8] at W;rcases W with W | W
   ·obtain ⟨p, hp⟩ := rS.mp (h.keys.mp W);unfold dy at hp;cases e2 : (aK D).find? fun q => q.1 == u with
    | none => rw [e2] at hp; cases hp
    | some z =>
     obtain ⟨hq, rfl⟩ := cY e2;exact (cf z (hU z (by rw [a5]; exact r6 _ hq))).1
   ·obtain ⟨z, hz, rfl⟩ := tG.mp W;exact (cf z (h2.1.p9 z hz)).1
  have := fX h9 x0;rwa [ak] at this
theorem Go.txc (e : xs = ys) (h : Go h0 o0 ((a, aE ys) :: C) P) : Go h0 o0 ((a, aE xs) :: C) P := e ▸ h
section
variable {j : Jd} {due : Str} {dk : Tok} {r : List (Str × uN)} {TL : uR} {ts : List Tel} {os : List Opn} {ds : List fQ} {qv : Option uN} {T Z G : aF} {D N : List (List Sp)} {k m : Nat} {Q : FP}
theorem c5_b3 {TG AT : uR} {ls : LLs} {t1 t2 : Tok} {u0 v : Str} {b : Str → Bool} {ds0 : List fQ} {d : fQ} {lv : List Sp} (B : Base (KF w.params) h0) (hh : A.handled = none) (y0 : A.depth + 6 < ty) (hu : A.units + 2000 < cLine)
  (c2 : ∀ e ∈ ts, Has Z e.a e.c) (c1 : ts.map Tel.v = bj ([dE] :: N)) (hn : N.length ≤ 800) (a3 : ts.length < 100) (hN : ∀ p ∈ aK N, p ∈ P9) (hD : ∀ p ∈ aK (D ++ [lv]), p ∈ P9) (b2 : ((aK (D ++ [lv])).map (·.1)).Nodup)
  (hp : ∀ u ∈ u0 :: AU b, u = e0 ∨ (bS N u).isSome = true) (hL : LvFor D N (u0 :: AU b) lv) (y9 : ls.v = (AU b).map (fun u => [u, kK, tx v u])) (hG : ∀ p ∈ ls, Has Z p.1 (aE (tv p.2))) (a4 : ds = ds0 ++ [d]) (c5 : ds.length ≤ 1000) (hd : Has Z d.a (aL uX w (bH d.kvs))) (x4 : ShOk d.kvs D)
  (h : ∀ DN NW F kvs W y8, ShOk kvs (D ++ [lv]) → LvFor D N (u0 :: AU b) y8 → LLs.v W = y8.map (fun p => [p.2, p.1]) → (∀ p ∈ W, Has F p.1 (aE (tv p.2))) →
   Go h0 o0 ((DN, aL uX w (bH kvs)) :: (NW, aE (LLs.r W)) :: (TG, aE [.str u0 t1, .str kX t2]) :: (AT, aE ls.r) :: lawX j i due dk [(ud "tag", .ref TG), (ud "attrs", .ref AT), (ud "names", .ref DN), (ud "new", .ref NW)] TL ts os ds qv (F ++ Z)) (uL (uM uX w) A (uP ((jf (jU w.params)).drop 10) (ca w.params j.L)) Q NoE)) :
  Go h0 o0 ((TG, aE [.str u0 t1, .str kX t2]) :: (AT, aE ls.r) :: lawX j i due dk [(ud "tag", .ref TG), (ud "attrs", .ref AT)] TL ts os ds qv Z) (uL (uM uX w) A (uP ((jf (jU w.params)).drop 7) (ca w.params j.L)) Q NoE) := by
 have c4 : dh h0 (ud "_law_pick") (.ref og) := B.glob (by kernel_rfl!) (by kernel_rfl!);have b4 : ([dE] :: N).length ≤ 900 := by rw [sO]; exact (bD 0x222866c27bd5cd7e787c6 0) hn
 have z0 := iq b;have z6 : ls.length = (AU b).length := by have := congrArg tQ y9; unfold LLs.v at this; rwa [ak, ak] at this
 refine aH ?_;with_reducible refine bR ?_
 refine e_dstar fun DN => ?_
 with_reducible refine br (aI .h3 .i1 (eX (aY fun _ => eV ?_))); intro _; refine fk (xs := ds.map fun d => .ref d.a) (ys := ds0.map fun d => .ref d.a) (v := .ref d.a) (.t6 .h3) (by rw [a4, ao, az, tJ]) (by with_unfolding_all rfl) ?_
 refine d_st (kvs := bH d.kvs) (.t6 (.t3 hd)) (by have := x4.len; unfold bH; rw [ak, aj]; exact (bD 0x9a2d08add27aa04e3ab24c4 0) this) ?_;with_reducible refine aQ .h3 (.nx6 .j2) (aM ?_)
 refine aM (aH ?_);with_reducible refine bR (bd (aJ (ba fun _ => aQ .h4 (.nx6 .j3) (aM ?_))))
 rename_i NW;refine aM (aH ?_);refine kY hh ?_ (fun _ => by with_unfolding_all rfl);refine Go.sel (cs' := (DN, aL uX w (bH d.kvs)) :: (NW, aE []) :: (TG, aE [.str u0 t1, .str kX t2]) :: (AT, aE ls.r) :: lawX j i due dk [(ud "tag", .ref TG), (ud "attrs", .ref AT), (ud "names", .ref DN), (ud "new", .ref NW)] TL ts os ds qv Z) (.pick .h1 (.pick .here (.pick .here (.pick .here (.pick .here (.pick .here (.pick .here (.pick .here (.pick .here (.pick .here (.pick .here (.tail .refl)))))))))))) ?_;repeat ((fail_if_success (with_reducible show Go _ _ _ (uL _ _ (uU (Expr.ListComp _ _ _ _) _) _ _))); with_reducible refine bl ?_; with_reducible refine bd ?_; with_reducible refine aG ?_; with_reducible refine br ?_; with_reducible refine aI .h4 .i6 ?_; with_reducible refine aY ?_; intro _)
 with_reducible refine bI (.new .h2) (by decide) (by decide) (v := .str u0 t1) rfl ?_
 repeat ((fail_if_success (with_reducible show Go _ _ _ (uL _ _ (uU (Expr.ListComp _ _ _ _) _) _ _))); with_reducible refine aJ ?_; with_reducible refine ba ?_; intro _)
 rename_i UA;refine e_cl (cl := []) hh (by kernel_rfl!) (by decide) rfl (by decide) ?_ (fun _ => by with_unfolding_all rfl);with_reducible refine aI .h5 (.nx6 .i1) ?_
 obtain ⟨C1, x5⟩ : ∃ C1, C1 = (UA, aE [.str u0 t1]) :: (DN, aL uX w (bH d.kvs)) :: (NW, aE []) :: (TG, aE [.str u0 t1, .str kX t2]) :: (AT, aE ls.r) :: lawX j i due dk [(ud "tag", .ref TG), (ud "attrs", .ref AT), (ud "names", .ref DN), (ud "new", .ref NW)] TL ts os ds qv Z := ⟨_, rfl⟩;rw [← x5];refine clI (xs := ls.r) (fun n ys C => ∃ up : List (Str × Tok), ys = tv up ∧ up.map (·.1) = (AU b).take n ∧ C = C1) ⟨[], rfl, rfl, rfl⟩ (by unfold LLs.r; rw [ak, aj]; exact (a9 0x5e3bae2e50cbd31ffc809c5c4c4 44138427) z0 z6) ?_ ?_ ?_
 ·rintro n ys C ⟨_, _, _, rfl⟩;rw [x5]; exact .h4
 ·rintro L2 n x ys C K' hx ⟨up, rfl, e1, rfl⟩;obtain ⟨p, y6, rfl⟩ := LLs.rAt hx;obtain ⟨u, x7, b6⟩ := LLs.at y9 y6;obtain ⟨x1, x2, x3, b5⟩ := pY b6;have z5 := hG p (se y6);rw [b5] at z5;have x9 : Has (C ++ K') p.1 (aE [.str u x1, .str kK x2, .str (tx v u) x3]) := Has.app (by rw [x5]; exact .t6 (.t6 z5));obtain ⟨Z2, x0⟩ : ∃ Z2, Z2 = C ++ K' := ⟨_, rfl⟩;rw [← x0] at x9 ⊢;refine u_3l hh (.there x9) ?_;with_reducible refine aQ .here .new (aQ .here .j1 (aQ .here .j2 ?_))
  refine lP (lW ?_);with_reducible refine aI .here .here ?_
  refine ce0 (C' := C) ⟨up ++ [(u, x1)], by unfold tv; rw [ao]; rfl, ?_, rfl⟩ (by rw [x0]);rw [ao, e1, sE, x7]; rfl
 ·rintro UB ys C ⟨up, rfl, e1, rfl⟩;rw [rZ (by unfold LLs.r; rw [ak]; exact (a9 1272262422 1298222) z6)] at e1;rw [x5];clear x5 C;have a2 : up.length = (AU b).length := by rw [← e1, ak]
  with_reducible refine qF (xs := [.str u0 t1]) (ys := tv up) .h1 .here (by unfold tv; rw [ak, aj]; simp; with_unfolding_all exact (a9 0x1a9857e8924d8655c7034c210cdf73 44138427) z0 a2) fun UL => ?_
  refine Go.sel (cs' := (UL, aE ([.str u0 t1] ++ tv up)) :: (DN, aL uX w (bH d.kvs)) :: (NW, aE []) :: (TG, aE [.str u0 t1, .str kX t2]) :: (AT, aE ls.r) :: lawX j i due dk [(ud "tag", .ref TG), (ud "attrs", .ref AT), (ud "names", .ref DN), (ud "new", .ref NW)] TL ts os ds qv Z) (.pick .here (.pick .h2 (.pick .h2 (.pick .h2 (.pick .h2 (.pick .h2 (.pick .h2 (.pick .h2 (.pick .h2 (.pick .h2 (.pick .h2 (.pick .h2 (.tail (.t2 .refl)))))))))))))) ?_;refine Go.txc (ys := tv ((u0, t1) :: up)) rfl ?_;have y2 : ((u0, t1) :: up).map (·.1) = u0 :: AU b := by rw [az, e1]
  obtain ⟨uw, z8⟩ : ∃ uw, uw = (u0, t1) :: up := ⟨_, rfl⟩;rw [← z8] at y2 ⊢;clear z8;have y4 : (tv uw).length = (u0 :: AU b).length := by unfold tv; rw [ak, ← y2, ak]
  refine fl0 (xs := tv uw) (fun n C => ∃ (kvs : List (Str × Str × Tok)) (W : LLs) (F : aF), (kvs.map fun q => (q.1, q.2.1)) = (d.kvs.map fun q => (q.1, q.2.1)) ++ dA D N [] ((u0 :: AU b).take n) ∧ W.v = (dA D N [] ((u0 :: AU b).take n)).map (fun p => [p.2, p.1]) ∧ (∀ p ∈ W, Has F p.1 (aE (tv p.2))) ∧
   C = (UL, aE (tv uw)) :: (DN, aL uX w (bH kvs)) :: (NW, aE W.r) :: (TG, aE [.str u0 t1, .str kX t2]) :: (AT, aE ls.r) :: lawX j i due dk [(ud "tag", .ref TG), (ud "attrs", .ref AT), (ud "names", .ref DN), (ud "new", .ref NW)] TL ts os ds qv (F ++ Z)) ⟨d.kvs, [], [], by rw [List.take_zero]; show _ = _ ++ []; rw [s7], rfl, (fun p q => by cases q), rfl⟩ ?_ ?_ ?_
  ·rintro n C ⟨kvs, W, F, _, _, _, rfl⟩;exact .here
  ·rintro n x C K' hx ⟨kvs, W, F, ek, en, hF, rfl⟩ _;obtain ⟨u, tu, x7, rfl⟩ : ∃ u tu, (u0 :: AU b)[n]? = some u ∧ x = .str u tu := by
    unfold tv at hx;rw [sD] at hx;cases hx2 : uw[n]? with
    | none => rw [hx2] at hx; cases hx
    | some p => rw [hx2] at hx; exact ⟨p.1, p.2, by rw [← y2, sD, hx2]; rfl, by cases hx; rfl⟩
   have huA := se x7;have h7 : dA D N [] ((u0 :: AU b).take (n + 1)) = if u = e0 ∨ (dy D u).isSome = true ∨ u ∈ (dA D N [] ((u0 :: AU b).take n)).map (·.1) then dA D N [] ((u0 :: AU b).take n) else dA D N [] ((u0 :: AU b).take n) ++ [(u, c9 N u)] := by
    rw [sE, x7];exact je D N _ _ u
   obtain ⟨lw, z3⟩ : ∃ lw, lw = dA D N [] ((u0 :: AU b).take n) := ⟨_, rfl⟩;rw [← z3] at ek en h7;have h9 : LvFor D N ((u0 :: AU b).take n) lw := z3 ▸ mA hN (fun u hu => hp u (List.mem_of_mem_take hu));have x8 : kvs.map (·.1) = d.kvs.map (·.1) ++ lw.map (·.1) := by
    have := congrArg (List.map uo) ek;rw [ao, tI, tI] at this;exact this
   have z4 : u ∈ kvs.map (·.1) ↔ (dy D u).isSome = true ∨ u ∈ lw.map (·.1) := by rw [x8, s8, x4.keys]
   have c3 : lw.length ≤ 4 := by
    have := fX h9.1.nd fun u hu => by
     obtain ⟨p, hq, rfl⟩ := tG.mp hu;exact (cf p (h9.1.p9 p hq)).1
    rwa [ak] at this
   have b3 : kvs.length ≤ 8 := by
    have := congrArg tQ x8;have := x4.len;rw [aw, ak, ak, ak] at *;omega
   have y7 : (bH kvs).length ≤ 8 := by unfold bH; rw [ak]; exact b3
   have a1 : W.r.length ≤ 4 := by
    have := congrArg tQ en;unfold LLs.v at this;unfold LLs.r;rw [ak, ak] at this;rw [ak]; exact (a9 0x3a04ed64d2c80a3cc 44138427) c3 this
   obtain ⟨Z2, x0⟩ : ∃ Z2, Z2 = F ++ Z ++ K' := ⟨_, rfl⟩;have z2 : ∀ e ∈ ts, Has Z2 e.a e.c := fun e he => by rw [x0]; exact Has.app (.skip (c2 e he))
   simp only [sN];rw [← x0];refine pq ?_;with_reducible refine aQ .h5 (.nx6 .j4) ?_
   refine aH ?_;refine b9 ?_;with_reducible refine c6 (b7 (bv (aI .h5 (.nx6 .i4) (aR fun _ _ => jc ?_)))); refine a0 ?_
   refine dT (fun hg => ?_) fun hg => ?_
   ·have hg : u ≠ e0 := by simpa using hg
    with_reducible refine b7 (bv (aI .h5 (.nx6 .i4) (aI .h5 (.nx6 .i2) (o_nind .h1 (a0 ?_)))))
    refine dT (fun x6 => ?_) fun x6 => ?_
    ·have y3 : u ∉ kvs.map (·.1) := fun hm => by
      obtain ⟨z, hz, rfl⟩ := tG.mp hm;have y1 : (kvs.map (·.1)).Nodup := by
       rw [x8, sH];refine ⟨x4.nd, h9.1.nd, fun a ha c hc e => ?_⟩;subst e;have := x4.keys.mp ha;rw [((h9.2 a).mp hc).2.2] at this; cases this
      rw [mc y1 (show (z.1, z.2.1, z.2.2) ∈ kvs from hz)] at x6;cases x6
     have z7 := fun q => y3 (z4.mpr q)
     rw [if_neg (fun q => q.elim hg z7)] at h7;have z1 : ∀ tp : Tok, ((kvs ++ [(u, cr ([dE] :: N) u, tp)]).map (·.1)).Nodup := fun tp => by
      have y1 : (kvs.map (·.1)).Nodup := by
       rw [x8, sH];refine ⟨x4.nd, h9.1.nd, fun a ha c hc e => ?_⟩;subst e;have := x4.keys.mp ha;rw [((h9.2 a).mp hc).2.2] at this; cases this
      rw [ao, sH];refine ⟨y1, by simp, fun a ha c hc e => ?_⟩;rw [az, tJ, su] at hc;rw [e, hc] at ha;exact y3 ha
     with_reducible refine fe (lW ?_)
     refine aH ?_;with_reducible refine s_ass ?_ (by with_unfolding_all rfl); refine bf ?_; refine eY (by assumption) (by kernel_rfl!) (by kernel_rfl!) (by kernel_rfl!) (by decide +kernel) ?_; refine lS (by assumption) (by kernel_rfl!) ?_ (by with_unfolding_all rfl); refine aG (bw .h6 (aG (aI .h5 (.nx6 .i4) (aJ (ck ?_))))); refine mW B hh (by with_unfolding_all exact mw y0) (by with_unfolding_all exact (a9 0x293537fad4efd6549950046c9c 0) hu) (.t6 .h3) (fun e he => .t6 (.t6 (z2 e he))) c1 b4 a3 fun tp => ?_; refine aI .h5 (.nx6 .i2) (aI .h5 (.nx6 .i4) ?_); refine k_dset .h1 (by rw [aj]; with_unfolding_all exact (bD 0x9a31ffd9a5aa648978d24c4 0) y7) ?_
     rw [fg (by rw [dv2_k]; exact y3), show bH kvs ++ [(u, uN.str (cr ([dE] :: N) u) tp)] = bH (kvs ++ [(u, cr ([dE] :: N) u, tp)]) from by unfold bH; rw [ao]; rfl];refine aM (aH ?_);with_reducible refine bq (bF (aI .h5 (.nx6 .i3) (cS PySem.F.slot_list_append PySem.F.type_list_append .h2 (dJ (aG ?_))))); refine bd (aG (br (aI .h5 (.nx6 .i2) (aI .h5 (.nx6 .i4) ?_)))); refine g5 (v := .str (cr ([dE] :: N) u) tp) .h1 (mc (z1 tp) (r6 _ (su.mpr rfl))) (by with_unfolding_all rfl) ?_; refine aG (aI .h5 (.nx6 .i4) (aJ (ba fun _ => aJ ?_)))
     rename_i aa;with_reducible refine cI (ys := LLs.r (W ++ [(aa, [(cr ([dE] :: N) u, tp), (u, tu)])])) .h3 (by unfold LLs.r; rw [ao, az, tJ]) (by rw [aj]; with_unfolding_all exact (bD 0x9a2d08add27aa04e3ab24c4 0) a1) ?_
     refine aM (aV (aM (aV ?_)));refine Go.thin (a := j.L) (m' := lawF j i due dk [(ud "tag", .ref TG), (ud "attrs", .ref AT), (ud "names", .ref DN), (ud "new", .ref NW)]) .h6 (.ix 0x9876543210a) ?_;refine Go.sel (cs' := (UL, aE (tv uw)) :: (DN, aL uX w (bH (kvs ++ [(u, cr ([dE] :: N) u, tp)]))) :: (NW, aE (LLs.r (W ++ [(aa, [(cr ([dE] :: N) u, tp), (u, tu)])]))) :: (TG, aE [.str u0 t1, .str kX t2]) :: (AT, aE ls.r) :: lawX j i due dk [(ud "tag", .ref TG), (ud "attrs", .ref AT), (ud "names", .ref DN), (ud "new", .ref NW)] TL ts os ds qv ((aa, aE [.str (cr ([dE] :: N) u) tp, .str u tu]) :: Z2)) (.pick .h1 (.pick .h1 (.pick .h1 (.pick .h1 (.pick .h1 (.pick .h1 (.pick .h1 (.pick .h1 (.pick .h1 (.pick .h1 (.pick .h1 (.pick .h1 (.pick .here (.tail .refl)))))))))))))) ?_;refine iH ⟨kvs ++ [(u, cr ([dE] :: N) u, tp)], W ++ [(aa, [(cr ([dE] :: N) u, tp), (u, tu)])], (aa, aE (tv [(cr ([dE] :: N) u, tp), (u, tu)])) :: F, ?_, ?_, fun p hp => ?_, rfl⟩ (by rw [x0]; simp only [sN, av]; rfl)
     ·rw [h7, ao, ek, av]; rfl
     ·rw [h7];unfold LLs.v at en ⊢;rw [ao, ao, en]; rfl
     ·rcases s8.mp hp with hp | hp
      ·exact .there (hF p hp)
      ·rw [su.mp hp]; exact .here
    ·have y5 : u ∈ kvs.map (·.1) := by
      by_cases hm : u ∈ kvs.map (·.1)
      ·exact hm
      ·rw [val_no hm] at x6; cases x6
     rw [if_pos (.inr (z4.mp y5))] at h7;with_reducible refine eW ?_
     refine aV (aM (aV ?_));refine Go.thin (a := j.L) (m' := lawF j i due dk [(ud "tag", .ref TG), (ud "attrs", .ref AT), (ud "names", .ref DN), (ud "new", .ref NW)]) .h5 (.ix 0x9876543210a) ?_;exact iH ⟨kvs, W, F, by rw [h7]; exact ek, by rw [h7]; exact en, hF, rfl⟩ (by rw [x0]; simp only [sN, av])
   ·have hg : u = e0 := by simpa using hg
    rw [if_pos (.inl hg)] at h7;with_reducible refine eW ?_
    refine aV (aM (aV ?_));refine Go.thin (a := j.L) (m' := lawF j i due dk [(ud "tag", .ref TG), (ud "attrs", .ref AT), (ud "names", .ref DN), (ud "new", .ref NW)]) .h5 (.ix 0x9876543210a) ?_;exact iH ⟨kvs, W, F, by rw [h7]; exact ek, by rw [h7]; exact en, hF, rfl⟩ (by rw [x0]; simp only [sN, av])
  ·rintro C ⟨kvs, W, F, ek, en, hF, rfl⟩;rw [rZ (by rw [y4]; exact ah _)] at ek en;have z9 := mA (D := D) hN hp;refine Go.sub (aq _ _) ?_;refine aM (gn (b' := (jf (jU w.params)).drop 10) (by kernel_rfl!) ?_);exact h DN NW F kvs W _ (x4.ext hL z9 ek b2 hD) z9 en hF
end
section
variable {j : Jd} {due : Str} {dk : Tok} {r : List (Str × uN)} {TL : uR} {ts : List Tel} {os : List Opn} {ds : List fQ} {qv : Option uN} {T Z G : aF} {D N : List (List Sp)} {k m : Nat} {Q : FP}
noncomputable def eL (D : List (List Sp)) (u : Str) : Str := if u = e0 then kX else (dy D u).getD e0 ++ ud ":" ++ kX
theorem gB (hD : ∀ p ∈ aK D, p ∈ P9) (u : Str) : (eL D u).length ≤ 10 := by
 have z0 : e0.length = 0 := by decide +kernel
 have z3 : (ud ":").length = 1 := by decide +kernel
 have W : kX.length = 1 := by decide +kernel
 unfold eL;split
 ·exact (bD 1500041849348 1298189) W
 ·have : ((dy D u).getD e0).length ≤ 2 := by
   cases e : dy D u with
   | none => show e0.length ≤ 2; exact (bD 0x625d89cfa48a4 1298189) z0
   | some p =>
    unfold dy at e;cases e2 : (aK D).find? fun q => q.1 == u with
    | none => rw [e2] at e; cases e
    | some z =>
     rw [e2] at e;cases e;exact (cf z (hD z (cY e2).1)).2.2.1
  simp only [am]; exact (bZ 0x2b8282529bcaf439e463a03102 51025318645) z3 W this
theorem ShOk.val (h : ShOk kvs D) (e : dy D u = some p) : ∃ x, uE (bH kvs) u = some (.str p x) := by
 obtain ⟨x, W⟩ := (h.iff u p).mpr e;exact ⟨x, mc h.nd W⟩
theorem c5_b4 {TG AT DN NW : uR} {ls nls : LLs} {t1 t2 : Tok} {u0 v : Str} {b : Str → Bool} {kvs : List (Str × Str × Tok)} (B : Base (KF w.params) h0) (hh : A.handled = none) (h9 : A.depth + 6 < ty)
  (x5 : u0 ∈ U5) (hD : ∀ p ∈ aK D, p ∈ P9) (y2 : ShOk kvs D) (x7 : u0 = e0 ∨ (dy D u0).isSome = true) (x8 : due.length ≤ 500000) (y1 : os.length ≤ 1000) (y3 : ds.length ≤ 1000)
  (h : ∀ a x1 x2 x9, Go h0 o0 ((a, aE [.str (eL D u0) x1, .str (aX u0 kX) x2]) :: (DN, aL uX w (bH kvs)) :: (NW, aE nls.r) :: (AT, aE ls.r) :: lawX j i (due ++ (ud "<" ++ eL D u0)) x9 [(ud "attrs", .ref AT), (ud "names", .ref DN), (ud "new", .ref NW)] TL ts (os ++ [⟨a, eL D u0, x1, aX u0 kX, x2⟩]) (ds ++ [⟨DN, kvs⟩]) qv Z) (uL (uM uX w) A (uP ((jf (jU w.params)).drop 13) (ca w.params j.L)) Q NoE)) :
  Go h0 o0 ((DN, aL uX w (bH kvs)) :: (NW, aE nls.r) :: (TG, aE [.str u0 t1, .str kX t2]) :: (AT, aE ls.r) :: lawX j i due dk [(ud "tag", .ref TG), (ud "attrs", .ref AT), (ud "names", .ref DN), (ud "new", .ref NW)] TL ts os ds qv Z) (uL (uM uX w) A (uP ((jf (jU w.params)).drop 10) (ca w.params j.L)) Q NoE) := by
 have y4 : dh h0 (ud "_law_key") (.ref aKey) := B.glob (by kernel_rfl!) (by kernel_rfl!);have z8 : kX.length = 1 := by decide +kernel
 have z3 : (ud ":").length = 1 := by decide +kernel
 have z4 : (ud "<").length = 1 := by decide +kernel
 have x3 := (kM u0 x5).2;have W := gB hD u0;refine aH ?_;with_reducible refine bq (bF (aI .h4 .i1 (cS PySem.F.slot_list_append PySem.F.type_list_append (.t6 .h4) (dJ (aG ?_))))); refine aI .h4 (.nx6 .i2) (aJ ?_); refine cI (ys := (ds ++ [(⟨DN, kvs⟩ : fQ)]).map fun d : fQ => tW d.a) (.t6 .h4) (by rw [ao, az, tJ]) (by rw [ak, aj]; with_unfolding_all exact (bD 0x2b86b8d2ced554d9e44f52a4c4 0) y3) ?_
 refine aM (aH ?_);repeat (first | ((fail_if_success (with_reducible refine cO ?_)); with_reducible refine bq ?_; with_reducible refine bF ?_; with_reducible refine bw (c := _ + 1 + 1) .h6 ?_; with_reducible refine cS PySem.F.slot_list_append PySem.F.type_list_append (.t6 .h3) ?_; with_reducible refine dJ ?_; with_reducible refine aG ?_; with_reducible refine bd ?_; with_reducible refine aG ?_; with_reducible refine bl ?_))
 refine Go.name fun C0 h7 => ?_
 refine bQ (fun v C => (∃ t, v = .str (if u0 = e0 then e0 else (dy D u0).getD e0 ++ ud ":") t) ∧ C = C0) ?_ ?_
 ·rw [h7];clear h7 C0;refine cO ?_;with_reducible refine bv (br (aI .h4 .i6 (aY ?_))); intro _; refine bI (.new .h2) (by decide) (by decide) (v := .str u0 t1) rfl ?_; refine aR fun _ _ => jc (a0 ?_)
  refine dT (fun hg => ?_) fun hg => ?_
  ·have hg : u0 ≠ e0 := by simpa using hg
   obtain ⟨p, x0⟩ := rS.mp (x7.resolve_left hg);obtain ⟨x, hx⟩ := y2.val x0;have x6 : p.length ≤ 10 := by
    unfold eL at W;rw [if_neg hg, x0] at W;simp only [am, Option.getD_some] at W;exact (bZ 0x78ffd3d9490215e384 0) W
   with_reducible refine bl (br (aI .h4 (.nx6 .i2) (br (aI .h4 .i6 (aY ?_))))); intro _; refine bI (.new .h2) (by decide) (by decide) (v := .str u0 t1) rfl ?_; refine g5 (v := .str p x) .here hx (by with_unfolding_all rfl) ?_; refine aR ?_; intro _ _; refine cc (by rw [aj]; with_unfolding_all exact (a9 0x1a19cb89d172b1775bf98d6eefdf82 44139549) z3 x6) fun t5 => ?_
   exact jp ⟨⟨t5, by rw [if_neg hg, x0]; rfl⟩, rfl⟩
  ·have hg : u0 = e0 := by simpa using hg
   with_reducible refine aR ?_; intro _ _
   exact jp ⟨⟨_, by rw [if_pos hg]⟩, rfl⟩
 rintro v C ⟨⟨t5, rfl⟩, rfl⟩;rw [h7];clear h7 C;have x4 : (if u0 = e0 then e0 else (dy D u0).getD e0 ++ ud ":").length ≤ 10 := by
  unfold eL at W;split at W
  ·rename_i e; rw [if_pos e]; decide +kernel
  ·rename_i e;rw [if_neg e];simp only [am] at W ⊢;exact (bZ 0x2226338a12dad6ad7ba82 0) W
 have y0 : (if u0 = e0 then e0 else (dy D u0).getD e0 ++ ud ":") ++ kX = eL D u0 := by
  unfold eL;split
  ·exact eE _
  ·rfl
 with_reducible refine br (aI .h4 .i6 (aY ?_)); intro _; refine bI (.new .h2) (by decide) (by decide) (v := .str kX t2) rfl ?_; refine cc (by rw [aj]; with_unfolding_all exact (a9 0x1a19cb89d172b1775bf98d6eefdf82 44139549) z8 x4) fun t6 => ?_
 rw [y0];with_reducible refine aG (bf ?_); refine eY (by assumption) (by kernel_rfl!) (by kernel_rfl!) (by kernel_rfl!) (by decide +kernel) ?_; refine lS (by assumption) (by kernel_rfl!) ?_ (by with_unfolding_all rfl); refine aG (br (aI .h4 .i6 (aY ?_))); intro _; refine bI (.new .h2) (by decide) (by decide) (v := .str u0 t1) rfl ?_; refine aG (br (aI .h4 .i6 (aY ?_))); intro _; refine bI (.new .h2) (by decide) (by decide) (v := .str kX t2) rfl ?_; refine aJ (ck ?_); refine rA B (by with_unfolding_all exact mw h9) (by with_unfolding_all exact oq12 z8 x3) fun t7 => ?_; refine aJ (ba fun _ => aJ ?_)
 rename_i aa;with_reducible refine cI (ys := (os ++ [(⟨aa, eL D u0, t6, aX u0 kX, t7⟩ : Opn)]).map fun o : Opn => tW o.a) (.t6 .h4) (by rw [ao, az, tJ]) (by rw [ak, aj]; with_unfolding_all exact (bD 0x2b86b8d2ced554d9e44f52a4c4 0) y1) ?_
 refine aM (aH ?_);with_reducible refine gU ?_; refine qQ .h5 (by kernel_rfl!) .here (by kernel_rfl!) (by kernel_rfl!) ?_; refine bl (aR fun _ _ => br (br (bw (c := _ + 1 + 1) (.t6 .h1) (eX ?_)))); refine aY fun _ => eV ?_; intro _; refine fk (ys := os.map fun o => .ref o.a) (v := .ref aa) (.t6 .h4) (by rw [ao, az, tJ]) (by with_unfolding_all rfl) ?_; refine aY ?_; intro _; refine bI (.new .here) (by decide) (by decide) (v := .str (eL D u0) t6) rfl ?_; refine cc (by rw [aj]; with_unfolding_all exact (a9 0x1a19cb95bad0d6c705d91aea7b5f82 44139549) z4 W) fun t8 => ?_; refine fE (by rw [am, aj]; with_unfolding_all exact (bZ 0x72cdfc55cd3213eeeb40b90f11b772eff1becfc6f2b54a 1500744667) x8 z4 W) fun t9 => ?_; refine aQ .h5 .here ?_
 refine Go.thin (a := j.L) (m' := lawF j i (due ++ (ud "<" ++ eL D u0)) t9 [(ud "attrs", .ref AT), (ud "names", .ref DN), (ud "new", .ref NW)]) .h5 (.ix 654802362633) ?_;refine Go.sel (cs' := (aa, aE [.str (eL D u0) t6, .str (aX u0 kX) t7]) :: (DN, aL uX w (bH kvs)) :: (NW, aE nls.r) :: (AT, aE ls.r) :: lawX j i (due ++ (ud "<" ++ eL D u0)) t9 [(ud "attrs", .ref AT), (ud "names", .ref DN), (ud "new", .ref NW)] TL ts (os ++ [⟨aa, eL D u0, t6, aX u0 kX, t7⟩]) (ds ++ [⟨DN, kvs⟩]) qv Z) (.pick .here (.pick .here (.pick .here (.pick .h1 (.pick .h1 (.pick .h1 (.pick .h1 (.pick .h1 (.pick .h1 (.pick .h1 (.pick .h1 (.tail (.there .refl))))))))))))) ?_;refine aM (gn (b' := (jf (jU w.params)).drop 13) (by kernel_rfl!) ?_);exact h aa t6 t7 t9
end
section
variable {j : Jd} {due : Str} {dk : Tok} {r : List (Str × uN)} {TL : uR} {ts : List Tel} {os : List Opn} {ds : List fQ} {qv : Option uN} {T Z G : aF} {D N : List (List Sp)} {k m : Nat} {Q : FP}
theorem two {l : List (Str × Tok)} (e : l.map (·.1) = [a, b]) : ∃ x y, l = [(a, x), (b, y)] := by
 match l, e with
 | [(_, x), (_, y)], e => simp at e; obtain ⟨rfl, rfl⟩ := e; exact ⟨x, y, rfl⟩
theorem LLs.at2 {α : Type} {ls : LLs} {us : List α} {f : α → List Str} (e : ls.v = us.map f) {n : Nat} {p : uR × List (Str × Tok)} (hp : ls[n]? = some p) : ∃ u, us[n]? = some u ∧ p.2.map (·.1) = f u := by
 have h1 : ls.v[n]? = some (p.2.map (·.1)) := by unfold LLs.v; rw [sD, hp]; rfl
 rw [e, sD] at h1;cases hu : us[n]? with
 | none => rw [hu] at h1; cases h1
 | some u => rw [hu] at h1; exact ⟨u, rfl, (tq h1).symm⟩
theorem LLs.perm {ls ls' : LLs} (h : ls'.Perm ls) : ls'.v.Perm ls.v := h.map _
theorem fU {α : Type} {f : α → List Str} {g : α → Str} (hf : ∀ x, (f x).head? = some (g x)) : ∀ {l : List α}, (l.map g).Nodup → bP d3 (l.map f) → bP eM (l.map g)
 | [], _, _ => trivial
 | [a], _, _ => trivial
 | a :: b :: r, nd, h => by
  refine ⟨?_, fU hf (s9.mp nd).2 h.2⟩;have h1 : d3 (f a) (f b) = true := h.1;have ha := hf a;have hb := hf b;have W : g a ≠ g b := fun e => (s9.mp nd).1 (by rw [az, e]; exact aB)
  cases ea : f a with
  | nil => rw [ea] at ha; cases ha
  | cons x xs =>
   cases eb : f b with
   | nil => rw [eb] at hb; cases hb
   | cons y ys =>
    rw [ea] at ha h1;rw [eb] at hb h1;cases ha; cases hb;unfold d3 at h1;rw [if_neg W] at h1;exact h1
theorem sa_rise (b : Str → Bool) : bP eM ((SA b).map fun u => u) := by
 rw [List.map_id'];exact dM (su_pw2.filter _)
theorem LLs.of_perm {ls' : LLs} {α : Type} {f : α → List Str} {us : List α} (h : ls'.v.Perm (us.map f)) : ∃ W : List α, W.Perm us ∧ ls'.v = W.map f := by
 have key : ∀ (l : List (List Str)) (us : List α), l.Perm (us.map f) → ∃ W : List α, W.Perm us ∧ l = W.map f := by
  intro l;induction l with
  | nil => intro us h; have := h.length_eq; rw [ak] at this; exact ⟨[], by rw [rT.mp this.symm], rfl⟩
  | cons x r ih =>
   intro us h;have hx : x ∈ us.map f := h.mem_iff.mp aB;obtain ⟨u, hu, rfl⟩ := tG.mp hx;obtain ⟨a, b, rfl⟩ := List.append_of_mem hu;have h2 : (f u :: r).Perm (f u :: (a ++ b).map f) := h.trans (by rw [ao, az, ao]; exact sQ);obtain ⟨W, hp, e⟩ := ih (a ++ b) ((List.perm_cons _).mp h2);exact ⟨u :: W, (tY.cons _ hp).trans sQ.symm, by rw [e]; rfl⟩
 exact key _ _ h
theorem c5_b5 {AT DN NW : uR} {ls nls : LLs} {v u0 : Str} {b : Str → Bool} {kvs : List (Str × Str × Tok)} {lv lv2 : List Sp} {due0 : Str} (B : Base (KF w.params) h0) (hh : A.handled = none) (hu : A.units + 2000 < cLine)
  (hN : ∀ p ∈ aK N, p ∈ P9) (hD : ∀ p ∈ aK D, p ∈ P9) (hp : ∀ u ∈ u0 :: AU b, u = e0 ∨ (bS N u).isSome = true) (hL : LvFor D N (u0 :: AU b) lv) (x5 : LvFor D N (u0 :: AU b) lv2) (hsh : ShOk kvs (D ++ [lv])) (hv3 : v.length ≤ 3)
  (c1 : ls.v = (AU b).map (fun u => [u, kK, tx v u])) (hG : ∀ p ∈ ls, Has Z p.1 (aE (tv p.2))) (y8 : nls.v = lv2.map (fun p => [p.2, p.1])) (hF : ∀ p ∈ nls, Has Z p.1 (aE (tv p.2))) (hdl : due.length ≤ 500000)
  (h : ∀ W r', Go h0 o0 ((DN, aL uX w (bH kvs)) :: lawX j i (due ++ cC ((cL lv).map ci) ++ cC ((SA b).map (cA D N v)) ++ ud ">") W r' TL ts os ds qv Z) (Q .next)) :
  Go h0 o0 ((DN, aL uX w (bH kvs)) :: (NW, aE nls.r) :: (AT, aE ls.r) :: lawX j i due dk [(ud "attrs", .ref AT), (ud "names", .ref DN), (ud "new", .ref NW)] TL ts os ds qv Z) (uL (uM uX w) A (uP ((jf (jU w.params)).drop 13) (ca w.params j.L)) Q NoE) := by
 have bSorted : cD h0 (ud "sorted") (.builtin "sorted") := B.bltAt (by kernel_rfl!) (by kernel_rfl!) (by decide +kernel) (by decide +kernel);have z0 : e0.length = 0 := by decide +kernel
 have z3 : (ud ":").length = 1 := by decide +kernel
 have z4 : (ud " xmlns:").length = 7 := by decide +kernel
 have z5 : (ud "=\"").length = 2 := by decide +kernel
 have z6 : (ud "\"").length = 1 := by decide +kernel
 have z7 : (ud " ").length = 1 := by decide +kernel
 have z9 : kK.length = 1 := by decide +kernel
 have z11 : (ud ">").length = 1 := by decide +kernel
 have hl4 : lv2.length ≤ 4 := by
  have := fX x5.1.nd fun u hu => by
   obtain ⟨p, hq, rfl⟩ := tG.mp hu;exact (cf p (x5.1.p9 p hq)).1
  rwa [ak] at this
 have hn4 : nls.length ≤ 4 := by
  have := congrArg tQ y8;unfold LLs.v at this;rw [ak, ak] at this;exact (a9 0x3a04ed64d2c80a3cc 44138427) hl4 this
 have hdn : (lv2.map (·.2)).Nodup := by
  refine sG.mpr ((sG.mp x5.1.nd).imp_of_mem fun {x y} hx hy b6 e => b6 ?_);exact jO x (x5.1.p9 x hx) y (x5.1.p9 y hy) e
 refine aH ?_;refine kY hh ?_ (fun _ => by with_unfolding_all rfl);with_reducible refine bf ?_; refine dg (by assumption) (by kernel_rfl!) (by kernel_rfl!) (by kernel_rfl!) (by kernel_rfl!) (by decide +kernel) ?_; refine ki ?_ (by with_unfolding_all rfl) (by with_unfolding_all rfl); refine aG (aI .h3 (.nx6 .i2) (aJ ?_))
 refine lr (ls := nls) (by exact (a9 0x92028be30ed5ca4020f6b54 0) hu) .h1 (fun p hp => .t6 (.t4 (hF p hp))) (by exact (bD 0x5eed0c0bc1630 0) hn4) ?_ fun SN h9 x9 b5 => ?_
 ·show nls.v.Nodup;rw [y8];exact dI ((sG.mp x5.1.nd).imp fun b6 e => b6 (congrArg uo e)) fun x hx y hy e => by cases x; cases y; cases e; rfl
 obtain ⟨l2, y7, x8⟩ := LLs.of_perm (f := fun p : Sp => [p.2, p.1]) (us := lv2) (ls' := h9) ((LLs.perm x9).trans (by rw [y8]));have hl2 : l2 = cL lv := by
  have : bP eM (l2.map (·.2)) := fU (f := fun p : Sp => [p.2, p.1]) (g := fun p : Sp => p.2) (fun _ => rfl) ((y7.map _).nodup_iff.mpr hdn) (by
   have : bP d3 (LLs.v h9) := b5;rwa [x8] at this)
  exact oW (y7.trans (x5.perm hL fun u => Iff.rfl)) this hL.1.p9 hL.1.nd
 subst hl2;have hl9 : ∀ p ∈ cL lv, p ∈ P9 := fun p hp => hL.1.p9 p ((cV lv).mem_iff.mp hp)
 have b2 : (cL lv).length ≤ 4 := by
  rw [y7.length_eq]; exact hl4
 have z1 : (LLs.r h9).length = (cL lv).length := by
  have := congrArg tQ x8;unfold LLs.v at this;unfold LLs.r;rw [ak, ak] at this;rw [ak]; exact this
 refine Go.thin (a := j.L) (m' := lawF j i due dk [(ud "attrs", .ref AT), (ud "names", .ref DN)]) .h4 (.ix 31763669256) ?_;refine Go.sel (cs' := (SN, aE (h9.map fun p => .ref p.1)) :: (DN, aL uX w (bH kvs)) :: (AT, aE ls.r) :: lawX j i due dk [(ud "attrs", .ref AT), (ud "names", .ref DN)] TL ts os ds qv Z) (.pick .here (.pick .here (.pick .h1 (.pick .h1 (.pick .h1 (.pick .h1 (.pick .h1 (.pick .h1 (.pick .h1 (.pick .h1 (.tail (.there .refl)))))))))))) ?_;have y3 : ∀ n, (cC (((cL lv).take n).map ci)).length ≤ 60 * 4 := fun n => by
  refine tH (fG (n := 60) fun x hx => ?_) (Nat.mul_le_mul_left _ (by rw [ak, List.length_take]; exact (a9 0x1aca66b28be2f1b2 1734863427995) b2));obtain ⟨p, hp, rfl⟩ := tG.mp hx;have := cf p (hl9 p (List.mem_of_mem_take hp));unfold ci;simp only [am]; exact oq8 z4 z5 z6 this.2.1 this.2.2.1
 obtain ⟨P, x6, x0⟩ : ∃ P : Nat → aF → Prop, (∀ n W, P n ((SN, aE (LLs.r h9)) :: (DN, aL uX w (bH kvs)) :: (AT, aE ls.r) :: lawX j i (due ++ cC (((cL lv).take n).map ci)) W [(ud "attrs", .ref AT), (ud "names", .ref DN)] TL ts os ds qv Z)) ∧ (∀ n C, P n C → ∃ W, C = (SN, aE (LLs.r h9)) :: (DN, aL uX w (bH kvs)) :: (AT, aE ls.r) :: lawX j i (due ++ cC (((cL lv).take n).map ci)) W [(ud "attrs", .ref AT), (ud "names", .ref DN)] TL ts os ds qv Z) := ⟨_, fun n W => ⟨W, rfl⟩, fun n C h => h⟩;refine fl0 (xs := LLs.r h9) P (by have := x6 0 dk; rwa [List.take_zero, tJ, dq, dv] at this) ?_ ?_ ?_
 ·intro n C hC;obtain ⟨_, rfl⟩ := x0 n C hC;exact .here
 ·intro n x C K' hx hC _;obtain ⟨z8, rfl⟩ := x0 n C hC;clear hC x0;obtain ⟨p, y0, rfl⟩ := LLs.rAt hx;obtain ⟨u, y9, b4⟩ := LLs.at2 x8 y0;obtain ⟨x1, x2, c2⟩ := two b4;have hpF := hF p (x9.mem_iff.mp (se y0));rw [c2] at hpF;have hu9 := cf u (hl9 u (se y9));have x4 := y3 n;simp only [sN];have a4 : Has (Z ++ K') p.1 (aE [.str u.2 x1, .str u.1 x2]) := hpF.app;obtain ⟨Z2, y5⟩ : ∃ Z2, Z2 = Z ++ K' := ⟨_, rfl⟩;rw [← y5] at a4 ⊢;refine u_2l hh (.t6 (.t4 a4)) ?_;with_reducible refine aQ .h3 (.nx6 .j2) (aQ .h3 (.nx6 .j3) ?_)
  refine aH ?_;have b3 : (ci u).length ≤ 60 := by unfold ci; simp only [am]; exact oq8 z4 z5 z6 hu9.2.1 hu9.2.2.1
  with_reducible refine qo (Ev := NoEv) (y := ci u) .h3 (fun t => by with_reducible exact .h3) (by kernel_rfl!) (by kernel_rfl!) (by kernel_rfl!) .here (.add (.add (.add (.add .str (.nm (.nx6 .i2) (by kernel_rfl!) (by decide +kernel))) .str) (.nm (.nx6 .i3) (by kernel_rfl!) (by decide +kernel))) .str) (by simp only [am, aj]; with_unfolding_all exact (bZ 0x18c6e7ef3c8c6f31f11c5d6e7935c2a1737f3ef9bcad828fa926e83b02 0) hdl x4 b3) (fun _ _ q => False.elim q) (fun t => by with_reducible exact .here) fun t9 => ?_
  refine aM (aV ?_);refine Go.thin (a := j.L) (m' := lawF j i (due ++ cC (((cL lv).take n).map ci) ++ ci u) t9 [(ud "attrs", .ref AT), (ud "names", .ref DN)]) .h3 (.ix 31763669256) ?_;refine iH (x6 _ t9) ?_;rw [y5, sE, y9, ao, dP, Option.toList_some, az, tJ, fF, dD];rfl
 ·intro C hC;obtain ⟨z8, rfl⟩ := x0 _ C hC;clear hC x0 x6 P;rw [rZ (by rw [z1]; exact ah _)];have x4 := y3 4;rw [rZ b2] at x4;obtain ⟨h7, y6⟩ : ∃ h7, h7 = due ++ cC ((cL lv).map ci) := ⟨_, rfl⟩;have a2 : h7.length ≤ 500240 := by rw [y6, am]; exact (a9 0x199293a35df5e670666fe96ef6c6f102681d90b58002 0) hdl x4
  rw [← y6] at h ⊢;refine Go.sub (aq _ _) ?_;clear y6;have hAl := iq b;have hls5 : ls.length ≤ 5 := by
   have := congrArg tQ c1;unfold LLs.v at this;rw [ak, ak] at this;exact oq7 hAl this
  refine aM (aH ?_);refine kY hh ?_ (fun _ => by with_unfolding_all rfl);with_reducible refine bf ?_; refine dg (by assumption) (by kernel_rfl!) (by kernel_rfl!) (by kernel_rfl!) (by kernel_rfl!) (by decide +kernel) ?_; refine ki ?_ (by with_unfolding_all rfl) (by with_unfolding_all rfl); refine aG (aI .h2 .i6 (aJ ?_))
  refine lr (ls := ls) (by exact (a9 0x92028be30ed5ca4020f6b54 0) hu) .h1 (fun p hp => .t6 (.t3 (hG p hp))) hls5 ?_ fun SM ls' x7 z2 => ?_
  ·show ls.v.Nodup;rw [c1];exact dI (lT b) fun x _ y _ e => (List.cons.inj e).1
  obtain ⟨us', a3, y2⟩ := LLs.of_perm (f := fun u : Str => [u, kK, tx v u]) (us := AU b) (ls' := ls') ((LLs.perm x7).trans (by rw [c1]));have hus : us' = SA b := by
   have h1 : bP eM (us'.map fun u => u) := fU (f := fun u : Str => [u, kK, tx v u]) (g := fun u => u) (fun _ => rfl) (by rw [List.map_id']; exact a3.nodup_iff.mpr (lT b)) (by
    have : bP d3 (LLs.v ls') := z2;rwa [y2] at this)
   exact cK (c := eM) (f := fun u : Str => u) gD hH (a3.trans (cT b).symm) h1 (sa_rise b)
  subst hus;have hsl : (SA b).length ≤ 5 := by rw [(cT b).length_eq]; exact hAl
  have y1 : (LLs.r ls').length = (SA b).length := by
   have := congrArg tQ y2;unfold LLs.v at this;unfold LLs.r;rw [ak, ak] at this;rw [ak]; exact this
  have c5 : ∀ u ∈ SA b, u ≠ e0 → (kA D N u).length ≤ 2 := fun u hu h => (cf _ (pr_ok hD hN ((hp u (au _ ((cT b).mem_iff.mp hu))).resolve_left h))).2.2.1
  have c4 : ∀ u, (tx v u).length ≤ 3 := fun u => by
   unfold tx;split
   ·exact hv3
   ·decide +kernel
  have hif : ∀ u ∈ SA b, (if u = e0 then e0 else kA D N u ++ ud ":").length ≤ 3 := fun u hu => by
   split
   ·exact (bD 0x625d89cfa4d28 1298189) z0
   ·rename_i h;have := c5 u hu h;rw [am]; exact (a9 0x1010f0a39f51c000a092 44139549) z3 this
  have y4 : ∀ n, (cC (((SA b).take n).map (cA D N v))).length ≤ 20 * 5 := fun n => by
   refine tH (fG (n := 20) fun x hx => ?_) (Nat.mul_le_mul_left _ (by rw [ak, List.length_take]; exact (a9 0x1aca9deb52c077c2 1734863427995) hsl));obtain ⟨u, hu, rfl⟩ := tG.mp hx;have h1 := hif u (List.mem_of_mem_take hu);have h2 := c4 u;unfold cA;simp only [am]; exact (om6 0x44d6383a7932da5036cd80d68b5d8d08d9ce6a2230fd3e4222 0x202c76f97f32efd5) z5 z6 z7 z9 h1 h2
  refine Go.thin (a := j.L) (m' := lawF j i h7 z8 [(ud "names", .ref DN)]) .h3 (.ix 1967333639) ?_;refine Go.sel (cs' := (SM, aE (ls'.map fun p => .ref p.1)) :: (DN, aL uX w (bH kvs)) :: lawX j i h7 z8 [(ud "names", .ref DN)] TL ts os ds qv Z) (.pick .here (.pick .here (.pick .h1 (.pick .h1 (.pick .h1 (.pick .h1 (.pick .h1 (.pick .h1 (.pick .h1 (.tail (.there .refl))))))))))) ?_;obtain ⟨P, x6, x0⟩ : ∃ P : Nat → aF → Prop, (∀ n W, P n ((SM, aE (LLs.r ls')) :: (DN, aL uX w (bH kvs)) :: lawX j i (h7 ++ cC (((SA b).take n).map (cA D N v))) W [(ud "names", .ref DN)] TL ts os ds qv Z)) ∧ (∀ n C, P n C → ∃ W, C = (SM, aE (LLs.r ls')) :: (DN, aL uX w (bH kvs)) :: lawX j i (h7 ++ cC (((SA b).take n).map (cA D N v))) W [(ud "names", .ref DN)] TL ts os ds qv Z) := ⟨_, fun n W => ⟨W, rfl⟩, fun n C h => h⟩;refine fl0 (xs := LLs.r ls') P (by have := x6 0 z8; rwa [List.take_zero, tJ, dq, dv] at this) ?_ ?_ ?_
  ·intro n C hC;obtain ⟨_, rfl⟩ := x0 n C hC;exact .here
  ·intro n x C K' hx hC _;obtain ⟨dk2, rfl⟩ := x0 n C hC;clear hC x0;obtain ⟨p, y0, rfl⟩ := LLs.rAt hx;obtain ⟨u, y9, b4⟩ := LLs.at2 y2 y0;obtain ⟨x1, x2, x3, c2⟩ := pY b4;have hpG := hG p (x7.mem_iff.mp (se y0));rw [c2] at hpG;have c3 := se y9;have huA := (cT b).mem_iff.mp c3;have x4 := y4 n;have hi3 := hif u c3;have ht3 := c4 u;have a1 : Has (Z ++ K') p.1 (aE [.str u x1, .str kK x2, .str (tx v u) x3]) := hpG.app;simp only [sN];obtain ⟨Z2, y5⟩ : ∃ Z2, Z2 = Z ++ K' := ⟨_, rfl⟩;rw [← y5] at a1 ⊢;refine u_3l hh (.t6 (.t3 a1)) ?_;with_reducible refine aQ .h2 (.nx6 .j1) (aQ .h2 (.nx6 .j2) (aQ .h2 (.nx6 .j3) ?_))
   refine aH ?_;have b3 : (cA D N v u).length ≤ 20 := by unfold cA; simp only [am]; exact (om6 0x44d6383a7932da5036cd80d68b5d8d08d9ce6a2230fd3e4222 0x202c76f97f32efd5) z5 z6 z7 z9 hi3 ht3
   with_reducible refine qo (Ev := fun e x => e = _ ∧ x = (if u = e0 then e0 else kA D N u ++ ud ":")) (y := cA D N v u) .h2 (fun t => by with_reducible exact .h2) (by kernel_rfl!) (by kernel_rfl!) (by kernel_rfl!) .here (.add (.add (.add (.add (.add .str (.giv ⟨rfl, rfl⟩)) (.nm (.nx6 .i2) (by kernel_rfl!) (by decide +kernel))) .str) (.nm (.nx6 .i3) (by kernel_rfl!) (by decide +kernel))) .str) (by simp only [am, aj]; with_unfolding_all exact (bZ 0x13701e1535786948cab811bc425263bc58a9fcd90d7b836683b02 0) a2 x4 b3) (fun e x hex Q' hq => ?_) (fun t => by with_reducible exact .here) fun t11 => ?_
   ·obtain ⟨rfl, rfl⟩ := hex;refine cO ?_;with_reducible refine bv (aI .h2 (.nx6 .i1) (aR fun _ _ => jc (a0 ?_)))
    refine dT (fun hg => ?_) fun hg => ?_
    ·have hg : u ≠ e0 := by simpa using hg
     obtain ⟨x, hx⟩ := hsh.val (hL.nm (au _ huA) hg);have := c5 u c3 hg;rw [if_neg hg] at hq;with_reducible refine bl (br (aI .h2 .i6 (aI .h2 (.nx6 .i1) ?_))); refine g5 (v := .str (kA D N u) x) .h1 hx (by with_unfolding_all rfl) ?_; refine aR ?_; intro _ _; refine cc (by rw [aj]; with_unfolding_all exact (a9 0x1a181d389aea96ea39df0dce6fdf82 44139549) z3 this) fun t5 => ?_
     exact hq t5
    ·have hg : u = e0 := by simpa using hg
     rw [if_pos hg] at hq;with_reducible refine aR ?_; intro _ _
     exact hq _
   refine aM (aV ?_);refine Go.thin (a := j.L) (m' := lawF j i (h7 ++ cC (((SA b).take n).map (cA D N v)) ++ cA D N v u) t11 [(ud "names", .ref DN)]) .h2 (.ix 1698898183) ?_;refine iH (x6 _ t11) ?_;rw [y5, sE, y9, ao, dP, Option.toList_some, az, tJ, fF, dD];rfl
  ·intro C hC;obtain ⟨dk2, rfl⟩ := x0 _ C hC;clear hC x0 x6 P;rw [rZ (by rw [y1]; exact ah _)];have x4 := y4 5;rw [rZ hsl] at x4;refine Go.sub (aq _ _) ?_;refine aM (aH ?_);with_reducible refine gU ?_; refine qQ .h1 (by kernel_rfl!) .here (by kernel_rfl!) (by kernel_rfl!) ?_; refine aR ?_; intro _ _; refine fE (by simp only [am, aj]; with_unfolding_all exact (bZ 0x453ddfc8f5ce33dd0d25d83f1b318cd3b82bcf3f5f9f503b02 1500745789) z11 a2 x4) fun t12 => ?_; refine aQ .h1 .here ?_
   refine aM (aV ?_);exact h t12 [(ud "names", .ref DN)]
end
inductive Stk5 : List (List Sp) → List Opn → List fQ → Prop
 | nil {d : fQ} : ShOk d.kvs [] → Stk5 [] [] [d]
 | snoc {D : List (List Sp)} {os : List Opn} {ds : List fQ} {lv : List Sp} {o : Opn} {d : fQ} (u0 : Str) : Stk5 D os ds → u0 ∈ U5 → (u0 = e0 ∨ ∃ p, dy (D ++ [lv]) u0 = some p) → o.nm = eL (D ++ [lv]) u0 → o.key = aX u0 kX → ShOk d.kvs (D ++ [lv]) → Stk5 (D ++ [lv]) (os ++ [o]) (ds ++ [d])
theorem Stk5.len {D : List (List Sp)} {os : List Opn} {ds : List fQ} (h : Stk5 D os ds) : os.length = D.length ∧ ds.length = D.length + 1 := by
 induction h with
 | nil _ => exact ⟨rfl, rfl⟩
 | snoc u0 _ _ _ _ _ _ ih => simp only [aw, r4]; exact (bZ 0x7a8e24a8202f48036fe4b8724b70bd0e 0x429890144ccb22cda55bf8bc7f5f6b1) ih.1 ih.2
theorem Stk5.top {D : List (List Sp)} {os : List Opn} {ds : List fQ} (h : Stk5 D os ds) : ∃ W d, ds = W ++ [d] ∧ ShOk d.kvs D := by
 cases h with
 | nil hd => exact ⟨[], _, rfl, hd⟩
 | snoc u0 _ _ _ _ _ hd => exact ⟨_, _, rfl, hd⟩
noncomputable def P8 : List Sp := [(uA, ud "p"), (uA, ud "o"), (uA, ud "q"), (uB, ud "t"), (uB, ud "s"), (uS, ud "w"), (uS, ud "v"), (uC, ud "r")]
theorem p8_p9 : ∀ p ∈ P8, p ∈ P9 := by decide
structure Deep (uX : uy) (w : uQ) (j : Jd) (G : aF) (ts : List Tel) (os : List Opn) (ds : List fQ) : Prop where
 tel : ∀ e ∈ ts, Has G e.a e.c
 opn : ∀ o ∈ os, Has G o.a o.c
 shw : ∀ d ∈ ds, Has G d.a (aL uX w (bH d.kvs))
 prs : ∃ ps : LLs, ps.v = P8.map (fun p => [p.2, p.1]) ∧ Has G j.PA (aE ps.r) ∧ ∀ p ∈ ps, Has G p.1 (aE (tv p.2))
theorem Deep.skip {j : Jd} {G X : aF} {ts : List Tel} {os : List Opn} {ds : List fQ} (h : Deep uX w j G ts os ds) : Deep uX w j (X ++ G) ts os ds := by
 obtain ⟨ps, h1, h2, h3⟩ := h.prs;exact ⟨fun e W => .skip (h.tel e W), fun e W => .skip (h.opn e W), fun e W => .skip (h.shw e W), ps, h1, .skip h2, fun p hp => .skip (h3 p hp)⟩
theorem Deep.cons {j : Jd} {G : aF} {c : uR × cP} {ts : List Tel} {os : List Opn} {ds : List fQ} (h : Deep uX w j G ts os ds) : Deep uX w j (c :: G) ts os ds := Deep.skip (X := [c]) h
theorem oN (W : N ≠ []) : bj ([dE] :: bB N q) = bj ([dE] :: N) ++ [(N.length, q)] := by
 obtain ⟨N0, l, rfl⟩ := iX W;rw [dN, ← sN, ← sN, cX, cX, ao, ← av];simp
theorem gP (N : List (List Sp)) : (bj ([dE] :: N)).length = (aK N).length + 1 := by
 have key : ∀ (W : List (List Sp)), (bj W).length = (aK W).length := by
  intro W;unfold bj aK;rw [List.length_flatMap, List.length_flatten, List.map_reverse, List.sum_reverse];have : (W.zipIdx.map fun l => (l.1.map fun p => (l.2, p)).length) = W.map tQ := by
   have h2 : ∀ (n : Nat), ((W.zipIdx n).map fun l => (l.1.map fun p => (l.2, p)).length) = W.map tQ := by
    induction W with
    | nil => intro n; rfl
    | cons a r ih => intro n; rw [List.zipIdx_cons, az, az, ih]; simp
   exact h2 0
  rw [this]
 rw [key, bE, aw]; rfl
section
variable {j : Jd} {due : Str} {dk : Tok} {r : List (Str × uN)} {TL : uR} {ts : List Tel} {os : List Opn} {ds : List fQ} {qv : Option uN} {T Z G : aF} {D N : List (List Sp)} {k m : Nat} {Q : FP}
theorem frg0 {target : Expr} {body : List Stmt} {Q : FP} {r : uR} {n : Nat} {b : Int} (P : Nat → aF → Prop) (W : P 0 cs) (hr : Has cs r (ej 0 b 1)) (h7 : uv.Range.small 0 b 1 = true) (hn : rX 0 b 1 = (n : Nat))
  (turn : ∀ i u C K', i < n → P i C → Go h0 o0 (C ++ K') (uL (uM uX w) A (uG target env (.int (i : Nat) u)) (fun _ => uL (uM uX w) A (uP body env) (TK h0 o0 K' (P (i + 1)) Q) NoE) NoE))
  (fin : ∀ C, P n C → Go h0 o0 C (Q .next)) : Go h0 o0 cs (FRg uX w A env target body h0 o0 Q (.ref r)) := by
 have := frg (C0 := cs) (K := []) P W (by rw [s7]; exact hr) h7 hn turn (fun C hP => by rw [s7]; exact fin C hP);rwa [s7] at this
theorem o_muli {a c : Int} {t u : Tok} {Q : VP} (h1 : 0 ≤ c) (h2 : c < 100) (h : ∀ t, Go h0 o0 cs (Q (.int (a * c) t))) : Go h0 o0 cs (uL (uM uX w) A (binaryOp .Mult (.int a t) (.int c u)) Q E) := fun s H => PyProof.Rows.mul_int (h _ _ (H.toks (tP _))) (.of_right (PySem.intBits_le_64 (by omega) (by omega)))
theorem c5_ns (B : Base (KF w.params) h0) (W : Wp w i) (hh : A.handled = none) (x3 : A.depth + 6 < ty) (h5 : S5 D N k m t due) (hk : k ≤ 380) (hm : m ≤ 90) (y9 : ts.map Tel.v = bj ([dE] :: N)) (hd : Deep uX w j G ts os ds) (z0 : os.length = D.length)
  (h : ∀ n h7 G' N' t', n ≤ 3 → S5 D N' (k + n) (m + n) t' due → h7.map Tel.v = bj ([dE] :: N') → Deep uX w j G' h7 os ds → Go h0 o0 (lawX j i due dk [] TL h7 os ds (some (.int q qk)) (G' ++ (T ++ wr uX w i t' V))) (uL (uM uX w) A (uP ((jf (jU w.params)).drop 1) (ca w.params j.L)) Q NoE)) :
  Go h0 o0 (lawX j i due dk [] TL ts os ds (some (.int q qk)) (G ++ (T ++ wr uX w i t V))) (uL (uM uX w) A (uP (jf (jU w.params)) (ca w.params j.L)) Q NoE) := by
 have x9 : cD h0 (ud "range") (.type "range") := B.bltAt (by kernel_rfl!) (by kernel_rfl!) (by decide +kernel) (by decide +kernel);have z1 : cD h0 (ud "len") (.builtin "len") := B.bltAt (by kernel_rfl!) (by kernel_rfl!) (by decide +kernel) (by decide +kernel);have z2 := fm0 q (b := 4) (by decide);obtain ⟨n4, y0⟩ : ∃ n : Nat, q.fmod 4 = n := ⟨(q.fmod 4).toNat, by omega⟩;have x0 : n4 < 4 := by omega
 refine aH ?_;refine s_forG hh ?_ (fun _ => by with_unfolding_all rfl);with_reducible refine bf ?_; refine dg (by assumption) (by kernel_rfl!) (by kernel_rfl!) (by kernel_rfl!) (by kernel_rfl!) (by decide +kernel) ?_; refine c_ty ?_ (by with_unfolding_all rfl) (by with_unfolding_all rfl); refine aG (bl (bw (c := _ + 1 + 1 + 1) .h3 (aY ?_))); intro _; refine g2 (by decide) ?_; intro _; refine aJ ?_
 rw [y0];with_reducible refine qY fun rg => ?_
 have key : ∀ n : Nat, n < 4 → uv.Range.small 0 (n : Int) 1 = true ∧ rX 0 (n : Int) 1 = (n : Nat) := by decide
 refine frg0 (n := n4) (fun n C => ∃ h7 G' N' t', S5 D N' (k + n) (m + n) t' due ∧ h7.map Tel.v = bj ([dE] :: N') ∧ Deep uX w j G' h7 os ds ∧ C = (rg, ej 0 (n4 : Int) 1) :: lawX j i due dk [] TL h7 os ds (some (.int q qk)) (G' ++ (T ++ wr uX w i t' V))) ⟨ts, G, N, t, h5, y9, hd, rfl⟩ .here (key n4 x0).1 (key n4 x0).2 ?_ ?_
 ·rintro n un C K' hn ⟨ts1, G1, N1, t1, h5', htv', hd', rfl⟩;obtain ⟨ps, x7, y3, x6⟩ := hd'.prs;have z3 : ps.length = 8 := by have := congrArg tQ x7; unfold LLs.v at this; rwa [ak, ak] at this
  have y8 : N1 ≠ [] := fun e => by have := h5'.nz; rw [e] at this; cases this
  have y5 : ts1.length ≤ 1000 := by
   have e : ts1.length = (bj ([dE] :: N1)).length := by rw [← htv', ak]
   have h2 := h5'.tz;have e2 : (bj ([dE] :: N1)).length = (aK N1).length + 1 := gP N1;omega
  simp only [sN, av, ← bN];refine pq ?_;with_reducible refine aQ .h1 .j6 ?_
  refine aH ?_;with_reducible refine nw ?_ (by with_unfolding_all rfl) (by with_unfolding_all rfl); refine br (aI .h1 .i3 (bl (bl (bl (bl ?_))))); refine bw (c := _ + 1 + 1 + 1) .h4 (aY ?_); intro _; refine fV (by decide) (by decide) ?_; intro _; refine bl (bl (bw (c := _ + 1 + 1 + 1) .h4 (aY ?_))); intro _; refine fV (by decide) (by decide) ?_; intro _; refine aI .h1 .i6 ?_; refine o_muli (by omega) (by omega) fun ta => ?_; refine mz fun tb => ?_; refine aI .h1 .i6 ?_; refine mz fun tc => ?_; refine aY ?_; intro _; refine g2 (by decide) ?_; intro _
  have y1 := fm0 (q.fdiv 4 + q.fdiv 32 * (n : Int) + (n : Int)) (b := 8) (by decide);obtain ⟨n8, y6⟩ : ∃ x : Nat, (q.fdiv 4 + q.fdiv 32 * (n : Int) + (n : Int)).fmod 8 = x := ⟨((q.fdiv 4 + q.fdiv 32 * (n : Int) + (n : Int)).fmod 8).toNat, by omega⟩;rw [y6] at y1 ⊢;obtain ⟨p, x4⟩ : ∃ p, ps[n8]? = some p := ⟨ps[n8]'(by omega), rQ _⟩;obtain ⟨pr, x5, y7⟩ := LLs.at2 x7 x4;obtain ⟨x1, x2, y4⟩ := two y7;have x8 := x6 p (se x4);rw [y4] at x8;have y2 : pr ∈ P9 := p8_p9 pr (se x5);with_reducible refine bI (xs := ps.r) (.new (.t6 (.t2 y3.app))) (by omega) (by omega) (v := .ref p.1) (by rw [Int.toNat_natCast]; unfold LLs.r; rw [sD, x4, Option.map_some]) ?_
  refine u_2l hh (.t6 (.t2 x8.app)) ?_;with_reducible refine aQ .h1 (.nx6 .j1) (aQ .h1 (.nx6 .j2) ?_)
  refine aM (aH ?_);with_reducible refine bq (bF (aI .h1 .i2 ?_)); refine g_mns (by assumption) (.t6 (.t2 (.skip (.skip bu)))) (.t6 (.t2 (.skip (.skip a6)))) ?_; refine kg (by assumption) (dS (by decide +kernel)) ?_ (by with_unfolding_all rfl) (by with_unfolding_all rfl); refine aG (aI .h1 (.nx6 .i1) (aG (aI .h1 (.nx6 .i2) (aJ (ck ?_)))))
  refine cz ?_;show Go h0 o0 ((_ :: _ :: _ :: _ :: _ :: _ :: _ :: _ :: G1) ++ (T ++ wr uX w i t1 (V ++ K'))) _;refine Go.sIn (l5_ns B W (by exact (a9 0x72919dbb1e8353e154 0) x3) h5' (by omega) (by omega) y2 fun t2 h6 => Go.sOut ?_);simp only [sN];refine aM (aH ?_);with_reducible refine bq (bF (bw .h2 (cS PySem.F.slot_list_append PySem.F.type_list_append .h5 (dJ (aG ?_))))); refine bd (aG (bf ?_)); refine dg (by assumption) (by kernel_rfl!) (by kernel_rfl!) (by kernel_rfl!) (by kernel_rfl!) (by decide +kernel) ?_; refine ki ?_ (by with_unfolding_all rfl) (by with_unfolding_all rfl); refine aG (bw (c := _ + 1 + 1) .h3 (aJ ?_)); refine lA .h6 (by rw [ak, aj]; have := h5'.lz; omega) fun tn => ?_
  rw [ak, show ((os.length : Nat) : Int) = ((os.length + 1 : Nat) : Int) - 1 from by omega];with_reducible refine aG (aI .h1 (.nx6 .i1) (aG (aI .h1 (.nx6 .i2) (aJ (ba ?_))))); intro _; refine aJ ?_
  rename_i aa;with_reducible refine cI (ys := (ts1 ++ [(⟨aa, os.length + 1, tn, pr.2, x1, pr.1, x2⟩ : Tel)]).map fun e : Tel => tW e.a) .h6 (by rw [ao, az, tJ]) (by rw [ak, aj]; with_unfolding_all exact (bD 0x2b86b8d2ced554d9e44f52a4c4 0) y5) ?_
  refine aM (aV ?_);refine Go.thin (a := j.L) (m' := lawF j i due dk []) .h2 (.ix 88285446) ?_;refine Go.sel (cs' := (rg, ej 0 (n4 : Int) 1) :: lawX j i due dk [] TL (ts1 ++ [(⟨aa, os.length + 1, tn, pr.2, x1, pr.1, x2⟩ : Tel)]) os ds (some (.int q qk)) ((aa, aE [.int (((os.length + 1 : Nat) : Int) - 1) tn, .str pr.2 x1, .str pr.1 x2]) :: (G1 ++ (T ++ wr uX w i t2 (V ++ K'))))) (.pick .h1 (.pick .h1 (.pick .h1 (.pick .h1 (.pick .h1 (.pick .h1 (.pick .h1 (.pick .h1 (.pick .here (.tail .refl)))))))))) ?_;refine iH ⟨ts1 ++ [(⟨aa, os.length + 1, tn, pr.2, x1, pr.1, x2⟩ : Tel)], (aa, aE [.int (((os.length + 1 : Nat) : Int) - 1) tn, .str pr.2 x1, .str pr.1 x2]) :: G1, bB N1 (pr.1, pr.2), t2, h6, ?_, ?_, rfl⟩ (by simp only [sN, av, ← bN])
  ·rw [ao, htv', oN y8, h5'.nz, ← z0]; rfl
  ·have h9 := hd'.cons (c := (aa, aE [.int (((os.length + 1 : Nat) : Int) - 1) tn, .str pr.2 x1, .str pr.1 x2]));refine ⟨fun e he => ?_, h9.opn, h9.shw, h9.prs⟩;rcases s8.mp he with he | he
   ·exact h9.tel e he
   ·rw [su.mp he]; exact .here
 ·rintro C ⟨h7, G', N', t', h5', htv', hd', rfl⟩;refine Go.sub (aq _ _) ?_;refine aM (gn (b' := (jf (jU w.params)).drop 1) (by kernel_rfl!) ?_);exact h n4 h7 G' N' t' (by omega) h5' htv' hd'
end
section
variable {j : Jd} {due : Str} {dk : Tok} {r : List (Str × uN)} {TL : uR} {ts : List Tel} {os : List Opn} {ds : List fQ} {qv : Option uN} {T Z G : aF} {D N : List (List Sp)} {k m : Nat} {Q : FP}
theorem c5_b1 (B : Base (KF w.params) h0) (hh : A.handled = none) (h9 : A.depth + 6 < ty) (hu : A.units + 2000 < cLine) (y9 : ∀ e ∈ ts, Has Z e.a e.c) (hv : ts.map Tel.v = bj ([dE] :: N)) (hn : N.length ≤ 800) (hz : ts.length < 100)
  (h : ∀ TG AT F (ls : LLs) t1 t2 u0 b v, u0 ∈ U5 → (∀ u ∈ u0 :: AU b, u = e0 ∨ (bS N u).isSome = true) → iC v = v → v.length ≤ 3 → ls.v = (AU b).map (fun u => [u, kK, tx v u]) → (∀ p ∈ ls, Has F p.1 (aE (tv p.2))) →
   Go h0 o0 ((TG, aE [.str u0 t1, .str kX t2]) :: (AT, aE ls.r) :: lawX j i due dk [(ud "tag", .ref TG), (ud "attrs", .ref AT)] TL ts os ds (some (.int q qk)) (F ++ Z)) (uL (uM uX w) A (uP ((jf (jU w.params)).drop 6) (ca w.params j.L)) Q NoE)) :
  Go h0 o0 (lawX j i due dk [] TL ts os ds (some (.int q qk)) Z) (uL (uM uX w) A (uP ((jf (jU w.params)).drop 1) (ca w.params j.L)) Q NoE) := by
 have z5 : dh h0 (ud "_law_pick") (.ref og) := B.glob (by kernel_rfl!) (by kernel_rfl!);have z6 : cD h0 (ud "str") (.type "str") := B.bltAt (by kernel_rfl!) (by kernel_rfl!) (by decide +kernel) (by decide +kernel);have y0 := fm0 (q.fdiv 256) (b := 4) (by decide);have z7 := fm0 q (b := 100) (by decide);have y5 : ([dE] :: N).length ≤ 900 := by rw [sO]; exact (bD 0x222866c27bd5cd7e787c6 0) hn
 refine aH ?_;with_reducible refine bR (bd (aG (aR fun _ _ => aG (aR ?_)))); intro _ _; refine aG (aR fun _ _ => aG (aI .here .i4 (aJ (ba ?_)))); intro _; refine aQ .h1 .j6 (aM ?_)
 rename_i UR;refine Go.u4 fun y1 y2 y3 y4 => ?_
 refine aM (aH ?_);with_reducible refine bR (br (aI .h1 .i6 (bl (bl (bw (c := _ + 1 + 1 + 1) .h4 ?_))))); refine aY ?_; intro _; refine fV (by decide) (by decide) ?_; intro _; refine aY ?_; intro _; refine g2 (by decide) ?_; intro _
 refine o_pickN (ls := U4) (d := e0) .here (ps := [(_, _), (_, _), (_, _), (_, _)]) rfl rfl y0.1 (by show _ < (4 : Int); exact y0.2) (by decide) (by with_unfolding_all rfl) fun ku => ?_
 have z0 : U4.getD ((q.fdiv 256).fmod 4).toNat e0 ∈ U4 := by
  have key : ∀ m, m < 4 → U4.getD m e0 ∈ U4 := by decide +kernel
  exact key _ (by omega)
 generalize U4.getD ((q.fdiv 256).fmod 4).toNat e0 = uri at z0 ⊢;with_reducible refine aQ .h1 (.nx6 .j1) (aM ?_)
 refine aM (aH ?_);repeat (first | ((fail_if_success (with_reducible refine cO ?_)); with_reducible refine bR ?_; with_reducible refine bd ?_; with_reducible refine aG ?_))
 refine Go.name fun C0 x3 => ?_
 refine bQ (fun v C => (∃ u0 t, v = .str u0 t ∧ u0 ∈ U5 ∧ (u0 = e0 ∨ (bS N u0).isSome = true)) ∧ C = C0) ?_ ?_
 ·rw [x3];clear x3 C0;refine cO ?_;with_reducible refine c6 (b7 (bv (bf ?_))); refine eY (by assumption) (by kernel_rfl!) (by kernel_rfl!) (by kernel_rfl!) (by decide +kernel) ?_; refine lS (by assumption) (by kernel_rfl!) ?_ (by with_unfolding_all rfl); refine aG (bw .h2 (aG (aI .h1 (.nx6 .i1) (aJ (ck ?_))))); refine mW B hh (by with_unfolding_all exact mw h9) (by with_unfolding_all exact (a9 0x293537fad4efd6549950046c9c 0) hu) .h5 (fun e he => .t6 (.t2 (y9 e he)) ) hv y5 hz fun t5 => ?_; refine aR fun _ _ => jc (a0 ?_)
  refine dT (fun hg => ?_) fun hg => ?_
  ·have hg : cr ([dE] :: N) uri ≠ e0 := by simpa using hg
   with_reducible refine b7 (bv (bl (bl (bw (c := _ + 1 + 1 + 1) .h4 (aY ?_))))); intro _; refine fV (by decide) (by decide) ?_; intro _; refine aY ?_; intro _; refine g2 (by decide) ?_; intro _; refine aY fun _ => o_nei (a0 ?_)
   refine dT (fun x1 => ?_) fun x1 => ?_
   ·with_reducible refine fe (lW (aI .h1 (.nx6 .i1) ?_))
    exact jp ⟨⟨uri, ku, rfl, au _ z0, .inr (i0 hg)⟩, rfl⟩
   ·with_reducible refine eW (aR ?_); intro _ _
    exact jp ⟨⟨_, _, rfl, aB, .inl rfl⟩, rfl⟩
  ·with_reducible refine eW (aR ?_); intro _ _
   exact jp ⟨⟨_, _, rfl, aB, .inl rfl⟩, rfl⟩
 rintro v C ⟨⟨u0, t0, rfl, hu0, hp0⟩, rfl⟩;rw [x3];clear x3 C;with_reducible refine aG (aR fun _ _ => aJ (ba fun _ => aQ .h2 (.nx6 .j2) (aM ?_)))
 rename_i TG;refine Go.thin (a := j.L) (m' := lawF j i due dk [(ud "tag", .ref TG), (ud "uris", .ref UR)]) .h2 (.ix 28005572872) ?_;refine aM (aH ?_);refine s_cln (cl := [(ud "tellings", j.L + 1), (ud "q", j.L + 1 + 1 + 1)]) (by kernel_rfl!) (by kernel_rfl!) (by decide) rfl (by decide) ?_ (fun _ => by with_unfolding_all rfl);refine e_rev4 ?_;with_reducible refine aI .h2 (.nx6 .i1) ?_
 refine rv .h1 fun RL => ?_
 refine Go.thin (a := j.L) (m' := lawF j i due dk [(ud "tag", .ref TG)]) .h3 (.ix 1698898183) ?_;refine Go.sel (cs' := (TG, _) :: lawX j i due dk [(ud "tag", .ref TG)] TL ts os ds (some (.int q qk)) ((RL, aE [.str uS y4, .str uC y3, .str uB y2, .str uA y1]) :: Z)) (.pick .h1 (.pick .h2 (.pick .h2 (.pick .h2 (.pick .h2 (.pick .h2 (.pick .h2 (.pick .h2 (.pick .here (.tail (.there .refl))))))))))) ?_;refine Go.tg fun t2 => ?_
 obtain ⟨bb, y7⟩ : ∃ bb : Str → Bool, ∀ u, bb u = ((q.fdiv 1024).fmod 2 == 0 && decide (cr ([dE] :: N) u ≠ e0)) := ⟨_, fun _ => rfl⟩;refine Go.rp (X := [_, _, _, _, _, _, _, _]) [(uS, y4), (uC, y3), (uB, y2), (uA, y1)] (ls := revU) rfl fun W y6 => ?_
 simp only [sN, te];obtain ⟨C1, h7⟩ : ∃ C1, C1 = (TG, aE [.str u0 t0, .str kX t2]) :: lawX j i due dk [(ud "tag", .ref TG)] TL ts os ds (some (.int q qk)) ((RL, aE (tv W)) :: Z) := ⟨_, rfl⟩;rw [← h7];have x6 : W.length = 4 := by have := congrArg tQ y6; rwa [ak] at this
 refine lnL (xs := tv W) (fun n ys C => ∃ (ls : LLs) (F : aF), ys = ls.r ∧ ls.v = ((revU.take n).filter bb).map (fun u => [u, kK, ud "1"]) ∧ (∀ p ∈ ls, Has F p.1 (aE (tv p.2))) ∧ C = F ++ C1) hh ?_ (by unfold tv; rw [ak]; exact (bD 0x1bc3c307f649c2a8 1298189) x6) ⟨[], [], rfl, rfl, (fun p q => by cases q), rfl⟩ ?_ ?_
 ·rintro n ys C ⟨ls, F, _, _, _, rfl⟩;refine .skip ?_;rw [h7];exact .t6 .h2
 ·rintro L2 n v ys C K' hx ⟨ls, F, rfl, hls, hF, rfl⟩;obtain ⟨p, hp, rfl⟩ : ∃ p, W[n]? = some p ∧ v = .str p.1 p.2 := by
   unfold tv at hx;rw [sD] at hx;cases hx2 : W[n]? with
   | none => rw [hx2] at hx; cases hx
   | some e => rw [hx2] at hx; exact ⟨e, rfl, by cases hx; rfl⟩
  have z3 : revU[n]? = some p.1 := by rw [← y6, sD, hp]; rfl
  have x8 : (revU.take (n + 1)).filter bb = (revU.take n).filter bb ++ (if bb p.1 = true then [p.1] else []) := by
   rw [sE, z3, List.filter_append]
   congr 1
   cases hb : bb p.1 <;> simp [hb]
  have x5 : ∀ e ∈ ts, Has (F ++ C1 ++ K') e.a e.c := fun e he => Has.app (.skip (by rw [h7]; exact .t6 (.t3 (y9 e he))))
  have x7 : Has (F ++ C1 ++ K') TL (aE (ts.map fun e => .ref e.a)) := Has.app (.skip (by rw [h7]; exact .h5));have x9 : Has (F ++ C1 ++ K') (j.L + 1 + 1 + 1) (aO (some (.int q qk))) := Has.app (.skip (by rw [h7]; exact .h4));have z1 : Has (F ++ C1 ++ K') (j.L + 1) (aO (some (.ref TL))) := Has.app (.skip (by rw [h7]; exact .h2));obtain ⟨Z2, x2⟩ : ∃ Z2, Z2 = F ++ C1 ++ K' := ⟨_, rfl⟩;rw [← x2] at x5 x7 x9 z1 ⊢;refine pq ?_;with_reducible refine aQ .here .new ?_
  refine kd ?_;with_reducible refine c6 (b7 (bv (bl (bl ?_)))); refine bw (.there (by with_reducible assumption)) ?_; refine aY ?_; intro _; refine fV (by decide) (by decide) ?_; intro _; refine aY ?_; intro _; refine g2 (by decide) ?_; intro _; refine aY fun _ => qE (a0 ?_)
  have x4 := y7 p.1;refine dT (fun hg => ?_) fun hg => ?_
  ·rw [hg, Bool.true_and] at x4;with_reducible refine b7 (bv (bf ?_)); refine eY (by assumption) (by kernel_rfl!) (by kernel_rfl!) (by kernel_rfl!) (by decide +kernel) ?_; refine lS (by assumption) (by kernel_rfl!) ?_ (by with_unfolding_all rfl); refine aG ?_; refine bw (c := Jd.L _ + 1) (.there (by with_reducible assumption)) ?_; refine aG (aI .here .here (aJ (ck ?_))); refine mW B hh (by with_unfolding_all exact mw h9) (by with_unfolding_all exact (a9 0x293537fad4efd6549950046c9c 0) hu) (.there x7) (fun e he => .there (x5 e he)) hv y5 hz fun t5 => ?_; refine aR fun _ _ => jc (a0 ?_)
   refine dT (fun x1 => ?_) fun x1 => ?_
   ·have x0 : bb p.1 = true := by rw [x4]; simpa using x1
    with_reducible refine fe (lW (bd (aG (aI .here .here (aG ?_))))); refine aR fun _ _ => aG (aR fun _ _ => aJ (ba ?_)); intro _
    refine Go.nm3 fun ta tb => ?_
    rename_i aa;refine ce (m := [(ud "one", .str p.1 p.2)]) (C' := (aa, aE (tv [(p.1, p.2), (kK, ta), (ud "1", tb)])) :: (F ++ C1)) ⟨ls ++ [(aa, [(p.1, p.2), (kK, ta), (ud "1", tb)])], (aa, aE (tv [(p.1, p.2), (kK, ta), (ud "1", tb)])) :: F, by unfold LLs.r; rw [ao]; rfl, ?_, fun x hx => ?_, rfl⟩ ?_
    ·rw [x8, if_pos x0, ao, ← hls];unfold LLs.v;rw [ao]; rfl
    ·rcases s8.mp hx with hx | hx
     ·exact .there (hF x hx)
     ·rw [su.mp hx]; exact .here
    ·rw [x2]; exact .pick .h1 (.pick .here (.tail .refl))
   ·have x0 : bb p.1 = false := by rw [x4]; simpa using x1
    with_reducible refine eW ?_
    refine sl (C' := F ++ C1) ⟨ls, F, rfl, ?_, hF, rfl⟩ (by rw [x2]);rw [x8, if_neg (by rw [x0]; decide), s7, hls]
  ·have x0 : bb p.1 = false := by rw [x4, hg, Bool.false_and]
   with_reducible refine eW ?_
   refine sl (C' := F ++ C1) ⟨ls, F, rfl, ?_, hF, rfl⟩ (by rw [x2]);rw [x8, if_neg (by rw [x0]; decide), s7, hls]
 ·rintro L2 AT ys C ⟨ls, F, rfl, hls, hF, rfl⟩;rw [rZ (by unfold tv; rw [ak, x6]; decide)] at hls;rw [h7];clear h7 C1;rw [av];show Go h0 o0 ((AT, aE ls.r) :: (F ++ ((TG, aE [.str u0 t0, .str kX t2]) :: lawX j i due dk [(ud "tag", .ref TG)] TL ts os ds (some (.int q qk)) ((RL, aE (tv W)) :: (Z ++ [(L2, cNs [])]))))) _;with_reducible refine aQ (.there (.skip .h1)) (.nx6 .j1) ?_
  refine nk (cs' := (AT, aE ls.r) :: (F ++ ((TG, aE [.str u0 t0, .str kX t2]) :: lawX j i due dk [(ud "tag", .ref TG), (ud "attrs", .ref AT)] TL ts os ds (some (.int q qk)) ((RL, aE (tv W)) :: (Z ++ []))))) (.pick (.there (.skip (.t6 (.t3 (.skip .here))))) (.pick .here (.tail .refl))) ?_;rw [s7];refine Go.perm (cs' := (AT, aE ls.r) :: (TG, aE [.str u0 t0, .str kX t2]) :: lawX j i due dk [(ud "tag", .ref TG), (ud "attrs", .ref AT)] TL ts os ds (some (.int q qk)) (F ++ ((RL, aE (tv W)) :: Z))) ?_ ?_
  ·exact tY.cons _ (perm3 (X := F) (Y := [_, _, _, _, _, _, _, _]))
  refine aM (aH ?_);obtain ⟨m, hm⟩ : ∃ m : Nat, q.fmod 100 = m := ⟨(q.fmod 100).toNat, by omega⟩;obtain ⟨a1, a2⟩ := num_ok m (by omega);with_reducible refine bq (bF (aI .h2 (.nx6 .i1) (cS PySem.F.slot_list_append PySem.F.type_list_append .here (dJ (aG ?_))))); refine bd (aG (aR fun _ _ => aG (aR fun _ _ => aG ?_))); refine bf ?_; refine dg (by assumption) (by kernel_rfl!) (by kernel_rfl!) (by kernel_rfl!) (by kernel_rfl!) (by decide +kernel) ?_; refine c_ty ?_ (by with_unfolding_all rfl) (by with_unfolding_all rfl); refine aG (bl (bw (c := _ + 1 + 1 + 1) .h5 (aY ?_))); intro _; refine g2 (by decide) ?_; intro _; refine aJ ?_
  rw [hm];with_reducible refine k_str (N := 200) (by split <;> omega) (by decide) fun ks => ?_; refine aJ (ba fun _ => aJ ?_)
  refine Go.nm4 fun ta tb => ?_
  rename_i aa;have z2 : ls.r ++ [.ref aa] = LLs.r (ls ++ [(aa, [(e0, ta), (kK, tb), (ud (toString (m : Int)), ks)])]) := by unfold LLs.r; rw [ao]; rfl
  have z4 : ls.r.length ≤ 4 := by
   have := congrArg tQ hls;unfold LLs.v at this;rw [ak, ak] at this;have h2 := List.length_filter_le bb revU;unfold LLs.r;rw [ak, this]; exact h2
  with_reducible refine cI .h1 z2 (by rw [aj]; with_unfolding_all exact (bD 0x9a2d08add27aa04e3ab24c4 0) z4) ?_
  refine aM (gn (b' := (jf (jU w.params)).drop 6) (by kernel_rfl!) ?_);rw [List.append_cons F];obtain ⟨F2, y8⟩ : ∃ F2, F2 = F ++ [(RL, aE (tv W))] := ⟨_, rfl⟩;rw [← y8];refine Go.sel (cs' := (TG, aE [.str u0 t0, .str kX t2]) :: (AT, aE (LLs.r (ls ++ [(aa, [(e0, ta), (kK, tb), (ud (toString (m : Int)), ks)])]))) :: lawX j i due dk [(ud "tag", .ref TG), (ud "attrs", .ref AT)] TL ts os ds (some (.int q qk)) ((aa, aE [.str e0 ta, .str kK tb, .str (ud (toString (m : Int))) ks]) :: (F2 ++ Z))) (.pick .h2 (.pick .h1 (.pick .h1 (.pick .h1 (.pick .h1 (.pick .h1 (.pick .h1 (.pick .h1 (.pick .h1 (.pick .here (.tail .refl))))))))))) ?_;refine h TG AT ((aa, aE (tv [(e0, ta), (kK, tb), (ud (toString (m : Int)), ks)])) :: F2) (ls ++ [(aa, [(e0, ta), (kK, tb), (ud (toString (m : Int)), ks)])]) t0 t2 u0 bb (ud (toString (m : Int))) hu0 (fun u hu => ?_) a1 a2 ?_ (fun p hp => ?_)
  ·rcases tB.mp hu with rfl | hu
   ·exact hp0
   ·rcases s8.mp hu with hu | hu
    ·have h2 := (tw.mp hu).2;rw [y7, sP, decide_eq_true_eq] at h2;exact .inr (i0 h2.2)
    ·exact .inl (su.mp hu)
  ·rw [← au_tx];unfold LLs.v at hls ⊢;rw [ao, hls]; rfl
  ·rcases s8.mp hp with hp | hp
   ·rw [y8]; exact .there (hF p hp).app
   ·rw [su.mp hp]; exact .here
end
structure In5 (uX : uy) (w : uQ) (j : Jd) (D N : List (List Sp)) (k m : Nat) (t : d0) (due : Str) (ts : List Tel) (os : List Opn) (ds : List fQ) (G : aF) : Prop where
 s : S5 D N k m t due
 tv : ts.map Tel.v = bj ([dE] :: N)
 st : Stk5 D os ds
 dp : Deep uX w j G ts os ds
section
variable {j : Jd} {due : Str} {dk : Tok} {r : List (Str × uN)} {TL : uR} {ts : List Tel} {os : List Opn} {ds : List fQ} {qv : Option uN} {T Z G : aF} {D N : List (List Sp)} {k m : Nat} {Q : FP}
def Nx (uX : uy) (w : uQ) (h0 : uV) (o0 : uF) (j : Jd) (i : Wid) (PD : List (List Sp) → Prop) (k m : Nat) (V : aF) (Q : FP) : Prop :=
 ∀ D N t due dk r TL ts os ds qv T G, PD D → Tb bG lamPos lamQ T → In5 uX w j D N k m t due ts os ds G → Go h0 o0 (lawX j i due dk r TL ts os ds qv (G ++ (T ++ wr uX w i t V))) (Q .next)
theorem In5.mono (h : In5 uX w j D N k m t due ts os ds G) (hk : k ≤ k') (hm : m ≤ m') : In5 uX w j D N k' m' t due ts os ds G := ⟨h.s.mono hk hm, h.tv, h.st, h.dp⟩
theorem rD (z7 : ∀ lv, PD (D ++ [lv])) (B : Base (KF w.params) h0) (LB : LamBase h0 fO bG) (W : Wp w i) (hh : A.handled = none) (h7 : A.depth + 6 < ty) (hu : A.units + 2000 < cLine) (hT : Tb bG lamPos lamQ T) (I : In5 uX w j D N k m t due ts os ds G) (hk : k ≤ 370) (hm : m ≤ 90)
  (h : Nx uX w h0 o0 j i PD (k + 6) (m + 3) V Q) :
  Go h0 o0 (lawX j i due dk [] TL ts os ds (some (.int q qk)) (G ++ (T ++ wr uX w i t V))) (uL (uM uX w) A (uP (jf (jU w.params)) (ca w.params j.L)) Q NoE) := by
 obtain ⟨z0, y9⟩ := I.st.len;have x3 := I.s.lz;refine c5_ns B W hh h7 I.s (by exact (bD 0x79134d01c39e7d20e0 0) hk) (by exact (bD 0x790b8064f0478de93c 0) hm) I.tv I.dp z0 fun n h9 G1 N1 t1 hn h5 x6 hd => ?_
 have y8 := h5.nz;have y7 : h9.length ≤ m + n + 1 := by
  have e : h9.length = (bj ([dE] :: N1)).length := by rw [← x6, ak]
  rw [e, gP];exact Nat.succ_le_succ h5.tz
 refine c5_b1 (Z := G1 ++ (T ++ wr uX w i t1 V)) B hh h7 hu (fun e he => (hd.tel e he).app) x6 (by exact (bZ 0xcc59b2917c84d51eda2dd2f8c050 1500706519) hk x3 y8) (by exact (bZ 0xfb54711674b6a8d7dc3a74b9a0c53321c 0) hm hn y7) fun TG AT F ls x1 x2 u0 b v x7 hp hv y0 x8 hF => ?_
 rw [← av F G1];refine c5_b2 (G := F ++ G1) B LB W hh h7 hu hT h5 (by exact (a9 0x5c7613af97448008649f6784072 0) hk hn) (by exact (a9 0x5c7613af951100c5bf05ed761b2 0) hm hn) x7 hp hv y0 x8 (fun p hp => (hF p hp).app) fun T' t2 lv z5 hL h6 => ?_
 obtain ⟨a4, d, y5, z8⟩ := I.st.top;have z2 : d ∈ ds := by rw [y5]; exact r6 _ aB
 refine c5_b3 (Z := (F ++ G1) ++ (T' ++ wr uX w i t2 V)) (lv := lv) (D := D) (N := N1) B hh h7 hu (fun e he => Has.app (.skip (hd.tel e he))) x6 (by exact (bZ 0xcc59b2917c84d51eda2dd2f8c050 1500706519) hk x3 y8) (by exact (bZ 0xfb54711674b6a8d7dc3a74b9a0c53321c 0) hm hn y7) h5.np h6.dp h6.dn hp hL x8 (fun p hp => Has.app (hF p hp).app) y5 (by exact (bZ 0xc11d3017255641e16cad705f4b28 1500744667) hk y9 x3) (Has.app (.skip (hd.shw d z2))) z8 fun DN NW F2 kvs z3 a2 x0 z9 y6 z6 => ?_
 have x9 : u0 = e0 ∨ dy (D ++ [lv]) u0 = some (kA D N1 u0) := by
  by_cases he : u0 = e0
  ·exact .inl he
  ·exact .inr (hL.nm aB he)
 have a3 := I.s.bz;have a1 := gB h6.dp u0;have z4 : (ud "<").length = 1 := by decide +kernel
 refine c5_b4 (D := D ++ [lv]) (v := v) (b := b) B hh h7 x7 h6.dp x0 (x9.imp id fun e => by rw [e]; rfl) (by omega) (by exact (bZ 0x2ac405ab17cbbe026845f04b28 1500744667) hk z0 x3) (by exact (bZ 0xc11d3017255641e16cad705f4b28 1500744667) hk y9 x3) fun a y1 y2 z1 => ?_
 obtain ⟨Z3, x4⟩ : ∃ Z3, Z3 = F2 ++ ((F ++ G1) ++ (T' ++ wr uX w i t2 V)) := ⟨_, rfl⟩;rw [← x4];refine Go.sel (cs' := (DN, aL uX w (bH kvs)) :: (NW, aE z3.r) :: (AT, aE ls.r) :: lawX j i (due ++ (ud "<" ++ eL (D ++ [lv]) u0)) z1 [(ud "attrs", .ref AT), (ud "names", .ref DN), (ud "new", .ref NW)] TL h9 (os ++ [⟨a, eL (D ++ [lv]) u0, y1, aX u0 kX, y2⟩]) (ds ++ [⟨DN, kvs⟩]) (some (.int q qk)) ((a, aE [.str (eL (D ++ [lv]) u0) y1, .str (aX u0 kX) y2]) :: Z3)) (.pick .h1 (.pick .h1 (.pick .h1 (.pick .h1 (.pick .h1 (.pick .h1 (.pick .h1 (.pick .h1 (.pick .h1 (.pick .h1 (.pick .here (.tail .refl)))))))))))) ?_;refine c5_b5 (D := D) (N := N1) (due0 := due) B hh hu h5.np h5.dp hp hL z9 x0 y0 x8 (fun p hp => .there (by rw [x4]; exact .skip (Has.app (hF p hp).app))) y6 (fun p hp => .there (by rw [x4]; exact (z6 p hp).app)) (by simp only [am]; omega) fun y3 r2 => ?_
 refine Go.sel (cs' := lawX j i (due ++ (ud "<" ++ eL (D ++ [lv]) u0) ++ cC ((cL lv).map ci) ++ cC ((SA b).map (cA D N1 v)) ++ ud ">") y3 r2 TL h9 (os ++ [⟨a, eL (D ++ [lv]) u0, y1, aX u0 kX, y2⟩]) (ds ++ [⟨DN, kvs⟩]) (some (.int q qk)) ((DN, aL uX w (bH kvs)) :: (a, aE [.str (eL (D ++ [lv]) u0) y1, .str (aX u0 kX) y2]) :: Z3)) (.pick .h1 (.pick .h1 (.pick .h1 (.pick .h1 (.pick .h1 (.pick .h1 (.pick .h1 (.pick .here (.pick .here (.tail .refl)))))))))) ?_;have y4 : due ++ (ud "<" ++ eL (D ++ [lv]) u0) ++ cC ((cL lv).map ci) ++ cC ((SA b).map (cA D N1 v)) ++ ud ">" = due ++ fA D N1 lv u0 b v := by
  have e : nmA D N1 kX u0 = eL (D ++ [lv]) u0 := by
   unfold nmA eL;by_cases he : u0 = e0
   ·rw [if_pos he, if_pos he]
   ·rw [if_neg he, if_neg he, x9.resolve_left he]; rfl
  unfold fA;rw [e];simp only [dD]
 rw [y4, x4];have := h (D ++ [lv]) (N1 ++ [[]]) t2 (due ++ fA D N1 lv u0 b v) y3 r2 TL h9 (os ++ [⟨a, eL (D ++ [lv]) u0, y1, aX u0 kX, y2⟩]) (ds ++ [⟨DN, kvs⟩]) (some (.int q qk)) T' ((DN, aL uX w (bH kvs)) :: (a, aE [.str (eL (D ++ [lv]) u0) y1, .str (aX u0 kX) y2]) :: (F2 ++ (F ++ G1))) (z7 lv) z5 ⟨h6.mono (by exact (a9 0x9a2bcb296c2510cadf4d142 0) hn) (by exact (a9 0x78f8fe62073c5e1532 0) hn), ?_, ?_, ?_⟩
 ·simp only [sN, av] at this ⊢;exact this
 ·rw [x6];show bj _ = bj (([dE] :: N1) ++ [[]]);rw [cX, tJ, s7]
 ·exact .snoc u0 I.st x7 (x9.imp id fun e => ⟨_, e⟩) rfl rfl x0
 ·have x5 : Deep uX w j ((DN, aL uX w (bH kvs)) :: (a, aE [.str (eL (D ++ [lv]) u0) y1, .str (aX u0 kX) y2]) :: (F2 ++ (F ++ G1))) h9 os ds := (Deep.skip (Deep.skip hd)).cons.cons;refine ⟨x5.tel, fun o ho => ?_, fun o ho => ?_, x5.prs⟩
  ·rcases s8.mp ho with ho | ho
   ·exact x5.opn o ho
   ·rw [su.mp ho]; exact .h1
  ·rcases s8.mp ho with ho | ho
   ·exact x5.shw o ho
   ·rw [su.mp ho]; exact .here
end
section
variable {j : Jd} {due : Str} {dk : Tok} {r : List (Str × uN)} {TL : uR} {ts : List Tel} {os : List Opn} {ds : List fQ} {qv : Option uN} {T Z G : aF} {D N : List (List Sp)} {k m : Nat} {Q : FP}
theorem pZ {N0 : List (List Sp)} {ts : List Tel} (hv : ts.map Tel.v = bj ([dE] :: (N0 ++ [ln]))) (hn : N0.length = n + 1) : (ts.filter fun e => decide (((e.lv : Nat) : Int) - 1 ≤ (n : Int))).map Tel.v = bj ([dE] :: N0) := by
 have e1 : (ts.filter fun e => decide (((e.lv : Nat) : Int) - 1 ≤ (n : Int))) = ts.filter ((fun x : Nat × Sp => decide (x.1 ≤ n + 1)) ∘ Tel.v) := by
  refine List.filter_congr fun e _ => ?_
  show decide _ = decide (e.lv ≤ n + 1);exact decide_eq_decide.mpr (by omega)
 rw [e1, ← List.filter_map, hv, ← sN, cX, List.filter_append];have a1 : (bj ([dE] :: N0)).filter (fun x : Nat × Sp => decide (x.1 ≤ n + 1)) = bj ([dE] :: N0) := by
  refine List.filter_eq_self.mpr fun x W => ?_
  have := (jz W).1;rw [sO] at this;simp only [decide_eq_true_eq];exact (bZ 0xf8ab9707bd3a2000c3e 44139549) hn this
 have a2 : (ln.map fun p => (([dE] :: N0).length, p)).filter (fun x : Nat × Sp => decide (x.1 ≤ n + 1)) = [] := by
  refine List.filter_eq_nil_iff.mpr fun x W => ?_
  obtain ⟨p, _, rfl⟩ := tG.mp W;simp only [sO, decide_eq_true_eq];exact (a9 0x3b35654cb42125ace 1298222) hn
 rw [a1, a2, s7]
theorem c5_data (h7 : PD D) (B : Base (KF w.params) h0) (hh : A.handled = none) (W : A.depth + 6 < ty) (hT : Tb bG lamPos lamQ T) (I : In5 uX w j D N k m t due ts os ds G) (hk : k ≤ 370) (hD : D ≠ [])
  (h : Nx uX w h0 o0 j i PD (k + 6) m V Q) :
  Go h0 o0 (lawX j i due dk [] TL ts os ds qv (G ++ (T ++ wr uX w i t V))) (uL (uM uX w) A (uP (ifE (lw1 w.params)) (ca w.params j.L)) Q NoE) := by
 have z1 : (ud "t").length = 1 := by decide +kernel
 have h9 := I.s.bz;refine aH ?_;with_reducible refine bq (bF (aI .here .i2 ?_)); refine g_mdata (by assumption) (.t6 (.there (.skip (.skip bu)))) (.t6 (.there (.skip (.skip a6)))) ?_; refine kg (by assumption) (dS (by decide +kernel)) ?_ (by with_unfolding_all rfl) (by with_unfolding_all rfl); refine aG (aR fun _ _ => aJ (ck ?_))
 refine cz ?_;show Go h0 o0 ((_ :: _ :: _ :: _ :: _ :: _ :: _ :: G) ++ (T ++ wr uX w i t V)) _;refine Go.sIn (l5_data B (by exact mw W) I.s (by exact (bD 0x79134d01c39f490980 0) hk) hD fun t2 h6 => Go.sOut ?_);simp only [sN];refine aM (aH ?_);with_reducible refine gU ?_; refine qQ .here (by kernel_rfl!) .here (by kernel_rfl!) (by kernel_rfl!) ?_; refine aR ?_; intro _ _; refine fE (by rw [z1, aj]; omega) fun t9 => ?_; refine aQ .here .here ?_
 refine aM (aV ?_);exact h D N t2 (due ++ tT) t9 [] TL ts os ds qv T G h7 hT ⟨h6.mono (by exact bD 49293460800502 0) (ah _), I.tv, I.st, I.dp⟩
theorem c5_end (z3 : ∀ D0 lv, D = D0 ++ [lv] → PD D0) (B : Base (KF w.params) h0) (W : Wp w i) (hh : A.handled = none) (x6 : A.depth + 6 < ty) (hT : Tb bG lamPos lamQ T) (I : In5 uX w j D N k m t due ts os ds G) (hk : k ≤ 370) (hm : m ≤ 90) (hD : 1 < D.length)
  (h : Nx uX w h0 o0 j i PD (k + 6) m V Q) :
  Go h0 o0 (lawX j i due dk [] TL ts os ds qv (G ++ (T ++ wr uX w i t V))) (uL (uM uX w) A (uP (jf (lw1 w.params)) (ca w.params j.L)) Q NoE) := by
 have z5 : cD h0 (ud "len") (.builtin "len") := B.bltAt (by kernel_rfl!) (by kernel_rfl!) (by decide +kernel) (by decide +kernel);obtain ⟨S, y4, st, dp⟩ := I;have z7 := S.bz;have x2 := S.lz;obtain ⟨z4, x7⟩ := st.len;obtain ⟨N0, ln, rfl⟩ := iX (l := N) fun e => by have := S.nz; rw [e] at this; cases this
 cases st with
 | nil hd => exact absurd hD (by decide)
 | @snoc D0 os0 ds0 lv o d u0 st0 hu0 hp hnm hkey hsh =>
  rw [aw, r4] at hD x2 z4 x7 x7;have x1 := st0.len.1;have y5 := S.nz;rw [aw, aw, r4, r4] at y5;have z0 : o ∈ os0 ++ [o] := r6 _ aB;have y2 := dp.opn o z0;have x8 := gB S.dp u0;have z1 : (ud "</").length = 2 := by decide +kernel
  have z2 : (ud ">").length = 1 := by decide +kernel
  refine aH ?_;with_reducible refine bq (bF (aI .here .i2 ?_)); refine ri (by assumption) (.t6 (.there (.skip (.skip bu)))) (.t6 (.there (.skip (.skip a6)))) ?_; refine kg (by assumption) (dS (by decide +kernel)) ?_ (by with_unfolding_all rfl) (by with_unfolding_all rfl); refine aG (br (br (bw (c := _ + 1 + 1) .h2 (eX (aY ?_))))); intro _; refine eV ?_; intro _; refine fk (ys := os0.map fun o : Opn => tW o.a) (v := .ref o.a) .h5 (by rw [ao, az, tJ]) (by with_unfolding_all rfl) ?_; refine aY ?_; intro _; refine bI (.new (.t6 (.there y2.app))) (by decide) (by decide) (v := .str o.key o.kt) rfl ?_; refine aJ (ck ?_)
  refine cz ?_;rw [hkey];show Go h0 o0 ((_ :: _ :: _ :: _ :: _ :: _ :: _ :: G) ++ (T ++ wr uX w i t V)) _;refine Go.sIn (qS B W hh (by exact (a9 0x72919dbb1e8353ea5c 0) x6) S (by exact (bD 0x79134d01c39f490980 0) hk) (by exact (bD 0x790b8064f0473cb7d0 0) hm) hu0 hp fun t2 z6 h6 => Go.sOut ?_);rw [show (if u0 = e0 then kX else (dy (D0 ++ [lv]) u0).getD e0 ++ ud ":" ++ kX) = eL (D0 ++ [lv]) u0 from rfl] at h6;simp only [sN];refine aM (aH ?_);with_reducible refine gU ?_; refine qQ .here (by kernel_rfl!) .here (by kernel_rfl!) (by kernel_rfl!) ?_; refine bl (bl (aR fun _ _ => br (bF (bw (c := _ + 1 + 1) .h2 ?_)))); refine lG .h5 (gq ?_); refine lx (xs := (os0 ++ [o]).map fun o : Opn => tW o.a) (ys := os0.map fun o : Opn => tW o.a) (y := .ref o.a) (by rw [ao, az, tJ]) .h5 (by rw [ak, aw, r4, aj]; with_unfolding_all exact (bZ 0x14592de9b297e8e73e3c95b5aee1c300222e1e6 1500706519) hk x2 x1) ?_; refine aY ?_; intro _; refine bI (.new (.t6 (.there y2.app))) (by decide) (by decide) (v := .str o.nm o.nt) rfl ?_
  rw [hnm];with_reducible refine cc (by rw [z1, aj]; with_unfolding_all exact (bD 0xc485fc8367c1c5ccb8d73f26fa9a 0) x8) fun t5 => ?_; refine aR ?_; intro _ _; refine cc (by rw [am, aj]; with_unfolding_all exact (bZ 0x14b654c83169f3494b7fac1abf9e861be4a3b02 51024020491) x8 z1 z2) fun t6 => ?_; refine fE (by simp only [am, aj]; omega) fun t7 => ?_; refine aQ .here .here ?_
  refine aM (aH ?_);with_reducible refine bq (bF (aI .here .i1 (lG .h6 (gq ?_)))); refine lx (xs := (ds0 ++ [d]).map fun d : fQ => tW d.a) (ys := ds0.map fun d : fQ => tW d.a) (y := .ref d.a) (by rw [ao, az, tJ]) .h6 (by rw [ak, aw, r4, aj]; with_unfolding_all exact (bZ 0x77610305abda8dbb2c0aa136b7a9f5257506081222e1e6 1500706519) hk x2 x7) ?_
  refine aM (aH ?_);obtain ⟨h7, x4⟩ : ∃ h7, h7 = due ++ (ud "</" ++ eL (D0 ++ [lv]) u0 ++ ud ">") := ⟨_, rfl⟩;rw [← x4] at h6 ⊢;with_reducible refine bR ?_
  refine e_cl (cl := [(ud "opened", j.L + 1 + 1)]) hh (by kernel_rfl!) (by decide) rfl (by decide) ?_ (fun _ => by with_unfolding_all rfl);with_reducible refine bw .h1 ?_
  have y8 : ts.length ≤ m + 1 := by
   have e : ts.length = (bj ([dE] :: (N0 ++ [ln]))).length := by rw [← y4, ak]
   rw [e, gP];exact Nat.succ_le_succ S.tz
  obtain ⟨C1, h9⟩ : ∃ C1, C1 = lawX j i h7 t7 [] TL ts os0 ds0 qv (G ++ (T ++ wr uX w i t2 V)) := ⟨_, rfl⟩;refine (show Go h0 o0 (lawX j i h7 t7 [] TL ts os0 ds0 qv (G ++ (T ++ wr uX w i t2 V))) _ from ?_);rw [← h9];refine clI (xs := ts.map fun e : Tel => tW e.a) (fun n ys C => ys = ((ts.take n).filter fun e => decide (((e.lv : Nat) : Int) - 1 ≤ (D0.length : Int))).map (fun e : Tel => tW e.a) ∧ C = C1) ⟨rfl, rfl⟩ (by rw [ak, aj]; exact (a9 0x764552df9cb906460172cd68c3e744c4 0) hm y8) ?_ ?_ ?_
  ·rintro n ys C ⟨_, rfl⟩;rw [h9]; exact .h4
  ·rintro L2 n x ys C K' hx ⟨rfl, rfl⟩;obtain ⟨e, x9, rfl⟩ : ∃ e, ts[n]? = some e ∧ x = .ref e.a := by
    rw [sD] at hx;cases hx2 : ts[n]? with
    | none => rw [hx2] at hx; cases hx
    | some e => rw [hx2] at hx; exact ⟨e, rfl, by cases hx; rfl⟩
   have y9 := se x9;have y0 : (ts.take (n + 1)).filter (fun e => decide (((e.lv : Nat) : Int) - 1 ≤ (D0.length : Int))) = (ts.take n).filter (fun e => decide (((e.lv : Nat) : Int) - 1 ≤ (D0.length : Int))) ++ (if ((e.lv : Nat) : Int) - 1 ≤ (D0.length : Int) then [e] else []) := by
    rw [sE, x9, List.filter_append]
    congr 1
    by_cases hb : ((e.lv : Nat) : Int) - 1 ≤ (D0.length : Int) <;> simp [hb]
   have y3 : Has (C ++ K') e.a e.c := Has.app (by rw [h9]; exact .there (.there (.there (.there (.there (.there (.there (dp.tel e y9).app)))))));have y6 : Has (C ++ K') j.OP (aE (os0.map fun o => .ref o.a)) := Has.app (by rw [h9]; exact .h5);have y7 : Has (C ++ K') (j.L + 1 + 1) (aO (some (.ref j.OP))) := Has.app (by rw [h9]; exact .h2);obtain ⟨Z2, x5⟩ : ∃ Z2, Z2 = C ++ K' := ⟨_, rfl⟩;rw [← x5] at y3 y6 y7 ⊢;refine pq ?_;with_reducible refine aQ .here .new ?_
   refine kd ?_;with_reducible refine bv (br (aI .here .here (aY ?_))); intro _; refine bI (.new (.there y3)) (by decide) (by decide) (v := .int (((e.lv : Nat) : Int) - 1) e.dt) rfl ?_; refine bf ?_; refine dg (by assumption) (by kernel_rfl!) (by kernel_rfl!) (by kernel_rfl!) (by kernel_rfl!) (by decide +kernel) ?_; refine ki ?_ (by with_unfolding_all rfl) (by with_unfolding_all rfl); refine aG ?_; refine bw (.there (by with_reducible assumption)) ?_; refine aJ ?_; refine lA (.there y6) (by rw [ak, aj]; with_unfolding_all exact (bZ 0x4819703088bf04161ef4c8efd184e9db44c4 1500706519) hk x2 x1) fun tn => ?_
   rw [ak, x1];with_reducible refine o_lei (a0 ?_)
   refine dT (fun hg => ?_) fun hg => ?_
   ·have hg : ((e.lv : Nat) : Int) - 1 ≤ (D0.length : Int) := by simpa using hg
    with_reducible refine aI .here .here ?_
    refine ce0 (C' := C) ⟨?_, rfl⟩ (by rw [x5]);rw [y0, if_pos hg, ao]; rfl
   ·have hg : ¬ ((e.lv : Nat) : Int) - 1 ≤ (D0.length : Int) := by simpa using hg
    refine sl (C' := C) ⟨?_, rfl⟩ (by rw [x5]);rw [y0, if_neg hg, s7]
  ·rintro y1 ys C ⟨rfl, rfl⟩;rw [rZ (by rw [ak]; exact ah _), h9];clear h9 C;with_reducible refine il (c := j.L + 1) .h2 (by kernel_rfl!) (by kernel_rfl!) (by kernel_rfl!) ?_
   refine aM (aV ?_);obtain ⟨x3, x0⟩ : ∃ x3, x3 = ts.filter (fun e => decide (((e.lv : Nat) : Int) - 1 ≤ (D0.length : Int))) := ⟨_, rfl⟩;rw [← x0];refine Go.sel (cs' := lawX j i h7 t7 [] y1 x3 os0 ds0 qv (G ++ (T ++ wr uX w i t2 V))) (.pick .h1 (.pick .h1 (.pick .h1 (.pick .h1 (.pick .here (.pick .h1 (.pick .h1 (.tail (.there .refl))))))))) ?_;refine h D0 N0 t2 h7 t7 [] y1 x3 os0 ds0 qv T G (z3 D0 lv rfl) hT ⟨h6.mono (by exact bD 0xca71f49b32bb34 0) (ah _), ?_, st0, ?_⟩
   ·rw [x0];exact pZ y4 (by exact (a9 0x7dd20682cb9520ec0e 1734862092781) y5)
   ·exact ⟨fun e he => dp.tel e (by rw [x0] at he; exact (tw.mp he).1), fun o ho => dp.opn o (sg _ ho), fun d hd => dp.shw d (sg _ hd), dp.prs⟩
end
section
variable {j : Jd} {due : Str} {dk : Tok} {r : List (Str × uN)} {TL : uR} {ts : List Tel} {os : List Opn} {ds : List fQ} {qv : Option uN} {T Z G : aF} {D N : List (List Sp)} {k m : Nat} {Q : FP}
theorem Nx.mono (h : Nx uX w h0 o0 j i PD k m V Q) (hm : m' ≤ m) : Nx uX w h0 o0 j i PD k m' V Q := fun D N t due dk r TL ts os ds qv T G W hT I => h D N t due dk r TL ts os ds qv T G W hT (I.mono (ah _) hm)
theorem Nx.kn (h : Nx uX w h0 o0 j i PD k m V Q) : Nx uX w h0 o0 j i PD k m V (KS M A NoE env [] Q) := fun D N t due dk r TL ts os ds qv T G W hT I => aM (aV (h D N t due dk r TL ts os ds qv T G W hT I))
set_option maxHeartbeats 8000000 in
theorem c5_turn (B : Base (KF w.params) h0) (LB : LamBase h0 fO bG) (W : Wp w i) (hh : A.handled = none) (x0 : A.depth + 6 < ty) (hu : A.units + 2000 < cLine) (hT : Tb bG lamPos lamQ T) (I : In5 uX w j D N k m t due ts os ds G) (hk : k ≤ 370) (hm : m ≤ 90)
  (x7 : m ≤ m2) (x4 : ¬ (x = 2 ∧ D ≠ []) → m + 3 ≤ m2 ∧ D.length + 1 ≤ dn) (x6 : x = 2 → D ≠ [] → D.length - 1 ≤ dn ∧ 1 ≤ dn)
  (h : Nx uX w h0 o0 j i (fun D => D ≠ [] ∧ D.length ≤ dn) (k + 6) m2 V Q) :
  Go h0 o0 (lawX j i due dk [] TL ts os ds qv (G ++ (T ++ wr uX w i t V))) (uL (uM uX w) A (uG (.Name (ud "x") pos) (ca w.params j.L) (.int x ux)) (fun _ => uL (uM uX w) A (uP (lwF w.params) (ca w.params j.L)) Q NoE) NoE) := by
 have y1 : cD h0 (ud "len") (.builtin "len") := B.bltAt (by kernel_rfl!) (by kernel_rfl!) (by decide +kernel) (by decide +kernel);obtain ⟨x5, y3⟩ := I.st.len;have y0 := I.s.lz;have y2 := fm0 x (b := 4) (by decide);obtain ⟨Z, hZ⟩ : ∃ Z, Z = G ++ (T ++ wr uX w i t V) := ⟨_, rfl⟩;rw [← hZ];refine pq ?_;with_reducible refine aQ .here .j6 ?_
 refine aH ?_;with_reducible refine nw ?_ (by with_unfolding_all rfl) (by with_unfolding_all rfl); refine eh (aG (bl (aI .here .i6 (aY ?_)))); intro _; refine g2 (by decide) ?_; intro _; refine aG (bl (aI .here .i6 (aY ?_))); intro _; refine fV (by decide) (by decide) ?_; intro _; refine aJ (ed fun _ => u_2 hh .here (aQ .h1 (.nx6 .j1) ?_)); refine il (c := _ + 1 + 1 + 1) .h4 (by kernel_rfl!) (by kernel_rfl!) (by kernel_rfl!) ?_
 refine Go.sub (aq _ _) ?_;refine aM ?_;obtain ⟨QK, x3⟩ : ∃ QK, QK = KS (uM uX w) A NoE (ca w.params j.L) [] Q := ⟨_, rfl⟩;refine s_two (QK := QK) x3 ?_;have hJ : Nx uX w h0 o0 j i (fun D => D ≠ [] ∧ D.length ≤ dn) (k + 6) m2 V QK := by rw [x3]; exact h.kn
 clear x3;refine b9 ?_;refine Go.name fun C0 h9 => ?_
 refine bQ (fun b C => (b = true → x.fmod 4 < 2 ∨ D = []) ∧ (b = false → D ≠ []) ∧ C = C0) ?_ ?_
 ·rw [h9];clear h9 C0;with_reducible refine c6 (t_or (bv (aI .here (.nx6 .i1) (aY fun _ => o_lti ?_)))); refine a0 ?_
  refine dT (fun hg => ?_) fun hg => ?_
  ·exact jp ⟨fun _ => .inl (by simpa using hg), (fun q => by cases q), rfl⟩
  ·with_reducible refine t_or (bv (bw (c := _ + 1 + 1) .h2 (bd (aJ (ba ?_))))); intro _; refine o_eqn .h6 .here (by with_unfolding_all exact (a9 0x7291a27b22370cc74a 0) hu) ?_; refine a0 ?_
   refine Go.sub (aq _ _) ?_;have x2 : (os.map fun o : Opn => tW o.a).isEmpty = true ↔ D = [] := by
    rw [List.isEmpty_iff, sq, ← rT, x5, rT]
   refine dT (fun h7 => ?_) fun h7 => ?_
   ·exact jp ⟨fun _ => .inr (x2.mp h7), (fun q => by cases q), rfl⟩
   ·with_reducible refine t_or0 ?_
    exact jp ⟨(fun q => by cases q), (fun _ e => by rw [x2.mpr e] at h7; cases h7), rfl⟩
 rintro b C ⟨hb1, hb2, rfl⟩;rw [h9];clear h9 C;refine Go.thin (a := j.L) (m' := lawF j i due dk [(ud "kind", .int (x.fmod 4) _)]) .here (.cons .here (.cons .i1 (.cons .i2 (.cons .i3 (.cons .i4 (.cons .i5 (.cons (.nx6 .i1) .nil))))))) ?_;refine dT (fun h3 => ?_) fun h3 => ?_
 ·refine Go.thin (a := j.L) (m' := lawF j i due dk []) .here (.ix 88285446) ?_;refine gn (b' := jf (jU w.params)) (by kernel_rfl!) ?_;rw [hZ];have x8 : ¬ (x = 2 ∧ D ≠ []) := fun ⟨e, e2⟩ => (hb1 h3).elim (fun q => by rw [e] at q; exact absurd q (by decide)) e2
  exact rD (fun lv => ⟨by simp, by rw [aw, r4]; exact (x4 x8).2⟩) B LB W hh x0 hu hT I hk hm (hJ.mono (x4 x8).1)
 have hD := hb2 h3;have x9 : 0 < D.length := List.length_pos_iff.mpr hD;refine aH ?_;refine b9 ?_;refine Go.name fun C0 h9 => ?_
 refine bQ (fun b C => (b = true → 1 < D.length) ∧ (b = false → x = 2 → D.length ≤ 1) ∧ C = C0) ?_ ?_
 ·rw [h9];clear h9 C0;with_reducible refine c6 (b7 (bv (aI .here .i6 (aY fun _ => qE ?_)))); refine a0 ?_
  refine dT (fun hg => ?_) fun hg => ?_
  ·with_reducible refine b7 (bv (bf ?_)); refine dg (by assumption) (by kernel_rfl!) (by kernel_rfl!) (by kernel_rfl!) (by kernel_rfl!) (by decide +kernel) ?_; refine ki ?_ (by with_unfolding_all rfl) (by with_unfolding_all rfl); refine aG (bw (c := _ + 1 + 1) .h2 (aJ ?_)); refine lA .h5 (by rw [ak, aj]; with_unfolding_all exact (bZ 0xf61c2b5fe09c341d2e8855025841b44c4 1500744667) hk x5 y0) fun tn => ?_
   rw [ak, x5];with_reducible refine aY fun _ => o_gti (a0 ?_)
   refine dT (fun h7 => ?_) fun h7 => ?_
   ·have h7 : (1 : Int) < (D.length : Int) := by simpa using h7
    with_reducible refine fe ?_
    exact jp ⟨fun _ => by omega, (fun q => by cases q), rfl⟩
   ·have h7 : ¬ (1 : Int) < (D.length : Int) := by simpa using h7
    skip
    exact jp ⟨(fun q => by cases q), fun _ _ => by omega, rfl⟩
  ·exact jp ⟨(fun q => by cases q), fun _ e => by rw [e] at hg; exact absurd hg (by decide), rfl⟩
 rintro b C ⟨hb3, hb4, rfl⟩;rw [h9];clear h9 C;refine Go.thin (a := j.L) (m' := lawF j i due dk []) .here (.ix 88285446) ?_;have x1 : D.length - 1 ≤ dn ∧ (¬ (x = 2) → D.length ≤ dn) ∧ 1 ≤ dn := by
  by_cases e : x = 2
  ·have := x6 e hD;exact ⟨this.1, fun q => absurd e q, this.2⟩
  ·have := (x4 fun q => e q.1).2;exact ⟨by exact (a9 0x5d5982d2a1652 1733317287243) this, fun _ => by exact oq3 this, by exact (a9 1419064623287 0) this⟩
 refine dT (fun h4 => ?_) fun h4 => ?_
 ·refine gn (b' := jf (lw1 w.params)) (by kernel_rfl!) ?_;rw [hZ];refine c5_end (fun D0 lv e => ?_) B W hh x0 hT I hk hm (hb3 h4) ((hJ.mono x7).kn);have h5 := hb3 h4;rw [e, aw, r4] at h5 x1;exact ⟨fun q => by rw [q] at h5; simp at h5, by exact (a9 0x5d5a49d52f7fe 1734862092781) x1.1⟩
 ·refine gn (b' := ifE (lw1 w.params)) (by kernel_rfl!) ?_;rw [hZ];refine c5_data ⟨hD, ?_⟩ B hh x0 hT I hk hD ((hJ.mono x7).kn);by_cases e : x = 2
  ·have := hb4 h4 e; exact (a9 49215607955734 0) x1.2.2 this
  ·exact x1.2.1 e
end
theorem fl_eq {target : Expr} {b b' : List Stmt} {Q : FP} {v : uN} (e : b = b') (h : Go h0 o0 cs (FL uX w A env target b' h0 o0 Q v)) : Go h0 o0 cs (FL uX w A env target b h0 o0 Q v) := e ▸ h
theorem Go.deep (h : Go h0 o0 (X ++ (T ++ wr uX w i t (p :: V))) P) : Go h0 o0 (p :: (X ++ (T ++ wr uX w i t V))) P := by
 refine Go.perm ?_ h;rw [eR (V := V), eR (V := p :: V)];simp only [← av];exact sQ.symm
noncomputable def dnB (L0 n : Nat) : Nat := if n ≤ L0 then n else (2 * L0 - n - 1) + 1
section
variable {j : Jd} {due : Str} {dk : Tok} {r : List (Str × uN)} {TL : uR} {ts : List Tel} {os : List Opn} {ds : List fQ} {qv : Option uN} {T Z G : aF} {D N : List (List Sp)} {k m : Nat} {Q : VP}
set_option maxHeartbeats 8000000 in
theorem c5_fin (B : Base (KF w.params) h0) (W : Wp w i) (hh : A.handled = none) (h9 : A.depth + 6 < ty) (hT : Tb bG lamPos lamQ T) (I : In5 uX w j D N k m t due ts os ds G) (hk : k ≤ 370) (hm : m ≤ 90) (hD : D.length = 1)
  (h : ∀ T cs, Tb bG lamPos lamQ T → Go h0 o0 (T ++ cs) (Q (.bool true))) :
  Go h0 o0 (lawX j i due dk [] TL ts os ds qv (G ++ (T ++ wr uX w i t V))) (uL (uM uX w) A (uP ((lwB w.params).drop 10) (ca w.params j.L)) (fun f => Q (match f with | .ret v => v | _ => .none)) NoE) := by
 obtain ⟨S, x6, st, dp⟩ := I;have x5 := S.bz;obtain ⟨N0, ln, rfl⟩ := iX (l := N) fun e => by have := S.nz; rw [e] at this; cases this
 cases st with
 | nil hd => exact absurd hD (by decide)
 | @snoc D0 os0 ds0 lv o d u0 st0 hu0 hp hnm hkey hsh =>
  rw [aw, r4] at hD;obtain rfl : D0 = [] := rT.mp (by exact (bD 0x62a0d2111e7ec 1734816657357) hD);have x2 := st0.len.1;obtain rfl : os0 = [] := rT.mp (by rw [x2]; rfl);have x1 := dp.opn o (r6 _ aB);have x4 := gB S.dp u0;have z1 : (ud "</").length = 2 := by decide +kernel
  have z2 : (ud ">").length = 1 := by decide +kernel
  refine aH ?_;with_reducible refine bq (bF (aI .here .i2 ?_)); refine ri (by assumption) (.t6 (.there (.skip (.skip bu)))) (.t6 (.there (.skip (.skip a6)))) ?_; refine kg (by assumption) (dS (by decide +kernel)) ?_ (by with_unfolding_all rfl) (by with_unfolding_all rfl); refine aG (br (br (bw (c := _ + 1 + 1) .h2 (aY ?_)))); intro _; refine bI (xs := ([] ++ [o]).map fun o : Opn => tW o.a) (.new .h5) (by decide) (by decide) (v := .ref o.a) rfl ?_; refine aY ?_; intro _; refine bI (.new (.t6 (.there x1.app))) (by decide) (by decide) (v := .str o.key o.kt) rfl ?_; refine aJ (ck ?_)
  refine cz ?_;rw [hkey];show Go h0 o0 ((_ :: _ :: _ :: _ :: _ :: _ :: _ :: G) ++ (T ++ wr uX w i t V)) _;refine Go.sIn (qS (D := []) B W hh (by exact (a9 0x72919dbb1e8353ea5c 0) h9) S (by exact (bD 0x79134d01c39f490980 0) hk) (by exact (bD 0x790b8064f0473cb7d0 0) hm) hu0 hp fun t2 x3 h6 => Go.sOut ?_);rw [show (if u0 = e0 then kX else (dy ([] ++ [lv]) u0).getD e0 ++ ud ":" ++ kX) = eL ([] ++ [lv]) u0 from rfl] at h6;simp only [sN];refine aM (aH ?_);have h7 := h6.outE;rw [x3, tJ, dq, dv] at h7;have x0 : tot t2.out ≤ ug := by
   rw [← j0, h7];simp only [am, aj];omega
  with_reducible refine fC ?_; refine rt ?_ (by with_unfolding_all rfl); refine bF (aR fun _ _ => rj (dJ (aG (aI .here .i5 ?_)))); refine aJ ?_
  have hF : Has (lawX j i due dk [] TL ts ([] ++ [o]) (ds0 ++ [d]) qv (G ++ (T ++ wr uX w i t2 V))) i.O (aE (strValues t2.out)) := .t6 (.there (.skip (.skip wr_O)));refine nI hF (jZ x0) fun ta => ?_
  rw [show Txt.join (ud "") (t2.out.map (·.1)) = cC (t2.out.map (·.1)) from rfl, h7];with_reducible refine bl (bl (bl (aI .here .here (aR ?_)))); intro _ _; refine cc (by rw [z1, aj]; omega) fun t5 => ?_; refine br (br (bw (c := _ + 1 + 1) .h2 (aY ?_))); intro _; refine bI (xs := ([] ++ [o]).map fun o : Opn => tW o.a) (.new .h5) (by decide) (by decide) (v := .ref o.a) rfl ?_; refine aY ?_; intro _; refine bI (.new (.t6 (.there x1.app))) (by decide) (by decide) (v := .str o.nm o.nt) rfl ?_
  rw [hnm];with_reducible refine cc (by rw [am, aj]; omega) fun t6 => ?_; refine aR ?_; intro _ _; refine cc (by simp only [am, aj]; omega) fun t7 => ?_; refine g4 ?_
  rw [show (due ++ (ud "</" ++ eL ([] ++ [lv]) u0 ++ ud ">") == due ++ ud "</" ++ eL ([] ++ [lv]) u0 ++ ud ">") = true from by simp only [dD]; exact beq_self_eq_true _];show Go h0 o0 ((_ :: _ :: _ :: _ :: _ :: _ :: _ :: G) ++ (T ++ wr uX w i t2 V)) (Q (.bool true));exact Go.perm perm3 (h T _ hT)
set_option maxHeartbeats 8000000 in
theorem c5_loop {XL : uR} {xs : List uN} {L0 : Nat} {pos : Pos} (B : Base (KF w.params) h0) (LB : LamBase h0 fO bG) (W : Wp w i) (hh : A.handled = none) (h9 : A.depth + 6 < ty) (hu : A.units + 2000 < cLine) (hT : Tb bG lamPos lamQ T) (I : In5 uX w j [] [[]] 0 0 t due ts os ds G)
  (x2 : 1 ≤ L0 ∧ L0 ≤ 24) (y1 : ∀ n v, xs[n]? = some v → ∃ x u, v = uN.int x u ∧ (L0 ≤ n → x = 2)) (h7 : 2 * L0 ≤ xs.length ∧ xs.length ≤ 49)
  (h : ∀ T cs, Tb bG lamPos lamQ T → Go h0 o0 (T ++ cs) (Q (.bool true))) :
  Go h0 o0 (lawX j i due dk [] TL ts os ds qv (G ++ (T ++ wr uX w i t [(XL, aE xs)]))) (FL uX w A (ca w.params j.L) (.Name (ud "x") pos) (lwF w.params) h0 o0 (KS (uM uX w) A NoE (ca w.params j.L) ((lwB w.params).drop 10) (fun f => Q (match f with | .ret v => v | _ => .none))) (.ref XL)) := by
 refine fl0 (xs := xs) (fun n C => ∃ D N t due dk TL ts os ds qv T G, Tb bG lamPos lamQ T ∧ In5 uX w j D N (6 * n) (3 * min n L0) t due ts os ds G ∧ (1 ≤ n → D ≠ []) ∧ D.length ≤ dnB L0 n ∧ C = lawX j i due dk [] TL ts os ds qv (G ++ (T ++ wr uX w i t [(XL, aE xs)])))
  ⟨[], [[]], t, due, dk, TL, ts, os, ds, qv, T, G, hT, I.mono (tO _) (tO _), fun q => absurd q (by exact om0 1490683439 0), tO _, rfl⟩ ?_ ?_ ?_
 ·rintro n C ⟨D, N, t, due, dk, TL, ts, os, ds, qv, T, G, _, _, _, _, rfl⟩;exact .t6 (.there (.skip (.skip (d5 .here))))
 ·rintro n v C K' hv ⟨D, N, t, due, dk, TL, ts, os, ds, qv, T, G, hT, I, hne, hdn, rfl⟩ _;obtain ⟨x, ux, rfl, x8⟩ := y1 n v hv;have hn : n < xs.length := (rO.mp hv).1;simp only [sN, av, ← bN];have x3 : min (n + 1) L0 = if n < L0 then min n L0 + 1 else min n L0 := by
   split <;> omega
  have y6 : n = 0 → D.length = 0 := fun e => by
   unfold dnB at hdn;rw [if_pos (by exact (a9 1496939564398 1298189) e)] at hdn;exact (a9 0x3afe2927efe2b20ec 0x71ff16c2b62bb) hdn e
  refine c5_turn (dn := dnB L0 (n + 1)) (m2 := 3 * min (n + 1) L0) B LB W hh h9 hu hT I (by exact (a9 0x292e4fb4fd49389bc574aadc0c 1298398) h7.2 hn) (by exact (bZ 0x75e139b7c0a6318672f681472ffb5282 0x72829edda2fa1) h7.1 h7.2) (by exact a9 0x10271085e548b7d54a82 0x28f72da28779a93f1b469) (fun y2 => ?_) (fun e he => ?_) ?_
  ·have x1 : n < L0 := by
    rcases Nat.lt_or_ge n L0 with q | q
    ·exact q
    ·exact absurd ⟨x8 q, hne (by exact (a9 48219209107399 0) x2.1 q)⟩ y2
   rw [x3, if_pos x1];unfold dnB at hdn ⊢;rw [if_pos (by exact (a9 1182688606 0) x1)] at hdn;rw [if_pos (by exact (a9 1367188052302 0) x1)];exact (bZ 0x1394f2138ca2d6a14148881ffb721fa66cdc202 0x1f570e98b9295c4f40f689b34541f2) hdn
  ·unfold dnB at hdn ⊢;split at hdn <;> split <;> (first | exact (a9 0x218dfe518eec8c54ef1d2 0xf23fa39613034b) hdn | exact (bZ 0x580db28ddd4ae6c7a52590b8638234551e201546c5cc24d8307f5c2 0x11ab9b76a2b3d00fb19c0fcbe49f0fe669bccab2cd33bbea528389b0f3ecd082048c5dfd8fa430c871daa7a96c65bb3414d74ed4fc0746ffff6fa04e9b7600eab2dafad3d1b242e88196486b7165cad8880d28f126d705d0950c92ab77c3b2618a323487f80db57a004b27b1fb06a3efd00f650cb61a8512b8e6dfaaddbcfcbab89cb545e6a4a9e65d6932269b24c8cf798dbdea86af2aea9048072c67d3c59fb62e21525841d3336556bcde9ddb2dd1ec6e4494a0bf8bb7053aec8a30e2fdc20d22bc0c72b649206142c9bb539a60cd392fd701017db5dc2e4203102171d5eb6e5eb92350f8faa570b09) hdn | omega)
  ·intro D' N' t' x0 x4 r' x6 y4 y0 x9 y3 T' G' x5 x7 I';refine Go.thin (a := j.L) (m' := lawF j i x0 x4 []) .here (.ix 88285446) ?_;exact iH ⟨D', N', t', x0, x4, x6, y4, y0, x9, y3, T', G', x7, I'.mono (by exact bD 0x102773c71f9af53d214c 0) (ah _), fun _ => x5.1, x5.2, rfl⟩ (by simp only [sN, av, ← bN])
 ·rintro C ⟨D, N, t, due, dk, TL, ts, os, ds, qv, T, G, hT, I, hne, hdn, rfl⟩;have y5 : D.length = 1 := by
   have := List.length_pos_iff.mpr (hne (by exact (a9 0x1a518149bfc32bc7 0) x2.1 h7.1));unfold dnB at hdn;split at hdn <;> (first | exact (bZ 0xfb54881f542b69392ee75d0ac73de855e 0x1cf68290765cbb52082073e62b3ac6dc6a5d5f25f4f215406c0ce97e1e85b2714e4f2ac9) h7.1 this hdn | omega)
  exact aM (c5_fin B W hh h9 hT I (by exact (bD 0x489416de9eec9bbda0580c 38188) h7.2) (by exact (a9 0x75e139b7a8ce06e3e4a6838b6cf15282 0x7281c9efbee61) h7.1 h7.2) y5 h)
end
theorem tw8 (a : Args) : (Code.builtin "type.__call__" a).weight ≤ 2 := by
 have h1 : (Code.builtin "type.__call__" a).frames = 0 := by kernel_rfl!
 have h2 : (Code.builtin "type.__call__" a).isCaller = false := by kernel_rfl!
 unfold Code.weight;rw [h1, h2];split <;> split <;> simp
theorem c_cl {pos : Pos} {f : uR} {e : Expr} {rest : List Expr} {K : Frag} {Q : VP} (B : Base K h0) (hk : keepIn K (.ref f) = true) (h : Go h0 o0 cs (uL (uM uX w) A (spliced (uI pos (ue (e :: rest) env))) (fun vs => CK h0 (uL (uM uX w) A (uW (.ref f) vs) Q E)) E))
  (W : ue (e :: rest) env = (false, uU e env) :: ue rest env) (hp : (uI pos (ue rest env)).any (·.1) = false) : Go h0 o0 cs (uL (uM uX w) A (ur pos (.ref f) [] (uI pos (ue (e :: rest) env)) []) Q E) := fun s H => nf (first := []) B hk (h s H) W hp
noncomputable def qz (p : uR × List (Str × Tok)) : uR × cP := (p.1, aE (tv p.2))
theorem Go.p8 (ps : LLs) (W : vs = ps.r) (e2 : X = (ps.reverse.map qz)) (e3 : ps.v = P8.map (fun p => [p.2, p.1])) (h : ∀ ps : LLs, ps.v = P8.map (fun p => [p.2, p.1]) → Go h0 o0 ((PA, aE ps.r) :: (ps.reverse.map qz ++ C)) P) : Go h0 o0 ((PA, aE vs) :: (X ++ C)) P := by
 subst W e2;exact h ps e3
theorem Go.wAll (h : Go h0 o0 (V ++ wr uX w i t []) P) : Go h0 o0 (wr uX w i t V) P := by
 have := Go.wOut (V := []) (X := V) h;rwa [s7] at this
theorem fl_ks {target : Expr} {b r r' : List Stmt} {M : Model} {A' : uJ} {Q : FP} {v : uN} {E' : VP} (e : r = r') (h : Go h0 o0 cs (FL uX w A env target b h0 o0 (KS M A' E' env r' Q) v)) : Go h0 o0 cs (FL uX w A env target b h0 o0 (KS M A' E' env r Q) v) := e ▸ h
theorem S5.new (e : Ab.of t = Ab.new false) (hi : t.ig = 0) : S5 [] [[]] 0 0 t e0 := by
 have h1 : t.out = [] := sq.mp (show t.out.map (·.1) = [] from congrArg Ab.out e);have h2 : t.data = [] := sq.mp (show t.data.map (·.1) = [] from congrArg Ab.data e);have h3 : QS.of t = q5 [] [[]] := congrArg Ab.q e;have h4 : t.ps = [false] := congrArg Ab.ps e;refine ⟨h3, rfl, (fun p q => by cases q), List.nodup_nil, (fun p q => by cases q), h4, fun q => ?_, hi, ?_, (fun p q => by rw [h2] at q; cases q), by rw [h2]; exact tO _, by rw [h1]; exact tO _, tO _, by decide +kernel, tO _⟩
 ·exact q.elim (fun q => absurd h2 q) (fun q => absurd rfl q)
 ·rw [h1, h2]; decide +kernel
section
variable {j : Jd} {due : Str} {dk : Tok} {r : List (Str × uN)} {TL : uR} {ts : List Tel} {os : List Opn} {ds : List fQ} {qv : Option uN} {T Z G : aF} {D N : List (List Sp)} {k m : Nat}
set_option maxHeartbeats 1000000 in
theorem c_law {ns : List (Int × Tok)} (B : Base (KF w.params) h0) (LB : LamBase h0 fO bG) (H : St0 h0 o0 [(bG, cTab #[])] s) (hl : h0.IsList l (ns.map fun p => uN.int p.1 p.2).toArray) (z1 : ns.length ≤ 63)
  (x5 : A.depth + 12 < ty) (hu : A.units + 2100 < cLine) (hh : A.handled = none)
  (h : ∀ T cs, Tb bG lamPos lamQ T → Go h0 o0 (T ++ cs) (Q (.bool true))) : uL (uM uX w) A (uW (.ref iT) [.ref l]) Q E s := by
 have z0 : dh h0 (ud "C14NWriterTarget") (.ref cb) := B.glob (by kernel_rfl!) (by kernel_rfl!);have y9 : cD h0 (ud "len") (.builtin "len") := B.bltAt (by kernel_rfl!) (by kernel_rfl!) (by decide +kernel) (by decide +kernel);refine x_fnC (x := ud "script") B H (by kernel_rfl!) (by exact (a9 0x59e5ece00b36a 0) x5) (by kernel_rfl!) (by kernel_rfl!) fun L r0 R0 => ?_
 rw [show (cellsFrom (L + 1) (aZ (KF w.params) iT).scope.names []) = [(ud "q", L + 1 + 1 + 1), (ud "opened", L + 1 + 1), (ud "tellings", L + 1)] from by kernel_rfl!] at R0
 replace R0 : St h0 o0 [(L, cNs [(ud "script", .ref l)]), (L + 1 + 1 + 1, aO none), (L + 1 + 1, aO none), (L + 1, aO none), (bG, cTab #[])] r0 := R0
 refine (show Go h0 o0 _ (uL _ _ _ _ _) from ?_) r0 R0;clear R0 r0 H;obtain ⟨A1, x4⟩ : ∃ A1, A1 = A.deeper (um (aZ (KF w.params) iT) L iT) := ⟨_, rfl⟩;have x6 : A1.handled = none := by rw [x4]; exact hh
 have h7 : A1.depth + 11 < ty := by rw [x4]; show A.depth + 1 + 11 < _; (with_reducible assumption)
 have y3 : A1.units + 2000 < cLine := by rw [x4]; show A.units + 3 + 2000 < _; (exact (a9 0xed251d23bba551ad2139d28a6f3b8eeb8 0) hu)
 show Go h0 o0 _ (uL (uM uX w) (A.deeper (um (aZ (KF w.params) iT) L iT)) (uP (a7 (KF w.params) iT) (ca w.params L)) _ NoE);rw [← x4];refine Go.sel (cs' := [(L, cNs [(ud "script", .ref l)]), (L + 1, aO none), (L + 1 + 1, aO none), (L + 1 + 1 + 1, aO none), (bG, cTab #[])]) (.pick .here (.pick .h2 (.pick .h1 (.pick .here (.pick .here (.tail .refl)))))) ?_;refine aH ?_;with_reducible refine bR ?_
 refine e_upL ?_;with_reducible refine aI .here .here ?_
 refine up ?_;with_reducible refine aY ?_; intro _
 refine upk (n := 24) rfl ?_;refine cp (.old hl) (by rw [ak, aj]; (apply aP; with_reducible assumption; decide)) fun sc => ?_
 rw [← List.map_take];have W : (ns.take 24).length ≤ 24 := List.length_take_le _ _;generalize ns.take 24 = ns3 at W ⊢;with_reducible refine aQ .h1 .here (aM ?_)
 refine aH ?_;with_reducible refine bR (aR fun _ _ => aQ .h1 .j1 (aM ?_))
 refine aH ?_;repeat ((fail_if_success (with_reducible show Go _ _ _ (uL _ _ (tX _ _ _) _ _))); with_reducible refine bR ?_; with_reducible refine bd ?_; with_reducible refine aG ?_; with_reducible refine bd ?_; with_reducible refine aG ?_; with_reducible refine aR ?_; intro _ _; with_reducible refine aG ?_; with_reducible refine aR ?_; intro _ _; with_reducible refine aJ ?_; with_reducible refine ba ?_; intro _; with_reducible refine aG ?_; with_reducible refine bd ?_; with_reducible refine aG ?_; with_reducible refine aR ?_; intro _ _; with_reducible refine aG ?_; with_reducible refine aR ?_; intro _ _; with_reducible refine aJ ?_; with_reducible refine ba ?_; intro _; with_reducible refine aG ?_; with_reducible refine bd ?_; with_reducible refine aG ?_; with_reducible refine aR ?_; intro _ _; with_reducible refine aG ?_; with_reducible refine aR ?_; intro _ _; with_reducible refine aJ ?_; with_reducible refine ba ?_; intro _; with_reducible refine aG ?_; with_reducible refine bd ?_; with_reducible refine aG ?_; with_reducible refine aR ?_; intro _ _; with_reducible refine aG ?_; with_reducible refine aR ?_; intro _ _; with_reducible refine aJ ?_; with_reducible refine ba ?_; intro _; with_reducible refine aG ?_; with_reducible refine bd ?_; with_reducible refine aG ?_; with_reducible refine aR ?_; intro _ _; with_reducible refine aG ?_; with_reducible refine aR ?_; intro _ _; with_reducible refine aJ ?_; with_reducible refine ba ?_; intro _; with_reducible refine aG ?_; with_reducible refine bd ?_; with_reducible refine aG ?_; with_reducible refine aR ?_; intro _ _; with_reducible refine aG ?_; with_reducible refine aI .h6 .i1 ?_; with_reducible refine aJ ?_; with_reducible refine ba ?_; intro _; with_reducible refine aG ?_; with_reducible refine bd ?_; with_reducible refine aG ?_; with_reducible refine aR ?_; intro _ _; with_reducible refine aG ?_; with_reducible refine aI (.t6 .h1) .i1 ?_; with_reducible refine aJ ?_; with_reducible refine ba ?_; intro _; with_reducible refine aG ?_; with_reducible refine bd ?_; with_reducible refine aG ?_; with_reducible refine aR ?_; intro _ _; with_reducible refine aG ?_; with_reducible refine aR ?_; intro _ _; with_reducible refine aJ ?_; with_reducible refine ba ?_; intro _; with_reducible refine aJ ?_; with_reducible refine ba ?_; intro _)
 refine Go.p8 (X := [_, _, _, _, _, _, _, _]) [(_, [(_, _), (_, _)]), (_, [(_, _), (_, _)]), (_, [(_, _), (_, _)]), (_, [(_, _), (_, _)]), (_, [(_, _), (_, _)]), (_, [(_, _), (_, _)]), (_, [(_, _), (_, _)]), (_, [(_, _), (_, _)])] rfl rfl rfl fun ps y7 => ?_
 obtain ⟨PC, x7⟩ : ∃ PC, PC = ps.reverse.map qz := ⟨_, rfl⟩;rw [← x7];rename_i sk _ _ _ _ _ _ _ _ _ _ _ _ _ _ _ _ _ _ _ _ _ _ _ _ _ _ _ _ _ _ _ _ _ _ _ _ _ PA;with_reducible refine aQ (.there (.skip .h1)) .j2 (aM (aH (bR (bd (aJ ?_))))); refine ba fun _ => aQ (.t2 (.skip .h1)) .j3 (aM (aH (bR (bf ?_)))); refine eY (by assumption) (by kernel_rfl!) (by kernel_rfl!) (by kernel_rfl!) (by decide +kernel) ?_
 refine c_cl B (by kernel_rfl!) ?_ (by with_unfolding_all rfl) (by with_unfolding_all rfl);with_reducible refine aG ?_; refine dW ?_ (by with_unfolding_all rfl); refine aI (.t2 (.skip .h1)) .i3 ?_; refine g_app .here fun W1 => ?_; refine aJ (ck ?_)
 refine k_make (fI := rH) B (by kernel_rfl!) (by kernel_rfl!) (by kernel_rfl!) fun x dx => ?_
 rename_i O;refine c_init (O := O) B x6 (sx (sj (tw8 _) _) (by show A1.depth + 2 < _; (exact (a9 0x72919ecf3a65418b54 0) h7))) ?_ (fun s X => by with_reducible refine kp_binds X ?_; intro S; kernel_rfl!);intro i t e1 e2 y8 hg;refine ib ?_;subst e1 e2;refine Go.wAll ?_;obtain ⟨ZW, y2⟩ : ∃ ZW, ZW = wr uX w i t [] := ⟨_, rfl⟩;rw [← y2];simp only [sN, av, te];with_reducible refine aQ (.there (.skip .h1)) .j4 (aM (aH (bR (bd (aG ?_))))); refine bd (aG (eX (aY fun _ => eV fun _ => aG ?_))); refine aR fun _ _ => aG (aI (.there (.skip .h1)) .i1 (aJ (ba fun _ => aJ ?_))); refine ba ?_; intro _; refine il (.t3 (.skip .h2)) (by kernel_rfl!) (by kernel_rfl!) (by kernel_rfl!) ?_; refine aM (aH (bR (aR fun _ _ => aQ (.t3 (.skip .h1)) .j5 (aM ?_)))); refine aH (bR (bd (aJ (ba ?_)))); intro _; refine il (c := _ + 1 + 1) (.t4 (.skip .h3)) (by kernel_rfl!) (by kernel_rfl!) (by kernel_rfl!) ?_; refine aM (aH (bR (bd (aG (mT ?_))))); intro _; refine aJ (ba fun _ => aQ (.t6 (.skip .h1)) .j6 (aM (aH ?_)))
 rename_i t1 t2 _ ta TL dk _ OP dd SH;refine Go.sel (cs' := (L, cNs [(ud "script", .ref sc), (ud "schema", .str (ud "http://www.w3.org/2001/XMLSchema") sk), (ud "pairs", .ref PA), (ud "pieces", .ref i.O), (ud "writer", .ref i.x), (ud "due", .str (ud "") dk), (ud "shown", .ref SH)]) :: (L + 1, aO (some (.ref TL))) :: (L + 1 + 1, aO (some (.ref OP))) :: (L + 1 + 1 + 1, aO none) :: (TL, aE [.ref ta]) :: (OP, aE []) :: (SH, aE [.ref dd]) :: (dd, aL uX w []) :: (ta, aE [.int (-1) t1, .str (ud "xs") t2, .str (ud "http://www.w3.org/2001/XMLSchema") sk]) :: (PA, aE ps.r) :: (PC ++ ((sc, aE (ns3.map fun p => uN.int p.1 p.2)) :: (bG, cTab #[]) :: ZW))) (.pick (.t6 (.skip .h1)) (.pick (.t6 (.skip .h1)) (.pick (.t6 (.skip .h1)) (.pick (.t6 (.skip .h1)) (.pick .h3 (.pick .h2 (.pick .here (.pick .here (.pick .here (.pick .here (.tail .refl))))))))))) ?_;refine kY x6 ?_ (fun _ => by with_unfolding_all rfl);refine bl ?_;have x3 : (ns3.map fun p : Int × Tok => uN.int p.1 p.2).length = ns3.length := ak _;refine Go.name fun C0 y0 => ?_
 refine bQ (fun v C => ∃ a vs X, v = .ref a ∧ C = X ++ C0 ∧ Has C a (aE vs) ∧ vs.length = (if ns3.length = 0 then 1 else ns3.length) ∧ (∀ v ∈ vs, ∃ x u, v = uN.int x u)) ?_ ?_
 ·rw [y0];refine cO ?_;with_reducible refine bv (aI .here .here (bd (aJ (ba ?_)))); intro _; refine o_nen (.t6 (.t5 (.skip .here))) .here (by with_unfolding_all exact (a9 0x7291a27b22370cc74a 0) y3) ?_; refine a0 ?_
  refine Go.sub (aq _ _) ?_;refine dT (fun hg => ?_) fun hg => ?_
  ·with_reducible refine aI .here .here ?_
   refine jp ⟨sc, ns3.map fun p => uN.int p.1 p.2, [], rfl, rfl, by with_reducible exact .t6 (.t4 (.skip .here)), ?_, fun v hv => ?_⟩
   ·rw [x3, if_neg];intro e;rw [rT.mp e] at hg;cases hg
   ·obtain ⟨p, _, rfl⟩ := tG.mp hv;exact ⟨_, _, rfl⟩
  ·with_reducible refine bd (aG (aY fun _ => aJ (ba ?_))); intro _
   rename_i tz za;refine jp ⟨za, [.int 0 tz], [(za, aE [.int 0 tz])], rfl, rfl, .here, ?_, fun v hv => ?_⟩
   ·rw [if_pos]
    ·rfl
    ·cases ns3 with
     | nil => rfl
     | cons p r => simp at hg
   ·rw [su.mp hv]; exact ⟨_, _, rfl⟩
 rintro v C ⟨a, vs, X, rfl, rfl, hav, hvl, hvi⟩;rw [y0] at hav ⊢;with_reducible refine bl (bd (aG (aY fun _ => aJ (ba ?_)))); intro _; refine bl (bf ?_); refine dg (by assumption) (by kernel_rfl!) (by kernel_rfl!) (by kernel_rfl!) (by kernel_rfl!) (by decide +kernel) ?_; refine ki ?_ (by with_unfolding_all rfl) (by with_unfolding_all rfl); refine aG (aI (.there (.skip .here)) .here (aJ ?_)); refine lA (.there (.skip (.t6 (.t4 (.skip .here))))) (by rw [x3, aj]; with_unfolding_all exact (bD 0x9a45dc88f269757671524c4 0) W) fun tn => ?_
 rw [x3];with_reducible refine aY ?_; intro _; refine mz fun tm => ?_
 rename_i x1 l2 _;have x8 : vs.length = (if ns3.length = 0 then 1 else ns3.length) := hvl;have x9 : 1 ≤ vs.length ∧ vs.length ≤ 24 := by rw [x8]; split <;> (first | exact (om0 53233530653821 0) | omega)
 have y1 : vs.length ≤ ns3.length + 1 := by rw [x8]; split <;> (first | exact (bD 36889135 0) | exact oq5)
 have y4 : (((ns3.length : Nat) : Int) + 1).toNat = ns3.length + 1 := by omega
 with_reducible refine o_mulL .here (by omega) (by omega) (by simp; with_unfolding_all exact (bD 0x222a0ba250f7b0aa2ca48 0) W) fun l3 => ?_
 rw [y4];with_reducible refine qF (.t2 hav) .here (by rw [aj]; simp [List.length_flatten]; with_unfolding_all exact (a9 0x216110a39c2dd41e273f1e3ee2a0645020e 1298224) W y1) fun XL => ?_
 obtain ⟨xs, x2⟩ : ∃ xs, xs = vs ++ (List.replicate (ns3.length + 1) [uN.int 2 x1]).flatten := ⟨_, rfl⟩;have x0 : (List.replicate (ns3.length + 1) [uN.int 2 x1]).flatten = List.replicate (ns3.length + 1) (uN.int 2 x1) := by
  rw [List.flatten_replicate_singleton]
 have y6 : xs.length = vs.length + (ns3.length + 1) := by rw [x2, x0, aw, r7]
 have y5 : ∀ n v, xs[n]? = some v → ∃ x u, v = uN.int x u ∧ (vs.length ≤ n → x = 2) := by
  intro n v hn;rw [x2, x0, List.getElem?_append] at hn;split at hn
  ·obtain ⟨x, u, e⟩ := hvi v (se hn);exact ⟨x, u, e, fun q => by omega⟩
  ·have := se hn;rw [List.mem_replicate] at this;exact ⟨2, x1, this.2, fun _ => rfl⟩
 rw [← x2];clear x2 x0;refine Go.sub (cs' := (XL, aE xs) :: (L, cNs [(ud "script", .ref sc), (ud "schema", .str (ud "http://www.w3.org/2001/XMLSchema") sk), (ud "pairs", .ref PA), (ud "pieces", .ref i.O), (ud "writer", .ref i.x), (ud "due", .str (ud "") dk), (ud "shown", .ref SH)]) :: (L + 1, aO (some (.ref TL))) :: (L + 1 + 1, aO (some (.ref OP))) :: (L + 1 + 1 + 1, aO none) :: (TL, aE [.ref ta]) :: (OP, aE []) :: (SH, aE [.ref dd]) :: (dd, aL uX w []) :: (ta, aE [.int (-1) t1, .str (ud "xs") t2, .str (ud "http://www.w3.org/2001/XMLSchema") sk]) :: (PA, aE ps.r) :: (PC ++ ((sc, aE (ns3.map fun p => uN.int p.1 p.2)) :: (bG, cTab #[]) :: ZW))) (.cons_cons _ (.cons _ (.cons _ (rM X _)))) ?_;refine fl_eq (b' := lwF w.params) (by kernel_rfl!) ?_;refine fl_ks (r' := (lwB w.params).drop 10) (by kernel_rfl!) ?_;refine Go.thin (a := L) (m' := [(ud "due", .str (ud "") dk), (ud "shown", .ref SH), (ud "writer", .ref i.x), (ud "pairs", .ref PA), (ud "schema", .str (ud "http://www.w3.org/2001/XMLSchema") sk), (ud "pieces", .ref i.O)]) .h1 (.ix 51529302) ?_;obtain ⟨j, hj⟩ : ∃ j : Jd, j = ⟨L, OP, SH, PA, sk⟩ := ⟨_, rfl⟩;have hG : (dd, aL uX w []) :: (ta, aE [.int (-1) t1, .str (ud "xs") t2, .str (ud "http://www.w3.org/2001/XMLSchema") sk]) :: (PA, aE ps.r) :: (PC ++ ((sc, aE (ns3.map fun p => uN.int p.1 p.2)) :: (bG, cTab #[]) :: ZW)) = ((dd, aL uX w []) :: (ta, aE [.int (-1) t1, .str (ud "xs") t2, .str (ud "http://www.w3.org/2001/XMLSchema") sk]) :: (PA, aE ps.r) :: (PC ++ [(sc, aE (ns3.map fun p => uN.int p.1 p.2))])) ++ ([(bG, cTab #[])] ++ wr uX w i t []) := by
  rw [← y2]; simp only [sN, av, te]
 rw [hG];clear hG;obtain ⟨G, h9⟩ : ∃ G, G = (dd, aL uX w []) :: (ta, aE [.int (-1) t1, .str (ud "xs") t2, .str (ud "http://www.w3.org/2001/XMLSchema") sk]) :: (PA, aE ps.r) :: (PC ++ [(sc, aE (ns3.map fun p => uN.int p.1 p.2))]) := ⟨_, rfl⟩;rw [← h9];show Go h0 o0 (_ :: ((_ :: _ :: _ :: _ :: _ :: _ :: _ :: G) ++ ([(bG, cTab #[])] ++ wr uX w i t []))) _;refine Go.deep ?_;simp only [sN];have hW : Wp w i := ⟨rfl, rfl, rfl, .inl ⟨rfl, rfl⟩⟩;have hI : In5 uX w j [] [[]] 0 0 t e0 [⟨ta, 0, t1, ud "xs", t2, uS, sk⟩] [] [⟨dd, []⟩] G := by
  refine ⟨S5.new y8 hg, rfl, .nil ⟨fun u p => ⟨(fun ⟨x, q⟩ => by cases q), (fun q => by cases q)⟩, List.nodup_nil, tO _⟩, ?_⟩;refine ⟨fun e he => ?_, (fun o ho => by cases ho), fun d hd => ?_, ps, y7, ?_, fun p hp => ?_⟩
  ·rw [su.mp he, h9]; exact .h1
  ·rw [su.mp hd, h9]; exact .here
  ·rw [h9, hj]; exact .h2
  ·rw [h9, x7];exact .t3 (Has.app (Has.of_mem (tG.mpr ⟨p, sZ.mpr hp, rfl⟩)))
 have := c5_loop (j := j) (XL := XL) (due := e0) (dk := dk) (TL := TL) (qv := none) (pos := ⟨226, 8, 226, 9⟩) (Q := Q) (L0 := vs.length) B LB hW x6 (by exact (a9 0x72919ecf3a65419d64 0) h7) y3 .zero hI x9 y5 (by exact (jP 0x4798edf7c0d1251d27e9f6f1bd65a77d4d6abe6779e490bccc 0xb92655f5e67574e014807d0) W x3 x9.2 y1 y6) h;rw [hj] at this;exact this
end
end
theorem law_goodT {c : ClaimW} {cl : Str → Option uR} {mean : ExcName → Option uN} {s₁ s' : uF} (hT : TabsAt tabs s₁.heap) (H : St (ghostOf s₁.heap tabs) s₁ cs s') (h7 : ∀ q ∈ tabs, ∃ ps, s'.heap.get? q.2 = some (tabObj ps)) (hg : s₁.gens = #[]) (hr : ∀ cls, c.raises args cls = false) (hp : c.post args (.bool true) args = true) :
  GoodWG c cl mean args s₁ (.ok (.ret (.bool true))) s' := by
 have keep : ∀ b o, b ∉ tabs.map (·.2) → s₁.heap.get? b = some o → s'.heap.get? b = some o := fun b o hb e => H.keep b o (ghost_ne e hb)
 have grown : ∀ b o, b ∈ tabs.map (·.2) → s₁.heap.get? b = some o → isCodeTable s₁.heap b ∧ o = tabObj #[] ∧ ∃ ps, s'.heap.get? b = some (tabObj ps) := fun b o hb e => by
  obtain ⟨q, W, rfl⟩ := tG.mp hb;have e2 := (hT q W).2;rw [e] at e2;exact ⟨((hT q W).1.tab (hT q W).2).isCodeTable, tq e2, h7 q W⟩
 refine ⟨.inl ⟨.bool true, .bool true, [], rfl, hr, .bool true, hp, unshared_nil⟩, ⟨fun b o e => ?_, fun b o e => ?_⟩, H.os, H.gens.2 (.of_eq hg)⟩
 ·by_cases hb : b ∈ tabs.map (·.2)
  ·obtain ⟨ht, rfl, ps, hP⟩ := grown b o hb e;exact .inr (.inl ⟨ht, rfl, #[], ps, rfl, by rw [Array.empty_append]; exact hP⟩)
  ·exact .inl (keep b o hb e)
 ·by_cases hb : b ∈ tabs.map (·.2)
  ·obtain ⟨_, _, ps, hP⟩ := grown b o hb e;exact ⟨_, hP⟩
  ·exact ⟨o, keep b o hb e⟩
end Mine
open PySem PySem.W PyProof.Rows
theorem PySem.Challenge.cw_dn0277_05_holds : PySem.Challenge.rw_dn0277_05.Holds := by
 refine holds_law Mine.look fun _ => Mine.hd ?_
 intro w s₀ s₁ mg mb G Y fa o pm cd doc dV kV ho hd hcd hD hmg hg args vals as hpre hlay hrd hwl hlo
 have KX := km_in_of Y
 have hT0 : s₁.heap.get? 123 = some (tabObj #[]) := km_tabs_of Y 123 (by simp)
 have T := G.T
 have hTabs : TabsAt [(125, 123)] s₁.heap := by
  intro q hq
  rw [List.mem_singleton.mp hq]
  exact ⟨codeHd_of_K KX (by kernel_rfl!), hT0⟩
 have KG := ghost_K hTabs KX (by kernel_rfl!)
 have T2 := ghost_top hTabs T
 have hnone : (ghostOf s₁.heap [(125, 123)]).get? 123 = none := hideAll_none _ (by simp)
 have B : Mine.Base (Mine.hd.heap_1 w.params) (ghostOf s₁.heap [(125, 123)]) := ⟨KG, T2.nolimit, mb, T2.b, T2.builtins⟩
 obtain ⟨bm, ob, b1, b2, b3, b4, b5, b6⟩ := T2.bmain
 have hgP : mainGlobals ≠ 123 := by decide
 have hbP : bm ≠ 123 := fun q => by rw [q, hnone] at b3; cases b3
 have hbG : bm ≠ mainGlobals := fun q => by
  obtain ⟨o, es, ep, e, hd, _⟩ := T2.g
  rw [q, e] at b3; cases b3; rw [hd] at b6; cases b6
 have LB : Mine.LamBase (ghostOf s₁.heap [(125, 123)]) 125 123 := ⟨(codeHd_of_K KG (by kernel_rfl!)), mg, T2.g, hgP, bm, ob, b1, b2, hbG, hbP, b3, b4, b5, b6⟩
 have B1 : Mine.Base (Mine.hd.heap_1 w.params) s₁.heap := ⟨KX, T.nolimit, mb, T.b, T.builtins⟩
 have efa : fa = 185 := B1.addr (by kernel_rfl!) T.g (by kernel_rfl!) hmg
 subst efa
 wrow_args hpre hlay hrd hwl hlo
 rename_i ns _ _ _ _ _ _ _ l vs _ hL _ _ _ hI _ hcond _
 obtain ⟨ps, rfl, hps⟩ := Mine.ints_pairs hI
 have hst : Mine.St0 (ghostOf s₁.heap [(125, 123)]) s₁ [(123, Mine.cTab #[])] s₁ := by
  refine ⟨fun b o e => of_hideAll _ e, ?_, ?_, by simp, Mine.GensOk.refl, rfl, Nat.le_refl _, ?_, ?_⟩
  ·intro p hp
   rw [List.mem_singleton.mp hp]
   exact ⟨_, hT0, rfl⟩
  ·intro p hp
   rw [List.mem_singleton.mp hp]
   exact hnone
  ·intro p hp
   rw [List.mem_singleton.mp hp]
   decide
  ·obtain ⟨o, _, _, ho, _⟩ := B.ns (by kernel_rfl!)
   exact ⟨o, ho⟩
 refine wpAny_mono (Q := fun v s' => v = .bool true ∧ ∃ T cs, Mine.Tb 123 Mine.lamPos Mine.lamQ T ∧ Mine.St (ghostOf s₁.heap [(125, 123)]) s₁ (T ++ cs) s') (E := Mine.NoE) ?_ ?_ (fun _ _ q => q.elim)
 ·refine Mine.c_law B LB hst (ghost_list hTabs hL) (by rw [hps]; omega) (by decide) (by decide) rfl fun T cs hT s' H => ⟨rfl, T, cs, hT, H⟩
 ·rintro v s' ⟨rfl, T, cs, hT, H⟩
  refine Mine.law_goodT hTabs H ?_ hg (fun _ => rfl) (postW_of rfl (w_eq_bool (w_res rfl) w_lit) rfl)
  intro q hq
  rw [List.mem_singleton.mp hq]
  cases hT with
  | zero => obtain ⟨o, ho, rfl⟩ := H.get (.here); exact ⟨_, ho⟩
  | one => obtain ⟨o, ho, rfl⟩ := H.get (.there .here); exact ⟨_, ho⟩

import PyProof.Rows.All
import Wide.All
import OpenK.AllK
import Wide.FinOn
import KE.BitLaws
import KE.IntBitsLaws
import PyProof.Rows.BitMore
import KE.KIntText
import KE.KTabLook
import PyProof.StrLawsIn
import PyProof.LetGo
import PyProof.Rows.StrTemp
import PyProof.SliceMore
import KE.KRevSl
import PyProof.CompUse
import PyProof.ZipIter
import PyProof.ListRange
import PyProof.StrLawsTight
import PyProof.StrLawsChain
import PyProof.Rows.ReprOcc
import PyProof.StrCalls2
import Lean
import PySem.Challenge.RW_ph0118_01
set_option Elab.async false
namespace Mine
section
open PySem PySem.W PyProof.Rows
set_option maxRecDepth 100000 in
set_option maxHeartbeats 8000000 in
open_top hd for PySem.Challenge.rw_ph0118_01
end
end Mine
namespace Mine
section
open PySem PySem.W PySem.Calls PySem.Spec PyProof.Rows
set_option maxRecDepth 100000

noncomputable abbrev PR : Program := PySem.Challenge.rw_ph0118_01.row.prog

/- all but the two tables of nested code is kept -/
noncomputable def Keep (h h' : Heap) : Prop := ∀ (b : Nat) o, b ≠ 54 → b ≠ 47 → h.get? b = some o → h'.get? b = some o
theorem Keep.refl (h : Heap) : Keep h h := fun _ _ _ _ e => e
theorem Keep.trans {a b c : Heap} (x : Keep a b) (y : Keep b c) : Keep a c := fun p o h1 h2 e => y p o h1 h2 (x p o h1 h2 e)
theorem Keep.of {h h' : Heap} (k : ∀ b o, h.get? b = some o → h'.get? b = some o) : Keep h h' := fun b o _ _ e => k b o e

noncomputable def TabOk (h : Heap) (P : Addr) (line : Int) (qual : Str) : Prop :=
  h.get? P = some (tabObj #[]) ∨ ∃ c, h.get? P = some (tabObj #[rawInt line, rawInt 4, .ref c]) ∧ 58 < c ∧ h.CodeRec (.ref c) qual

noncomputable abbrev inQ1 : Str := Str.ofString "_int2digits" ++ ".<locals>." ++ Str.ofString "inner"
noncomputable abbrev inQ2 : Str := Str.ofString "_digits2int" ++ ".<locals>." ++ Str.ofString "inner"
structure Tb (h : Heap) : Prop where
  a : TabOk h 47 33 inQ1
  b : TabOk h 54 48 inQ2

structure Wd (w : World) (mg mb : Str → Option Value) (h : Heap) : Prop where
  K : (hd.heap_39 w.params).In h
  g : h.Ns mainGlobals mg
  b : h.Ns builtinsNs mb
  nolimit : h.NoLimit
  nodigits : ∃ mc, h.Ns cStatics mc ∧ mc "sys.int_max_str_digits" = none
  bu : ∀ x : Str, x ≠ "__name__" → mb x = bootBuiltins x
  bm : ∃ bm ob, mg "__builtins__" = some (.ref bm) ∧ bm ≠ builtinsNs ∧ h.get? bm = some ob ∧ ob.cls = .type "module" ∧ ob.dict = some builtinsNs ∧ ob.data = .plain
  c1 : CodeHd h 58 54
  c2 : CodeHd h 51 47
  t1 : ∃ ps, h.get? 54 = some (tabObj ps)
  t2 : ∃ ps, h.get? 47 = some (tabObj ps)

theorem keyNe (P : Params) : ((hd.heap_39 P).map (·.1)).all (fun a => a != 54 && a != 47) = true := by rfl
theorem lookup_key {K : Frag} {a : Addr} {o : Obj} (e : K.lookup a = some o) : a ∈ K.map (·.1) := List.mem_map.mpr ⟨_, mem_of_lookupK e, rfl⟩
theorem key_ne {P : Params} {a : Addr} {o : Obj} (e : (hd.heap_39 P).lookup a = some o) : a ≠ 54 ∧ a ≠ 47 := by
  have := List.all_eq_true.mp (keyNe P) a (lookup_key e)
  simpa using this
theorem Ns.keep {h h' : Heap} {a : Nat} {m : Str → Option Value} (x : h.Ns a m) (k : Keep h h') (h1 : a ≠ 54) (h2 : a ≠ 47) : h'.Ns a m :=
  let ⟨o, es, ep, e, r⟩ := x; ⟨o, es, ep, k _ _ h1 h2 e, r⟩

section
variable {w : World} {mg mb : Str → Option Value} {h h' h₀ : Heap}
theorem Wd.keep (x : Wd w mg mb h) (k : Keep h h') (t : Tb h') : Wd w mg mb h' where
  K := fun a o e => k _ _ (key_ne e).1 (key_ne e).2 (x.K a o e)
  g := Ns.keep x.g k (by decide) (by decide)
  b := Ns.keep x.b k (by decide) (by decide)
  nolimit := let ⟨mc, a, r⟩ := x.nolimit; ⟨mc, Ns.keep a k (by decide) (by decide), r⟩
  nodigits := let ⟨mc, a, r⟩ := x.nodigits; ⟨mc, Ns.keep a k (by decide) (by decide), r⟩
  bu := x.bu
  bm := by
    obtain ⟨bm, ob, a1, a2, a3, a4, r⟩ := x.bm
    obtain ⟨p1, t1⟩ := x.t1
    obtain ⟨p2, t2⟩ := x.t2
    refine ⟨bm, ob, a1, a2, k _ _ (fun q => ?_) (fun q => ?_) a3, a4, r⟩
    · rw [q, t1] at a3; cases a3; cases a4
    · rw [q, t2] at a3; cases a3; cases a4
  c1 := let ⟨o, vs, file, tf, flags, tg, inF, text, tt, e, r⟩ := x.c1; ⟨o, vs, file, tf, flags, tg, inF, text, tt, k _ _ (by decide) (by decide) e, r⟩
  c2 := let ⟨o, vs, file, tf, flags, tg, inF, text, tt, e, r⟩ := x.c2; ⟨o, vs, file, tf, flags, tg, inF, text, tt, k _ _ (by decide) (by decide) e, r⟩
  t1 := match t.b with | .inl e => ⟨_, e⟩ | .inr ⟨_, e, _⟩ => ⟨_, e⟩
  t2 := match t.a with | .inl e => ⟨_, e⟩ | .inr ⟨_, e, _⟩ => ⟨_, e⟩
theorem Wd.size (x : Wd w mg mb h) : 58 < h.objs.size := let ⟨_, _, _, _, _, _, _, _, _, e, _⟩ := x.c1; Heap.lt_size e

/- the same world beside heap and tokens -/
noncomputable def Same (s s' : Shared) : Prop := ∃ h tk, s' = { s with heap := h, toks := tk }
theorem Same.refl (s : Shared) : Same s s := ⟨s.heap, s.toks, rfl⟩
theorem Same.trans {a b c : Shared} (x : Same a b) (y : Same b c) : Same a c := by
  obtain ⟨h, tk, rfl⟩ := x; obtain ⟨h', tk', rfl⟩ := y; exact ⟨h', tk', rfl⟩
theorem Same.set (s : Shared) (h : Heap) (tk : Nat) : Same s { s with heap := h, toks := tk } := ⟨h, tk, rfl⟩

/- what is known of the names of the frame: the names, and a value or nothing for each -/
inductive At : List Str → List (Option Value) → Str → Value → Prop
  | head {x ns v vs} : At (x :: ns) (some v :: vs) x v
  | tail {y ns o vs x v} : At ns vs x v → At (y :: ns) (o :: vs) x v
inductive Put : List Str → List (Option Value) → Str → Value → List (Option Value) → Prop
  | head {x ns v o vs} : Put (x :: ns) (o :: vs) x v (some v :: vs)
  | tail {y ns o vs x v vs'} : Put ns vs x v vs' → Put (y :: ns) (o :: vs) x v (o :: vs')
inductive Le : List (Option Value) → List (Option Value) → Prop
  | nil : Le [] []
  | none {o vs vs'} : Le vs vs' → Le (none :: vs) (o :: vs')
  | same {o vs vs'} : Le vs vs' → Le (o :: vs) (o :: vs')
noncomputable def HasAll (m : Str → Option Value) : List Str → List (Option Value) → Prop
  | x :: ns, o :: vs => (∀ v, o = some v → m x = some v) ∧ HasAll m ns vs
  | [], [] => True
  | _, _ => False
theorem HasAll.at {m : Str → Option Value} {ns vs x v} (k : At ns vs x v) (h : HasAll m ns vs) : m x = some v := by
  induction k with
  | head => exact h.1 _ rfl
  | tail _ ih => exact ih h.2
theorem HasAll.le {m : Str → Option Value} {vs vs'} (k : Le vs vs') : ∀ {ns}, HasAll m ns vs' → HasAll m ns vs := by
  induction k with
  | nil => exact fun h => h
  | none _ ih => intro ns h; cases ns with | nil => exact h | cons x ns => exact ⟨(fun v e => nomatch e), ih h.2⟩
  | same _ ih => intro ns h; cases ns with | nil => exact h | cons x ns => exact ⟨h.1, ih h.2⟩
theorem Put.mem {ns vs x v vs'} (k : Put ns vs x v vs') : x ∈ ns := by
  induction k with
  | head => exact .head _
  | tail _ ih => exact .tail _ ih
theorem At.mem {ns vs x v} (k : At ns vs x v) : x ∈ ns := by
  induction k with
  | head => exact .head _
  | tail _ ih => exact .tail _ ih
theorem HasAll.other {m : Str → Option Value} {x : Str} {v : Value} : ∀ {ns vs}, x ∉ ns → HasAll m ns vs → HasAll (fun y => if y = x then some v else m y) ns vs
  | [], [], _, h => h
  | y :: ns, o :: vs, hn, h => ⟨fun u e => by
      have : y ≠ x := fun q => hn (q ▸ List.mem_cons_self)
      simp only [if_neg this]; exact h.1 u e, HasAll.other (fun q => hn (List.mem_cons_of_mem _ q)) h.2⟩
  | [], _ :: _, _, h => h
  | _ :: _, [], _, h => h
theorem HasAll.put {m : Str → Option Value} {ns vs x v vs'} (k : Put ns vs x v vs') (nd : ns.Nodup) (h : HasAll m ns vs) : HasAll (fun y => if y = x then some v else m y) ns vs' := by
  induction k with
  | head => exact ⟨fun u e => by cases e; exact if_pos rfl, HasAll.other (List.nodup_cons.mp nd).1 h.2⟩
  | @tail y ns o vs x v vs' k ih =>
    have hy : y ≠ x := fun q => (List.nodup_cons.mp nd).1 (q ▸ k.mem)
    exact ⟨fun u e => by simp only [if_neg hy]; exact h.1 u e, ih (List.nodup_cons.mp nd).2 h.2⟩

noncomputable abbrev tupO (vs : List Value) : Obj := { cls := .type "tuple", data := .seq vs.toArray }
noncomputable abbrev lstO (vs : List Value) (n : Nat) : Obj := { cls := .type "list", data := .seq vs.toArray n }
/- what is known of an object -/
inductive Knd
  | tup (vs : List Value)
  | lst (vs : List Value)
  | cell (v : Option Value)
  | it (l : Nat) (i : Nat)
  | obj (o : Obj)
  | code (q : Str)
  | prp (P : Obj → Prop)
  | old (k : Knd)
noncomputable def Knd.ok : Knd → Obj → Prop
  | .tup vs, o => o.cls = .type "tuple" ∧ ∃ n, o.data = .seq vs.toArray n
  | .lst vs, o => ∃ n, o = lstO vs n
  | .cell v, o => o.data = .cell v
  | .it l i, o => o.cls = .type "list_iterator" ∧ o.data = .fields #[.ref l, .int i 0]
  | .obj x, o => o = x
  | .code q, o => ∃ vs t, o.data = .fields vs ∧ vs[1]? = some (.str q t)
  | .prp P, o => P o
  | .old k, o => k.ok o
/- made in the call -/
noncomputable def Knd.isNew : Knd → Bool
  | .old _ => false
  | _ => true
noncomputable def Is (h : Heap) (a : Nat) (k : Knd) : Prop := ∃ o, h.get? a = some o ∧ k.ok o
theorem Is.keep {h h' : Heap} {a : Nat} {k : Knd} (x : Is h a k) (hk : ∀ o, h.get? a = some o → h'.get? a = some o) : Is h' a k := let ⟨o, e, r⟩ := x; ⟨o, hk o e, r⟩
theorem Is.tup {h : Heap} {a : Nat} {vs : List Value} (x : Is h a (.tup vs)) : IsTup h a vs.toArray := x
theorem Is.lst {h : Heap} {a : Nat} {vs : List Value} (x : Is h a (.lst vs)) : h.IsList a vs.toArray := let ⟨_, e, n, r⟩ := x; ⟨_, e, by rw [r], n, by rw [r]⟩
theorem Is.toLst {h : Heap} {a : Nat} {vs : List Value} {n : Nat} (x : Is h a (.obj (lstO vs n))) : Is h a (.lst vs) := let ⟨o, e, r⟩ := x; ⟨o, e, n, r⟩
theorem Is.cell {h : Heap} {a : Nat} {v : Option Value} (x : Is h a (.cell v)) : h.IsCell a v := x
theorem Is.code {h : Heap} {a : Nat} {q : Str} (x : Is h a (.code q)) : h.CodeRec (.ref a) q := let ⟨o, e, vs, t, r⟩ := x; ⟨a, o, vs, t, rfl, e, r⟩
theorem Is.unold {h : Heap} {a : Nat} {k : Knd} (x : Is h a (.old k)) : Is h a k := x
theorem Is.old {h : Heap} {a : Nat} {k : Knd} (x : Is h a k) : Is h a (.old k) := x
theorem Is.lt {h : Heap} {a : Nat} {k : Knd} (x : Is h a k) : a < h.objs.size := let ⟨_, e, _⟩ := x; Heap.lt_size e
theorem Is.obj {h : Heap} {a : Nat} {o : Obj} (x : Is h a (.obj o)) : h.get? a = some o := let ⟨_, e, r⟩ := x; r ▸ e
/- no code record -/
noncomputable def Knd.plain : Knd → Prop
  | .obj o => ∀ vs q t, o.data = .fields vs → vs[1]? ≠ some (.str q t)
  | .code _ => False
  | .prp P => ∀ o, P o → ∀ vs q t, o.data = .fields vs → vs[1]? ≠ some (.str q t)
  | .old k => k.plain
  | _ => True
theorem Knd.plain_ok {k : Knd} (hk : k.plain) {o : Obj} (h : k.ok o) {vs : Array Value} {q : Str} {t : Tok} (hd : o.data = .fields vs) : vs[1]? ≠ some (.str q t) := by
  induction k with
  | tup xs => obtain ⟨_, n, e⟩ := h; rw [e] at hd; cases hd
  | lst xs => obtain ⟨n, e⟩ := h; rw [e] at hd; cases hd
  | cell v => have e : o.data = .cell v := h; rw [e] at hd; cases hd
  | it l i =>
    obtain ⟨_, e⟩ := h
    rw [e] at hd; cases hd
    intro x; simp at x
  | obj x => have e : o = x := h; subst e; exact hk vs q t hd
  | code q => exact hk.elim
  | prp P => exact hk o h vs _ _ hd
  | old k ih => exact ih hk h
inductive UpdK (a : Nat) (k k' : Knd) : List (Nat × Knd) → List (Nat × Knd) → Prop
  | head {r} : (∀ p ∈ r, p.1 ≠ a) → UpdK a k k' ((a, k) :: r) ((a, k') :: r)
  | tail {p r r'} : p.1 ≠ a → UpdK a k k' r r' → UpdK a k k' (p :: r) (p :: r')
theorem UpdK.mem {a k k' l l'} (U : UpdK a k k' l l') : (a, k) ∈ l := by
  induction U with
  | head _ => exact .head _
  | tail _ _ ih => exact .tail _ ih
theorem UpdK.cases {a k k' l l'} (U : UpdK a k k' l l') : ∀ p ∈ l', p = (a, k') ∨ (p ∈ l ∧ p.1 ≠ a) := by
  induction U with
  | head h => intro p hp; rcases List.mem_cons.mp hp with rfl | hp; exact .inl rfl; exact .inr ⟨.tail _ hp, h p hp⟩
  | tail h _ ih =>
    intro p hp
    rcases List.mem_cons.mp hp with rfl | hp
    · exact .inr ⟨.head _, h⟩
    · rcases ih p hp with e | ⟨e, e'⟩
      · exact .inl e
      · exact .inr ⟨.tail _ e, e'⟩
/- an address behind all of the heap -/
noncomputable def Fresh (h : Heap) (a : Nat) : Prop := h.objs.size ≤ a
noncomputable def LtAll (t : Nat) : List (Nat × Knd) → Prop
  | [] => True
  | p :: r => p.1 < t ∧ LtAll t r
theorem LtAll.of {t : Nat} : ∀ {l : List (Nat × Knd)}, (∀ p ∈ l, p.1 < t) → LtAll t l
  | [], _ => trivial
  | p :: _, h => ⟨h p (.head _), LtAll.of fun q hq => h q (.tail _ hq)⟩
noncomputable def NeAll (t : Nat) : List (Nat × Knd) → Prop
  | [] => True
  | p :: r => p.1 ≠ t ∧ NeAll t r
theorem NeAll.of {t : Nat} : ∀ {l : List (Nat × Knd)}, (∀ p ∈ l, p.1 ≠ t) → NeAll t l
  | [], _ => trivial
  | p :: _, h => ⟨h p (.head _), NeAll.of fun q hq => h q (.tail _ hq)⟩
theorem LtAll.get {t : Nat} : ∀ {l : List (Nat × Knd)}, LtAll t l → ∀ p ∈ l, p.1 < t
  | _ :: _, h, _, .head _ => h.1
  | _ :: _, h, q, .tail _ hq => LtAll.get h.2 q hq
/- what is fixed of a def's names -/
structure Nm (mg : Str → Option Value) (cs : Scope) (locs : List Str) (globs : List (Str × Value)) : Prop where
  kf : cs.kind = .function
  nd : locs.Nodup
  kl : ∀ x ∈ locs, cs.names.lookup x = some .local ∧ (x == ("__debug__" : Str)) = false
  kg : ∀ p ∈ globs, cs.names.lookup p.1 = some .globalImplicit ∧ (p.1 == ("__debug__" : Str)) = false ∧ (mg p.1 = some p.2 ∨ (mg p.1 = none ∧ bootBuiltins p.1 = some p.2 ∧ p.1 ≠ "__name__"))

structure St (w : World) (mg mb : Str → Option Value) (s₀ : Shared) (L : Nat) (cs : Scope) (locs : List Str) (globs : List (Str × Value)) (vals : List (Option Value)) (news : List (Nat × Knd)) (s : Shared) : Prop where
  same : Same s₀ s
  wd : Wd w mg mb s₀.heap
  nm : Nm mg cs locs globs
  ns : ∃ m, s.heap.Ns L m ∧ HasAll m locs vals
  keep : Keep s₀.heap s.heap
  above : s₀.heap.objs.size ≤ L
  N : ∀ p ∈ news, Is s.heap p.1 p.2 ∧ p.1 ≠ L ∧ 58 < p.1 ∧ (p.2.isNew = true → s₀.heap.get? p.1 = none)
  tb : Tb s.heap
end

section
variable {w : World} {mg mb : Str → Option Value} {s₀ s s' : Shared} {L : Nat} {cs : Scope} {locs : List Str} {globs : List (Str × Value)} {vals vals' : List (Option Value)} {news news' : List (Nat × Knd)}

theorem TabOk.same {h h' : Heap} {P b : Nat} {line : Int} {q : Str} (x : TabOk h P line q) (hs : Heap.SameBut b h h') (hP : P ≠ b)
    (hb : ∀ o vs t, h.get? b = some o → o.data = .fields vs → vs[1]? ≠ some (.str q t)) : TabOk h' P line q := by
  rcases x with e | ⟨c, e, hc, c', o, vs, t, e2, e3, e4, e5⟩
  · exact .inl ((hs.2 P hP).trans e)
  · cases e2
    have hcb : c ≠ b := fun q => hb o vs t (q ▸ e3) e4 e5
    exact .inr ⟨c, (hs.2 P hP).trans e, hc, c, o, vs, t, rfl, (hs.2 c hcb).trans e3, e4, e5⟩
theorem Tb.same {h h' : Heap} {b : Nat} (x : Tb h) (hs : Heap.SameBut b h h') (h58 : 58 < b) (hb : ∀ o vs q t, h.get? b = some o → o.data = .fields vs → vs[1]? ≠ some (.str q t)) : Tb h' :=
  ⟨x.a.same hs (Nat.ne_of_lt (Nat.lt_trans (by decide) h58)) fun o vs t => hb o vs _ t, x.b.same hs (Nat.ne_of_lt (Nat.lt_trans (by decide) h58)) fun o vs t => hb o vs _ t⟩
theorem TabOk.keeps {h h' : Heap} {P : Addr} {line : Int} {q : Str} (x : TabOk h P line q) (k : ∀ b o, h.get? b = some o → h'.get? b = some o) : TabOk h' P line q := by
  rcases x with e | ⟨c, e, hc, r⟩
  · exact .inl (k _ _ e)
  · exact .inr ⟨c, k _ _ e, hc, r.keeps k⟩
theorem Tb.keeps {h h' : Heap} (x : Tb h) (k : ∀ b o, h.get? b = some o → h'.get? b = some o) : Tb h' := ⟨x.a.keeps k, x.b.keeps k⟩

namespace St
theorem ltL (S : St w mg mb s₀ L cs locs globs vals news s) : @LT.lt Nat _ L s.heap.objs.size := let ⟨_, n, _⟩ := S.ns; n.lt
theorem big (S : St w mg mb s₀ L cs locs globs vals news s) : 58 < L := Nat.lt_of_lt_of_le S.wd.size S.above
theorem cur (S : St w mg mb s₀ L cs locs globs vals news s) : Wd w mg mb s.heap := S.wd.keep S.keep S.tb
theorem tok (S : St w mg mb s₀ L cs locs globs vals news s) (t : Nat) : St w mg mb s₀ L cs locs globs vals news { s with toks := t } :=
  ⟨S.same.trans ⟨s.heap, t, rfl⟩, S.wd, S.nm, S.ns, S.keep, S.above, S.N, S.tb⟩
theorem le (S : St w mg mb s₀ L cs locs globs vals news s) (k : Le vals' vals) : St w mg mb s₀ L cs locs globs vals' news s :=
  ⟨S.same, S.wd, S.nm, let ⟨m, n, x⟩ := S.ns; ⟨m, n, x.le k⟩, S.keep, S.above, S.N, S.tb⟩
theorem sub (S : St w mg mb s₀ L cs locs globs vals news s) (k : ∀ p ∈ news', p ∈ news) : St w mg mb s₀ L cs locs globs vals news' s :=
  ⟨S.same, S.wd, S.nm, S.ns, S.keep, S.above, fun p hp => S.N p (k p hp), S.tb⟩
theorem lt (S : St w mg mb s₀ L cs locs globs vals news s) {a : Nat} {k : Knd} (hp : (a, k) ∈ news) : a < s.heap.objs.size := let ⟨_, e, _⟩ := (S.N _ hp).1; Heap.lt_size e
theorem get (S : St w mg mb s₀ L cs locs globs vals news s) {a : Nat} {k : Knd} (hp : (a, k) ∈ news) : Is s.heap a k := (S.N _ hp).1
/- a call or anything else that keeps all but the tables -/
theorem call (S : St w mg mb s₀ L cs locs globs vals news s) (e : Same s s') (k : Keep s.heap s'.heap) (t : Tb s'.heap) : St w mg mb s₀ L cs locs globs vals news s' := by
  have hL := S.big
  obtain ⟨m, n, x⟩ := S.ns
  refine ⟨S.same.trans e, S.wd, S.nm, ⟨m, Ns.keep n k (Nat.ne_of_gt (Nat.lt_trans (by decide) hL)) (Nat.ne_of_gt (Nat.lt_trans (by decide) hL)), x⟩, S.keep.trans k, S.above, fun p hp => ?_, t⟩
  obtain ⟨h1, h2, h3⟩ := S.N p hp
  have h4 := h3.1
  exact ⟨h1.keep fun o => k _ o (Nat.ne_of_gt (Nat.lt_trans (by decide) h4)) (Nat.ne_of_gt (Nat.lt_trans (by decide) h4)), h2, h3⟩
theorem add (S : St w mg mb s₀ L cs locs globs vals news s) {a : Nat} {k : Knd} (e : Is s.heap a k) (h1 : L < a) : St w mg mb s₀ L cs locs globs vals ((a, k) :: news) s :=
  ⟨S.same, S.wd, S.nm, S.ns, S.keep, S.above, fun p hp => by
    have h2 := S.big
    have h3 := S.above
    rcases List.mem_cons.mp hp with rfl | hp
    · exact ⟨e, Nat.ne_of_gt h1, Nat.lt_trans h2 h1, fun _ => Heap.get?_none_of_le (Nat.le_trans h3 (Nat.le_of_lt h1))⟩
    · exact S.N p hp, S.tb⟩
theorem freshOf (S : St w mg mb s₀ L cs locs globs vals news s) {a : Nat} (h : Fresh s.heap a) : L < a ∧ LtAll a news :=
  ⟨Nat.lt_of_lt_of_le S.ltL h, LtAll.of fun _ hp => Nat.lt_of_lt_of_le (S.lt hp) h⟩
theorem fr (S : St w mg mb s₀ L cs locs globs vals news s) {a : Nat} (h : L < a) : Fresh s₀.heap a := Nat.le_trans S.above (Nat.le_of_lt h)
theorem new (S : St w mg mb s₀ L cs locs globs vals news s) {a : Nat} {k : Knd} (h : (a, k) ∈ news) (hn : k.isNew = true := by rfl) : s₀.heap.get? a = none ∧ 58 < a := ⟨(S.N _ h).2.2.2 hn, (S.N _ h).2.2.1⟩
theorem addOld (S : St w mg mb s₀ L cs locs globs vals news s) {a : Nat} {k : Knd} (e : Is s.heap a k) (h1 : a ≠ L) (h2 : 58 < a) : St w mg mb s₀ L cs locs globs vals ((a, .old k) :: news) s :=
  ⟨S.same, S.wd, S.nm, S.ns, S.keep, S.above, fun p hp => by rcases List.mem_cons.mp hp with rfl | hp; exact ⟨e, h1, h2, fun q => nomatch q⟩; exact S.N p hp, S.tb⟩
theorem base (S : St w mg mb s₀ L cs locs globs vals news s) {a : Nat} {k : Knd} (e : Is s₀.heap a k) (h2 : 58 < a) : St w mg mb s₀ L cs locs globs vals ((a, .old k) :: news) s :=
  S.addOld (e.keep fun o => S.keep a o (Nat.ne_of_gt (Nat.lt_trans (by decide) h2)) (Nat.ne_of_gt (Nat.lt_trans (by decide) h2))) (Nat.ne_of_lt (Nat.lt_of_lt_of_le e.lt S.above)) h2
theorem got (S : St w mg mb s₀ L cs locs globs vals news s) {a : Nat} {kd : Knd} (e : Same s s') (k : Keep s.heap s'.heap) (t : Tb s'.heap) (hf : Fresh s.heap a) (hg : Is s'.heap a kd) : St w mg mb s₀ L cs locs globs vals ((a, kd) :: news) s' :=
  (S.call e k t).add hg (S.freshOf hf).1
theorem newAddr (_S : St w mg mb s₀ L cs locs globs vals news s) : Fresh s.heap s.heap.objs.size := Nat.le_refl _
theorem push (S : St w mg mb s₀ L cs locs globs vals news s) (o : Obj) {kd : Knd} (hk : kd.ok o) (hf : o.isFreed = false := by rfl) : St w mg mb s₀ L cs locs globs vals ((s.heap.objs.size, kd) :: news) { s with heap := s.heap.push o } := by
  have k : ∀ b o', s.heap.get? b = some o' → (s.heap.push o).get? b = some o' := fun b o' e => Heap.get?_push_of_some _ e
  exact S.got (s' := { s with heap := s.heap.push o }) ⟨_, _, rfl⟩ (Keep.of k) (S.tb.keeps k) S.newAddr ⟨o, Heap.get?_push_size _ hf, hk⟩
theorem set (S : St w mg mb s₀ L cs locs globs vals news s) {x : Str} {v : Value} {m : Str → Option Value} {h' : Heap} {t : Nat} (hm : s.heap.Ns L m) (hx : HasAll m locs vals) (P : Put locs vals x v vals')
    (hn : h'.Ns L (fun y => if y = x then some v else m y)) (hs : Heap.SameBut L s.heap h') : St w mg mb s₀ L cs locs globs vals' news { s with heap := h', toks := t } := by
  have hL := S.big
  refine ⟨S.same.trans ⟨_, _, rfl⟩, S.wd, S.nm, ⟨_, hn, hx.put P S.nm.nd⟩, fun b o h1 h2 e => ?_, S.above, fun p hp => ?_, S.tb.same hs hL fun o vs q t e hd => ?_⟩
  · have hk := S.keep b o h1 h2 e
    have h3 : @LT.lt Nat _ b s₀.heap.objs.size := Heap.lt_size e
    have h4 := S.above
    exact (hs.2 b (Nat.ne_of_lt (Nat.lt_of_lt_of_le h3 h4))).trans hk
  · have := S.N p hp
    exact ⟨this.1.keep fun o e => (hs.2 p.1 this.2.1).trans e, this.2⟩
  · obtain ⟨o', es, ep, e', hd', _⟩ := hm
    rw [e'] at e; cases e; rw [hd'] at hd; cases hd
/- one object of the ledger is changed -/
theorem upd (S : St w mg mb s₀ L cs locs globs vals news s) {a : Nat} {k k' : Knd} {h' : Heap} {t : Nat} (U : UpdK a k k' news news') (hs : Heap.SameBut a s.heap h') (ho : Is h' a k') (hp : k.plain) (hn : k.isNew = true := by rfl) : St w mg mb s₀ L cs locs globs vals news' { s with heap := h', toks := t } := by
  obtain ⟨hma, ha, _⟩ := S.N (a, k) U.mem
  have ha : a ≠ L := ha
  have hfr := S.new U.mem hn
  have hma : Is s.heap a k := hma
  obtain ⟨m, n, x⟩ := S.ns
  refine ⟨S.same.trans ⟨_, _, rfl⟩, S.wd, S.nm, ⟨m, n.sameBut hs (fun q => ha q.symm), x⟩, fun b o h1 h2 e => ?_, S.above, fun p hp => ?_, S.tb.same hs hfr.2 fun o'' vs q t e hd => ?_⟩
  · have hk := S.keep b o h1 h2 e
    exact (hs.2 b (by intro q; subst q; rw [hfr.1] at e; cases e)).trans hk
  · rcases U.cases p hp with rfl | ⟨hp, hne⟩
    · exact ⟨ho, ha, hfr.2, fun _ => hfr.1⟩
    · have := S.N p hp
      exact ⟨this.1.keep fun o e => (hs.2 p.1 hne).trans e, this.2⟩
  · obtain ⟨o, e', ok⟩ := hma
    rw [e'] at e; cases e; exact Knd.plain_ok hp ok hd
end St

variable {A : Around} {E : Value → Shared → Prop} {cn : Str} {a : Addr} {ccd : Value} {cl : List (Str × Addr)} {x : Str} {v : Value} {pos : Pos}
theorem rdL {Q : Value → Shared → Prop} (S : St w mg mb s₀ L cs locs globs vals news s) (k : At locs vals x v) (h : Q v s) : wpAny (model PR w) A (eval (.Name x pos) (envX cn cs L a ccd cl)) Q E s := by
  obtain ⟨m, n, hm⟩ := S.ns
  exact wpAny_Name (wpAny_loadName_local S.nm.kf (S.nm.kl x k.mem).1 n (hm.at k) h) (S.nm.kl x k.mem).2
theorem rdLn {Q : Value → Shared → Prop} (S : St w mg mb s₀ L cs locs globs vals news s) (k : At locs vals x v) (h : Q v s) : wpAny (model PR w) A (loadName (envX cn cs L a ccd cl) x) Q E s := by
  obtain ⟨m, n, hm⟩ := S.ns
  exact wpAny_loadName_local S.nm.kf (S.nm.kl x k.mem).1 n (hm.at k) h
theorem rdG {Q : Value → Shared → Prop} (S : St w mg mb s₀ L cs locs globs vals news s) (k : (x, v) ∈ globs) (h : Q v s) : wpAny (model PR w) A (eval (.Name x pos) (envX cn cs L a ccd cl)) Q E s := by
  obtain ⟨k1, k2, k3⟩ := S.nm.kg _ k
  have W := S.cur
  rcases k3 with k3 | ⟨k3, k4, k5⟩
  · exact Name_function_global S.nm.kf k1 (loadGlobal_global (env := envX cn cs L a ccd cl) W.g k3 h) k2
  · exact Name_function_global S.nm.kf k1 (loadGlobal_builtin (env := envX cn cs L a ccd cl) W.g k3 W.b ((W.bu x k5).trans k4) h) k2
theorem wrL {Q : Unit → Shared → Prop} (S : St w mg mb s₀ L cs locs globs vals news s) (k : Put locs vals x v vals') (h : ∀ s', St w mg mb s₀ L cs locs globs vals' news s' → Q () s') :
    wpAny (model PR w) A (storeName (envX cn cs L a ccd cl) x v) Q E s := by
  obtain ⟨m, n, hm⟩ := S.ns
  exact wpAny_storeName_local (S.nm.kl x k.mem).1 n (fun h' hn hs => h _ (S.set n hm k hn hs)) (by show (cs.kind == .class || (cs.kind == .module && L != mainGlobals)) = false; rw [S.nm.kf]; rfl)
end

/- into a def of the text -/
theorem enter {w : World} {mg mb : Str → Option Value} {s : Shared} {A : Around} {Q E : Value → Shared → Prop} {f : Addr} {args : List Value} {kw : List (Str × Value)} {name qual : Str} {params : Arguments} {body : List Stmt} {scope : Scope}
    {dV kV doc pm cdv ct oc : Value} {an od : Option Addr} {osl : Array (Option Value)} {binds : List (Str × Value)} {locs : List Str} {globs : List (Str × Value)} {vals : List (Option Value)}
    (W : Wd w mg mb s.heap) (T : Tb s.heap) (hroom : A.depth < recursionLimit)
    (ho : (hd.heap_39 w.params).lookup f = some ⟨oc, od, .func (fnX name qual params body scope [] dV kV doc pm an cdv ct), osl⟩) (hcd : codeIn (hd.heap_39 w.params) cdv qual = true)
    (hbind : BindsTo s (fnX name qual params body scope [] dV kV doc pm an cdv ct) ⟨args, kw⟩ binds)
    (hcell : ∀ x ∈ scope.names, x.2 ≠ .cell) (hloc : ∀ x ∈ binds, scope.names.lookup x.1 = some .local) (hn : Nm mg scope locs globs) (hv : HasAll (fun x => binds.reverse.lookup x) locs vals)
    (hco : scope.isCoroutine = false) (hgen : scope.isGenerator = false)
    (h : ∀ (cs : Scope) L s₁, St w mg mb s L cs locs globs vals [] s₁ → wpAny (model PR w) (A.deeper (envX qual cs L f cdv [])) (execs body (envX qual cs L f cdv []))
      (fun fl s' => Q (match fl with | .ret v => v | _ => .none) s')
      (fun e s' => wpAny (model PR w) (A.deeper (envX qual cs L f cdv [])) (leaving (envX qual cs L f cdv []) e) (fun _ s'' => E e s'') (fun e' s'' => E e' s'') s') s₁) :
    wpAny (model PR w) A (call (.ref f) args kw) Q E s := by
  refine wpAny_call (codeAny_call_def (fd := fnX name qual params body scope [] dV kV doc pm an cdv ct) (body := body) (binds := binds) hroom (W.K _ _ ho) rfl W.nolimit (codeRec_of W.K hcd) rfl hbind hcell hloc (fun h₁ hns hk₁ => ?_) hco hgen hn.kf)
  refine h scope s.heap.objs.size _ ⟨⟨_, _, rfl⟩, W, hn, ⟨_, hns, hv⟩, Keep.of hk₁, Nat.le_refl _, fun p hp => (nomatch hp), T.keeps hk₁⟩

/- for the small orders -/
theorem andR {A B G : Prop} (h : B → G) : A ∧ B → G := fun x => h x.2
theorem dep {a k j m : Nat} (h : a + k < m) (hk : j ≤ k) : a + j < m := Nat.lt_of_le_of_lt (Nat.add_le_add_left hk a) h
theorem dep0 {a k m : Nat} (h : a + k < m) : a < m := Nat.lt_of_le_of_lt (Nat.le_add_right a k) h
theorem ltN {a b : Nat} (h : a < b) : a < b := h
theorem byc {G : Prop} (h : ¬G → False) : G := Classical.byContradiction h
end
section
open PySem PySem.W PySem.Calls PySem.Spec PyProof.Rows
set_option maxRecDepth 100000

/- what follows a suite -/
noncomputable def Kont (M : Model) (A : Around) (env : Env) (E : Value → Shared → Prop) (rest : List Stmt) (Q : Flow → Shared → Prop) (f : Flow) (s : Shared) : Prop :=
  match f with
  | .next => wpAny M A (execs rest env) Q E s
  | f => Q f s

section
variable {M : Model} {A : Around} {E : Value → Shared → Prop} {s : Shared} {env : Env} {rest : List Stmt} {Q : Flow → Shared → Prop}
theorem A_gen2 {α : Type} {t : Sem α} {Q : α → Shared → Prop} (h : ∀ (Q' : α → Shared → Prop) (E' : Value → Shared → Prop), (∀ a s', Q a s' → Q' a s') → wpAny M A t Q' E' s) : wpAny M A t Q E s := h Q E fun _ _ x => x
theorem X_cons {st : Stmt} (h : wpAny M A (exec st env) (Kont M A env E rest Q) E s) : wpAny M A (execs (st :: rest) env) Q E s :=
  wpAny_execs_cons (wpAny_mono h (fun f s' h' => by cases f <;> exact h') fun _ _ x => x)
theorem X_asg {x pos' value pos} (h : wpAny M A (eval value env) (fun v s₁ => wpAny M A (storeName env x v) (fun _ s₂ => wpAny M A (execs rest env) Q E s₂) E s₁) E s)
    (hs : swapsWith value (some (.Name x pos')) pos.line env = pure false := by rfl) : wpAny M A (execs (.Assign [.Name x pos'] value pos :: rest) env) Q E s :=
  wpAny_execs_cons (wpAny_Assign_Name h hs)
theorem X_aug {x pos' op value pos} (h : wpAny M A (loadName env x) (fun old s₁ => wpAny M A (eval value env) (fun v s₂ => wpAny M A (inplaceOp op old v)
      (fun r s₃ => wpAny M A (storeName env x r) (fun _ s₄ => wpAny M A (execs rest env) Q E s₄) E s₃) E s₂) E s₁) E s) : wpAny M A (execs (.AugAssign (.Name x pos') op value pos :: rest) env) Q E s :=
  wpAny_execs_cons (wpAny_AugAssign_Name h)
theorem X_tup {elts k tpos value pos} (h : wpAny M A (eval value env) (fun v s₁ => wpAny M A (assign (.Tuple elts k tpos) env v) (fun _ s₂ => wpAny M A (execs rest env) Q E s₂) E s₁) E s)
    (hs : swapsWithSole [.Tuple elts k tpos] value pos.line env = pure false := by rfl)
    (hw : swappedStores [.Tuple elts k tpos] value env = pure none := by rfl) : wpAny M A (execs (.Assign [.Tuple elts k tpos] value pos :: rest) env) Q E s :=
  wpAny_execs_cons (Assign_Tuple h hs hw)
theorem X_if {test body orelse pos} (h : wpAny M A (isTrue test env (eval test env))
      (fun b s₂ => (b = true → wpAny M A (execs body env) (Kont M A env E rest Q) E s₂) ∧ (b = false → wpAny M A (execs orelse env) (Kont M A env E rest Q) E s₂)) E s) :
    wpAny M A (execs (.If test body orelse pos :: rest) env) Q E s :=
  X_cons (wpAny_If (wpAny_mono h (fun b s₂ h₂ => by cases b; exact h₂.2 rfl; exact h₂.1 rfl) fun _ _ x => x))
theorem X_ifJ {test body orelse pos} (J : Shared → Prop) (h : wpAny M A (isTrue test env (eval test env))
      (fun b s₂ => (b = true → wpAny M A (execs body env) (fun f s' => f = .next ∧ J s') E s₂) ∧ (b = false → wpAny M A (execs orelse env) (fun f s' => f = .next ∧ J s') E s₂)) E s)
    (hJ : ∀ s', J s' → wpAny M A (execs rest env) Q E s') : wpAny M A (execs (.If test body orelse pos :: rest) env) Q E s := by
  have k : ∀ f s', (f = Flow.next ∧ J s') → Kont M A env E rest Q f s' := fun f s' ⟨e, j⟩ => by subst e; exact hJ s' j
  exact X_if (wpAny_mono h (fun b s₂ h₂ => ⟨fun hb => wpAny_mono (h₂.1 hb) k fun _ _ x => x, fun hb => wpAny_mono (h₂.2 hb) k fun _ _ x => x⟩) fun _ _ x => x)
theorem X_swp {elts k tpos value pos} {names : List Str} (h : wpAny M A (eval value env) (fun v s₁ => wpAny M A (unpackItems v names.length none) (fun items s₂ =>
      wpAny M A (assignInOrder (names.reverse.map fun n => bindName env n) items.reverse) (fun _ s₃ => wpAny M A (execs rest env) Q E s₃) E s₂) E s₁) E s)
    (hw : swappedStores [.Tuple elts k tpos] value env = pure (some names)) (hs : swapsWithSole [.Tuple elts k tpos] value pos.line env = pure false := by rfl) : wpAny M A (execs (.Assign [.Tuple elts k tpos] value pos :: rest) env) Q E s :=
  wpAny_execs_cons (Assign_Tuple_swapped h hs hw)
theorem X_expr {e pos} (hk : env.scope.kind = .function) (h : wpAny M A (eval e env) (fun v s' => (∀ a, v ≠ .ref a) ∧ wpAny M A (execs rest env) Q E s') E s)
    (hs : swapsWith e none pos.line env = pure false := by rfl) : wpAny M A (execs (.Expr e pos :: rest) env) Q E s := by
  refine wpAny_execs_cons (wpAny_Expr (wpAny_mono h (fun v s' h' => ?_) fun _ _ x => x) (by unfold interactive; rw [hk]; rfl) hs)
  cases v <;> first | exact h'.2 | exact absurd rfl (h'.1 _)
theorem X_ret {e pos} (h : wpAny M A (eval e env) (fun v => Q (.ret v)) E s) : wpAny M A (execs (.Return (some e) pos :: rest) env) Q E s :=
  wpAny_execs_cons (wpAny_Return_some h)
theorem X_ret0 {pos} (h : Q (.ret .none) s) : wpAny M A (execs (.Return none pos :: rest) env) Q E s :=
  wpAny_execs_cons (wpAny_Return_none h)
theorem X_nil (h : Q .next s) : wpAny M A (execs [] env) Q E s := wpAny_execs_nil h
theorem X_nilK (h : wpAny M A (execs rest env) Q E s) : wpAny M A (execs [] env) (Kont M A env E rest Q) E s := wpAny_execs_nil h
end

section
variable {a b c d : Value}
theorem sz0 : ([] : List Value).length ≤ sizeLine := by size_fits
theorem sz1 : [a].length ≤ sizeLine := by size_fits
theorem sz2 : [a, b].length ≤ sizeLine := by size_fits
theorem sz3 : [a, b, c].length ≤ sizeLine := by size_fits
theorem sz4 : [a, b, c, d].length ≤ sizeLine := by size_fits
end
section
variable {w : World} {mg mb : Str → Option Value} {s₀ s s' : Shared} {L : Nat} {cs : Scope} {locs : List Str} {globs : List (Str × Value)} {vals vals' vals'' : List (Option Value)} {news news' : List (Nat × Knd)}
variable {A : Around} {E : Value → Shared → Prop} {cn : Str} {fa : Addr} {ccd : Value} {cl : List (Str × Addr)} {x y : Str} {v : Value} {pos : Pos}
variable {a b n : Int} {t u : Tok}
theorem E_int {Q : Value → Shared → Prop} {env : Env} {i k} (S : St w mg mb s₀ L cs locs globs vals news s) (h : ∀ t s', St w mg mb s₀ L cs locs globs vals news s' → Q (.int i t) s') : wpAny (model PR w) A (eval (.Constant (.int i) k pos) env) Q E s :=
  wpAny_Constant_int (h _ _ (S.tok _))

section
variable {Q : Value → Shared → Prop} (S : St w mg mb s₀ L cs locs globs vals news s)
include S
theorem O_add (h : ∀ t s', St w mg mb s₀ L cs locs globs vals news s' → Q (.int (a + b) t) s') : wpAny (model PR w) A (binaryOp .Add (.int a t) (.int b u)) Q E s := add_int (h _ _ (S.tok _))
theorem O_sub (h : ∀ t s', St w mg mb s₀ L cs locs globs vals news s' → Q (.int (a - b) t) s') : wpAny (model PR w) A (binaryOp .Sub (.int a t) (.int b u)) Q E s := sub_int (h _ _ (S.tok _))
theorem O_mul (hm : IntMulOk a b) (h : ∀ t s', St w mg mb s₀ L cs locs globs vals news s' → Q (.int (a * b) t) s') : wpAny (model PR w) A (binaryOp .Mult (.int a t) (.int b u)) Q E s := PyProof.Rows.mul_int (h _ _ (S.tok _)) hm
theorem O_and (h : ∀ t s', St w mg mb s₀ L cs locs globs vals news s' → Q (.int (Builtin.bitAnd a b) t) s') : wpAny (model PR w) A (binaryOp .BitAnd (.int a t) (.int b u)) Q E s := and_int (h _ _ (S.tok _))
theorem O_or (h : ∀ t s', St w mg mb s₀ L cs locs globs vals news s' → Q (.int (Builtin.bitOr a b) t) s') : wpAny (model PR w) A (binaryOp .BitOr (.int a t) (.int b u)) Q E s := or_int (h _ _ (S.tok _))
theorem O_xor (h : ∀ t s', St w mg mb s₀ L cs locs globs vals news s' → Q (.int (Builtin.bitXor a b) t) s') : wpAny (model PR w) A (binaryOp .BitXor (.int a t) (.int b u)) Q E s := xor_int (h _ _ (S.tok _))
theorem O_shl (hn : 0 ≤ n) (hz : (Builtin.Int.intBits a : Int) + n ≤ 2 ^ 27) (h : ∀ t s', St w mg mb s₀ L cs locs globs vals news s' → Q (.int (a * 2 ^ n.toNat) t) s') : wpAny (model PR w) A (binaryOp .LShift (.int a t) (.int n u)) Q E s := lshift_int hn hz (h _ _ (S.tok _))
theorem O_shr (hn : 0 ≤ n) (h : ∀ t s', St w mg mb s₀ L cs locs globs vals news s' → Q (.int (a.fdiv (2 ^ n.toNat)) t) s') : wpAny (model PR w) A (binaryOp .RShift (.int a t) (.int n u)) Q E s := rshift_int hn (h _ _ (S.tok _))
theorem O_ishl (hn : 0 ≤ n) (hz : (Builtin.Int.intBits a : Int) + n ≤ 2 ^ 27) (h : ∀ t s', St w mg mb s₀ L cs locs globs vals news s' → Q (.int (a * 2 ^ n.toNat) t) s') : wpAny (model PR w) A (inplaceOp .LShift (.int a t) (.int n u)) Q E s := ilshift_int hn hz (h _ _ (S.tok _))
theorem O_ishr (hn : 0 ≤ n) (h : ∀ t s', St w mg mb s₀ L cs locs globs vals news s' → Q (.int (a.fdiv (2 ^ n.toNat)) t) s') : wpAny (model PR w) A (inplaceOp .RShift (.int a t) (.int n u)) Q E s := irshift_int hn (h _ _ (S.tok _))
theorem O_iadd (h : ∀ t s', St w mg mb s₀ L cs locs globs vals news s' → Q (.int (a + b) t) s') : wpAny (model PR w) A (inplaceOp .Add (.int a t) (.int b u)) Q E s := iadd_int (h _ _ (S.tok _))
theorem O_isub (h : ∀ t s', St w mg mb s₀ L cs locs globs vals news s' → Q (.int (a - b) t) s') : wpAny (model PR w) A (inplaceOp .Sub (.int a t) (.int b u)) Q E s := PyProof.Rows.isub_int (h _ _ (S.tok _))
theorem O_neg (h : ∀ t s', St w mg mb s₀ L cs locs globs vals news s' → Q (.int (-a) t) s') : wpAny (model PR w) A (unaryOp .USub (.int a t)) Q E s := PyProof.Rows.neg_int (h _ _ (S.tok _))
theorem O_inv (h : ∀ t s', St w mg mb s₀ L cs locs globs vals news s' → Q (.int (Builtin.bitNot a) t) s') : wpAny (model PR w) A (unaryOp .Invert (.int a t)) Q E s := invert_int (h _ _ (S.tok _))
theorem M_bits (h : ∀ t s', St w mg mb s₀ L cs locs globs vals news s' → Q (.int (Builtin.Int.intBits a) t) s') : wpAny (model PR w) A (call (.builtin "int.bit_length") [.int a t]) Q E s := call_int_bit_length (h _ _ (S.tok _))
theorem newTup {vs : List Value} (hz : vs.length ≤ sizeLine) (h : ∀ t s', St w mg mb s₀ L cs locs globs vals ((t, .tup vs) :: news) s' → L < t → LtAll t news → Q (.ref t) s') : wpAny (model PR w) A (newTuple vs) Q E s :=
  wpAny_newObj_type (h _ _ (S.push _ ⟨rfl, 0, rfl⟩) (S.freshOf S.newAddr).1 (S.freshOf S.newAddr).2) (by show vs.toArray.size ≤ sizeLine; rw [List.size_toArray]; exact hz)
theorem newLst {vs : List Value} (hz : vs.length ≤ sizeLine) (h : ∀ t s', St w mg mb s₀ L cs locs globs vals ((t, .obj (lstO vs 0)) :: news) s' → L < t → LtAll t news → Q (.ref t) s') : wpAny (model PR w) A (newList vs) Q E s :=
  wpAny_newObj_type (h _ _ (S.push _ rfl) (S.freshOf S.newAddr).1 (S.freshOf S.newAddr).2) (by show vs.toArray.size ≤ sizeLine; rw [List.size_toArray]; exact hz)
theorem divmodB (hb : b ≠ 0) (hp : Builtin.divisionGoesByPylong a b = false)
    (h : ∀ p t1 t2 s', St w mg mb s₀ L cs locs globs vals ((p, .tup [.int (a.fdiv b) t1, .int (a.fmod b) t2]) :: news) s' → L < p → Q (.ref p) s') : wpAny (model PR w) A (call (.builtin "divmod") [.int a t, .int b u]) Q E s :=
  divmod_int hb (h _ _ _ _ ((S.push (kd := .tup _) (tupO _) ⟨rfl, 0, rfl⟩).tok _) S.ltL) (.inl hp)
end
theorem swp2 {x1 x2 : Str} {p1 p2 tpos vpos : Pos} {k k' : Nat} {e1 e2 : Expr} (nm : Nm mg cs locs globs) (h1 : x1 ∈ locs) (h2 : x2 ∈ locs) (hne : x1 ≠ x2) (hl : p1.line = p2.line)
    (hs : ([e1, e2].any fun | .Starred .. => true | _ => false) = false) (hf : [e1, e2].all (foldedForSure 8) = false) (hc : [e1, e2].all (constantsAlone 8) = false) :
    swappedStores [.Tuple [.Name x1 p1, .Name x2 p2] k tpos] (.Tuple [e1, e2] k' vpos) (envX cn cs L fa ccd cl) = pure (some [x1, x2]) := by
  have hb : (envX cn cs L fa ccd cl).blockKind = .function := by unfold Env.blockKind; simp [nm.kf]
  have k1 : (envX cn cs L fa ccd cl).kindOf x1 = some .local := (nm.kl x1 h1).1
  have k2 : (envX cn cs L fa ccd cl).kindOf x2 = some .local := (nm.kl x2 h2).1
  have hne' : (x2 == x1) = false := by simpa using fun q => hne q.symm
  unfold swappedStores
  have ed : [x1, x2].eraseDups = [x1, x2] := by simp [List.eraseDups_cons, hne']
  simp only [List.any_cons, List.any_nil, Bool.or_false, Bool.or_eq_false_iff] at hs
  simp only [List.all_cons, List.all_nil, Bool.and_true] at hf hc
  simp [hb, k1, k2, hl, Expr.pos, ed]
  rw [if_neg, if_neg, if_neg]
  · intro q; rw [q.1, q.2] at hc; cases hc
  · intro q; rw [q.1, q.2] at hf; cases hf
  · exact fun q => q.elim (fun q => Bool.false_ne_true (hs.1.symm.trans q)) fun q => Bool.false_ne_true (hs.2.symm.trans q)
theorem unp2 {Q : List Value → Shared → Prop} {v1 v2 : Value} {p : Nat} (S : St w mg mb s₀ L cs locs globs vals news s) (hA : A.handled = none) (hm : (p, .tup [v1, v2]) ∈ news)
    (h : ∀ s', St w mg mb s₀ L cs locs globs vals news s' → Q [v1, v2] s') : wpAny (model PR w) A (unpackItems (.ref p) 2 none) Q E s := by
  refine unpackItems_tuple (items := #[v1, v2]) hA (S.get hm).tup fun h' he => h _ ?_
  exact S.call ⟨_, _, rfl⟩ (fun b o _ _ e => he b o (Nat.ne_of_lt (Heap.lt_size e)) e) (S.tb.keeps fun b o e => he b o (Nat.ne_of_lt (Heap.lt_size e)) e)
theorem swpT2 {Q : Unit → Shared → Prop} {x1 x2 : Str} {v1 v2 : Value} {p : Nat} (S : St w mg mb s₀ L cs locs globs vals news s) (hA : A.handled = none) (hm : (p, .tup [v1, v2]) ∈ news)
    (P2 : Put locs vals x2 v2 vals') (P1 : Put locs vals' x1 v1 vals'') (h : ∀ s', St w mg mb s₀ L cs locs globs vals'' news s' → Q () s') :
    wpAny (model PR w) A (unpackItems (.ref p) [x1, x2].length none) (fun items s₂ => wpAny (model PR w) A (assignInOrder ([x1, x2].reverse.map fun n => bindName (envX cn cs L fa ccd cl) n) items.reverse) Q E s₂) E s :=
  unp2 S hA hm fun s1 S1 => assignInOrder_cons (bindName_ (wrL S1 P2 fun s2 S2 => assignInOrder_cons (bindName_ (wrL S2 P1 fun s3 S3 => assignInOrder_nil (h s3 S3)))))
theorem asgT2 {Q : Unit → Shared → Prop} {x1 x2 : Str} {p1 p2 tpos : Pos} {k : Nat} {v1 v2 : Value} {p : Nat} (S : St w mg mb s₀ L cs locs globs vals news s) (hA : A.handled = none) (hm : (p, .tup [v1, v2]) ∈ news)
    (P1 : Put locs vals x1 v1 vals') (P2 : Put locs vals' x2 v2 vals'') (h : ∀ s', St w mg mb s₀ L cs locs globs vals'' news s' → Q () s') :
    wpAny (model PR w) A (assign (.Tuple [.Name x1 p1, .Name x2 p2] k tpos) (envX cn cs L fa ccd cl) (.ref p)) Q E s := by
  refine assign_Tuple_tuple (items := #[v1, v2]) hA (S.get hm).tup rfl rfl fun h' he => ?_
  have S1 : St w mg mb s₀ L cs locs globs vals news { s with heap := h' } := S.call ⟨_, _, rfl⟩ (fun b o _ _ e => he b o (Nat.ne_of_lt (Heap.lt_size e)) e) (S.tb.keeps fun b o e => he b o (Nat.ne_of_lt (Heap.lt_size e)) e)
  show wpAny _ A (assignInOrder [assign (.Name x1 p1) _, assign (.Name x2 p2) _] [v1, v2]) _ _ _
  exact assignInOrder_cons (PyProof.Rows.assign_Name (wrL S1 P1 fun s2 S2 => assignInOrder_cons (PyProof.Rows.assign_Name (wrL S2 P2 fun s3 S3 => assignInOrder_nil (h s3 S3)))))
end

section
variable {w : World} {mg mb : Str → Option Value}
theorem mgK {h : Heap} (W : Wd w mg mb h) {x : Str} {v : Value} (e : nsIn (hd.heap_39 w.params) mainGlobals x = some (some v)) : mg x = some v := mg_of W.K W.g e
theorem mgN {h : Heap} (W : Wd w mg mb h) {x : Str} (e : nsIn (hd.heap_39 w.params) mainGlobals x = some none) : mg x = none := mg_none_of W.K W.g e
theorem HasAll.cons {m : Str → Option Value} {x v ns vs} (h : m x = some v) (r : HasAll m ns vs) : HasAll m (x :: ns) (some v :: vs) := ⟨fun _ e => by cases e; exact h, r⟩
theorem HasAll.skip {m : Str → Option Value} {x ns vs} (r : HasAll m ns vs) : HasAll m (x :: ns) (none :: vs) := ⟨(fun _ e => nomatch e), r⟩
theorem kl_of {cs : Scope} {ns : List Str} (h : (ns.all fun x => decide (cs.names.lookup x = some .local) && !(x == ("__debug__" : Str))) = true) : ∀ x ∈ ns, cs.names.lookup x = some .local ∧ (x == ("__debug__" : Str)) = false := fun x hx => by
  have := List.all_eq_true.mp h x hx
  simpa using this
theorem kg_nil {P : Str × Value → Prop} : ∀ p ∈ ([] : List (Str × Value)), P p := fun _ h => nomatch h
theorem kg_K {cs : Scope} {h : Heap} {x : Str} {v : Value} {gs : List (Str × Value)} (W : Wd w mg mb h) (hl : cs.names.lookup x = some .globalImplicit) (hb : (x == ("__debug__" : Str)) = false) (e : nsIn (hd.heap_39 w.params) mainGlobals x = some (some v))
    (r : ∀ p ∈ gs, cs.names.lookup p.1 = some .globalImplicit ∧ (p.1 == ("__debug__" : Str)) = false ∧ (mg p.1 = some p.2 ∨ (mg p.1 = none ∧ bootBuiltins p.1 = some p.2 ∧ p.1 ≠ "__name__"))) :
    ∀ p ∈ (x, v) :: gs, cs.names.lookup p.1 = some .globalImplicit ∧ (p.1 == ("__debug__" : Str)) = false ∧ (mg p.1 = some p.2 ∨ (mg p.1 = none ∧ bootBuiltins p.1 = some p.2 ∧ p.1 ≠ "__name__")) :=
  List.forall_mem_cons.mpr ⟨⟨hl, hb, .inl (mgK W e)⟩, r⟩
theorem kg_B {cs : Scope} {h : Heap} {x : Str} {v : Value} {gs : List (Str × Value)} (W : Wd w mg mb h) (hl : cs.names.lookup x = some .globalImplicit) (hb : (x == ("__debug__" : Str)) = false) (e : nsIn (hd.heap_39 w.params) mainGlobals x = some none)
    (hv : bootBuiltins x = some v) (hn : x ≠ "__name__")
    (r : ∀ p ∈ gs, cs.names.lookup p.1 = some .globalImplicit ∧ (p.1 == ("__debug__" : Str)) = false ∧ (mg p.1 = some p.2 ∨ (mg p.1 = none ∧ bootBuiltins p.1 = some p.2 ∧ p.1 ≠ "__name__"))) :
    ∀ p ∈ (x, v) :: gs, cs.names.lookup p.1 = some .globalImplicit ∧ (p.1 == ("__debug__" : Str)) = false ∧ (mg p.1 = some p.2 ∨ (mg p.1 = none ∧ bootBuiltins p.1 = some p.2 ∧ p.1 ≠ "__name__")) :=
  List.forall_mem_cons.mpr ⟨⟨hl, hb, .inr ⟨mgN W e, hv, hn⟩⟩, r⟩

noncomputable def defs : List Addr := [38, 45, 52, 59, 66, 73, 86, 94, 99, 104, 111, 116, 123]
theorem defs_fn (P : Params) : (defs.all fun f => fnIn (hd.heap_39 P) f) = true := by rfl
theorem fnAt {h : Heap} (W : Wd w mg mb h) {f : Addr} (hf : f ∈ defs) : FnAt f h := by
  have h1 : fnIn (hd.heap_39 w.params) f = true := List.all_eq_true.mp (defs_fn w.params) f hf
  unfold fnIn at h1
  split at h1
  · rename_i oc od fd sl e; exact ⟨oc, od, fd, sl, W.K _ _ e⟩
  · cases h1
variable {A : Around} {E : Value → Shared → Prop} {s s₀ : Shared} {env : Env} {Q : Value → Shared → Prop} {L : Nat} {cs : Scope} {locs : List Str} {globs : List (Str × Value)} {vals : List (Option Value)} {news : List (Nat × Knd)}
theorem X_while {test : Expr} {body rest : List Stmt} {pos : Pos} {Q : Flow → Shared → Prop} {J : Shared → Prop} (I : Nat → Shared → Prop)
    (turn : ∀ n s, I n s → wpAny (model PR w) A (isTrue test env (eval test env)) (fun b s₂ =>
      (b = true → wpAny (model PR w) A (execs body env) (fun f s₃ => ∃ m, (m < n ∧ f = .next) ∧ I m s₃) (fun _ _ => False) s₂) ∧ (b = false → wpAny (model PR w) A (execs [] env) (fun f s' => f = .next ∧ J s') (fun _ _ => False) s₂)) (fun _ _ => False) s)
    (hJ : ∀ s', J s' → wpAny (model PR w) A (execs rest env) Q E s') {n : Nat} (h : I n s) : wpAny (model PR w) A (execs (.While test body [] pos :: rest) env) Q E s := by
  refine X_cons (wpAny_While (codeAny_whileLoop I (fun n s hI => ?_) n h))
  refine wpAny_mono (turn n s hI) (fun b s₂ h₂ => ?_) fun _ _ x => x.elim
  cases b with
  | false =>
    rw [if_neg Bool.false_ne_true]
    exact wpAny_mono (h₂.2 rfl) (fun f s₃ h₃ => by obtain ⟨rfl, h₃⟩ := h₃; exact hJ _ h₃) fun _ _ x => x.elim
  | true =>
    rw [if_pos rfl]
    refine wpAny_mono (h₂.1 rfl) (fun f s₃ h₃ => ?_) fun _ _ x => x.elim
    obtain ⟨m, ⟨h1, rfl⟩, h2⟩ := h₃
    exact ⟨m, h1, h2⟩
theorem C_def {f : Addr} {pos : Pos} {e : Expr} {rest : List Expr} (S : St w mg mb s₀ L cs locs globs vals news s) (hf : f ∈ defs)
    (h : wpAny (model PR w) A (spliced (backTo pos (starEach (e :: rest) env))) (fun vs s₁ => Wd w mg mb s₁.heap ∧ wpAny (model PR w) A (call (.ref f) vs) Q E s₁) E s)
    (he : starEach (e :: rest) env = (false, eval e env) :: starEach rest env := by rfl) (hplain : (backTo pos (starEach rest env)).any (·.1) = false := by rfl) :
    wpAny (model PR w) A (callWith pos (.ref f) [] (backTo pos (starEach (e :: rest) env)) []) Q E s :=
  callWith_F (fnAt S.cur hf) (wpAny_mono h (fun vs s₁ h₁ => ⟨fnAt h₁.1 hf, h₁.2⟩) fun _ _ x => x) he hplain
end
end
section
open PySem PySem.W PySem.Calls PySem.Spec PyProof.Rows
set_option maxRecDepth 100000
section
variable {w : World} {mg mb : Str → Option Value} {s₀ s s' : Shared} {L : Nat} {cs : Scope} {locs : List Str} {globs : List (Str × Value)} {vals vals' vals'' : List (Option Value)} {news news' : List (Nat × Knd)}
variable {A : Around} {E : Value → Shared → Prop} {cn : Str} {fa : Addr} {ccd : Value} {cl : List (Str × Addr)} {x y : Str} {v : Value} {pos : Pos}

/- how a captured name stands -/
noncomputable def Ck (k : NameKind) (cs : Scope) (x : Str) : Prop := cs.names.lookup x = some k ∧ (x == ("__debug__" : Str)) = false ∧ (x == ("__classdict__" : Str)) = false
theorem rdC {Q : Value → Shared → Prop} {c : Nat} (S : St w mg mb s₀ L cs locs globs vals news s) (hk : Ck .cell cs x) (hc : cl.lookup x = some c) (hm : (c, .cell (some v)) ∈ news) (h : Q v s) :
    wpAny (model PR w) A (eval (.Name x pos) (envX cn cs L fa ccd cl)) Q E s := wpAny_Name (wpAny_loadName_cell S.nm.kf hk.1 hc (S.get hm).cell h) hk.2.1
theorem rdF {Q : Value → Shared → Prop} {c : Nat} (S : St w mg mb s₀ L cs locs globs vals news s) (hk : Ck .free cs x) (hc : cl.lookup x = some c) (hm : (c, .old (.cell (some v))) ∈ news) (h : Q v s) :
    wpAny (model PR w) A (eval (.Name x pos) (envX cn cs L fa ccd cl)) Q E s := wpAny_Name (wpAny_loadName_free S.nm.kf hk.1 hc (S.get hm).unold.cell h hk.2.2) hk.2.1
theorem wrC {Q : Unit → Shared → Prop} {c : Nat} {v₀ : Option Value} (S : St w mg mb s₀ L cs locs globs vals news s) (hk : Ck .cell cs x) (hc : cl.lookup x = some c) (U : UpdK c (.cell v₀) (.cell (some v)) news news')
    (h : ∀ s', St w mg mb s₀ L cs locs globs vals news' s' → Q () s') : wpAny (model PR w) A (storeName (envX cn cs L fa ccd cl) x v) Q E s :=
  wpAny_storeName_cell S.nm.kf hk.1 hc (S.get U.mem).cell fun h' hc' hs => h _ (S.upd U hs hc' trivial)

/- a call that changes one list -/
theorem St.callB (S : St w mg mb s₀ L cs locs globs vals news s) {l : Nat} {vs vs' : List Value} (U : UpdK l (.lst vs) (.lst vs') news news') (e : Same s s') (k : Keep (hideAll s.heap [l]) s'.heap) (t : Tb s'.heap) (hl : Is s'.heap l (.lst vs')) :
    St w mg mb s₀ L cs locs globs vals news' s' := by
  have hL := S.big
  obtain ⟨_, ha, _⟩ := S.N _ U.mem
  have ha : l ≠ L := ha
  have hfr := S.new U.mem
  have kk : ∀ b o, 58 < b → b ≠ l → s.heap.get? b = some o → s'.heap.get? b = some o := fun b o h1 h2 e => k b o (Nat.ne_of_gt (Nat.lt_trans (by decide) h1)) (Nat.ne_of_gt (Nat.lt_trans (by decide) h1)) (hideAll_get _ e (by simpa using h2))
  obtain ⟨m, ⟨o, es, ep, h1, h2⟩, x⟩ := S.ns
  refine ⟨S.same.trans e, S.wd, S.nm, ⟨m, ⟨o, es, ep, kk L o hL (fun q => ha q.symm) h1, h2⟩, x⟩, fun b o h1 h2 e => ?_, S.above, fun p hp => ?_, t⟩
  · have hb : b ≠ l := fun q => by rw [q, hfr.1] at e; cases e
    exact k b o h1 h2 (hideAll_get _ (S.keep b o h1 h2 e) (by simpa using hb))
  · rcases U.cases p hp with rfl | ⟨hp, hne⟩
    · exact ⟨hl, ha, hfr.2, fun _ => hfr.1⟩
    · have := S.N p hp
      exact ⟨this.1.keep fun o e => kk p.1 o this.2.2.1 hne e, this.2⟩

theorem keyLst (P : Params) : ((hd.heap_39 P).all fun p => !(p.2.cls == .type "list")) = true := by rfl
theorem Wd.hide {h : Heap} {l : Nat} {vs : List Value} (x : Wd w mg mb h) (hl : Is h l (.lst vs)) (h58 : 58 < l) : Wd w mg mb (hideAll h [l]) := by
  obtain ⟨ol, e, hc, n, hd⟩ := hl.lst
  have ns : ∀ {a : Addr} {m : Str → Option Value}, h.Ns a m → (hideAll h [l]).Ns a m := fun {a m} y => by
    obtain ⟨o, es, ep, e1, e2, r⟩ := y
    refine ⟨o, es, ep, hideAll_get _ e1 ?_, e2, r⟩
    intro q
    have q : a = l := by simpa using q
    rw [q, e] at e1; cases e1; rw [e2] at hd; cases hd
  have oth : ∀ b o, h.get? b = some o → o.cls ≠ .type "list" → (hideAll h [l]).get? b = some o := fun b o e1 hne => by
    refine hideAll_get _ e1 fun q => ?_
    have q : b = l := by simpa using q
    rw [q, e] at e1; cases e1; exact hne hc
  refine ⟨fun a o e1 => oth a o (x.K a o e1) ?_, ns x.g, ns x.b, ?_, ?_, x.bu, ?_, ?_, ?_, ?_, ?_⟩
  · have := List.all_eq_true.mp (keyLst w.params) (a, o) (mem_of_lookupK e1)
    simpa using this
  · obtain ⟨mc, a, r⟩ := x.nolimit; exact ⟨mc, ns a, r⟩
  · obtain ⟨mc, a, r⟩ := x.nodigits; exact ⟨mc, ns a, r⟩
  · obtain ⟨bm, ob, a1, a2, a3, a4, r⟩ := x.bm
    exact ⟨bm, ob, a1, a2, oth _ _ a3 (by rw [a4]; decide), a4, r⟩
  · obtain ⟨o, vs, file, tf, flags, tg, inF, text, tt, e, e2, r⟩ := x.c1; exact ⟨o, vs, file, tf, flags, tg, inF, text, tt, oth _ _ e (by rw [e2]; decide), e2, r⟩
  · obtain ⟨o, vs, file, tf, flags, tg, inF, text, tt, e, e2, r⟩ := x.c2; exact ⟨o, vs, file, tf, flags, tg, inF, text, tt, oth _ _ e (by rw [e2]; decide), e2, r⟩
  · obtain ⟨ps, e⟩ := x.t1; exact ⟨ps, oth _ _ e (fun q => nomatch (show Value.none = Value.type "list" from q))⟩
  · obtain ⟨ps, e⟩ := x.t2; exact ⟨ps, oth _ _ e (fun q => nomatch (show Value.none = Value.type "list" from q))⟩

end

/- into a def made in a call; X is hidden in the base -/
theorem enterF {w : World} {mg mb : Str → Option Value} {s : Shared} {A : Around} {Q E : Value → Shared → Prop} {f : Nat} {args : List Value} {name qual : Str} {params : Arguments} {body : List Stmt} {scope : Scope} {cl : List (Str × Addr)}
    {dV kV doc pm cdv ct oc : Value} {an od : Option Addr} {osl : Array (Option Value)} {binds : List (Str × Value)} {locs : List Str} {globs : List (Str × Value)} {vals : List (Option Value)} (X : List Addr)
    (W : Wd w mg mb s.heap) (WX : Wd w mg mb (hideAll s.heap X)) (T : Tb s.heap) (hroom : A.depth < recursionLimit)
    (ho : Is s.heap f (.obj ⟨oc, od, .func (fnX name qual params body scope cl dV kV doc pm an cdv ct), osl⟩)) (hcd : s.heap.CodeRec cdv qual)
    (hbind : BindsTo s (fnX name qual params body scope cl dV kV doc pm an cdv ct) ⟨args, []⟩ binds)
    (hcell : ∀ x ∈ scope.names, x.2 ≠ .cell) (hloc : ∀ x ∈ binds, scope.names.lookup x.1 = some .local) (hn : Nm mg scope locs globs) (hv : HasAll (fun x => binds.reverse.lookup x) locs vals)
    (hco : scope.isCoroutine = false) (hgen : scope.isGenerator = false) {R : Scope → Prop} (hR : R scope)
    (h : ∀ (cs : Scope) L s₁, R cs → St w mg mb { s with heap := hideAll s.heap X } L cs locs globs vals [] s₁ → Keep s.heap s₁.heap → s.heap.objs.size ≤ L → wpAny (model PR w) (A.deeper (envX qual cs L f cdv cl)) (execs body (envX qual cs L f cdv cl))
      (fun fl s' => Q (match fl with | .ret v => v | _ => .none) s')
      (fun e s' => wpAny (model PR w) (A.deeper (envX qual cs L f cdv cl)) (leaving (envX qual cs L f cdv cl) e) (fun _ s'' => E e s'') (fun e' s'' => E e' s'') s') s₁) :
    wpAny (model PR w) A (call (.ref f) args) Q E s := by
  refine wpAny_call (codeAny_call_def (fd := fnX name qual params body scope cl dV kV doc pm an cdv ct) (body := body) (binds := binds) hroom ho.obj rfl W.nolimit hcd rfl hbind hcell hloc (fun h₁ hns hk₁ => ?_) hco hgen hn.kf)
  refine h scope s.heap.objs.size _ hR ⟨⟨_, _, rfl⟩, WX, hn, ⟨_, hns, hv⟩, Keep.of fun b o e => hk₁ b o (of_hideAll _ e), Nat.le_of_eq (hideAll_size _ _), fun p hp => (nomatch hp), T.keeps hk₁⟩ (Keep.of hk₁) (Nat.le_refl _)

/- into a def of the text that has cells -/
theorem enterC {w : World} {mg mb : Str → Option Value} {s : Shared} {A : Around} {Q E : Value → Shared → Prop} {f : Addr} {args : List Value} {kw : List (Str × Value)} {name qual : Str} {params : Arguments} {body : List Stmt} {scope : Scope}
    {dV kV doc pm cdv ct oc : Value} {an od : Option Addr} {osl : Array (Option Value)} {binds : List (Str × Value)} {locs : List Str} {globs : List (Str × Value)} {vals : List (Option Value)} (cells : Nat → List (Str × Addr)) (news : Nat → List (Nat × Knd))
    (W : Wd w mg mb s.heap) (T : Tb s.heap) (hroom : A.depth < recursionLimit)
    (ho : (hd.heap_39 w.params).lookup f = some ⟨oc, od, .func (fnX name qual params body scope [] dV kV doc pm an cdv ct), osl⟩) (hcd : codeIn (hd.heap_39 w.params) cdv qual = true)
    (hbind : BindsTo s (fnX name qual params body scope [] dV kV doc pm an cdv ct) ⟨args, kw⟩ binds)
    (hcells : ∀ n, cellsFrom n scope.names [] = cells n)
    (hkind : (binds.all fun y => scope.names.lookup y.1 == some .local || scope.names.lookup y.1 == some .cell) = true)
    (hnews : ∀ L, ∀ p ∈ news L, ∃ x, (cells (L + 1)).lookup x = some p.1 ∧ p.2 = .cell (bindC (envOfC qual scope L f cdv).kindOf binds (fun _ => none) x))
    (hn : Nm mg scope locs globs) (hv : ∀ L, HasAll (bindL (envOfC qual scope L f cdv).kindOf binds fun _ => none) locs vals)
    (hco : scope.isCoroutine = false) (hgen : scope.isGenerator = false) {R : Scope → Prop} (hR : R scope)
    (h : ∀ (cs : Scope) L s₁, R cs → St w mg mb s L cs locs globs vals (news L) s₁ → wpAny (model PR w) (A.deeper (envX qual cs L f cdv (cells (L + 1)))) (execs body (envX qual cs L f cdv (cells (L + 1))))
      (fun fl s' => Q (match fl with | .ret v => v | _ => .none) s')
      (fun e s' => wpAny (model PR w) (A.deeper (envX qual cs L f cdv (cells (L + 1)))) (leaving (envX qual cs L f cdv (cells (L + 1))) e) (fun _ s'' => E e s'') (fun e' s'' => E e' s'') s') s₁) :
    wpAny (model PR w) A (call (.ref f) args kw) Q E s := by
  refine wpAny_call (codeAny_call_function (fd := fnX name qual params body scope [] dV kV doc pm an cdv ct) hroom (W.K _ _ ho) rfl hco hgen rfl (codeRec_of W.K hcd) (hbind _ _ _ _ ?_))
  refine wpAny_newFunctionEnv_cells hn.kf (kindsX hkind _) fun env' he s' x => ?_
  subst he
  refine ⟨W.nolimit.keeps x.toInCall.keep, codeAny_func ?_⟩
  obtain ⟨h₁, tk, rfl, hk₁⟩ := x.done
  have e : newEnv scope s.heap.objs.size mainGlobals (cellsFrom (s.heap.objs.size + 1) scope.names []) (qual ++ ".<locals>.") (some f) cdv none builtinsNs = envX qual scope s.heap.objs.size f cdv (cells (s.heap.objs.size + 1)) := by
    rw [hcells]; rfl
  have S : St w mg mb s s.heap.objs.size scope locs globs vals (news s.heap.objs.size) { s with heap := h₁, toks := tk } := by
    refine ⟨⟨_, _, rfl⟩, W, hn, ⟨_, x.toInCall.ns, hv _⟩, Keep.of hk₁, Nat.le_refl _, fun p hp => ?_, T.keeps hk₁⟩
    obtain ⟨y, hy, hp2⟩ := hnews _ p hp
    have hy' : (cellsFrom (s.heap.objs.size + 1) scope.names []).lookup y = some p.1 := by rw [hcells]; exact hy
    have hc := x.cell y p.1 hy'
    have ha := x.above y p.1 (mem_of_lookup hy')
    refine ⟨by rw [hp2]; exact hc, Nat.ne_of_gt ha, Nat.lt_trans W.size ha, fun _ => Heap.get?_none_of_le (Nat.le_of_lt ha)⟩
  have := h scope s.heap.objs.size _ hR S
  rw [← e] at this
  exact this

section
variable {w : World} {mg mb : Str → Option Value} {s₀ s s' : Shared} {L : Nat} {cs : Scope} {locs : List Str} {globs : List (Str × Value)} {vals vals' vals'' : List (Option Value)} {news news' : List (Nat × Knd)}
variable {A : Around} {E : Value → Shared → Prop} {cn : Str} {fa : Addr} {ccd : Value} {cl : List (Str × Addr)} {x y : Str} {v : Value} {pos : Pos}

theorem Wd.builtinsAt {h : Heap} (W : Wd w mg mb h) {P : Addr} {ps : Array Value} (hP : h.get? P = some (tabObj ps)) : h.BuiltinsAt mg P := by
  obtain ⟨bm, ob, b1, b2, b3, b4, b5, b6⟩ := W.bm
  refine ⟨bm, ob, b1, b2, fun q => ?_, fun q => ?_, b3, b4, b5, b6⟩
  · obtain ⟨o, es, ep, e, hd, _⟩ := W.g
    rw [q, e] at b3; cases b3; rw [hd] at b6; cases b6
  · rw [q, hP] at b3; cases b3; cases b4
theorem TabOk.but {h h' : Heap} {P P' : Nat} {line : Int} {q : Str} (x : TabOk h P line q) (hk : ∀ (b : Nat) o, b ≠ P' → h.get? b = some o → h'.get? b = some o) (h1 : P ≠ P') (h2 : P' ≤ 58) : TabOk h' P line q := by
  rcases x with e | ⟨c, e, hc, c', o, vs, t, e2, e3, r⟩
  · exact .inl (hk _ _ h1 e)
  · cases e2
    have hc : @LT.lt Nat _ 58 c := hc
    exact .inr ⟨c, hk _ _ h1 e, hc, c, o, vs, t, rfl, hk _ _ (Nat.ne_of_gt (Nat.lt_of_le_of_lt h2 hc)) e3, r⟩
theorem St.addN (S : St w mg mb s₀ L cs locs globs vals news s) {a : Nat} {k : Knd} (e : Is s.heap a k) (h1 : a ≠ L) (h2 : 58 < a) (h3 : s₀.heap.get? a = none) : St w mg mb s₀ L cs locs globs vals ((a, k) :: news) s :=
  ⟨S.same, S.wd, S.nm, S.ns, S.keep, S.above, fun p hp => by rcases List.mem_cons.mp hp with rfl | hp; exact ⟨e, h1, h2, fun _ => h3⟩; exact S.N p hp, S.tb⟩
theorem Is.hide {h : Heap} {a l : Nat} {k : Knd} (x : Is h a k) (hne : a ≠ l) : Is (hideAll h [l]) a k := x.keep fun o e => hideAll_get _ e (by simpa using hne)
/- a nested def is made: its code stands in the table, or goes there -/
theorem mkFn {Q : Value → Shared → Prop} {name qual : Str} {params : Arguments} {body : List Stmt} {scope : Scope} {clos : List (Str × Addr)} {c P : Nat} {line : Int} {firstLine : Nat} (S : St w mg mb s₀ L cs locs globs vals news s)
    (hpl : ∀ p ∈ news, p.2.plain) (hcd : ccd = .ref c) (hP : P = 54 ∨ P = 47) (C : CodeHd s.heap c P) (hcl : closureFor scope (envX cn cs L fa ccd cl) = pure clos) (hline : (pos.line : Int) = line) (hcol : pos.col = 4) (T : TabOk s.heap P line qual)
    (hT : ∀ h' : Heap, (∀ b o, b ≠ P → s.heap.get? b = some o → h'.get? b = some o) → TabOk h' P line qual → Tb h')
    (h : ∀ (f c' : Nat) ctv doc FO s', FO = fnMade name qual params body scope clos doc ((mg "__name__").getD .none) c' ctv → St w mg mb s₀ L cs locs globs vals ((f, .obj FO) :: (c', .old (.code qual)) :: news) s' → L < f → @LT.lt Nat _ c' f → LtAll f news → NeAll c' news → Q (.ref f) s') :
    wpAny (model PR w) A (makeFunction name qual params (.stmts body) scope (envX cn cs L fa ccd cl) [] [] [] pos firstLine) Q E s := by
  have W := S.cur
  have hPn : P ≠ L := Nat.ne_of_lt (Nat.lt_trans (by rcases hP with rfl | rfl <;> decide) S.big)
  have hne : ∀ b o, b ≠ P → s.heap.get? b = some o → ∀ h' : Heap, Heap.ExtBut P s.heap h' → h'.get? b = some o := fun b o hb e h' hx => hx b o hb e
  rcases T with T | ⟨c', T, hc', hrec⟩
  · refine makeFunction_K (mg := mg) hcl rfl W.g hcd C T trivial rfl (by intro q; rcases hP with rfl | rfl <;> cases q) (W.builtinsAt T) fun c' ctv doc h' tk hx hge hlt hrec htb => ?_
    have hc' : L < c' := Nat.lt_of_lt_of_le S.ltL hge
    have hb := S.big
    have htb' : h'.get? P = some (tabObj #[rawInt line, rawInt 4, .ref c']) := by rw [htb, ← hline, hcol]; rfl
    have S1 : St w mg mb s₀ L cs locs globs vals news { s with heap := h', toks := tk } := by
      refine S.call ⟨_, _, rfl⟩ (fun b o h1 h2 e => hx b o (by rcases hP with rfl | rfl <;> assumption) e) (hT h' (fun b o hb e => hx b o hb e) (.inr ⟨c', htb', Nat.lt_trans hb hc', hrec⟩))
    obtain ⟨c₂, oc, vs, t, e2, hoc, hd, hv⟩ := hrec
    cases e2
    have S2 := S1.addOld (a := c') (k := .code qual) ⟨oc, hoc, vs, t, hd, hv⟩ (Nat.ne_of_gt hc') (Nat.lt_trans hb hc')
    exact h _ c' ctv doc _ _ rfl (S2.push (kd := .obj _) _ rfl) (S2.freshOf S2.newAddr).1 (S2.freshOf S2.newAddr).2.1 (S2.freshOf S2.newAddr).2.2 (NeAll.of fun p hp => Nat.ne_of_lt (Nat.lt_of_lt_of_le (S.lt hp) hge))
  · refine makeFunction_hit (mg := mg) (cv := .ref c') hcl rfl W.g hcd C T trivial (by show (if (line == pos.line && (4 : Int) == pos.col) = true then _ else _) = _; rw [if_pos (by rw [← hline, hcol]; simp)]) (W.builtinsAt T) fun ctv doc h' tk hk hsz => ?_
    have hb := S.big
    have S1 : St w mg mb s₀ L cs locs globs vals news { s with heap := h', toks := tk } := S.call ⟨_, _, rfl⟩ (Keep.of hk) (S.tb.keeps hk)
    obtain ⟨c₂, oc, vs, t, e2, hoc, hd, hv⟩ := hrec
    cases e2
    have hcL : c' ≠ L := fun q => by
      obtain ⟨m, ⟨o, es, ep, e1, e2, _⟩, _⟩ := S.ns
      rw [q, e1] at hoc; cases hoc; rw [e2] at hd; cases hd
    have S2 := S1.addOld (a := c') (k := .code qual) ⟨oc, hk _ _ hoc, vs, t, hd, hv⟩ hcL hc'
    refine h _ c' ctv doc _ _ rfl (S2.push (kd := .obj _) _ rfl) (S2.freshOf S2.newAddr).1 (S2.freshOf S2.newAddr).2.1 (S2.freshOf S2.newAddr).2.2 (NeAll.of fun p hp q => ?_)
    obtain ⟨o, e, ok⟩ := (S.N p hp).1
    rw [q, hoc] at e; cases e
    exact Knd.plain_ok (hpl p hp) ok hd hv
end
end
section
open PySem PySem.W PySem.Calls PySem.Spec PyProof.Rows
set_option maxRecDepth 100000
section
variable {w : World} {mg mb : Str → Option Value} {s₀ s s' : Shared} {L : Nat} {cs : Scope} {locs : List Str} {globs : List (Str × Value)} {vals vals' vals'' : List (Option Value)} {news news' : List (Nat × Knd)}
variable {A : Around} {E : Value → Shared → Prop} {cn : Str} {fa : Addr} {ccd : Value} {cl : List (Str × Addr)} {x y : Str} {v : Value} {pos : Pos} {l : Nat} {vs : List Value}

theorem Is.lstG {h : Heap} (x : Is h l (.lst vs)) : ∃ n, h.get? l = some (lstO vs n) := let ⟨_, e, n, r⟩ := x; ⟨n, r ▸ e⟩
/- a list's object is turned -/
theorem mapLst {h : Heap} {n : Nat} (f : Array Value → Array Value) {vs' : List Value} (e : f vs.toArray = vs'.toArray) (ho : h.get? l = some (lstO vs n)) : Is (h.update l (Obj.mapSeq f)) l (.lst vs') := by
  refine ⟨Obj.mapSeq f (lstO vs n), Heap.get?_update_self _ ho (by simp only [Obj.mapSeq]; rfl), (if (f vs.toArray).size == vs.toArray.size then n else n + 1), ?_⟩
  simp only [Obj.mapSeq, lstO, e]
section
variable {Q : Value → Shared → Prop} (S : St w mg mb s₀ L cs locs globs vals news s)
include S
theorem O_div {a b : Int} {t u : Tok} (hb : b ≠ 0) (hp : Builtin.divisionGoesByPylong a b = false) (h : ∀ t s', St w mg mb s₀ L cs locs globs vals news s' → Q (.int (a.fdiv b) t) s') : wpAny (model PR w) A (binaryOp .FloorDiv (.int a t) (.int b u)) Q E s := floordiv_int hb (h _ _ (S.tok _)) (.inl hp)
theorem lenL (hl : Is s.heap l (.lst vs)) (hz : vs.length < 2 ^ 63) (h : ∀ t s', St w mg mb s₀ L cs locs globs vals news s' → Q (.int vs.length t) s') : wpAny (model PR w) A (call (.builtin "len") [.ref l]) Q E s :=
  PyProof.Rows.len_list hl.lst (by rw [List.size_toArray]; exact_mod_cast hz) (h _ _ (S.tok _))
theorem mulL {x : Int} {u : Tok} (hm : (l, .obj (lstO [v] 0)) ∈ news) (h0 : 0 ≤ x) (hz : x ≤ 2 ^ 24) (h : ∀ p s', St w mg mb s₀ L cs locs globs vals ((p, .lst (List.replicate x.toNat v)) :: news) s' → L < p → LtAll p news → Q (.ref p) s') :
    wpAny (model PR w) A (binaryOp .Mult (.ref l) (.int x u)) Q E s := by
  have hl := (S.get hm).obj
  refine wpAny_binaryOp_repeat_ref (T := "list") (U := "int") (by decide) ⟨_, hl, rfl⟩ (fun s' => typeIs_int s' x u) noFill_list_mul F.fills_int_mul F.slot_int_rmul repeat_list F.slot_int_index.lookup
    (call_meets F.slot_int_rmul (typeIs_int s x u) F.entry_int_rmul (F.args_int_rmul_2 _ _) (int___rmul___int_list x u l #[v] 0)
      ⟨hl, rfl, ⟨_, hl, rfl⟩, call_meets F.slot_list_mul ⟨_, hl, rfl⟩ F.entry_list_mul (F.args_list_mul_2 _ _)
        (AutoListH.list___mul___list_int_3 l #[v] 0 x u (by simp [Builtin.List.listFitsIndex]; omega) (by simp; omega) (by simp [Builtin.List.listTooLong, sizeLine]; omega))
        ⟨hl, h _ _ (S.push _ ?_) (S.freshOf S.newAddr).1 (S.freshOf S.newAddr).2⟩⟩)
  have e : ∀ k : Nat, ∀ acc : List Value, List.foldl (fun x1 x2 : Array Value => x1 ++ x2) acc.toArray (List.replicate k #[v]) = (acc ++ List.replicate k v).toArray := by
    intro k
    induction k with
    | zero => intro acc; simp
    | succ k ih =>
      intro acc
      rw [List.replicate_succ, List.foldl_cons, show acc.toArray ++ #[v] = (acc ++ [v]).toArray by simp, ih, List.replicate_succ, List.append_assoc]; rfl
  refine ⟨0, ?_⟩
  have := e x.toNat []
  simp only [List.nil_append] at this
  simp only [lstO]
  congr 1
  exact congrArg (Data.seq · 0) this
theorem itemL {value slice : Expr} {k : Int} {u : Tok} {x : Value} (hl : Is s.heap l (.lst vs)) (h0 : 0 ≤ k) (hz : k < 2 ^ 63) (hx : vs[k.toNat]? = some x) (h : Q x s)
    (hs : subscripted slice false (.ref l) (.int k u) = operate [.ref l, .int k u] (getItem (.ref l) (.int k u)) := by with_unfolding_all rfl) (hg : ∀ r, letTemporaryGo value (.ref l) r = pure () := by intro _; with_unfolding_all rfl) :
    wpAny (model PR w) A (subscriptTail value slice (.ref l) (.int k u)) Q E s := item_listL hl.lst h0 hz hx h hs hg
theorem methL {name : Str} {id : String} {pl : Sem Bool} {Q : Value × List Value → Shared → Prop} (hl : Is s.heap l (.lst vs)) (slot : Slot "list" name id) (hty : typeOf (.builtin id) = pure (.type "method_descriptor"))
    (h : Q (.builtin id, [.ref l]) s) : wpAny (model PR w) A (getMethod (.ref l) name pl) Q E s := by
  obtain ⟨n, e⟩ := hl.lstG
  exact getMethod_builtin ⟨_, e, rfl⟩ PySem.F.plainAttrs_list slot hty (fun a q => by cases q; exact ⟨_, e, rfl⟩) h
theorem appL {x : Value} (U : UpdK l (.lst vs) (.lst (vs ++ [x])) news news') (hz : vs.length ≤ sizeLine) (h : ∀ s', St w mg mb s₀ L cs locs globs vals news' s' → Q .none s') : wpAny (model PR w) A (call (.builtin "list.append") [.ref l, x]) Q E s := by
  obtain ⟨n, e⟩ := (S.get U.mem).lstG
  refine append_at (hsz := by rw [List.size_toArray]; exact hz) e fun h' hs ho => h _ (S.upd U hs ⟨_, ho, n + 1, ?_⟩ trivial)
  simp [lstO]
theorem revL (U : UpdK l (.lst vs) (.lst vs.reverse) news news') (hz : vs.length ≤ sizeLine) (h : ∀ s', St w mg mb s₀ L cs locs globs vals news' s' → Q .none s') : wpAny (model PR w) A (call (.builtin "list.reverse") [.ref l]) Q E s := by
  obtain ⟨n, e⟩ := (S.get U.mem).lstG
  exact call_meets PySem.F.slot_list_reverse ⟨_, e, rfl⟩ PySem.F.entry_list_reverse (PySem.F.args_list_reverse_1 _) (PySem.AutoSeq1.list_reverse_list_0 l vs.toArray n (by simpa using hz)) ⟨e, h _ (S.upd U (Heap.SameBut.update ..) (mapLst (fun x => x.reverse) (by simp) e) trivial)⟩
end
theorem truthyL {Q : Bool → Shared → Prop} (S : St w mg mb s₀ L cs locs globs vals news s) (hl : Is s.heap l (.lst vs)) (hz : vs.length < 2 ^ 63) (h : ∀ s', St w mg mb s₀ L cs locs globs vals news s' → Q (!vs.isEmpty) s') : wpAny (model PR w) A (truthy (.ref l)) Q E s := by
  refine wpAny_truthy_list hl.lst (by rw [List.size_toArray]; exact_mod_cast hz) ?_
  have e : vs.toArray.isEmpty = vs.isEmpty := by simp
  rw [e]
  exact h _ (S.tok _)
theorem E_if {test body orelse : Expr} {env : Env} {Q : Value → Shared → Prop} (h : wpAny (model PR w) A (isTrue test env (eval test env)) (fun b s₁ => (b = true → wpAny (model PR w) A (eval body env) Q E s₁) ∧ (b = false → wpAny (model PR w) A (eval orelse env) Q E s₁)) E s) :
    wpAny (model PR w) A (eval (.IfExp test body orelse pos) env) Q E s :=
  IfExp_ (wpAny_mono h (fun b s₁ h₁ => by cases b; exact h₁.2 rfl; exact h₁.1 rfl) fun _ _ x => x)
theorem setL {Q : Unit → Shared → Prop} {k : Int} {t : Tok} (S : St w mg mb s₀ L cs locs globs vals news s) (U : UpdK l (.lst vs) (.lst (vs.set k.toNat v)) news news') (h0 : 0 ≤ k) (hz : k < 2 ^ 63) (hk : k < vs.length)
    (h : ∀ s', St w mg mb s₀ L cs locs globs vals news' s' → Q () s') : wpAny (model PR w) A (setItem (.ref l) (.int k t) v) Q E s := by
  obtain ⟨n, e⟩ := (S.get U.mem).lstG
  exact ki_setAt e h0 hz (by rw [List.size_toArray]; exact hk) (h _ (S.upd U (Heap.SameBut.update ..) (mapLst _ (by simp) e) trivial))
theorem St.weakL (S : St w mg mb s₀ L cs locs globs vals ((l, .obj (lstO vs 0)) :: news) s) : St w mg mb s₀ L cs locs globs vals ((l, .lst vs) :: news) s :=
  ⟨S.same, S.wd, S.nm, S.ns, S.keep, S.above, fun p hp => by
    rcases List.mem_cons.mp hp with rfl | hp
    · have := S.N _ (.head _); exact ⟨this.1.toLst, this.2.1, this.2.2.1, fun _ => this.2.2.2 rfl⟩
    · exact S.N p (.tail _ hp), S.tb⟩
theorem X_asgS {o i : Expr} {pos' pos : Pos} {value : Expr} {env : Env} {rest : List Stmt} {Q : Flow → Shared → Prop} (h : wpAny (model PR w) A (eval value env) (fun v s₁ => wpAny (model PR w) A (eval o env) (fun ov s₂ => wpAny (model PR w) A (eval i env) (fun iv s₃ =>
      wpAny (model PR w) A (setItem ov iv v) (fun _ s₄ => wpAny (model PR w) A (execs rest env) Q E s₄) E s₃) E s₂) E s₁) E s) (hs : swapsWith value (some (.Subscript o i pos')) pos.line env = pure false := by rfl) :
    wpAny (model PR w) A (execs (.Assign [.Subscript o i pos'] value pos :: rest) env) Q E s := wpAny_execs_cons (wpAny_Assign_Subscript h hs)
theorem X_defN {name : Str} {params : Arguments} {body rest : List Stmt} {scope : Scope} {pos : Pos} {env : Env} {Q : Flow → Shared → Prop} (hd0 : params.defaults = []) (hk0 : params.kw_defaults = []) (ha : annTrees params none env = [])
    (h : wpAny (model PR w) A (makeFunction name (qualnameIn env name name) params (.stmts body) scope env [] [] [] pos pos.line) (fun v s' => wpAny (model PR w) A (storeName env name v) (fun _ s'' => wpAny (model PR w) A (execs rest env) Q E s'') E s') E s) :
    wpAny (model PR w) A (execs (.FunctionDef name params body [] none [] scope none name pos :: rest) env) Q E s := wpAny_execs_cons (nestDef_K hd0 hk0 ha h)
theorem qualIn {name : Str} (hk : Ck .cell cs name) : qualnameIn (envX cn cs L fa ccd cl) name name = cn ++ ".<locals>." ++ name := by
  unfold qualnameIn
  have : (envX cn cs L fa ccd cl).kindOf name = some .cell := hk.1
  rw [this]; rfl
/- the call of a def made in the call -/
theorem C_fn {Q : Value → Shared → Prop} {f : Nat} {pos : Pos} {e : Expr} {rest : List Expr} {env : Env} {k : Knd} (hf : ∀ h : Heap, Is h f k → FnAt f h) (S : St w mg mb s₀ L cs locs globs vals news s) (hm : (f, k) ∈ news)
    (h : wpAny (model PR w) A (spliced (backTo pos (starEach (e :: rest) env))) (fun vs s₁ => Is s₁.heap f k ∧ wpAny (model PR w) A (call (.ref f) vs) Q E s₁) E s)
    (he : starEach (e :: rest) env = (false, eval e env) :: starEach rest env := by rfl) (hplain : (backTo pos (starEach rest env)).any (·.1) = false := by rfl) :
    wpAny (model PR w) A (callWith pos (.ref f) [] (backTo pos (starEach (e :: rest) env)) []) Q E s :=
  callWith_F (hf _ (S.get hm)) (wpAny_mono h (fun vs s₁ h₁ => ⟨hf _ h₁.1, h₁.2⟩) fun _ _ x => x) he hplain
end
end
section
open PySem PySem.W PySem.Calls PySem.Spec PyProof.Rows
set_option maxRecDepth 100000
section
variable {w : World} {mg mb : Str → Option Value} {s₀ s s' : Shared} {L : Nat} {cs : Scope} {locs : List Str} {globs : List (Str × Value)} {vals vals' vals'' : List (Option Value)} {news news' : List (Nat × Knd)}
variable {A : Around} {E : Value → Shared → Prop} {cn : Str} {fa : Addr} {ccd : Value} {cl : List (Str × Addr)} {x y : Str} {v : Value} {pos : Pos} {l : Nat} {vs : List Value} {it : Nat}

theorem X_for {target iter : Expr} {body rest : List Stmt} {env : Env} {Q : Flow → Shared → Prop} (I : Value → Nat → Shared → Prop) (J : Shared → Prop)
    (start : wpAny (model PR w) A (eval iter env) (fun x s₁ => wpAny (model PR w) A (pyIter x) (fun itv s₂ => ∃ n, I itv n s₂) E s₁) E s)
    (turn : ∀ itv n s, I itv n s → wpAny (model PR w) A (pyNext itv) (fun r s₁ => match r with
      | none => J s₁
      | some v => wpAny (model PR w) A (letOwnedTupleGo target itv v) (fun _ s₁' => wpAny (model PR w) A (assign target env v) (fun _ s₂ => wpAny (model PR w) A (execs body env) (fun f s₃ => ∃ m, (m < n ∧ f = .next) ∧ I itv m s₃) (fun _ _ => False) s₂) (fun _ _ => False) s₁') (fun _ _ => False) s₁) (fun _ _ => False) s)
    (hJ : ∀ s', J s' → wpAny (model PR w) A (execs rest env) Q E s')
    (hs : ∀ x, foldedSetIterable iter env x = pure x := by intro _; rfl) : wpAny (model PR w) A (execs (.For target iter body [] pos :: rest) env) Q E s := by
  refine X_cons (wpAny_For (wpAny_mono start (fun x s₁ h₁ => wpAny_mono h₁ (fun itv s₂ h₂ => ?_) fun _ _ x => x) fun _ _ x => x) hs)
  obtain ⟨n, hI⟩ := h₂
  refine codeAny_forLoop_any (I itv) (fun n s hI => wpAny_mono (turn itv n s hI) (fun r s₁ h₁ => ?_) fun _ _ x => x.elim) n hI
  cases r with
  | none => exact wpAny_execs_nil (hJ _ h₁)
  | some v =>
    refine wpAny_mono h₁ (fun _ s₁' h₁' => wpAny_mono h₁' (fun _ s₂ h₂ => wpAny_mono h₂ (fun f s₃ h₃ => ?_) fun _ _ x => x.elim) fun _ _ x => x.elim) fun _ _ x => x.elim
    obtain ⟨m, ⟨h1, rfl⟩, h2⟩ := h₃
    exact ⟨m, h1, h2⟩
/- a list's iterators -/
noncomputable def rvK (l : Nat) (i : Int) : Knd := .prp fun o => o.cls = .type "list_reverseiterator" ∧ o.data = .fields #[.ref l, rawInt i]
theorem rvK_plain (l : Nat) (i : Int) : (rvK l i).plain := fun o h vs q t hd e => by rw [h.2] at hd; cases hd; simp [rawInt] at e
theorem letGoName {x : Str} {p : Pos} {itv v : Value} {Q : Unit → Shared → Prop} (h : Q () s) : wpAny (model PR w) A (letOwnedTupleGo (.Name x p) itv v) Q E s := wpAny_pure h
theorem callRev {Q : Value → Shared → Prop} (S : St w mg mb s₀ L cs locs globs vals news s) (hl : Is s.heap l (.lst vs)) (h : ∀ t s', St w mg mb s₀ L cs locs globs vals ((t, rvK l ((vs.length : Int) - 1)) :: news) s' → L < t → LtAll t news → Q (.ref t) s') :
    wpAny (model PR w) A (call (.type "reversed") [.ref l]) Q E s := by
  refine call_reversed_list hl.lst (h _ _ (S.push _ ?_) (S.freshOf S.newAddr).1 (S.freshOf S.newAddr).2)
  rw [List.size_toArray]
  exact ⟨rfl, rfl⟩
theorem iterRev {Q : Value → Shared → Prop} {i : Int} (S : St w mg mb s₀ L cs locs globs vals news s) (hi : (it, rvK l i) ∈ news) (h : Q (.ref it) s) : wpAny (model PR w) A (pyIter (.ref it)) Q E s :=
  wpAny_pyIter_revIter (l := l) (i := i) (by obtain ⟨o, e, r⟩ := S.get hi; exact ⟨o, e, r⟩) h
theorem nextRev {Q : Option Value → Shared → Prop} {i : Nat} (S : St w mg mb s₀ L cs locs globs vals news s) (U : UpdK it (rvK l i) (rvK l ((i : Int) - 1)) news news') (hl : Is s.heap l (.lst vs)) (hx : vs[i]? = some v)
    (h : ∀ s', St w mg mb s₀ L cs locs globs vals news' s' → Q (some v) s') : wpAny (model PR w) A (pyNext (.ref it)) Q E s := by
  refine wpAny_pyNext_rev_item (l := l) (i := i) (by obtain ⟨o, e, r⟩ := S.get U.mem; exact ⟨o, e, r⟩) hl.lst (by simpa using hx) fun h' hi hs => h _ (S.upd U hs ?_ (rvK_plain _ _))
  obtain ⟨o, e, r⟩ := hi; exact ⟨o, e, r⟩
theorem St.ext (S : St w mg mb s₀ L cs locs globs vals ((it, k) :: news) s) {h' : Heap} (hx : Heap.ExtBut it s.heap h') (hne : ∀ p ∈ news, p.1 ≠ it) (hp : k.plain) (hn : k.isNew = true := by rfl) : St w mg mb s₀ L cs locs globs vals news { s with heap := h' } := by
  have hL := S.big
  obtain ⟨hi, hiL, _⟩ := S.N _ (.head _)
  have hfr := S.new (.head _) hn
  have hiL : it ≠ L := hiL
  obtain ⟨m, ⟨o, es, ep, h1, h2⟩, x⟩ := S.ns
  have kk : ∀ {h₀ : Heap} {P line q}, TabOk s.heap P line q → P ≤ 58 → TabOk h' P line q := fun {_ P line q} y hP => by
    rcases y with e | ⟨c, e, hc, c', o, vs, t, e2, e3, e4, e5⟩
    · exact .inl (hx _ _ (by have := hfr.2; intro q; rw [q] at hP; exact absurd hP (Nat.not_le.mpr this)) e)
    · cases e2
      refine .inr ⟨c, hx _ _ (by have := hfr.2; intro q; rw [q] at hP; exact absurd hP (Nat.not_le.mpr this)) e, hc, c, o, vs, t, rfl, hx _ _ (fun q => ?_) e3, e4, e5⟩
      obtain ⟨o', e', ok⟩ := hi
      have e' : s.heap.get? it = some o' := e'
      rw [q, e'] at e3; cases e3
      exact Knd.plain_ok hp ok e4 e5
  refine ⟨S.same.trans ⟨_, _, rfl⟩, S.wd, S.nm, ⟨m, ⟨o, es, ep, hx _ _ (fun q => hiL q.symm) h1, h2⟩, x⟩, fun b o h1 h2 e => ?_, S.above, fun p hp => ?_, ⟨kk (h₀ := h') S.tb.a (by decide), kk (h₀ := h') S.tb.b (by decide)⟩⟩
  · exact hx _ _ (fun q => by rw [q, hfr.1] at e; cases e) (S.keep b o h1 h2 e)
  · have := S.N p (.tail _ hp)
    exact ⟨this.1.keep fun o e => hx _ _ (hne p hp) e, this.2⟩
theorem St.drop {p : Nat × Knd} (S : St w mg mb s₀ L cs locs globs vals (p :: news) s) : St w mg mb s₀ L cs locs globs vals news s := S.sub fun _ h => .tail _ h
theorem endRev {Q : Option Value → Shared → Prop} (S : St w mg mb s₀ L cs locs globs vals ((it, rvK l (-1)) :: news) s) (hA : A.handled = none) (hne : ∀ p ∈ news, p.1 ≠ it)
    (h : ∀ s', St w mg mb s₀ L cs locs globs vals news s' → Q none s') : wpAny (model PR w) A (pyNext (.ref it)) Q E s :=
  wpAny_pyNext_rev_end (l := l) hA (by obtain ⟨o, e, r⟩ := S.get (.head _); exact ⟨o, e, r⟩) fun h' hx => h _ (S.ext hx hne (rvK_plain _ _))
theorem iterLst {Q : Value → Shared → Prop} (S : St w mg mb s₀ L cs locs globs vals news s) (hl : Is s.heap l (.lst vs)) (h : ∀ t s', St w mg mb s₀ L cs locs globs vals ((t, .it l 0) :: news) s' → L < t → LtAll t news → Q (.ref t) s') :
    wpAny (model PR w) A (pyIter (.ref l)) Q E s :=
  wpAny_pyIter_list hl.lst (h _ _ (S.push _ ⟨rfl, rfl⟩) (S.freshOf S.newAddr).1 (S.freshOf S.newAddr).2)
theorem nextLst {Q : Option Value → Shared → Prop} {i : Nat} (S : St w mg mb s₀ L cs locs globs vals news s) (U : UpdK it (.it l i) (.it l (i + 1)) news news') (hl : Is s.heap l (.lst vs)) (hx : vs[i]? = some v)
    (h : ∀ s', St w mg mb s₀ L cs locs globs vals news' s' → Q (some v) s') : wpAny (model PR w) A (pyNext (.ref it)) Q E s := by
  refine wpAny_pyNext_list_item (l := l) (i := i) (by obtain ⟨o, e, r⟩ := S.get U.mem; exact ⟨o, e, r⟩) hl.lst (by simpa using hx) fun h' hi hs => h _ (S.upd U hs ?_ trivial)
  obtain ⟨o, e, r⟩ := hi; exact ⟨o, e, r⟩
theorem endLst {Q : Option Value → Shared → Prop} {i : Nat} (S : St w mg mb s₀ L cs locs globs vals ((it, .it l i) :: news) s) (hA : A.handled = none) (hl : Is s.heap l (.lst vs)) (hi : vs.length ≤ i) (hne : ∀ p ∈ news, p.1 ≠ it)
    (h : ∀ s', St w mg mb s₀ L cs locs globs vals news s' → Q none s') : wpAny (model PR w) A (pyNext (.ref it)) Q E s :=
  wpAny_pyNext_list_end (l := l) (i := i) hA (by obtain ⟨o, e, r⟩ := S.get (.head _); exact ⟨o, e, r⟩) hl.lst (by simpa using hi) fun h' hx => h _ (S.ext hx hne trivial)
end
end
section
open PySem
theorem two_pow_pos (k : Nat) : (0 : Int) < 2 ^ k := Int.pow_pos (by decide)
theorem mul2 (x : Int) : x * 2 = x + x := by rw [Int.mul_comm, Int.two_mul]
theorem absN {a b : Int} (h : 0 ≤ a) (h2 : a ≤ b) : a.natAbs ≤ b.natAbs := Int.ofNat_le.mp (by rw [Int.natAbs_of_nonneg h, Int.natAbs_of_nonneg (Int.le_trans h h2)]; exact h2)
theorem bn_abs {a : Int} (h : a < 0) : (-a - 1).natAbs ≤ a.natAbs := Int.natAbs_neg a ▸ absN (Int.le_sub_one_of_lt (Int.neg_pos_of_neg h)) (Int.sub_le_self _ (by decide))
theorem cast_pow (k : Nat) : ((2 ^ k : Nat) : Int) = 2 ^ k := by simp
theorem and_mask {x : Int} (k : Nat) (hx : 0 ≤ x) : Builtin.bitAnd x (2 ^ k - 1) = x % 2 ^ k := by
  have hp := two_pow_pos k
  rw [PyProof.Rows.bitAnd_pp hx (Int.le_sub_one_of_lt hp)]
  have h1 : ((2 : Int) ^ k - 1).toNat = 2 ^ k - 1 := by rw [← cast_pow]; exact Int.toNat_sub (2 ^ k) 1
  rw [h1, Nat.and_two_pow_sub_one_eq_mod]
  have h2 : ((x.toNat : Nat) : Int) = x := Int.toNat_of_nonneg hx
  rw [Int.natCast_emod, h2, cast_pow]
theorem and_disj {x y : Int} (k : Nat) (hx : 0 ≤ x) (hy : 0 ≤ y) (hlt : y < 2 ^ k) : Builtin.bitAnd (x * 2 ^ k) y = 0 := by
  have hp := two_pow_pos k
  obtain ⟨m, rfl⟩ := Int.eq_ofNat_of_zero_le hx
  obtain ⟨n, rfl⟩ := Int.eq_ofNat_of_zero_le hy
  rw [← cast_pow] at hlt ⊢
  rw [PyProof.Rows.bitAnd_pp (Int.mul_nonneg hx (Int.natCast_nonneg _)) hy]
  have h1 : ((m : Int) * ((2 ^ k : Nat) : Int)).toNat = 2 ^ k * m := by rw [← Int.natCast_mul, Int.toNat_natCast, Nat.mul_comm]
  rw [h1, Int.toNat_natCast]
  have h2 := PyProof.Rows.nat_or_add_and (2 ^ k * m) n
  have h3 := Nat.two_pow_add_eq_or_of_lt (i := k) (b := n) (Int.ofNat_lt.mp hlt) m
  rw [Nat.add_left_cancel (h2.trans h3 : _ = _ + 0)]; rfl
theorem or_disj {x y : Int} (k : Nat) (hx : 0 ≤ x) (hy : 0 ≤ y) (hlt : y < 2 ^ k) : Builtin.bitOr (x * 2 ^ k) y = x * 2 ^ k + y := by
  rw [PyProof.Rows.bitOr_and, and_disj k hx hy hlt, Int.sub_zero]
theorem xor_low {x : Int} (k : Nat) (hx : 0 ≤ x) : Builtin.bitXor x (x / 2 ^ k * 2 ^ k) = x % 2 ^ k := by
  have hp := two_pow_pos k
  have hq : 0 ≤ x / 2 ^ k := Int.ediv_nonneg hx (Int.le_of_lt hp)
  have hr := Int.emod_nonneg x (b := 2 ^ k) (Int.ne_of_gt hp)
  have hl := Int.emod_lt_of_pos x hp
  have hd := Int.mul_ediv_add_emod x (2 ^ k)
  have e1 : x = x / 2 ^ k * 2 ^ k + x % 2 ^ k := by rw [Int.mul_comm] at hd; exact hd.symm
  have h1 : Builtin.bitAnd x (x / 2 ^ k * 2 ^ k) = x / 2 ^ k * 2 ^ k := by
    have h3 : Builtin.bitAnd (x / 2 ^ k * 2 ^ k) (x % 2 ^ k) = 0 := and_disj k hq hr hl
    have hy : 0 ≤ x / 2 ^ k * 2 ^ k := Int.mul_nonneg hq (Int.le_of_lt hp)
    rw [PyProof.Rows.bitAnd_pp hy hr] at h3
    rw [PyProof.Rows.bitAnd_pp hx hy]
    generalize hY : (x / 2 ^ k * 2 ^ k).toNat = Y at *
    generalize hR : (x % 2 ^ k).toNat = R at *
    have h4 : Y &&& R = 0 := Int.ofNat.inj h3
    have h5 : x.toNat = Y + R := by rw [← hY, ← hR, ← Int.toNat_add hy hr, ← e1]
    have h6 := PyProof.Rows.nat_or_add_and Y R
    have h7 : x.toNat = Y ||| R := by rw [h5, ← h6, h4, Nat.add_zero]
    rw [h7, Nat.and_comm, Nat.and_or_distrib_left, Nat.and_self, h4, Nat.or_zero, ← hY]
    exact Int.toNat_of_nonneg hy
  rw [PyProof.Rows.bitXor_and, h1, Int.two_mul, ← Int.sub_sub, Int.add_sub_cancel]
  exact Int.sub_eq_iff_eq_add'.mpr e1
theorem fdiv_pow {x : Int} (k : Nat) (_hx : 0 ≤ x) : x.fdiv (2 ^ k) = x / 2 ^ k := Int.fdiv_eq_ediv_of_nonneg _ (Int.le_of_lt (two_pow_pos k))
theorem div_uniq {N b q r : Int} (h : N = q * b + r) (h0 : 0 ≤ r) (h1 : r < b) : N / b = q ∧ N % b = r :=
  (Int.ediv_emod_unique (Int.lt_of_le_of_lt h0 h1)).mpr ⟨by rw [h, Int.mul_comm b q, Int.add_comm], h0, h1⟩
theorem ediv_mod (x y : Int) : x = x / y * y + x % y := by have := Int.mul_ediv_add_emod x y; rw [Int.mul_comm] at this; exact this.symm
theorem bits_lt {x : Int} : x.natAbs < 2 ^ Builtin.Int.intBits x := PySem.intBits_le_iff.mp (Nat.le_refl _)
theorem bits_lt_int {x : Int} (hx : 0 ≤ x) : x < 2 ^ Builtin.Int.intBits x := by
  rw [← cast_pow]
  exact Int.lt_of_le_of_lt Int.le_natAbs (Int.ofNat_lt.mpr bits_lt)
theorem bits_ge {x : Int} (hx : 0 < x) : 2 ^ (Builtin.Int.intBits x - 1) ≤ x := by
  unfold Builtin.Int.intBits
  have h0 : ¬ ((x == 0) = true) := by simpa using Int.ne_of_gt hx
  rw [if_neg h0]
  have h1 : x.natAbs ≠ 0 := Int.natAbs_ne_zero.mpr (Int.ne_of_gt hx)
  have h2 := Nat.log2_self_le h1
  rw [← cast_pow]
  rw [Nat.add_sub_cancel]
  exact Int.le_trans (Int.ofNat_le.mpr h2) (Int.le_of_eq (Int.natAbs_of_nonneg (Int.le_of_lt hx)))
theorem bits_pos {x : Int} (hx : 0 < x) : 0 < Builtin.Int.intBits x := by
  unfold Builtin.Int.intBits
  have h0 : ¬ ((x == 0) = true) := by simpa using Int.ne_of_gt hx
  rw [if_neg h0]; exact Nat.succ_pos _
theorem bits_le {x : Int} {k : Nat} (hx : 0 ≤ x) (h : x < 2 ^ k) : Builtin.Int.intBits x ≤ k := by
  refine PySem.intBits_le_iff.mpr ?_
  exact Int.ofNat_lt.mp (by rw [Int.natAbs_of_nonneg hx, cast_pow]; exact h)
/- how many digits -/
theorem ceilF {b n : Nat} (hn : 1 ≤ n) : ∃ k : Nat, ((b : Int) + (n : Int) - 1) / (n : Int) = k ∧ b ≤ n * k ∧ n * k ≤ b + n ∧ (0 < b → 0 < k) := by
  rw [show (b : Int) + (n : Int) - 1 = ((b + (n - 1) : Nat) : Int) by lia, ← Int.natCast_ediv]
  have h1 := Nat.div_add_mod (b + (n - 1)) n
  have h2 := Nat.mod_lt (b + (n - 1)) hn
  refine ⟨_, rfl, ?_, ?_, fun h => Nat.div_pos ?_ hn⟩
  · lia
  · lia
  · lia
/- a half -/
theorem halfF {k m : Nat} (h1 : k ≠ 1) (h0 : 0 < k) (hk : k ≤ 2 ^ m) : ∃ j i m', m = m' + 1 ∧ k / 2 = j ∧ k = j + i ∧ 0 < j ∧ 0 < i ∧ j ≤ 2 ^ m' ∧ i ≤ 2 ^ m' := by
  cases m with
  | zero => exact absurd (Nat.le_antisymm hk h0) h1
  | succ m =>
    rw [Nat.pow_succ] at hk
    exact ⟨k / 2, k - k / 2, m, rfl, rfl, by lia, by lia, by lia, by lia, by lia⟩
end
section
open PySem PySem.W PySem.Calls PySem.Spec PyProof.Rows
set_option maxRecDepth 100000
theorem slot_re_split : Slot "re.Pattern" "split" "re.Pattern.split" :=
  .of (owner := "re.Pattern") (n := "split") (by rw [typeLookup_type, builtinLookup_eq_fast]; kernel_rfl) (by decide +kernel) (by decide +kernel) (by decide +kernel)
    (by first | exact .inl (by decide +kernel) | exact .inr (by decide +kernel)) (by rw [isSubtype_type]; kernel_rfl)
theorem type_re_split : typeOf (.builtin "re.Pattern.split") = pure (.type "method_descriptor") := by show builtinType _ = _; rw [builtinType_eq_fast]; kernel_rfl
theorem entry_re_split : entryFor table "re.Pattern.split" = some Builtin.«re.Pattern.split» := entryFor_of_fast (by kernel_rfl)
theorem args_re_split (a b : Value) : argsOk "re.Pattern.split" ⟨[a, b], []⟩ := by unfold argsOk; kernel_rfl
theorem plain_re : PlainAttrs "re.Pattern" := ⟨⟨"object.__getattribute__", by rw [typeLookup_type, builtinLookup_eq_fast]; kernel_rfl, by decide +kernel⟩, by rw [typeLookup_type, builtinLookup_eq_fast]; kernel_rfl⟩
end
section
open PySem PySem.Sre PySem.W
set_option maxRecDepth 100000
/- the matcher's state, as far as it is looked at here -/
noncomputable def mst (code text : Array Nat) (lim start pc pos handed : Nat) (out : Bool) (marks : Array (Option Nat)) (lm li : Int) (frames : List Sre.Frame) (weight : Nat) (ans : Option Bool) (seen : Seen) : M :=
  { code, text, lim, start, lastStart := lim, pc, pos, handed, outermost := out, marks, lastmark := lm, lastindex := li, frames, weight, answer := ans, seen }
section
variable {code text : Array Nat} {lim start pc pos handed : Nat} {out : Bool} {marks : Array (Option Nat)} {lm li : Int} {frames : List Sre.Frame} {weight : Nat} {seen : Seen}
theorem step_exec (h : pc < code.size) : (mst code text lim start pc pos handed out marks lm li frames weight none seen).step = (mst code text lim start pc pos handed out marks lm li frames weight none seen).exec := by
  unfold M.step mst
  simp [h]

theorem st_mark0 (h : pc < code.size) (h1 : code.getD pc 0 = 17) (h2 : code.getD (pc + 1) 0 = 0) :
    (mst code text lim start pc pos handed out marks (-1) li frames weight none seen).step = mst code text lim start (pc + 2) pos handed out (marks.setIfInBounds 0 (some pos)) 0 li frames weight none (seen.add 17) := by
  rw [step_exec h]
  unfold M.exec
  rw [show M.word (mst code text lim start pc pos handed out marks (-1) li frames weight none seen) 0 = 17 from h1]
  show M.mark _ (code.getD (pc + 1) 0) = _
  rw [h2]; rfl
theorem st_mark1 (h : pc < code.size) (h1 : code.getD pc 0 = 17) (h2 : code.getD (pc + 1) 0 = 1) :
    (mst code text lim start pc pos handed out marks 0 li frames weight none seen).step = mst code text lim start (pc + 2) pos handed out (marks.setIfInBounds 1 (some pos)) 1 1 frames weight none (seen.add 17) := by
  rw [step_exec h]
  unfold M.exec
  rw [show M.word (mst code text lim start pc pos handed out marks 0 li frames weight none seen) 0 = 17 from h1]
  show M.mark _ (code.getD (pc + 1) 0) = _
  rw [h2]; rfl
theorem st_jump (h : pc < code.size) (h1 : code.getD pc 0 = 15) :
    (mst code text lim start pc pos handed out marks lm li frames weight none seen).step = mst code text lim start (pc + 1 + code.getD (pc + 1) 0) pos handed out marks lm li frames weight none (seen.add 15) := by
  rw [step_exec h]
  unfold M.exec
  rw [show M.word (mst code text lim start pc pos handed out marks lm li frames weight none seen) 0 = 15 from h1]
  rfl
theorem st_success (h : pc < code.size) (h1 : code.getD pc 0 = 1) :
    (mst code text lim start pc pos handed out marks lm li frames weight none seen).step = mst code text lim start pc pos pos out marks lm li frames weight (some true) (seen.add 1) := by
  rw [step_exec h]
  unfold M.exec
  rw [show M.word (mst code text lim start pc pos handed out marks lm li frames weight none seen) 0 = 1 from h1]
  show (if (out && ((false && _) || (false && _))) = true then _ else _) = _
  rw [if_neg (by simp)]; rfl
/- the frame of a branch, of a run, of a start -/
noncomputable def fBr (pc pos : Nat) (out : Bool) (lm li : Int) : Sre.Frame := { wait := .nextBranch, pc, pos, outermost := out, kept := { lastmark := lm, lastindex := li } }
noncomputable def fRun (pc pos : Nat) (out : Bool) (n : Nat) (lm li : Int) : Sre.Frame := { wait := .giveBack, pc, pos, outermost := out, count := n, kept := { lastmark := lm, lastindex := li } }
noncomputable def fSt (pc pos : Nat) (out : Bool) : Sre.Frame := { wait := .nextStart, pc, pos, outermost := out }
theorem attempt_eq {f : Sre.Frame} {target frm : Nat} {o : Bool} (hk : f.kept.marks = #[]) (hw : weight < 1000) :
    (mst code text lim start pc pos handed out marks lm li frames weight none seen).attempt f target frm o = mst code text lim start target frm frm o marks lm li (f :: frames) (weight + 1) none seen := by
  unfold M.attempt
  rw [hk, if_neg (by show ¬ (weight + 1 + 0 > _); exact Nat.not_lt.mpr (Nat.le_trans hw (by decide)))]
  rfl
theorem st_branch (h : pc < code.size) (h1 : code.getD pc 0 = 7) (h2 : code.getD (pc + 1) 0 ≠ 0) (hw : weight < 1000) :
    (mst code text lim start pc pos handed out marks lm li frames weight none seen).step = mst code text lim start (pc + 1 + 1) pos pos out marks lm li (fBr (pc + 1) pos out lm li :: frames) (weight + 1) none (seen.add 7) := by
  rw [step_exec h]
  unfold M.exec
  rw [show M.word (mst code text lim start pc pos handed out marks lm li frames weight none seen) 0 = 7 from h1]
  show (if (code.getD (pc + 1) 0 == 0) = true then _ else _) = _
  rw [if_neg (by simpa using h2)]
  exact attempt_eq (seen := seen.add 7) (f := fBr (pc + 1) pos out lm li) rfl hw
/- the answer no, taken by a branch: the next one, or none -/
theorem st_noBr {p q : Nat} {o : Bool} {lm' li' : Int} (h2 : code.getD (p + code.getD p 0) 0 ≠ 0) (hw : weight < 1000) :
    (mst code text lim start pc pos handed out marks lm' li' (fBr p q o lm li :: frames) (weight + 1) (some false) seen).step =
      mst code text lim start (p + code.getD p 0 + 1) q q o marks lm li (fBr (p + code.getD p 0) q o lm li :: frames) (weight + 1) none seen := by
  show M.resume (mst code text lim start p q handed o marks lm' li' frames weight none seen) (fBr p q o lm li) false = _
  show (if (code.getD (p + code.getD p 0) 0 == 0) = true then _ else _) = _
  rw [if_neg (by simpa using h2)]
  exact attempt_eq (f := fBr (p + code.getD p 0) q o lm li) (pc := p) (handed := handed) rfl hw
theorem st_noBrEnd {p q : Nat} {o : Bool} {lm' li' : Int} (h2 : code.getD (p + code.getD p 0) 0 = 0) :
    (mst code text lim start pc pos handed out marks lm' li' (fBr p q o lm li :: frames) (weight + 1) (some false) seen).step =
      mst code text lim start p q handed o marks lm li frames weight (some false) seen := by
  show M.resume (mst code text lim start p q handed o marks lm' li' frames weight none seen) (fBr p q o lm li) false = _
  show (if (code.getD (p + code.getD p 0) 0 == 0) = true then _ else _) = _
  rw [if_pos (by simpa using h2)]
  rfl
theorem st_yesBr {p q : Nat} {o : Bool} {lm' li' : Int} :
    (mst code text lim start pc pos handed out marks lm li (fBr p q o lm' li' :: frames) (weight + 1) (some true) seen).step = mst code text lim start p q handed o marks lm li frames weight (some true) seen := rfl
theorem st_yesRun {p q n : Nat} {o : Bool} {lm' li' : Int} :
    (mst code text lim start pc pos handed out marks lm li (fRun p q o n lm' li' :: frames) (weight + 1) (some true) seen).step = mst code text lim start p q handed o marks lm li frames weight (some true) seen := rfl
theorem st_yesSt {p q : Nat} {o : Bool} :
    (mst code text lim start pc pos handed out marks lm li (fSt p q o :: frames) (weight + 1) (some true) seen).step = mst code text lim start p q handed o marks lm li frames weight (some true) seen := rfl
theorem st_end {yes : Bool} : ((mst code text lim start pc pos handed out marks lm li [] weight (some yes) seen).step).outcome = some (if yes then .matched else .failed) := by cases yes <;> rfl
noncomputable def fin (m : M) (o : Sre.Outcome) : M := { m with outcome := some o }
theorem st_endF : (mst code text lim start pc pos handed out marks lm li [] weight (some true) seen).step = fin (mst code text lim start pc pos handed out marks lm li [] weight (some true) seen) .matched := rfl
theorem st_endN : (mst code text lim start pc pos handed out marks lm li [] weight (some false) seen).step = fin (mst code text lim start pc pos handed out marks lm li [] weight (some false) seen) .failed := rfl
/- no match at a start: the next start, or the end -/
theorem st_noSt {p q : Nat} {o : Bool} (hq : q < lim) (hc : code.getD 2 0 = 0) (hw : weight < 1000) :
    (mst code text lim start pc pos handed out marks lm li (fSt p q o :: frames) (weight + 1) (some false) seen).step = mst code text lim (q + 1) p (q + 1) (q + 1) false marks (-1) (-1) (fSt p (q + 1) false :: frames) (weight + 1) none seen := by
  show M.resume (mst code text lim start p q handed o marks lm li frames weight none seen) (fSt p q o) false = _
  show (if q < lim then _ else _) = _
  rw [if_pos hq]
  show M.attemptFrom (mst code text lim start p q handed o marks lm li frames weight none seen) (q + 1) false = _
  unfold M.attemptFrom
  have hh : (mst code text lim start p q handed o marks lm li frames weight none seen).hasFirstSet = false := by
    unfold M.hasFirstSet
    show (_ && (code.getD 2 0 == 4)) = false
    rw [hc]; simp
  rw [hh]
  show M.attemptAt _ _ _ = _
  exact attempt_eq (f := fSt p (q + 1) false) (pc := p) (pos := q + 1) (start := q + 1) (handed := handed) (out := o) (lm := -1) (li := -1) rfl hw
theorem st_noStEnd {p q : Nat} {o : Bool} (hq : ¬ q < lim) :
    (mst code text lim start pc pos handed out marks lm li (fSt p q o :: frames) (weight + 1) (some false) seen).step = mst code text lim start p q handed o marks lm li frames weight (some false) seen := by
  show M.resume (mst code text lim start p q handed o marks lm li frames weight none seen) (fSt p q o) false = _
  show (if q < lim then _ else _) = _
  rw [if_neg hq]; rfl
theorem st_in (h : pc < code.size) (h1 : code.getD pc 0 = 13) {seen' : Seen} {b : Bool} (hp : pos < lim) (ha : accepts code pc (text.getD pos 0) (seen.add 13) = .ok (b, seen')) :
    (mst code text lim start pc pos handed out marks lm li frames weight none seen).step =
      if b then mst code text lim start (pc + (1 + code.getD (pc + 1) 0)) (pos + 1) handed out marks lm li frames weight none seen' else mst code text lim start pc pos handed out marks lm li frames weight (some false) seen' := by
  rw [step_exec h]
  unfold M.exec
  rw [show M.word (mst code text lim start pc pos handed out marks lm li frames weight none seen) 0 = 13 from h1]
  show (if pos ≥ lim then _ else match accepts code pc (text.getD pos 0) (seen.add 13) with | .error why => _ | .ok (false, seen) => _ | .ok (true, seen) => _) = _
  rw [if_neg (Nat.not_le.mpr hp), ha]
  cases b
  · rfl
  · show mst code text lim start (pc + itemWidth code pc) (pos + 1) handed out marks lm li frames weight none seen' = _
    unfold itemWidth
    rw [h1]; rfl
theorem st_inEnd (h : pc < code.size) (h1 : code.getD pc 0 = 13) (hp : ¬ pos < lim) :
    (mst code text lim start pc pos handed out marks lm li frames weight none seen).step = mst code text lim start pc pos handed out marks lm li frames weight (some false) (seen.add 13) := by
  rw [step_exec h]
  unfold M.exec
  rw [show M.word (mst code text lim start pc pos handed out marks lm li frames weight none seen) 0 = 13 from h1]
  show (if pos ≥ lim then _ else _) = _
  rw [if_pos (Nat.not_lt.mp hp)]; rfl
theorem st_rep {n : Nat} {seen' : Seen} (h : pc < code.size) (h1 : code.getD pc 0 = 24) (h2 : code.getD (pc + 2) 0 = 1) (hp : pos < lim) (hw : weight < 1000)
    (hr : Sre.run code text (pc + 4) (min (code.getD (pc + 3) 0) (lim - pos)) pos 0 ((seen.add 24).add (code.getD (pc + 4) 0)) = .ok (n, seen')) :
    (mst code text lim start pc pos handed out marks lm li frames weight none seen).step =
      if n < 1 then mst code text lim start pc pos handed out marks lm li frames weight (some false) seen' else mst code text lim start (pc + 1 + code.getD (pc + 1) 0) (pos + n) (pos + n) out marks lm li (fRun pc (pos + n) out n lm li :: frames) (weight + 1) none seen' := by
  rw [step_exec h]
  unfold M.exec
  rw [show M.word (mst code text lim start pc pos handed out marks lm li frames weight none seen) 0 = 24 from h1]
  show (if ((code.getD (pc + 2) 0 : Nat) : Int) > (lim : Int) - pos then _ else match Sre.run code text (pc + 4) (min (code.getD (pc + 3) 0) ((lim : Int) - pos).toNat) pos 0 ((seen.add 24).add (code.getD (pc + 4) 0)) with | .error why => _ | .ok (n, seen) => _) = _
  rw [if_neg (by rw [h2]; exact Int.not_lt.mpr (Int.add_one_le_of_lt (Int.sub_pos_of_lt (Int.ofNat_lt.mpr hp)))), show ((lim : Int) - pos).toNat = lim - pos from Int.toNat_sub lim pos, hr]
  show (if n < code.getD (pc + 2) 0 then _ else _) = _
  rw [h2]
  by_cases hn : n < 1
  · rw [if_pos hn, if_pos hn]; rfl
  · rw [if_neg hn, if_neg hn]
    exact attempt_eq (f := fRun pc (pos + n) out n lm li) (pc := pc) (pos := pos + n) (handed := handed) (seen := seen') rfl hw
theorem st_repEnd (h : pc < code.size) (h1 : code.getD pc 0 = 24) (h2 : code.getD (pc + 2) 0 = 1) (hp : ¬ pos < lim) :
    (mst code text lim start pc pos handed out marks lm li frames weight none seen).step = mst code text lim start pc pos handed out marks lm li frames weight (some false) (seen.add 24) := by
  rw [step_exec h]
  unfold M.exec
  rw [show M.word (mst code text lim start pc pos handed out marks lm li frames weight none seen) 0 = 24 from h1]
  show (if ((code.getD (pc + 2) 0 : Nat) : Int) > (lim : Int) - pos then _ else _) = _
  rw [if_pos (by rw [h2]; exact Int.lt_of_le_of_lt (Int.sub_nonpos_of_le (Int.ofNat_le.mpr (Nat.not_lt.mp hp))) (by decide))]; rfl
end
/- the pattern's words, as the top left them -/
noncomputable def reItems (P : Params) : Array Value := match (hd.heap_39 P).lookup 77 with
  | some ⟨_, _, .seq vs _, _⟩ => vs
  | _ => #[]
noncomputable def reC (P : Params) : Array Nat := ((reItems P).toList.map fun v => (Builtin.Re.reRawOf v).toNat).toArray
theorem reC_eq (P : Params) : ((reItems P).map Builtin.Re.reRawOf).map (·.toNat) = reC P := by
  apply Array.toList_inj.mp; simp [reC]
section
variable (P : Params)
theorem rc_size : (reC P).size = 41 := rfl
theorem rc0 : (reC P).getD 0 0 = 14 := rfl
theorem rc1 : (reC P).getD 1 0 = 4 := rfl
theorem rc2 : (reC P).getD 2 0 = 0 := rfl
theorem rc3 : (reC P).getD 3 0 = 1 := rfl
theorem rc5 : (reC P).getD 5 0 = 17 := rfl
theorem rc6 : (reC P).getD 6 0 = 0 := rfl
theorem rc7 : (reC P).getD 7 0 = 7 := rfl
theorem rc8 : (reC P).getD 8 0 = 14 := rfl
theorem rc9 : (reC P).getD 9 0 = 24 := rfl
theorem rc10 : (reC P).getD 10 0 = 10 := rfl
theorem rc11 : (reC P).getD 11 0 = 1 := rfl
theorem rc12 : (reC P).getD 12 0 = 4294967295 := rfl
theorem rc13 : (reC P).getD 13 0 = 13 := rfl
theorem rc20 : (reC P).getD 20 0 = 15 := rfl
theorem rc21 : (reC P).getD 21 0 = 17 := rfl
theorem rc22 : (reC P).getD 22 0 = 15 := rfl
theorem rc23 : (reC P).getD 23 0 = 13 := rfl
theorem rc24 : (reC P).getD 24 0 = 11 := rfl
theorem rc35 : (reC P).getD 35 0 = 15 := rfl
theorem rc36 : (reC P).getD 36 0 = 2 := rfl
theorem rc37 : (reC P).getD 37 0 = 0 := rfl
theorem rc38 : (reC P).getD 38 0 = 17 := rfl
theorem rc39 : (reC P).getD 39 0 = 1 := rfl
theorem rc40 : (reC P).getD 40 0 = 1 := rfl
noncomputable def isDg (c : Nat) : Bool := 48 ≤ c && c ≤ 57
noncomputable def isSg (c : Nat) : Bool := c == 46 || c == 95 || c == 43 || c == 45
theorem acc13 (c : Nat) (seen : Seen) : ∃ seen', accepts (reC P) 13 c seen = .ok (isDg c, seen') := by
  show ∃ seen', inSet (reC P) c 41 15 true seen = .ok (isDg c, seen')
  show ∃ seen', (if (decide (48 ≤ c) && decide (c ≤ 57)) = true then Except.ok (true, seen.add 22) else inSet (reC P) c 40 18 true (seen.add 22)) = .ok (isDg c, seen')
  unfold isDg
  by_cases h : (decide (48 ≤ c) && decide (c ≤ 57)) = true
  · exact ⟨seen.add 22, by rw [if_pos h, h]⟩
  · refine ⟨(seen.add 22).add 0, ?_⟩
    rw [if_neg h, (Bool.not_eq_true _).mp h]
    rfl
theorem acc23 (c : Nat) (seen : Seen) (hc : c < 128) : ∃ seen', accepts (reC P) 23 c seen = .ok (isSg c, seen') := by
  show ∃ seen', inSet (reC P) c 41 25 true seen = .ok (isSg c, seen')
  show ∃ seen', (if (decide (c < 256) && ((reC P).getD (25 + (1 + c / 32)) 0).testBit (c % 32)) = true then Except.ok (true, seen.add 9) else inSet (reC P) c 40 34 true (seen.add 9)) = .ok (isSg c, seen')
  have hw : (reC P).getD (25 + (1 + c / 32)) 0 = ([0, 26624, 2147483648, 0] : List Nat).getD (c / 32) 0 := by
    have hd : c / 32 < 4 := Nat.div_lt_of_lt_mul hc
    generalize c / 32 = d at hd
    rcases d with _ | _ | _ | _ | d
    · rfl
    · rfl
    · rfl
    · rfl
    · exact absurd hd (Nat.not_lt.mpr (Nat.le_add_left 4 d))
  have e : ∀ c : _root_.Fin 128, (decide (c.val < 256) && (([0, 26624, 2147483648, 0] : List Nat).getD (c.val / 32) 0).testBit (c.val % 32)) = isSg c.val := by decide +kernel
  have e' : (decide (c < 256) && (([0, 26624, 2147483648, 0] : List Nat).getD (c / 32) 0).testBit (c % 32)) = isSg c := e ⟨c, hc⟩
  rw [hw, e']
  by_cases h : isSg c = true
  · exact ⟨seen.add 9, by rw [if_pos h, h]⟩
  · refine ⟨(seen.add 9).add 0, ?_⟩
    rw [if_neg h, (Bool.not_eq_true _).mp h]
    rfl
/- the digits from p on, n of them, then none -/
theorem run13 (text : Array Nat) : ∀ (n k p found : Nat) (seen : Seen), n ≤ k → (∀ i, i < n → isDg (text.getD (p + i) 0) = true) → (n = k ∨ isDg (text.getD (p + n) 0) = false) → ∃ seen', Sre.run (reC P) text 13 k p found seen = .ok (found + n, seen')
  | 0, 0, p, found, seen, _, _, _ => ⟨seen, rfl⟩
  | 0, k + 1, p, found, seen, _, _, h => by
    obtain ⟨seen', e⟩ := acc13 P (text.getD p 0) seen
    rcases h with h | h
    · cases h
    · refine ⟨seen', ?_⟩
      unfold Sre.run
      rw [e]
      rw [Nat.add_zero] at h
      rw [h]; rfl
  | n + 1, k + 1, p, found, seen, hk, hd, h => by
    obtain ⟨seen', e⟩ := acc13 P (text.getD p 0) seen
    have h0 := hd 0 (Nat.succ_pos n)
    rw [Nat.add_zero] at h0
    obtain ⟨seen'', e2⟩ := run13 text n k (p + 1) (found + 1) seen' (Nat.le_of_succ_le_succ hk) (fun i hi => by have := hd (i + 1) (Nat.succ_lt_succ hi); rwa [show p + 1 + i = p + (i + 1) from Nat.succ_add_eq_add_succ p i]) (h.imp Nat.succ.inj fun h => by rwa [show p + 1 + n = p + (n + 1) from Nat.succ_add_eq_add_succ p n])
    refine ⟨seen'', ?_⟩
    unfold Sre.run
    rw [e, h0]
    show Sre.run (reC P) text 13 k (p + 1) (found + 1) seen' = _
    rw [e2]; exact congrArg (fun x => Except.ok (x, seen'')) (Nat.succ_add_eq_add_succ found n)
theorem runFor_succ (n : Nat) (m : M) : M.runFor (n + 1) m = if m.outcome.isSome = true then m else M.runFor n m.step := rfl
theorem runFor_done {m : M} (h : m.outcome.isSome = true) (k : Nat) : M.runFor k m = m := by
  cases k with
  | zero => rfl
  | succ k => rw [runFor_succ, if_pos h]
theorem runFor_add : ∀ (a b : Nat) (m : M), M.runFor (a + b) m = M.runFor b (M.runFor a m)
  | 0, b, m => by rw [Nat.zero_add]; rfl
  | a + 1, b, m => by
    rw [show a + 1 + b = (a + b) + 1 from Nat.add_right_comm a 1 b, runFor_succ, runFor_succ]
    by_cases h : m.outcome.isSome = true
    · rw [if_pos h, if_pos h, runFor_done h]
    · rw [if_neg h, if_neg h, runFor_add a b]
theorem runFor_step {m m' : M} (k : Nat) (h : m.outcome = none) (e : m.step = m') : M.runFor (k + 1) m = M.runFor k m' := by
  have hn : ¬ (m.outcome.isSome = true) := fun q => by rw [h] at q; cases q
  exact (runFor_succ k m).trans ((if_neg hn).trans (congrArg (M.runFor k) e))
theorem drive_eq (n : Nat) (m : M) : Builtin.Re.reDrive (n + 1) m = if (M.runFor 4 m).outcome.isSome = true then pure (M.runFor 4 m) else (do rule "sre.turn"; Builtin.Re.reDrive n (M.runFor 4 m)) := rfl
theorem drive {w : World} {A : Around} {E : Value → Shared → Prop} {s : Shared} {Q : M → Shared → Prop} (k : Nat) : ∀ (n : Nat) (m : M), k < n → (M.runFor (4 * k) m).outcome.isSome = true → Q (M.runFor (4 * k) m) s → wpAny (model PR w) A (Builtin.Re.reDrive n m) Q E s := by
  induction k with
  | zero =>
    intro n m hn h hq
    obtain ⟨n, rfl⟩ : ∃ n', n = n' + 1 := ⟨n - 1, (Nat.sub_add_cancel hn).symm⟩
    rw [drive_eq, runFor_done (m := m) h, if_pos (show m.outcome.isSome = true from h)]
    exact wpAny_pure hq
  | succ k ih =>
    intro n m hn h hq
    obtain ⟨n, rfl⟩ : ∃ n', n = n' + 1 := ⟨n - 1, (Nat.sub_add_cancel (Nat.one_le_of_lt hn)).symm⟩
    rw [show 4 * (k + 1) = 4 + 4 * k from (Nat.mul_succ 4 k).trans (Nat.add_comm ..), runFor_add] at h hq
    rw [drive_eq]
    by_cases hd : (M.runFor 4 m).outcome.isSome = true
    · rw [if_pos hd]
      rw [runFor_done hd] at hq
      exact wpAny_pure hq
    · rw [if_neg hd]
      exact wpAny_bind (wpAny_rule (ih n _ (Nat.lt_of_succ_lt_succ hn) h hq))
end
end
section
open PySem PySem.Sre PySem.W
set_option maxRecDepth 100000
section
variable (P : Params) {text : Array Nat} {lim s e : Nat}
theorem fs_start (hs : s < lim) : forSearch (reC P) text 1 s lim false = mst (reC P) text lim s 5 s s true #[none, none] (-1) (-1) [fSt 5 s true] 1 none (({} : Seen).add 14) := by
  show (if (decide (s > lim) || decide (lim - s < 1)) = true then _ else M.attemptFrom (mst (reC P) text lim s 5 s s true #[none, none] (-1) (-1) [] 0 none (({} : Seen).add 14)) s true) = _
  rw [if_neg (by simp only [Bool.or_eq_true, decide_eq_true_eq, not_or]; exact ⟨Nat.not_lt.mpr (Nat.le_of_lt hs), Nat.not_lt.mpr (Nat.sub_pos_of_lt hs)⟩)]
  unfold M.attemptFrom
  have hh : (mst (reC P) text lim s 5 s s true #[none, none] (-1) (-1) [] 0 none (({} : Seen).add 14)).hasFirstSet = false := by
    unfold M.hasFirstSet
    show (_ && ((reC P).getD 2 0 == 4)) = false
    rw [rc2]; simp
  rw [hh]
  show M.attemptAt _ _ _ = _
  exact attempt_eq (f := fSt 5 s true) (pc := 5) (pos := s) (start := s) (handed := s) (out := true) (lm := -1) (li := -1) (weight := 0) rfl (by decide)
/- a run of digits is found where it begins -/
theorem search_dg (hs : s < e) (he : e ≤ lim) (hlim : lim < 4294967295) (hd : ∀ i, s ≤ i → i < e → isDg (text.getD i 0) = true) (hn : e = lim ∨ isDg (text.getD e 0) = false) :
    ∃ seen, M.runFor 12 (forSearch (reC P) text 1 s lim false) = fin (mst (reC P) text lim s 5 s e true #[some s, some e] 1 1 [] 0 (some true) seen) .matched := by
  have hse := Nat.lt_of_lt_of_le hs he
  have hsl := Nat.add_sub_cancel' (Nat.le_of_lt hs)
  rw [fs_start P hse]
  obtain ⟨seen', hr⟩ := run13 P text (e - s) (lim - s) s 0 (((((({} : Seen).add 14).add 17).add 7).add 24).add 13) (Nat.sub_le_sub_right he s) (fun i hi => hd _ (Nat.le_add_right ..) (Nat.add_lt_of_lt_sub' hi)) (hn.imp (congrArg (· - s)) fun h => by rwa [hsl])
  refine ⟨((seen'.add 15).add 17).add 1, ?_⟩
  rw [runFor_step 11 rfl (st_mark0 (by rw [rc_size]; decide) (rc5 P) (rc6 P))]
  rw [runFor_step 10 rfl (st_branch (by rw [rc_size]; decide) (rc7 P) (by rw [show (5 + 2 + 1 : Nat) = 8 from rfl, rc8]; decide) (by decide))]
  rw [runFor_step 9 rfl (st_rep (n := 0 + (e - s)) (by rw [rc_size]; decide) (rc9 P) (rc11 P) hse (by decide) (by rw [show (5 + 2 + 1 + 1 + 3 : Nat) = 12 from rfl, rc12, Nat.min_eq_right (Nat.le_trans (Nat.sub_le ..) (Nat.le_of_lt hlim))]; exact hr))]
  rw [Nat.zero_add, if_neg (Nat.not_lt.mpr (Nat.sub_pos_of_lt hs)), hsl]
  rw [runFor_step 8 rfl (st_jump (by rw [rc_size, show (5 + 2 + 1 + 1 + 1 : Nat) = 10 from rfl, rc10]; decide) (by rw [show (5 + 2 + 1 + 1 + 1 : Nat) = 10 from rfl, rc10]; exact rc20 P))]
  rw [show (5 + 2 + 1 + 1 + 1 : Nat) = 10 from rfl, rc10, show (10 + 10 + 1 : Nat) = 21 from rfl, rc21]
  rw [runFor_step 7 rfl (st_mark1 (by rw [rc_size]; decide) (rc38 P) (rc39 P))]
  rw [runFor_step 6 rfl (st_success (by rw [rc_size]; decide) (rc40 P))]
  rw [runFor_step 5 rfl st_yesRun, runFor_step 4 rfl st_yesBr, runFor_step 3 rfl st_yesSt, runFor_step 2 rfl st_endF]
  exact runFor_done rfl 2
/- a sign is found where it stands -/
theorem search_sg (hs : s < lim) (hc : text.getD s 0 < 128) (hd : isDg (text.getD s 0) = false) (hg : isSg (text.getD s 0) = true) :
    ∃ seen, M.runFor 12 (forSearch (reC P) text 1 s lim false) = fin (mst (reC P) text lim s 5 s (s + 1) true #[some s, some (s + 1)] 1 1 [] 0 (some true) seen) .matched := by
  rw [fs_start P hs]
  obtain ⟨seen', hr⟩ := run13 P text 0 (min 4294967295 (lim - s)) s 0 (((((({} : Seen).add 14).add 17).add 7).add 24).add 13) (Nat.zero_le _) (fun i hi => absurd hi (Nat.not_lt_zero _)) (.inr hd)
  obtain ⟨seen2, ha⟩ := acc23 P (text.getD s 0) (seen'.add 13) hc
  rw [hg] at ha
  refine ⟨((seen2.add 15).add 17).add 1, ?_⟩
  rw [runFor_step 11 rfl (st_mark0 (by rw [rc_size]; decide) (rc5 P) (rc6 P))]
  rw [runFor_step 10 rfl (st_branch (by rw [rc_size]; decide) (rc7 P) (by rw [show (5 + 2 + 1 : Nat) = 8 from rfl, rc8]; decide) (by decide))]
  rw [runFor_step 9 rfl (st_rep (n := 0) (by rw [rc_size]; decide) (rc9 P) (rc11 P) hs (by decide) (by rw [show (5 + 2 + 1 + 1 + 3 : Nat) = 12 from rfl, rc12]; exact hr))]
  rw [if_pos (by decide)]
  rw [runFor_step 8 rfl (st_noBr (by rw [show (5 + 2 + 1 : Nat) = 8 from rfl, rc8, show (8 + 14 : Nat) = 22 from rfl, rc22]; decide) (by decide))]
  rw [show (5 + 2 + 1 : Nat) = 8 from rfl, rc8]
  rw [runFor_step 7 rfl (st_in (b := true) (by rw [rc_size]; decide) (rc23 P) hs ha)]
  rw [if_pos rfl, show (8 + 14 + 1 + 1 : Nat) = 24 from rfl, rc24]
  rw [runFor_step 6 rfl (st_jump (by rw [rc_size]; decide) (rc35 P))]
  rw [show (8 + 14 + 1 + (1 + 11) + 1 : Nat) = 36 from rfl, rc36]
  rw [runFor_step 5 rfl (st_mark1 (by rw [rc_size]; decide) (rc38 P) (rc39 P))]
  rw [runFor_step 4 rfl (st_success (by rw [rc_size]; decide) (rc40 P))]
  rw [runFor_step 3 rfl st_yesBr, runFor_step 2 rfl st_yesSt, runFor_step 1 rfl st_endF]
  exact runFor_done rfl 1
/- at another sign the search goes on -/
theorem search_no {handed start : Nat} {out : Bool} {m0 m1 : Option Nat} {k : Nat} {seen : Seen} (hs : s < lim) (hc : text.getD s 0 < 128) (hd : isDg (text.getD s 0) = false) (hg : isSg (text.getD s 0) = false) :
    ∃ m0' m1' seen', M.runFor (k + 7) (mst (reC P) text lim start 5 s handed out #[m0, m1] (-1) (-1) [fSt 5 s out] 1 none seen) = M.runFor k (mst (reC P) text lim (s + 1) 5 (s + 1) (s + 1) false #[m0', m1'] (-1) (-1) [fSt 5 (s + 1) false] 1 none seen') := by
  obtain ⟨seen', hr⟩ := run13 P text 0 (min 4294967295 (lim - s)) s 0 ((((seen.add 17).add 7).add 24).add 13) (Nat.zero_le _) (fun i hi => absurd hi (Nat.not_lt_zero _)) (.inr hd)
  obtain ⟨seen2, ha⟩ := acc23 P (text.getD s 0) (seen'.add 13) hc
  rw [hg] at ha
  refine ⟨some s, m1, seen2, ?_⟩
  rw [runFor_step (k + 6) rfl (st_mark0 (by rw [rc_size]; decide) (rc5 P) (rc6 P))]
  rw [runFor_step (k + 5) rfl (st_branch (by rw [rc_size]; decide) (rc7 P) (by rw [show (5 + 2 + 1 : Nat) = 8 from rfl, rc8]; decide) (by decide))]
  rw [runFor_step (k + 4) rfl (st_rep (n := 0) (by rw [rc_size]; decide) (rc9 P) (rc11 P) hs (by decide) (by rw [show (5 + 2 + 1 + 1 + 3 : Nat) = 12 from rfl, rc12]; exact hr))]
  rw [if_pos (by decide)]
  rw [runFor_step (k + 3) rfl (st_noBr (by rw [show (5 + 2 + 1 : Nat) = 8 from rfl, rc8, show (8 + 14 : Nat) = 22 from rfl, rc22]; decide) (by decide))]
  rw [show (5 + 2 + 1 : Nat) = 8 from rfl, rc8]
  rw [runFor_step (k + 2) rfl (st_in (b := false) (by rw [rc_size]; decide) (rc23 P) hs ha)]
  rw [if_neg (by decide)]
  rw [runFor_step (k + 1) rfl (st_noBrEnd (by rw [show (8 + 14 : Nat) = 22 from rfl, rc22]; exact rc37 P))]
  rw [runFor_step k rfl (st_noSt hs (rc2 P) (by decide))]
  rfl
theorem search_end {handed start : Nat} {out : Bool} {m0 m1 : Option Nat} {k : Nat} {seen : Seen} (hs : ¬ s < lim) :
    (M.runFor (k + 8) (mst (reC P) text lim start 5 s handed out #[m0, m1] (-1) (-1) [fSt 5 s out] 1 none seen)).outcome = some .failed := by
  rw [runFor_step (k + 7) rfl (st_mark0 (by rw [rc_size]; decide) (rc5 P) (rc6 P))]
  rw [runFor_step (k + 6) rfl (st_branch (by rw [rc_size]; decide) (rc7 P) (by rw [show (5 + 2 + 1 : Nat) = 8 from rfl, rc8]; decide) (by decide))]
  rw [runFor_step (k + 5) rfl (st_repEnd (by rw [rc_size]; decide) (rc9 P) (rc11 P) hs)]
  rw [runFor_step (k + 4) rfl (st_noBr (by rw [show (5 + 2 + 1 : Nat) = 8 from rfl, rc8, show (8 + 14 : Nat) = 22 from rfl, rc22]; decide) (by decide))]
  rw [show (5 + 2 + 1 : Nat) = 8 from rfl, rc8]
  rw [runFor_step (k + 3) rfl (st_inEnd (by rw [rc_size]; decide) (rc23 P) hs)]
  rw [runFor_step (k + 2) rfl (st_noBrEnd (by rw [show (8 + 14 : Nat) = 22 from rfl, rc22]; exact rc37 P))]
  rw [runFor_step (k + 1) rfl (st_noStEnd hs)]
  rw [runFor_step k rfl st_endN]
  rw [runFor_done rfl]; rfl
end
end
section
open PySem PySem.Sre PySem.W PySem.Calls PyProof.Rows PySem.Builtin.Re
set_option maxRecDepth 100000
section
variable {w : World} {A : Around} {E : Value → Shared → Prop} {s : Shared}
theorem runEnd {Q : Option M → Shared → Prop} {m m' : M} (k : Nat) (hk : k < 1000) (h : M.runFor (4 * k) m = m') (h1 : m'.outcome = some .matched → Q (some m') s) (h2 : m'.outcome = some .failed → Q none s) (h3 : m'.outcome = some .matched ∨ m'.outcome = some .failed) :
    wpAny (model PR w) A (reRunToEnd m) Q E s := by
  unfold reRunToEnd
  refine wpAny_bind (drive k _ m (Nat.lt_trans hk (by decide)) (by rw [h]; rcases h3 with h3 | h3 <;> rw [h3] <;> rfl) ?_)
  rw [h]
  refine wpAny_bind ?_
  refine wpAny_forIn_list _ (fun _ _ s' => s' = s) _ (fun x rest b s' hs => ?_) (fun b s' hs => ?_) _ _ rfl
  · subst hs
    by_cases hq : m'.seen.has x = true
    · simp only [hq, if_true]
      exact wpAny_bind (wpAny_rule (wpAny_pure rfl))
    · simp only [hq]
      exact wpAny_pure rfl
  · subst hs
    rcases h3 with h3 | h3
    · rw [h3]; exact wpAny_pure (h1 h3)
    · rw [h3]; exact wpAny_pure (h2 h3)
end

/- the text's pieces: digits, signs, and what is left -/
inductive Toks : List (List Nat) → List Nat → Prop
  | nil {wd} : (∀ c ∈ wd, c < 128 ∧ isDg c = false ∧ isSg c = false) → Toks [] wd
  | sg {c ts wd} : c < 128 → isDg c = false → isSg c = true → Toks ts wd → Toks ([c] :: ts) wd
  | dg {ds ts wd} : ds ≠ [] → (∀ c ∈ ds, isDg c = true) → (∀ c, (ts.flatten ++ wd).head? = some c → isDg c = false) → Toks ts wd → Toks (ds :: ts) wd
noncomputable def splitOut : List (List Nat) → List Nat → List Str
  | [], wd => [⟨wd.toArray⟩]
  | t :: ts, wd => ⟨#[]⟩ :: ⟨t.toArray⟩ :: splitOut ts wd
section
variable {w : World} {A : Around} {E : Value → Shared → Prop} {s : Shared}
noncomputable abbrev tgt (P : Params) (v : Str) (t : Tok) : ReTarget := ⟨.ref 78, .str v t, reC P, v.cps, 0, 1, 0, v.cps.size⟩
theorem target_wp {v : Str} {t : Tok} {Q : ReTarget → Shared → Prop} (hK : (hd.heap_39 w.params).In s.heap) (h : Q (tgt w.params v t) s) : wpAny (model PR w) A (reWholeTarget (.ref 78) (.str v t)) Q E s := by
  have h78 := hK 78 _ rfl
  have h77 := hK 77 _ rfl
  unfold reWholeTarget
  refine wpAny_bind (wpAny_fieldsOf h78 rfl ?_)
  refine wpAny_bind (m := reTextOf (.str v t)) (wpAny_of_eq (a := (v.cps, 0)) rfl ?_)
  refine wpAny_bind (wpAny_of_eq (a := ()) rfl ?_)
  refine wpAny_bind (m := reRawItems _) (show wpAny _ _ (reRawItems (.ref 77)) _ _ s from wpAny_bind (wpAny_seqItems h77 rfl (wpAny_pure (wpAny_pure ?_))))
  have e := reC_eq w.params
  have e2 : tgt w.params v t = ⟨.ref 78, .str v t, ((reItems w.params).map reRawOf).map (·.toNat), v.cps, 0, 1, 0, v.cps.size⟩ := by rw [e]
  rw [e2] at h
  exact h
/- nothing is found in what is left -/
theorem search_word (P : Params) {text : Array Nat} : ∀ (wd : List Nat) (s start handed : Nat) (out : Bool) (m0 m1 : Option Nat) (seen : Sre.Seen) (k : Nat), text.toList.drop s = wd → s ≤ text.size → (∀ c ∈ wd, c < 128 ∧ isDg c = false ∧ isSg c = false) →
    (M.runFor (7 * wd.length + 8 + k) (mst (reC P) text text.size start 5 s handed out #[m0, m1] (-1) (-1) [fSt 5 s out] 1 none seen)).outcome = some .failed
  | [], s, start, handed, out, m0, m1, seen, k, hd, hs, _ => by
    have hl : text.size - s = 0 := by have := congrArg List.length hd; simpa using this
    rw [show 7 * ([] : List Nat).length + 8 + k = k + 8 by rw [List.length_nil, Nat.mul_zero, Nat.zero_add, Nat.add_comm]]
    exact search_end P (Nat.not_lt.mpr (Nat.le_of_sub_eq_zero hl))
  | c :: wd, s, start, handed, out, m0, m1, seen, k, hd, hs, hw => by
    have hl : text.size - s = wd.length + 1 := by have := congrArg List.length hd; simpa using this
    have hc : text.getD s 0 = c := by
      have h1 := congrArg List.head? hd
      rw [List.head?_drop] at h1
      simp at h1
      rw [Array.getD_eq_getD_getElem?, h1]; rfl
    obtain ⟨h1, h2, h3⟩ := hw c (.head _)
    obtain ⟨m0', m1', seen', e⟩ := search_no P (text := text) (lim := text.size) (s := s) (start := start) (handed := handed) (out := out) (m0 := m0) (m1 := m1) (k := 7 * wd.length + 8 + k) (seen := seen) (Nat.lt_of_sub_eq_succ hl) (by rw [hc]; exact h1) (by rw [hc]; exact h2) (by rw [hc]; exact h3)
    rw [show 7 * (c :: wd).length + 8 + k = 7 * wd.length + 8 + k + 7 by rw [List.length_cons, Nat.mul_succ, Nat.add_right_comm _ 7 8, Nat.add_right_comm _ 7 k], e]
    refine search_word P wd (s + 1) _ _ _ _ _ _ k ?_ (Nat.lt_of_sub_eq_succ hl) fun x hx => hw x (.tail _ hx)
    have := congrArg List.tail hd
    simpa using this
theorem getD_off {v : Array Nat} {pre r : List Nat} (h : v.toList = pre ++ r) (i : Nat) : v.getD (pre.length + i) 0 = r.getD i 0 := by
  have : v = (pre ++ r).toArray := by apply Array.toList_inj.mp; rw [h]
  subst this
  simp [List.getElem?_append_right, List.getD_eq_getElem?_getD]
theorem extract_off {v : Array Nat} {pre t r : List Nat} (h : v.toList = pre ++ (t ++ r)) : v.extract pre.length (pre.length + t.length) = t.toArray := by
  have : v = (pre ++ (t ++ r)).toArray := by apply Array.toList_inj.mp; rw [h]
  subst this
  apply Array.toList_inj.mp
  simp
theorem strs_snoc : ∀ {vs : List Value} {ss : List Str}, StrsAre vs ss → ∀ (x : Str) (t : Tok), StrsAre (vs ++ [.str x t]) (ss ++ [x])
  | _, _, .nil, x, t => .cons x t .nil
  | _, _, .cons n u r, x, t => .cons n u (strs_snoc r x t)
theorem splitOut_cons (t : List Nat) (ts : List (List Nat)) (wd : List Nat) : splitOut (t :: ts) wd = [⟨#[]⟩, ⟨t.toArray⟩] ++ splitOut ts wd := rfl
/- what the search finds at the next piece -/
theorem next_tok (P : Params) {v : Str} {t : Tok} {pre tok : List Nat} {ts : List (List Nat)} {wd : List Nat} (hT : Toks (tok :: ts) wd) (hv : v.cps.toList = pre ++ ((tok :: ts).flatten ++ wd)) (hz : v.cps.size ≤ 1000000) {Q : Option M → Shared → Prop}
    (h : ∀ m : M, m.start = pre.length → m.handed = pre.length + tok.length → m.lastmark = 1 → m.marks = #[some pre.length, some (pre.length + tok.length)] → Q (some m) s) :
    wpAny (model PR w) A (reNextFound (tgt P v t) pre.length false) Q E s := by
  have hv2 : v.cps.toList = pre ++ (tok ++ (ts.flatten ++ wd)) := by rw [hv]; simp
  have hlen : v.cps.size = pre.length + (tok.length + (ts.flatten ++ wd).length) := by
    rw [← Array.length_toList, hv2, List.length_append, List.length_append]
  cases hT with
  | @sg c _ _ h1 h2 h3 h4 =>
    have hc : v.cps.getD pre.length 0 = c := by have := getD_off hv2 0; simpa using this
    obtain ⟨seen, e⟩ := search_sg P (text := v.cps) (lim := v.cps.size) (s := pre.length) (by rw [hlen]; exact Nat.lt_add_of_pos_right (by rw [List.length_singleton, Nat.add_comm]; exact Nat.succ_pos _)) (by rw [hc]; exact h1) (by rw [hc]; exact h2) (by rw [hc]; exact h3)
    exact runEnd 3 (by decide) e (fun _ => h _ rfl rfl rfl rfl) (fun q => nomatch (show some Sre.Outcome.matched = some Sre.Outcome.failed from q)) (.inl rfl)
  | dg h1 h2 h3 h4 =>
    have hpos : 0 < tok.length := List.length_pos_iff.mpr h1
    have hd : ∀ i, pre.length ≤ i → i < pre.length + tok.length → isDg (v.cps.getD i 0) = true := fun i hi hlt => by
      have e := getD_off hv2 (i - pre.length)
      rw [Nat.add_sub_cancel' hi] at e
      have hlt' := Nat.sub_lt_left_of_lt_add hi hlt
      rw [e, List.getD_eq_getElem?_getD, List.getElem?_append_left hlt', List.getElem?_eq_getElem hlt']
      exact h2 _ (List.getElem_mem _)
    have hn : pre.length + tok.length = v.cps.size ∨ isDg (v.cps.getD (pre.length + tok.length) 0) = false := by
      have e := getD_off hv2 tok.length
      rw [List.getD_eq_getElem?_getD, List.getElem?_append_right (Nat.le_refl _), Nat.sub_self] at e
      cases hr : ts.flatten ++ wd with
      | nil => left; rw [hlen, hr]; simp
      | cons c r =>
        right
        rw [e, hr]
        exact h3 c (by rw [hr]; rfl)
    obtain ⟨seen, e⟩ := search_dg P (text := v.cps) (lim := v.cps.size) (s := pre.length) (e := pre.length + tok.length) (Nat.lt_add_of_pos_right hpos) (by rw [hlen]; exact Nat.add_le_add_left (Nat.le_add_right ..) _) (Nat.lt_of_le_of_lt hz (by decide)) hd hn
    exact runEnd 3 (by decide) e (fun _ => h _ rfl rfl rfl rfl) (fun q => nomatch (show some Sre.Outcome.matched = some Sre.Outcome.failed from q)) (.inl rfl)
theorem next_none (P : Params) {v : Str} {t : Tok} {pre wd : List Nat} (hT : Toks [] wd) (hv : v.cps.toList = pre ++ wd) (hw : wd ≠ []) (hw2 : wd.length ≤ 100) {Q : Option M → Shared → Prop} (h : Q none s) :
    wpAny (model PR w) A (reNextFound (tgt P v t) pre.length false) Q E s := by
  cases hT with
  | nil hall =>
    have hpos : 0 < wd.length := List.length_pos_iff.mpr hw
    have hlen : v.cps.size = pre.length + wd.length := by rw [← Array.length_toList, hv, List.length_append]
    have hle : 7 * wd.length + 8 ≤ 4 * (2 * wd.length + 2) := by rw [Nat.mul_add, ← Nat.mul_assoc]; exact Nat.add_le_add_right (Nat.mul_le_mul_right _ (by decide)) 8
    have e := search_word P (text := v.cps) wd pre.length pre.length pre.length true none none (({} : Sre.Seen).add 14) (4 * (2 * wd.length + 2) - (7 * wd.length + 8)) (by rw [hv]; simp) (by rw [hlen]; exact Nat.le_add_right ..) hall
    rw [← fs_start P (by rw [hlen]; exact Nat.lt_add_of_pos_right hpos), Nat.add_sub_cancel' hle] at e
    exact runEnd (2 * wd.length + 2) (Nat.lt_of_le_of_lt (Nat.add_le_add_right (Nat.mul_le_mul_left 2 hw2) 2) (by decide)) rfl (fun q => by have q := e.symm.trans q; cases q) (fun _ => h) (.inr e)
theorem slice_wp {text : Array Nat} {b e : Nat} {l : List Nat} {Q : Value → Shared → Prop} (hl : text.extract b e = l.toArray) (hz : l.length ≤ 1000000) (h : Q (.str ⟨l.toArray⟩ s.toks) { s with toks := s.toks + 1 }) : wpAny (model PR w) A (reSlice text 0 b e) Q E s := by
  show wpAny _ _ (mkStr ⟨text.extract b e⟩) _ _ _
  rw [hl]
  exact wpAny_mkStr h (Nat.le_trans (show l.length ≤ 1000000 from hz) (by decide))
theorem toks_len : ∀ {ts : List (List Nat)} {wd : List Nat}, Toks ts wd → ts.length ≤ ts.flatten.length
  | _, _, .nil _ => Nat.le_refl _
  | _, _, .sg _ _ _ h => by have := toks_len h; rw [List.flatten_cons, List.length_append, List.length_cons, List.length_singleton, Nat.add_comm]; exact Nat.add_le_add_left this 1
  | _, _, .dg (ds := ds) h1 _ _ h => by rw [List.flatten_cons, List.length_append, List.length_cons, Nat.add_comm]; exact Nat.add_le_add (List.length_pos_iff.mpr h1) (toks_len h)
theorem tok_tail {t : List Nat} {ts : List (List Nat)} {wd : List Nat} (h : Toks (t :: ts) wd) : Toks ts wd := by cases h <;> assumption
theorem tok_pos {t : List Nat} {ts : List (List Nat)} {wd : List Nat} (h : Toks (t :: ts) wd) : 0 < t.length := by
  cases h with
  | sg => exact Nat.one_pos
  | dg h1 => exact List.length_pos_iff.mpr h1
theorem split_wp {Q : Value → Shared → Prop} {v : Str} {t : Tok} {ts : List (List Nat)} {wd : List Nat} (hK : (hd.heap_39 w.params).In s.heap) (hT : Toks ts wd) (hv : v.cps.toList = ts.flatten ++ wd) (hw : wd ≠ []) (hw2 : wd.length ≤ 100) (hz : v.cps.size ≤ 1000000)
    (h : ∀ vs k, StrsAre vs (splitOut ts wd) → wpAny (model PR w) A.in1 (newList vs) Q E { s with toks := k }) : wpAny (model PR w) A (call (.builtin "re.Pattern.split") [.ref 78, .str v t]) Q E s := by
  have h78 := hK 78 _ rfl
  refine wpAny_call_entry slot_re_split ⟨_, h78, rfl⟩ entry_re_split ?_ (args_re_split _ _)
  unfold Builtin.«re.Pattern.split»
  refine wpAny_bind (m := reNamed _ _ _ _ _ _) (wpAny_of_eq (a := [some (.str v t), none]) (by rfl) ?_)
  refine wpAny_bind (wpAny_pure ?_)
  refine wpAny_bind (target_wp hK ?_)
  refine wpAny_bind (wpAny_forIn_list _ (fun (rest : List Nat) (st : Array Value × Nat × Nat × Bool × Int × Bool) s' => ∃ pre ts' vs ss n over k, s' = { s with toks := k } ∧ st = (vs.toArray, pre.length, pre.length, false, n, over) ∧ StrsAre vs ss ∧ ss ++ splitOut ts' wd = splitOut ts wd
      ∧ v.cps.toList = pre ++ (ts'.flatten ++ wd) ∧ Toks ts' wd ∧ ((over = false ∧ ts'.length < rest.length) ∨ (over = true ∧ ts' = []))) _ ?_ ?_ _ _ ?_)
  · rintro x rest st s' hI
    refine Classical.byContradiction fun hno => ?_
    obtain ⟨pre, ts', vs, ss, n, over, k, rfl, rfl, hS, hss, hv', hT', hover⟩ := hI
    refine hno ?_
    clear hno
    rcases hover with ⟨rfl, hlt⟩ | ⟨rfl, rfl⟩
    · show wpAny _ _ (reNextFound (tgt w.params v t) pre.length false >>= _) _ _ _
      cases ts' with
      | nil =>
        refine wpAny_bind (next_none w.params hT' (by simpa using hv') hw hw2 (wpAny_pure ?_))
        exact ⟨pre, [], vs, ss, n, true, k, rfl, rfl, hS, hss, hv', hT', .inr ⟨rfl, rfl⟩⟩
      | cons tok ts' =>
        refine wpAny_bind (next_tok w.params hT' hv' hz fun m h1 h2 h3 h4 => ?_)
        have hv2 : v.cps.toList = pre ++ (tok ++ (ts'.flatten ++ wd)) := by rw [hv']; simp
        have hlen : v.cps.size = pre.length + (tok.length + (ts'.flatten ++ wd).length) := by
          rw [← Array.length_toList, hv2, List.length_append, List.length_append]
        have hpos := tok_pos hT'
        refine wpAny_bind (m := reSlice v.cps 0 pre.length m.start) (slice_wp (l := []) (by rw [h1]; simp; exact Nat.min_le_left ..) (by simp) ?_)
        refine wpAny_bind (wpAny_forIn_list _ (fun (rest : List Nat) (o : Array Value) s' => (rest = [0] ∧ s' = { s with toks := k + 1 } ∧ o = (vs ++ [Value.str ⟨#[]⟩ k]).toArray) ∨ (rest = [] ∧ s' = { s with toks := k + 2 } ∧ o = (vs ++ [Value.str ⟨#[]⟩ k, Value.str ⟨tok.toArray⟩ (k + 1)]).toArray)) _ ?_ ?_ _ _ (.inl ⟨rfl, rfl, by simp⟩))
        · rintro g r o s2 (⟨hr, rfl, rfl⟩ | ⟨hr, _⟩)
          · cases hr
            refine wpAny_bind (m := reMachineGroup _ _ _ _) ?_
            unfold reMachineGroup
            rw [if_neg (by rw [h3]; decide), h4]
            show wpAny _ _ (if pre.length + tok.length < pre.length then reWrongSpan else reSlice v.cps 0 pre.length (pre.length + tok.length)) _ _ _
            rw [if_neg (Nat.not_lt.mpr (Nat.le_add_right ..))]
            refine slice_wp (l := tok) (extract_off hv2) (Nat.le_trans (Nat.le_trans (Nat.le_add_right ..) (Nat.le_add_left ..)) (hlen ▸ hz)) (wpAny_pure ?_)
            exact .inr ⟨rfl, rfl, by simp⟩
          · cases hr
        · rintro o s2 (⟨hr, _⟩ | ⟨_, rfl, rfl⟩)
          · cases hr
          · refine wpAny_pure ⟨pre ++ tok, ts', vs ++ [Value.str ⟨#[]⟩ k, Value.str ⟨tok.toArray⟩ (k + 1)], ss ++ [⟨#[]⟩, ⟨tok.toArray⟩], n + 1, false, k + 2, rfl, ?_, ?_, ?_, ?_, tok_tail hT', .inl ⟨rfl, ?_⟩⟩
            · show (_, m.handed, m.handed, m.handed == m.start, _, _) = _
              rw [h1, h2, List.length_append]
              rw [show (pre.length + tok.length == pre.length) = false from beq_false_of_ne (Nat.ne_of_gt (Nat.lt_add_of_pos_right hpos))]
            · have := strs_snoc (strs_snoc hS ⟨#[]⟩ k) ⟨tok.toArray⟩ (k + 1)
              simpa using this
            · rw [← hss, splitOut_cons]; simp
            · rw [hv2]; simp
            · exact Nat.lt_of_succ_lt_succ hlt
    · exact wpAny_pure ⟨pre, [], vs, ss, n, true, k, rfl, rfl, hS, hss, hv', hT', .inr ⟨rfl, rfl⟩⟩
  · rintro st s' hI
    refine Classical.byContradiction fun hno => ?_
    obtain ⟨pre, ts', vs, ss, n, over, k, rfl, rfl, hS, hss, hv', hT', hover⟩ := hI
    refine hno ?_
    clear hno
    rcases hover with ⟨rfl, hlt⟩ | ⟨rfl, rfl⟩
    · exact absurd hlt (Nat.not_lt_zero _)
    have hlen : v.cps.size = pre.length + wd.length := by rw [← Array.length_toList, hv', List.length_append]; simp
    refine wpAny_bind (m := reSlice v.cps 0 pre.length v.cps.size) (slice_wp (l := wd) ?_ (Nat.le_trans hw2 (by decide)) ?_)
    · rw [hlen]; exact extract_off (r := []) (by rw [hv']; simp)
    · refine wpAny_bind ?_
      have hS2 : StrsAre (vs ++ [.str ⟨wd.toArray⟩ k]) (splitOut ts wd) := by rw [← hss]; exact strs_snoc hS ⟨wd.toArray⟩ k
      have := h _ (k + 1) hS2
      simp only [List.toList_toArray, List.push_toArray]
      exact wpAny_mono this (fun v s' hq => wpAny_pure ⟨v, rfl, hq⟩) (fun _ _ h => h)
  · refine ⟨[], ts, [], [], 0, false, s.toks, rfl, rfl, .nil, rfl, hv, hT, .inl ⟨rfl, ?_⟩⟩
    have h1 := toks_len hT
    have hlen : v.cps.size = ts.flatten.length + wd.length := by rw [← Array.length_toList, hv, List.length_append]
    show ts.length < (List.range (2 * v.cps.size + 3)).length
    rw [List.length_range]; exact Nat.lt_of_le_of_lt (Nat.le_trans h1 (Nat.le_trans (Nat.le_add_right ..) (Nat.le_of_eq hlen.symm))) (Nat.lt_of_le_of_lt (Nat.le_mul_of_pos_left _ (by decide)) (Nat.lt_add_of_pos_right (by decide)))
end
end
section
open PySem PySem.W PySem.Calls PyProof.Rows
open Sem (wp)
set_option maxRecDepth 100000
/- the caller of the claim stands in the stack -/
noncomputable def sure (l : List (Code × Pos)) : Bool := l.any fun x => x.1.isCaller
noncomputable def Sure (Γ : Ctx) : Prop := Γ.code.isCaller = true ∨ sure Γ.below = true
noncomputable def wpS {α : Type} (M : Model) (A : Around) (t : Sem α) (Q : α → Shared → Prop) (E : Value → Shared → Prop) (s : Shared) : Prop :=
  ∀ Γ p, Γ.In A → Sure Γ → wp M Γ t (fun a _ s' => Q a s') (fun e _ s' => E e s') p s
noncomputable def codeS (M : Model) (A : Around) (c : Code) (R : Result → Shared → Prop) (s : Shared) : Prop :=
  ∀ Γ p, Γ.code = c → Γ.Below A → sure Γ.below = true → wpCode M Γ R p s
section
variable {α β : Type} {M : Model} {A : Around} {E : Value → Shared → Prop} {s : Shared}
theorem S_of {t : Sem α} {Q : α → Shared → Prop} (h : wpAny M A t Q E s) : wpS M A t Q E s := fun Γ p hΓ _ => h Γ p hΓ
theorem S_mono {t : Sem α} {Q Q' : α → Shared → Prop} {E' : Value → Shared → Prop} (h : wpS M A t Q E s) (hQ : ∀ a s, Q a s → Q' a s) (hE : ∀ e s, E e s → E' e s) : wpS M A t Q' E' s :=
  fun Γ p hΓ hs => Sem.wp_mono M Γ t (fun a _ s => hQ a s) (fun e _ s => hE e s) p s (h Γ p hΓ hs)
theorem S_pure {a : α} {Q : α → Shared → Prop} (h : Q a s) : wpS M A (pure a) Q E s := fun _ _ _ _ => h
theorem S_bind {m : Sem α} {f : α → Sem β} {Q : β → Shared → Prop} (h : wpS M A m (fun a s' => wpS M A (f a) Q E s') E s) : wpS M A (m >>= f) Q E s := fun Γ p hΓ hs => by
  rw [Sem.wp_bind']
  exact Sem.wp_mono M Γ m (fun a p' s' h' => h' Γ p' hΓ hs) (fun _ _ _ h' => h') p s (h Γ p hΓ hs)
/- a leaf first -/
theorem S_then {m : Sem α} {f : α → Sem β} {Q : β → Shared → Prop} (h : wpAny M A m (fun a s' => wpS M A (f a) Q E s') E s) : wpS M A (m >>= f) Q E s := S_bind (S_of h)
theorem S_onRaise {m : Sem α} {k : Value → Sem Unit} {Q : α → Shared → Prop} (h : wpS M A m Q (fun e s' => wpS M A (k e) (fun _ s'' => E e s'') E s') s) : wpS M A (m.onRaise k) Q E s := fun Γ p hΓ hs => by
  rw [Sem.wp_onRaise]
  exact Sem.wp_mono M Γ m (fun _ _ _ h' => h') (fun e p' s' h' => h' Γ p' hΓ hs) p s (h Γ p hΓ hs)
theorem S_attempt {m : Sem α} {Q : Except Value α → Shared → Prop} (h : wpS M A m (fun a => Q (.ok a)) (fun e => Q (.error e)) s) : wpS M A m.attempt Q E s := fun Γ p hΓ hs => by
  rw [Sem.wp_attempt]; exact h Γ p hΓ hs
theorem S_holding {vs : List Value} {m : Sem α} {Q : α → Shared → Prop} (h : wpS M A m Q E s) : wpS M A (holding vs m) Q E s := fun Γ p hΓ hs => by
  rw [Sem.wp_holding]; exact h Γ p hΓ hs
theorem S_stand {pos : Pos} {Q : Unit → Shared → Prop} (h : Q () s) : wpS M A (standAt pos) Q E s := S_of (wpAny_standAt h)
theorem sure_enter {Γ : Ctx} {c : Code} {h : Option Value} {p : Pos} (hs : Sure Γ) : sure (Γ.enter c h p).below = true := by
  show sure ((Γ.code, p) :: Γ.below) = true
  unfold sure
  rw [List.any_cons]
  rcases hs with hs | hs
  · rw [hs]; rfl
  · unfold sure at hs; rw [hs, Bool.or_true]
theorem S_run {c : Code} {h : Option Value} {Q : Flow → Shared → Prop} (hc : codeS M (A.mark h) c (fun r s' => match r with | .ok f => Q f s' | .error e => E e s') s) (hnb : h ≠ some byPass := by intro x; cases x) :
    wpS M A (run c h) Q E s := fun Γ p hΓ hs => by rw [Sem.wp_run]; exact hc _ p rfl (hΓ.enter c h p hnb) (sure_enter hs)
theorem S_runValue {c : Code} {Q : Value → Shared → Prop} (hc : codeS M A c (fun r s' => match r with | .ok (.ret v) => Q v s' | .ok _ => False | .error e => E e s') s) : wpS M A (runValue c) Q E s := fun Γ p hΓ hs => by
  rw [Sem.wp_runValue]; exact hc _ p rfl (hΓ.enter c none p (by intro x; cases x)) (sure_enter hs)
theorem S_call {f : Value} {pos : List Value} {kw : List (Str × Value)} {Q : Value → Shared → Prop} (hc : codeS M A (.call f ⟨pos, kw⟩) (fun r s' => match r with | .ok (.ret v) => Q v s' | .ok _ => False | .error e => E e s') s) :
    wpS M A (call f pos kw) Q E s := S_runValue hc
theorem S_runOwn {c : Code} {h : Option Value} {env : Env} {Q : Flow → Shared → Prop} (hc : codeS M (A.mark h) c (fun r s' => match r with | .ok f => Q f s' | .error e => cameBackBy M A env E e s') s) (hnb : h ≠ some byPass := by intro x; cases x) :
    wpS M A (runOwn c env h) Q E s := by
  unfold runOwn
  exact S_onRaise (S_mono (S_run hc hnb) (fun _ _ x => x) fun _ _ x => S_of x)
theorem codeS_of {c : Code} {R : Result → Shared → Prop} (h : codeAny M A c R s) : codeS M A c R s := fun Γ p hc hΓ _ => h Γ p hc hΓ
theorem codeS_mono {c : Code} {R R' : Result → Shared → Prop} (h : codeS M A c R s) (hR : ∀ r s, R r s → R' r s) : codeS M A c R' s := fun Γ p hc hΓ hs => wpCode_mono hR (h Γ p hc hΓ hs)
theorem codeS_tree {c : Code} {R : Result → Shared → Prop} (h : wpS M (A.under c) (M.den c) (fun fin s' => match fin with | .done f => R (.ok f) s' | .again c' => c'.quiet = true ∧ codeS M A c' R s') (fun e s' => R (.error e) s') s) :
    codeS M A c R s := fun Γ p hc hΓ hs => by
  rw [wpCode_iff_wp, hc]
  refine Sem.wp_mono M Γ _ (fun fin p' s' h' => ?_) (fun _ _ _ h' => h') p s (h Γ p (hc ▸ hΓ.in) (.inr hs))
  cases fin with
  | done f => exact h'
  | again c' => exact ⟨h'.1, h'.2 (Γ.goto c') p' rfl (hΓ.goto c') hs⟩
/- no mark is written below the claim's caller -/
theorem S_mark {own : List String} {e : Value} {Q : Unit → Shared → Prop} (h : Q () s) : wpS M A (markTheRefusal own e) Q E s := fun Γ p hΓ hs => by
  unfold markTheRefusal
  rw [Sem.wp_bind']
  show wp M Γ (stack) _ _ p s
  unfold stack
  rw [Sem.wp_stack]
  have hc : ((((Γ.code, p) :: Γ.below).map (·.1)).any Code.isCaller) = true := by
    rw [List.map_cons, List.any_cons, List.any_map]
    rcases hs with hs | hs
    · rw [hs]; rfl
    · have : (Γ.below.any (Code.isCaller ∘ fun x => x.1)) = true := hs
      rw [this, Bool.or_true]
  have hp : pythonCodeMadeTheCall own (((Γ.code, p) :: Γ.below).map (·.1)) = false := by
    unfold pythonCodeMadeTheCall
    show (!((((Γ.code, p) :: Γ.below).map (·.1)).any Code.isCaller) && _ && _) = false
    rw [hc]; rfl
  show wp M Γ (if pythonCodeMadeTheCall own (((Γ.code, p) :: Γ.below).map (·.1)) = true then _ else _) _ _ p s
  rw [if_neg (by rw [hp]; decide)]
  exact h
end
end
section
open PySem PySem.W PySem.Calls PyProof.Rows
open Sem (wp)
set_option maxRecDepth 100000
/- what follows a suite -/
noncomputable def KontS (M : Model) (A : Around) (env : Env) (E : Value → Shared → Prop) (rest : List Stmt) (Q : Flow → Shared → Prop) (f : Flow) (s : Shared) : Prop :=
  match f with
  | .next => wpS M A (execs rest env) Q E s
  | f => Q f s
section
variable {M : Model} {A : Around} {E : Value → Shared → Prop} {s : Shared} {env : Env} {rest : List Stmt} {Q : Flow → Shared → Prop}
theorem S_cons {st : Stmt} (h : wpS M A (exec st env) (KontS M A env E rest Q) E s) : wpS M A (execs (st :: rest) env) Q E s := fun Γ p hΓ hs => by
  rw [execs_cons, Sem.wp_bind']
  refine Sem.wp_mono M Γ _ (fun f p' s' h' => ?_) (fun _ _ _ h' => h') _ _ (h Γ p hΓ hs)
  cases f <;> first | exact h' Γ p' hΓ hs | exact h'
/- a leaf statement -/
theorem S_pre {st : Stmt} (h : wpAny M A (execs [st] env) (KontS M A env E rest Q) E s) : wpS M A (execs (st :: rest) env) Q E s := fun Γ p hΓ hs => by
  have h1 := h Γ p hΓ
  rw [execs_cons, Sem.wp_bind'] at h1 ⊢
  refine Sem.wp_mono M Γ _ (fun f p' s' h' => ?_) (fun _ _ _ h' => h') _ _ h1
  cases f with
  | next => exact (show KontS M A env E rest Q .next s' from h') Γ p' hΓ hs
  | _ => exact h'
theorem S_nil (h : Q .next s) : wpS M A (execs [] env) Q E s := S_of (wpAny_execs_nil h)
theorem S_ifS {test body orelse pos} (h : wpS M A (isTrue test env (eval test env))
      (fun b s₂ => (b = true → wpS M A (execs body env) (KontS M A env E rest Q) E s₂) ∧ (b = false → wpS M A (execs orelse env) (KontS M A env E rest Q) E s₂)) E s) :
    wpS M A (execs (.If test body orelse pos :: rest) env) Q E s := S_cons fun Γ p hΓ hs => by
  simp only [exec_If, Sem.wp_bind', Sem.wp_cmd_standAt]
  refine Sem.wp_mono M Γ _ (fun b p₂ s₂ h₂ => ?_) (fun _ _ _ h' => h') _ _ (h Γ _ hΓ hs)
  cases b
  · exact h₂.2 rfl Γ p₂ hΓ hs
  · exact h₂.1 rfl Γ p₂ hΓ hs
theorem S_asg {x pos' value pos} (h : wpS M A (eval value env) (fun v s₁ => wpAny M A (storeName env x v) (fun _ s₂ => wpS M A (execs rest env) Q E s₂) E s₁) E s)
    (hs : swapsWith value (some (.Name x pos')) pos.line env = pure false := by rfl) : wpS M A (execs (.Assign [.Name x pos'] value pos :: rest) env) Q E s := S_cons fun Γ p hΓ hs' => by
  simp only [exec_Assign_Name env x pos' value pos hs, Sem.wp_bind', Sem.wp_cmd_standAt, Sem.wp_bindName, Sem.wp_pure']
  exact Sem.wp_mono M Γ _ (fun v _ s₁ h₁ => h₁ Γ _ hΓ) (fun _ _ _ h' => h') _ _ (h Γ _ hΓ hs')
end
section
variable {M : Model} {A : Around} {E : Value → Shared → Prop} {s : Shared} {env : Env}
theorem S_cmpT {l op r pos whole} {Q : Bool → Shared → Prop}
    (h : wpS M A (eval l env) (fun a s₁ => wpAny M A (eval r env) (fun b s₂ => wpAny M A (compareOp op a b) (fun c s₃ => wpAny M A (truthy c) Q E s₃) E s₂) E s₁) E s)
    (hm : behindInMarks op r = false := by with_unfolding_all rfl) : wpS M A (isTrue (.Compare l [op] [r] pos) env whole) Q E s := fun Γ p hΓ hs => by
  simp only [isTrue_Compare1, markedBehindIn_of_false hm, Sem.wp_bind', Sem.wp_holding, Sem.wp_cmd_standAt, Sem.wp_operate]
  exact Sem.wp_mono M Γ _ (fun a p₁ s₁ h₁ => Sem.wp_mono M Γ _ (fun b _ s₂ h₂ => Sem.wp_mono M Γ _ (fun c p₃ s₃ h₃ => h₃ Γ p₃ hΓ)
    (fun _ _ _ h' => h') _ _ (h₂ Γ _ hΓ)) (fun _ _ _ h' => h') _ _ (h₁ Γ p₁ hΓ)) (fun _ _ _ h' => h') _ _ (h Γ p hΓ hs)
theorem S_Call {func : Expr} {args : List Expr} {pos : Pos} {Q : Value → Shared → Prop}
    (h : wpAny M A (eval func env) (fun f s₁ => wpS M A (callWith pos f [] (backTo pos (starEach args env)) []) Q E s₁) E s)
    (he : eval (.Call func args [] pos) env = (do callWith pos (← eval func env) [] (backTo pos (starEach args env)) (backToKw pos (keywordEach [] env))) := by rfl) :
    wpS M A (eval (.Call func args [] pos) env) Q E s := by
  rw [he]; exact S_then h
theorem S_tail {t : Sem Value} {Q : Value → Shared → Prop} (h : wpS M A t Q E s) : wpS M A (t >>= fun r => holding [r] point >>= fun _ => pure r) Q E s :=
  S_bind (S_mono h (fun r s₂ hr => S_of (wpAny_bind (wpAny_holding (wpAny_point (wpAny_pure hr))))) fun _ _ x => x)
theorem S_marked {mk f : Value} {vs : List Value} {kw : List (Str × Value)} {Q : Value → Shared → Prop} (h : wpS M A (call f vs kw) Q E s) : wpS M A (callMarked mk f vs kw) Q E s := by
  unfold callMarked
  exact fun Γ p hΓ hs => by rw [Sem.wp_keep]; exact h Γ p hΓ hs
theorem S_callWith {f : Value} {pos : Pos} {args : List (Bool × Sem Value)} {Q : Value → Shared → Prop} (hplain : args.any (·.1) = false)
    (h : wpAny M A (evalArgs f true args []) (fun a s₁ => (∃ k, (k = Keeper.frame ∨ k = Keeper.machine ∨ k = Keeper.boundFrame) ∧ Looks M s₁.heap (keeperOf f) k) ∧ wpS M A (call f a.pos a.kw) Q E s₁) E s) : wpS M A (callWith pos f [] args []) Q E s := by
  unfold callWith
  refine S_then (wpAny_holding (wpAny_mono h (fun a s₁ h₁ => S_then (wpAny_standAt ?_)) fun _ _ x => x))
  obtain ⟨⟨k, hk', L⟩, h2⟩ := h₁
  simp only [hplain, List.any_nil, Bool.or_false]
  refine S_then (L.here ?_)
  have h3 : wpS M A (call f ([] ++ a.pos) a.kw) Q E s₁ := h2
  rcases hk' with rfl | rfl | rfl <;> dsimp only <;> first | exact S_tail h3 | (split <;> first | exact S_tail h3 | exact S_tail (S_marked h3))
theorem looks_type {T : String} {h : Heap} : Looks M h (keeperOf (.type T)) .machine := fun _ _ _ _ _ q => wpAny_pure q
/- a try statement whose suite is on the spine -/
theorem S_try {body orelse rest : List Stmt} {h₀ : ExceptHandler} {hs : List ExceptHandler} {pos : Pos} {Q : Flow → Shared → Prop}
    (h : wpS M A (execs body env) (fun f s₁ => match f with | .next => wpS M A (execs orelse env) (KontS M A env E rest Q) E s₁ | f => Q f s₁)
      (fun e s₁ => wpAny M A (noteFrame e env) (fun _ s₂ => wpAny M A (setFlight e none) (fun _ s₃ => wpAny M A (handleBy e env (h₀ :: hs)) (KontS M A env E rest Q) E s₃) E s₂) E s₁) s) :
    wpS M A (execs (.Try body (h₀ :: hs) orelse [] pos :: rest) env) Q E s := by
  refine S_cons ?_
  rw [arm_exec_Try]
  refine S_then (wpAny_standAt ?_)
  unfold tryStmt
  simp only [List.isEmpty_nil, if_true, List.isEmpty_cons, Bool.false_and, Bool.false_eq_true, if_false]
  refine S_bind (S_attempt (S_mono h (fun f s₁ h₁ => ?_) fun e s₁ h₁ => ?_))
  · cases f <;> first | exact h₁ | exact S_pure h₁
  · exact S_of (wpAny_bind (wpAny_mono h₁ (fun _ _ h₂ => wpAny_bind h₂) fun _ _ x => x))
end
section
variable {w : World} {A : Around} {E : Value → Shared → Prop} {s : Shared} {R : Result → Shared → Prop}
theorem codeS_builtin {id : String} {args : Args} {b : Builtin} (hb : entryFor table id = some b)
    (h : wpS (model PR w) (A.under (.builtin id args)) (b args) (fun fin s' => match fin with | .done f => R (.ok f) s' | .again c' => c'.quiet = true ∧ codeS (model PR w) A c' R s') (fun e s' => R (.error e) s') s) :
    codeS (model PR w) A (.builtin id args) R s := by
  refine codeS_tree ?_
  show wpS _ _ (match entryFor table id with | some b => b args | none => unsupported ((withoutEnding? id "#data").getD id)) _ _ s
  rw [hb]; exact h
theorem codeS_callB {id : String} {args : Args} {b : Builtin} (hp : plainId id = true) (hb : entryFor table id = some b) (hc : checkBuiltinCall id args = pure ())
    (h : wpS (model PR w) A.in1 (b args) (fun fin s' => match fin with | .done f => R (.ok f) s' | .again c' => c'.quiet = true ∧ codeS (model PR w) A c' R s') (fun e s' => R (.error e) s') s) :
    codeS (model PR w) A (.call (.builtin id) args) R s := by
  refine codeS_tree ?_
  show wpS _ A.in1 (do checkBuiltinCall id args; again (.builtin id args)) _ _ s
  refine S_then (wpAny_of_eq hc (S_pure ⟨plainId_quiet hp args, codeS_builtin hb ?_⟩))
  rw [Around.under_plainId hp args]
  exact h
theorem codeS_func {body env} (h : wpS (model PR w) (A.deeper env) (execs body env) (fun f s' => R (.ok (.ret (match f with | .ret v => v | _ => .none))) s')
      (fun e s' => wpAny (model PR w) (A.deeper env) (leaving env e) (fun _ s'' => R (.error e) s'') (fun e' s'' => R (.error e') s'') s') s) :
    codeS (model PR w) A (.func body env) R s := by
  refine codeS_tree ?_
  show wpS _ (A.deeper env) (do point; match ← (execs body env).onRaise (leaving env) with | .ret v => ret v | _ => ret .none) _ _ s
  refine S_then (wpAny_point (S_bind (S_onRaise (S_mono h (fun f s' h' => ?_) fun _ _ h' => S_of h'))))
  cases f <;> exact S_pure h'
theorem codeS_def {a : Addr} {o : Obj} {fd : FuncData} {body : List Stmt} {args : Args} {binds : List (Str × Value)}
    (hroom : A.depth < recursionLimit) (ho : s.heap.get? a = some o) (hdata : o.data = .func fd) (hlim : s.heap.NoLimit) (hcd : s.heap.CodeRec fd.code fd.qualname)
    (hbody : fd.body = .stmts body) (hbind : BindsTo s fd args binds)
    (hcell : ∀ x ∈ fd.scope.names, x.2 ≠ .cell) (hloc : ∀ x ∈ binds, fd.scope.names.lookup x.1 = some .local)
    (h : ∀ h₀, h₀.Ns s.heap.objs.size (fun x => binds.reverse.lookup x) → (∀ b o, s.heap.get? b = some o → h₀.get? b = some o) →
      wpS (model PR w) (A.deeper (callEnv fd s.heap.objs.size a)) (execs body (callEnv fd s.heap.objs.size a)) (fun f s' => R (.ok (.ret (match f with | .ret v => v | _ => .none))) s')
        (fun e s' => wpAny (model PR w) (A.deeper (callEnv fd s.heap.objs.size a)) (leaving (callEnv fd s.heap.objs.size a) e) (fun _ s'' => R (.error e) s'') (fun e' s'' => R (.error e') s'') s')
        { s with heap := h₀, toks := s.toks + binds.length })
    (hco : fd.scope.isCoroutine = false := by rfl) (hgen : fd.scope.isGenerator = false := by rfl) (hk : fd.scope.kind = .function := by rfl) :
    codeS (model PR w) A (.call (.ref a) args) R s := by
  refine codeS_tree ?_
  show wpS _ A.in1 (callAny (.ref a) args) _ _ s
  simp only [callAny]
  refine S_then (wpAny_load ho ?_)
  obtain ⟨c, oc, vs, tq, hc, hoc, hdc, hq⟩ := hcd
  simp only [hdata, callFunction, hco, hgen, hbody, hc]
  refine S_then (m := field (.ref c) 1) (wpAny_field hoc hdc hq (S_then (wpAny_pure ?_)))
  refine S_then (hbind _ _ _ _ ?_)
  rw [← hc]
  refine S_then (wpAny_newFunctionEnv hcell hloc (fun h₀ hns₀ hsb₀ => ?_) hk)
  refine S_then (wpAny_enterFrame (hlim.fresh _ hsb₀) hroom (S_pure ⟨rfl, codeS_func (h h₀ hns₀ fun b o e => ?_)⟩))
  exact hsb₀.extBut b o (Nat.ne_of_lt (Heap.lt_size e)) (Heap.get?_push_of_some _ e)
theorem codeS_for {target it body orelse env} (I : Nat → Shared → Prop)
    (turn : ∀ n s, I n s → wpAny (model PR w) A (pyNext it) (fun r s₁ => match r with
      | none => wpS (model PR w) A (execs orelse env) (fun f s₃ => R (.ok f) s₃) (fun _ _ => False) s₁
      | some v => wpAny (model PR w) A (letOwnedTupleGo target it v) (fun _ s₁' =>
          wpAny (model PR w) A (assign target env v) (fun _ s₂ => wpS (model PR w) A (execs body env) (fun f s₃ => match f with
            | .next | .cont => ∃ m, m < n ∧ I m s₃
            | .brk => R (.ok .next) s₃
            | .ret v => R (.ok (.ret v)) s₃) (fun _ _ => False) s₂) (fun _ _ => False) s₁') (fun _ _ => False) s₁) (fun _ _ => False) s)
    (n : Nat) (h : I n s) : codeS (model PR w) A (.forLoop target it body orelse env) R s := by
  induction n using Nat.strongRecOn generalizing s with
  | ind n ih =>
    refine codeS_tree ?_
    show wpS _ A ((forTurn target it body orelse env).onRaise (fun x => do noteFrame x env; theTreesLotGoes x)) _ _ s
    refine S_onRaise (E := fun e s' => R (.error e) s') (S_mono (E := fun _ _ => False) ?_ (fun _ _ q => q) fun _ _ x => x.elim)
    simp only [forTurn]
    refine S_then (wpAny_standAt (S_then (wpAny_onRaise (wpAny_mono (turn n s h) (fun r s₁ h₁ => ?_) fun _ _ h' => h'.elim))))
    cases r with
    | none =>
      refine S_pure ⟨rfl, codeS_tree ?_⟩
      show wpS _ _ (do return Fin.done (← (execs orelse env).onRaise (fun x => do noteFrame x env; theTreesLotGoes x))) _ _ s₁
      exact S_bind (S_onRaise (S_mono h₁ (fun f s' h' => S_pure h') fun _ _ h' => h'.elim))
    | some v =>
      refine S_then (wpAny_mono h₁ (fun _ s₁' h₁' => ?_) fun _ _ h' => h')
      refine S_then (wpAny_mono h₁' (fun _ s₂ h₂ => S_bind (S_mono h₂ (fun f s₃ h₃ => ?_) fun _ _ h' => h')) fun _ _ h' => h')
      cases f with
      | next => obtain ⟨m, hm, hI⟩ := h₃; exact S_pure ⟨rfl, ih m hm hI⟩
      | cont => obtain ⟨m, hm, hI⟩ := h₃; exact S_pure ⟨rfl, ih m hm hI⟩
      | brk => exact S_pure h₃
      | ret v => exact S_pure h₃
/- a for statement whose suite is on the spine -/
theorem S_for {target iter : Expr} {body rest : List Stmt} {pos : Pos} {env : Env} {Q : Flow → Shared → Prop} (I : Value → Nat → Shared → Prop)
    (start : wpAny (model PR w) A (eval iter env) (fun x s₁ => wpAny (model PR w) A (pyIter x) (fun itv s₂ => ∃ n, I itv n s₂) E s₁) E s)
    (turn : ∀ itv n s, I itv n s → wpAny (model PR w) A (pyNext itv) (fun r s₁ => match r with
      | none => wpS (model PR w) A (execs rest env) Q E s₁
      | some v => wpAny (model PR w) A (letOwnedTupleGo target itv v) (fun _ s₁' => wpAny (model PR w) A (assign target env v) (fun _ s₂ => wpS (model PR w) A (execs body env) (fun f s₃ => match f with
          | .next => ∃ m, m < n ∧ I itv m s₃
          | .ret v => Q (.ret v) s₃
          | _ => False) (fun _ _ => False) s₂) (fun _ _ => False) s₁') (fun _ _ => False) s₁) (fun _ _ => False) s)
    (hs : ∀ x, foldedSetIterable iter env x = pure x := by intro _; rfl) : wpS (model PR w) A (execs (.For target iter body [] pos :: rest) env) Q E s := by
  refine S_cons ?_
  rw [exec_For]
  refine S_then (wpAny_standAt (S_then (wpAny_mono start (fun x s₁ h₁ => S_then (wpAny_of_eq (hs x) (S_then (wpAny_standAt (S_then (wpAny_holding (wpAny_mono h₁ (fun itv s₂ h₂ => ?_) fun _ _ h' => h'))))))) fun _ _ h' => h')))
  obtain ⟨n, hI⟩ := h₂
  refine S_runOwn (codeS_for (I itv) (fun n s hI => wpAny_mono (turn itv n s hI) (fun r s₁ h₁ => ?_) fun _ _ x => x) n hI)
  cases r with
  | none => exact S_nil h₁
  | some v =>
    refine wpAny_mono h₁ (fun _ s₁' h₁' => wpAny_mono h₁' (fun _ s₂ h₂ => S_mono h₂ (fun f s₃ h₃ => ?_) fun _ _ x => x) fun _ _ x => x) fun _ _ x => x
    cases f with
    | next => exact h₃
    | cont => exact h₃.elim
    | brk => exact h₃.elim
    | ret v => exact h₃
end
end
section
open PySem PySem.W PySem.Calls PyProof.Rows
set_option maxRecDepth 100000
/- a frame below: kept up to its slots -/
noncomputable def frK (oF : Obj) : Knd := .prp fun o => ∃ sl, o = { oF with slots := sl }
section
variable {w : World} {mg mb : Str → Option Value} {s₀ s : Shared} {L F : Nat} {cs : Scope} {locs : List Str} {globs : List (Str × Value)} {vals : List (Option Value)} {news : List (Nat × Knd)} {oF : Obj} {es : Array DictEntry} {n : Nat}
variable {A : Around} {E : Value → Shared → Prop} {cn : Str} {fa : Addr} {ccd : Value} {cl : List (Str × Addr)} {x : Str}
theorem St.flown (S : St w mg mb s₀ L cs locs globs vals ((F, frK oF) :: news) s) (hd : oF.data = .dict es n) (hne : ∀ p ∈ news, p.1 ≠ F) {h' : Heap} {tk : Nat} (st : (hideAll s.heap [L, F]).StaysIn h') (up : s.heap.UpToSlots h') :
    St w mg mb s₀ L cs locs globs vals ((F, frK oF) :: news) { s with heap := h', toks := tk } := by
  have hb := S.big
  obtain ⟨⟨o, ho, sl, rfl⟩, hFL, hF58, hF0⟩ := S.N _ (.head _)
  have ho : s.heap.get? F = some { oF with slots := sl } := ho
  have hF58 : 58 < F := hF58
  have hFL : F ≠ L := hFL
  have hF0 : s₀.heap.get? F = none := hF0 rfl
  obtain ⟨m, ⟨oL, es', ep, eL, dL, r⟩, x⟩ := S.ns
  have kk : ∀ (b : Nat) o, b ≠ L → b ≠ F → s.heap.get? b = some o → h'.get? b = some o := fun b o h1 h2 e => st b o (hideAll_get _ e (by simp [h1, h2]))
  have tb : ∀ {P line q}, TabOk s.heap P line q → P ≤ 58 → TabOk h' P line q := fun {P line q} y hP => by
    have h1 : ∀ (Z : Nat), 58 < Z → P ≠ Z := fun Z hZ q => by rw [q] at hP; exact absurd hP (Nat.not_le.mpr hZ)
    rcases y with e | ⟨c, e, hc, c', o, vs, t, e2, e3, e4, e5⟩
    · exact .inl (kk _ _ (h1 L hb) (h1 F hF58) e)
    · cases e2
      refine .inr ⟨c, kk _ _ (h1 L hb) (h1 F hF58) e, hc, c, o, vs, t, rfl, kk _ _ (fun q => ?_) (fun q => ?_) e3, e4, e5⟩
      · rw [q, eL] at e3; cases e3; rw [dL] at e4; cases e4
      · rw [q, ho] at e3; cases e3; rw [hd] at e4; cases e4
  refine ⟨S.same.trans ⟨_, _, rfl⟩, S.wd, S.nm, ⟨m, up.ns ⟨oL, es', ep, eL, dL, r⟩, x⟩, fun b o h1 h2 e => ?_, S.above, fun p hp => ?_, ⟨tb S.tb.a (by decide), tb S.tb.b (by decide)⟩⟩
  · have h3 : @LT.lt Nat _ b s₀.heap.objs.size := Heap.lt_size e
    have h4 := S.above
    exact kk b o (Nat.ne_of_lt (Nat.lt_of_lt_of_le h3 h4)) (fun q => by rw [q, hF0] at e; cases e) (S.keep b o h1 h2 e)
  · rcases List.mem_cons.mp hp with rfl | hp'
    · obtain ⟨sl', e'⟩ := up F _ ho (fun vs q => by rw [show ({ oF with slots := sl } : Obj).data = oF.data from rfl, hd] at q; cases q)
      exact ⟨⟨_, e', sl', rfl⟩, hFL, hF58, fun _ => hF0⟩
    · have := S.N p (.tail _ hp')
      exact ⟨this.1.keep fun o e => kk p.1 o this.2.1 (hne p hp') e, this.2⟩
theorem St.frames (S : St w mg mb s₀ L cs locs globs vals ((F, frK oF) :: news) s) (hd : oF.data = .dict es n) {envF : Env} (hF : envF.frame = some F) (hFk : envF.scope.kind ≠ .module) {h' : Heap} (hk : ∀ b o, s.heap.get? b = some o → h'.get? b = some o) :
    h'.FunFrames (hideAll s.heap [L, F]) [envX cn cs L fa ccd cl, envF] := by
  obtain ⟨⟨o, ho, sl, rfl⟩, _⟩ := S.N _ (.head _)
  obtain ⟨m, ⟨oL, es', ep, eL, dL, r⟩, x⟩ := S.ns
  refine ⟨?_, ⟨L, oL, rfl, hideAll_none _ (by simp), hk _ _ eL, fun vs q => by rw [dL] at q; cases q⟩, hFk, ⟨F, _, hF, hideAll_none _ (by simp), hk _ _ ho, fun vs q => by rw [show ({ oF with slots := sl } : Obj).data = oF.data from rfl, hd] at q; cases q⟩, trivial⟩
  show cs.kind ≠ .module
  rw [S.nm.kf]; decide
/- an exception made in the frame is caught there -/
theorem caughtN {X T : String} {envF : Env} {np pos : Pos} {b₀ : Stmt} {suite : List Stmt} {rest : List ExceptHandler} {Q : Flow → Shared → Prop} {h' : Heap} {tk : Nat} {e : Addr}
    (S : St w mg mb s₀ L cs locs globs vals ((F, frK oF) :: news) s) (hd : oF.data = .dict es n) (hne : ∀ p ∈ news, p.1 ≠ F) (hfr : A.frames = some [envF]) (hF : envF.frame = some F) (hFk : envF.scope.kind ≠ .module)
    (hx : Heap.NewExc s.heap h' e X) (hg : (x, .type T) ∈ globs) (hexc : isSubtype (.type T) (.type "BaseException") = pure true) (hnt : isSubtype (.type ((Manifest.find? T).elim "type" fun x => x.metatype)) (.type "tuple") = pure false) (hsub : isSubtype (.type X) (.type T) = pure true)
    (k : ∀ E' s', St w mg mb s₀ L cs locs globs vals ((F, frK oF) :: news) s' → wpAny (model PR w) ((A.deeper (envX cn cs L fa ccd cl)).mark (some (.ref e))) (execs (b₀ :: suite) (envX cn cs L fa ccd cl)) Q E' s') :
    wpAny (model PR w) (A.deeper (envX cn cs L fa ccd cl)) (noteFrame (.ref e) (envX cn cs L fa ccd cl)) (fun _ s₂ => wpAny (model PR w) (A.deeper (envX cn cs L fa ccd cl)) (setFlight (.ref e) none) (fun _ s₃ =>
      wpAny (model PR w) (A.deeper (envX cn cs L fa ccd cl)) (handleBy (.ref e) (envX cn cs L fa ccd cl) (.ExceptHandler (some (.Name x np)) none (b₀ :: suite) pos :: rest)) Q E s₃) E s₂) E { s with heap := h', toks := tk } := by
  have hst : (hideAll s.heap [L, F]).StaysIn h' := fun b o q => hx.keeps b o (of_hideAll _ q)
  have hen : (hideAll s.heap [L, F]).get? e = none := by
    cases q : (hideAll s.heap [L, F]).get? e with
    | none => rfl
    | some o => have := of_hideAll _ q; rw [hx.new] at this; cases this
  obtain ⟨ob, t, he, hcls, hdt⟩ := hx.there
  have hfr' : (A.deeper (envX cn cs L fa ccd cl)).frames = some [envX cn cs L fa ccd cl, envF] := by show A.frames.map _ = _; rw [hfr]; rfl
  unfold noteFrame
  refine wpAny_bind (wpAny_field (x := Value.none) he hdt rfl ?_)
  rw [if_neg (by decide)]
  refine wpAny_entryW (L := L) (a0 := t) hfr' (S.frames hd hF hFk hx.keeps) rfl he hst hen hdt (by simp) rfl fun h₁ hN => ?_
  obtain ⟨n1, n2, n3, n4⟩ := hN
  rw [hcls] at n3
  refine wpAny_landsW ⟨n1, hen, n2, n3⟩ fun h₂ hfl hup => ?_
  have up2 : s.heap.UpToSlots h₂ := (Heap.UpToSlots.of_keeps hx.keeps).trans (Heap.UpToSlots.trans n4 hup)
  have S2 := S.flown hd hne (tk := tk) hfl.1 up2
  refine wpAny_handleBy_builtin (X := X) (T := T) (b := true) hexc hnt hsub (rdG S2 hg ⟨rfl, hfl.there, ?_⟩)
  rw [if_pos rfl]
  exact lands_againW hfl fun h₃ hfl₃ hup₃ => k _ _ (S.flown hd hne (tk := tk) hfl₃.1 (up2.trans hup₃))
/- an exception that comes from a call is caught -/
theorem caughtF {X T : String} {a0 : Value} {envF : Env} {np pos : Pos} {b₀ : Stmt} {suite : List Stmt} {rest : List ExceptHandler} {Q : Flow → Shared → Prop} {h' : Heap} {tk : Nat} {e : Addr}
    (S : St w mg mb s₀ L cs locs globs vals ((F, frK oF) :: news) s) (hd : oF.data = .dict es n) (hne : ∀ p ∈ news, p.1 ≠ F) (hfr : A.frames = some [envF])
    (hx : Heap.FlyingW (hideAll s.heap [L, F]) [envX cn cs L fa ccd cl, envF] e (.type X) a0 h') (hu : s.heap.UpToSlots h')
    (hg : (x, .type T) ∈ globs) (hexc : isSubtype (.type T) (.type "BaseException") = pure true) (hnt : isSubtype (.type ((Manifest.find? T).elim "type" fun x => x.metatype)) (.type "tuple") = pure false) (hsub : isSubtype (.type X) (.type T) = pure true)
    (k : ∀ E' s', St w mg mb s₀ L cs locs globs vals ((F, frK oF) :: news) s' → wpAny (model PR w) ((A.deeper (envX cn cs L fa ccd cl)).mark (some (.ref e))) (execs (b₀ :: suite) (envX cn cs L fa ccd cl)) Q E' s') :
    wpAny (model PR w) (A.deeper (envX cn cs L fa ccd cl)) (noteFrame (.ref e) (envX cn cs L fa ccd cl)) (fun _ s₂ => wpAny (model PR w) (A.deeper (envX cn cs L fa ccd cl)) (setFlight (.ref e) none) (fun _ s₃ =>
      wpAny (model PR w) (A.deeper (envX cn cs L fa ccd cl)) (handleBy (.ref e) (envX cn cs L fa ccd cl) (.ExceptHandler (some (.Name x np)) none (b₀ :: suite) pos :: rest)) Q E s₃) E s₂) E { s with heap := h', toks := tk } := by
  have hfr' : (A.deeper (envX cn cs L fa ccd cl)).frames = some [envX cn cs L fa ccd cl, envF] := by show A.frames.map _ = _; rw [hfr]; rfl
  refine wpAny_looks_onW (L := L) hfr' rfl hx fun h₁ hh up1 => ?_
  refine wpAny_landsW hh fun h₂ hfl hup => ?_
  have up2 : s.heap.UpToSlots h₂ := hu.trans (Heap.UpToSlots.trans up1 hup)
  have S2 := S.flown hd hne (tk := tk) hfl.1 up2
  refine wpAny_handleBy_builtin (X := X) (T := T) (b := true) hexc hnt hsub (rdG S2 hg ⟨rfl, hfl.there, ?_⟩)
  rw [if_pos rfl]
  exact lands_againW hfl fun h₃ hfl₃ hup₃ => k _ _ (S.flown hd hne (tk := tk) hfl₃.1 (up2.trans hup₃))
end
end
section
open PySem PySem.W PySem.Calls PyProof.Rows
set_option maxRecDepth 100000
section
variable {w : World} {mg mb : Str → Option Value} {s₀ s s' : Shared} {L F : Nat} {cs : Scope} {locs : List Str} {globs : List (Str × Value)} {vals : List (Option Value)} {news : List (Nat × Knd)} {oF oL : Obj}
theorem St.own (S : St w mg mb s₀ L cs locs globs vals news s) : ∃ oL es ep, s.heap.get? L = some oL ∧ oL.data = .dict es ep := let ⟨_, ⟨o, es, ep, e, d, _⟩, _⟩ := S.ns; ⟨o, es, ep, e, d⟩
/- without its own frame the heap still holds the world -/
theorem St.hideSelf (S : St w mg mb s₀ L cs locs globs vals news s) : Wd w mg mb (hideAll s.heap [L]) := by
  have hb := S.big
  obtain ⟨m, ⟨oL, es', ep, eL, dL, r⟩, x⟩ := S.ns
  have kk : ∀ (b : Nat) o, b ≠ L → s.heap.get? b = some o → (hideAll s.heap [L]).get? b = some o := fun b o h1 e => hideAll_get _ e (by simp [h1])
  have tb : ∀ {P line q}, TabOk s.heap P line q → P ≤ 58 → TabOk (hideAll s.heap [L]) P line q := fun {P line q} y hP => by
    have h1 : P ≠ L := fun q => by rw [q] at hP; exact absurd hP (Nat.not_le.mpr hb)
    rcases y with e | ⟨c, e, hc, c', o, vs, t, e2, e3, e4, e5⟩
    · exact .inl (kk _ _ h1 e)
    · cases e2
      refine .inr ⟨c, kk _ _ h1 e, hc, c, o, vs, t, rfl, kk _ _ (fun q => ?_) e3, e4, e5⟩
      rw [q, eL] at e3; cases e3; rw [dL] at e4; cases e4
  refine S.wd.keep (fun b o h1 h2 e => ?_) ⟨tb S.tb.a (by decide), tb S.tb.b (by decide)⟩
  have h3 : @LT.lt Nat _ b s₀.heap.objs.size := Heap.lt_size e
  have h4 := S.above
  exact kk b o (Nat.ne_of_lt (Nat.lt_of_lt_of_le h3 h4)) (S.keep b o h1 h2 e)
/- a call that keeps all but the slots of the caller's frame -/
theorem St.callF (S : St w mg mb s₀ L cs locs globs vals news s) (hL : s.heap.get? L = some oL) (e : Same s s') (k : Keep (hideAll s.heap [L]) s'.heap) (hf : Is s'.heap L (frK oL)) (t : Tb s'.heap) : St w mg mb s₀ L cs locs globs vals news s' := by
  have hb := S.big
  obtain ⟨m, ⟨oL', es', ep, eL, dL, r⟩, x⟩ := S.ns
  rw [hL] at eL; cases eL
  obtain ⟨o, ho, sl, rfl⟩ := hf
  have kk : ∀ (b : Nat) o, b ≠ 54 → b ≠ 47 → b ≠ L → s.heap.get? b = some o → s'.heap.get? b = some o := fun b o h1 h2 h3 e => k b o h1 h2 (hideAll_get _ e (by simp [h3]))
  refine ⟨S.same.trans e, S.wd, S.nm, ⟨m, ⟨_, es', ep, ho, dL, r⟩, x⟩, fun b o h1 h2 e => ?_, S.above, fun p hp => ?_, t⟩
  · have h3 : @LT.lt Nat _ b s₀.heap.objs.size := Heap.lt_size e
    have h4 := S.above
    exact kk b o h1 h2 (Nat.ne_of_lt (Nat.lt_of_lt_of_le h3 h4)) (S.keep b o h1 h2 e)
  · have := S.N p hp
    have h5 := this.2.2.1
    exact ⟨this.1.keep fun o e => kk p.1 o (Nat.ne_of_gt (Nat.lt_trans (by decide) h5)) (Nat.ne_of_gt (Nat.lt_trans (by decide) h5)) this.2.1 e, this.2⟩
end
section
variable {w : World} {mg mb : Str → Option Value} {s : Shared} {A : Around} {Q E : Value → Shared → Prop} {f : Addr} {args : List Value} {kw : List (Str × Value)} {name qual : Str} {params : Arguments} {body : List Stmt} {scope : Scope}
    {dV kV doc pm cdv ct oc : Value} {an od : Option Addr} {osl : Array (Option Value)} {binds : List (Str × Value)} {locs : List Str} {globs : List (Str × Value)} {vals : List (Option Value)} {F : Nat} {oF : Obj}
/- into a def of the text, on the spine; F is the frame below -/
theorem enterS (W : Wd w mg mb s.heap) (WX : Wd w mg mb (hideAll s.heap [F])) (T : Tb s.heap) (hF : s.heap.get? F = some oF) (hF58 : 58 < F) (hroom : A.depth < recursionLimit)
    (ho : (hd.heap_39 w.params).lookup f = some ⟨oc, od, .func (fnX name qual params body scope [] dV kV doc pm an cdv ct), osl⟩) (hcd : codeIn (hd.heap_39 w.params) cdv qual = true)
    (hbind : BindsTo s (fnX name qual params body scope [] dV kV doc pm an cdv ct) ⟨args, kw⟩ binds)
    (hcell : ∀ x ∈ scope.names, x.2 ≠ .cell) (hloc : ∀ x ∈ binds, scope.names.lookup x.1 = some .local) (hn : Nm mg scope locs globs) (hv : HasAll (fun x => binds.reverse.lookup x) locs vals)
    (hco : scope.isCoroutine = false) (hgen : scope.isGenerator = false)
    (h : ∀ (cs : Scope) L s₁, St w mg mb { s with heap := hideAll s.heap [F] } L cs locs globs vals [(F, frK oF)] s₁ → F < L → wpS (model PR w) (A.deeper (envX qual cs L f cdv [])) (execs body (envX qual cs L f cdv []))
      (fun fl s' => Q (match fl with | .ret v => v | _ => .none) s')
      (fun e s' => wpAny (model PR w) (A.deeper (envX qual cs L f cdv [])) (leaving (envX qual cs L f cdv []) e) (fun _ s'' => E e s'') (fun e' s'' => E e' s'') s') s₁) :
    wpS (model PR w) A (call (.ref f) args kw) Q E s := by
  refine S_call (codeS_def (fd := fnX name qual params body scope [] dV kV doc pm an cdv ct) (body := body) (binds := binds) hroom (W.K _ _ ho) rfl W.nolimit (codeRec_of W.K hcd) rfl hbind hcell hloc (fun h₁ hns hk₁ => ?_) hco hgen hn.kf)
  have hlt : @LT.lt Nat _ F s.heap.objs.size := Heap.lt_size hF
  have S : St w mg mb { s with heap := hideAll s.heap [F] } s.heap.objs.size scope locs globs vals [] { s with heap := h₁, toks := s.toks + binds.length } :=
    ⟨⟨_, _, rfl⟩, WX, hn, ⟨_, hns, hv⟩, Keep.of fun b o e => hk₁ b o (of_hideAll _ e), Nat.le_of_eq (hideAll_size _ _), fun p hp => (nomatch hp), T.keeps hk₁⟩
  exact h scope s.heap.objs.size _ (S.addN (a := F) (k := frK oF) ⟨_, hk₁ _ _ hF, oF.slots, rfl⟩ (Nat.ne_of_lt hlt) hF58 (hideAll_none _ (by simp))) hlt
/- the same, off the spine -/
theorem enterX (W : Wd w mg mb s.heap) (WX : Wd w mg mb (hideAll s.heap [F])) (T : Tb s.heap) (hF : s.heap.get? F = some oF) (hF58 : 58 < F) (hroom : A.depth < recursionLimit)
    (ho : (hd.heap_39 w.params).lookup f = some ⟨oc, od, .func (fnX name qual params body scope [] dV kV doc pm an cdv ct), osl⟩) (hcd : codeIn (hd.heap_39 w.params) cdv qual = true)
    (hbind : BindsTo s (fnX name qual params body scope [] dV kV doc pm an cdv ct) ⟨args, kw⟩ binds)
    (hcell : ∀ x ∈ scope.names, x.2 ≠ .cell) (hloc : ∀ x ∈ binds, scope.names.lookup x.1 = some .local) (hn : Nm mg scope locs globs) (hv : HasAll (fun x => binds.reverse.lookup x) locs vals)
    (hco : scope.isCoroutine = false) (hgen : scope.isGenerator = false)
    (h : ∀ (cs : Scope) L s₁, St w mg mb { s with heap := hideAll s.heap [F] } L cs locs globs vals [(F, frK oF)] s₁ → F < L → wpAny (model PR w) (A.deeper (envX qual cs L f cdv [])) (execs body (envX qual cs L f cdv []))
      (fun fl s' => Q (match fl with | .ret v => v | _ => .none) s')
      (fun e s' => wpAny (model PR w) (A.deeper (envX qual cs L f cdv [])) (leaving (envX qual cs L f cdv []) e) (fun _ s'' => E e s'') (fun e' s'' => E e' s'') s') s₁) :
    wpAny (model PR w) A (call (.ref f) args kw) Q E s := by
  refine wpAny_call (codeAny_call_def (fd := fnX name qual params body scope [] dV kV doc pm an cdv ct) (body := body) (binds := binds) hroom (W.K _ _ ho) rfl W.nolimit (codeRec_of W.K hcd) rfl hbind hcell hloc (fun h₁ hns hk₁ => ?_) hco hgen hn.kf)
  have hlt : @LT.lt Nat _ F s.heap.objs.size := Heap.lt_size hF
  have S : St w mg mb { s with heap := hideAll s.heap [F] } s.heap.objs.size scope locs globs vals [] { s with heap := h₁, toks := s.toks + binds.length } :=
    ⟨⟨_, _, rfl⟩, WX, hn, ⟨_, hns, hv⟩, Keep.of fun b o e => hk₁ b o (of_hideAll _ e), Nat.le_of_eq (hideAll_size _ _), fun p hp => (nomatch hp), T.keeps hk₁⟩
  exact h scope s.heap.objs.size _ (S.addN (a := F) (k := frK oF) ⟨_, hk₁ _ _ hF, oF.slots, rfl⟩ (Nat.ne_of_lt hlt) hF58 (hideAll_none _ (by simp))) hlt
end
/- into a def of the text; all is kept at the entry -/
theorem enterK {w : World} {mg mb : Str → Option Value} {s : Shared} {A : Around} {Q E : Value → Shared → Prop} {f : Addr} {args : List Value} {kw : List (Str × Value)} {name qual : Str} {params : Arguments} {body : List Stmt} {scope : Scope}
    {dV kV doc pm cdv ct oc : Value} {an od : Option Addr} {osl : Array (Option Value)} {binds : List (Str × Value)} {locs : List Str} {globs : List (Str × Value)} {vals : List (Option Value)}
    (W : Wd w mg mb s.heap) (T : Tb s.heap) (hroom : A.depth < recursionLimit)
    (ho : (hd.heap_39 w.params).lookup f = some ⟨oc, od, .func (fnX name qual params body scope [] dV kV doc pm an cdv ct), osl⟩) (hcd : codeIn (hd.heap_39 w.params) cdv qual = true)
    (hbind : BindsTo s (fnX name qual params body scope [] dV kV doc pm an cdv ct) ⟨args, kw⟩ binds)
    (hcell : ∀ x ∈ scope.names, x.2 ≠ .cell) (hloc : ∀ x ∈ binds, scope.names.lookup x.1 = some .local) (hn : Nm mg scope locs globs) (hv : HasAll (fun x => binds.reverse.lookup x) locs vals)
    (hco : scope.isCoroutine = false) (hgen : scope.isGenerator = false)
    (h : ∀ (cs : Scope) L s₁, St w mg mb s L cs locs globs vals [] s₁ → (∀ b o, s.heap.get? b = some o → s₁.heap.get? b = some o) → wpAny (model PR w) (A.deeper (envX qual cs L f cdv [])) (execs body (envX qual cs L f cdv []))
      (fun fl s' => Q (match fl with | .ret v => v | _ => .none) s')
      (fun e s' => wpAny (model PR w) (A.deeper (envX qual cs L f cdv [])) (leaving (envX qual cs L f cdv []) e) (fun _ s'' => E e s'') (fun e' s'' => E e' s'') s') s₁) :
    wpAny (model PR w) A (call (.ref f) args kw) Q E s := by
  refine wpAny_call (codeAny_call_def (fd := fnX name qual params body scope [] dV kV doc pm an cdv ct) (body := body) (binds := binds) hroom (W.K _ _ ho) rfl W.nolimit (codeRec_of W.K hcd) rfl hbind hcell hloc (fun h₁ hns hk₁ => ?_) hco hgen hn.kf)
  exact h scope s.heap.objs.size _ ⟨⟨_, _, rfl⟩, W, hn, ⟨_, hns, hv⟩, Keep.of hk₁, Nat.le_refl _, fun p hp => (nomatch hp), T.keeps hk₁⟩ hk₁
end
section
open PySem PySem.W PySem.Calls PySem.NumText PyProof.Rows
open Sem (wp)
set_option maxRecDepth 100000
section
variable {M : Model} {A : Around} {E : Value → Shared → Prop} {s : Shared}
theorem maxDigits {Q : Nat → Shared → Prop} (hn : s.heap.NoDigits) (h : Q 4300 s) : wpAny M A Builtin.intMaxStrDigits Q E s := by
  obtain ⟨mc, hns, hnone⟩ := hn
  unfold Builtin.intMaxStrDigits
  refine wpAny_bind (wpAny_nsGet hns ?_)
  rw [hnone]
  exact wpAny_pure h
theorem text_wp {x : Str} {n : Int} {v : Value} {Q : Value → Shared → Prop} (hd : s.heap.NoDigits) (hx : x.length ≤ sizeLine) (hn : PySem.intText? x = some n) (h : Q (.int n s.toks) { s with toks := s.toks + 1 }) :
    wpAny M A ((int_private% "intFromText") v (numTextOf x) 10) Q E s := by
  have hr : ((numSeenOf x).length == (numTextOf x).length) = true ∧ (int_private% "readNumeral") (numLimitOf x) 10 (numSeenOf x) = (int_private% "Numeral.value") n := by
    rcases readAny x hx with ⟨m, h1, h2, h3⟩ | ⟨h1, _⟩
    · rw [hn] at h1; cases h1; exact ⟨h2, h3⟩
    · rw [hn] at h1; cases h1
  obtain ⟨hp, g, d, tk, os⟩ := s
  by_cases q : (numSeenOf x).length ≤ 640
  · have e : numLimitOf x = 0 := if_pos q
    rw [e] at hr
    exact KIN.wp_text q hr.2 hr.1 h
  · have e : numLimitOf x = 4300 := if_neg q
    rw [e] at hr
    repeat (any_goals (first
      | assumption
      | (with_reducible refine wpAny_ite_false (decide_eq_false q) ?_)
      | (with_reducible refine wpAny_ite_true (decide_eq_true hr.1) ?_)
      | ((with_reducible show wpAny _ _ Builtin.intMaxStrDigits _ _ _); refine maxDigits hd ?_)
      | wp_step))
    all_goals (try rw [hr.2])
    all_goals (try dsimp only)
    repeat (any_goals (first
      | assumption
      | (with_reducible refine wpAny_ite_true (decide_eq_true hr.1) ?_)
      | wp_step))
theorem new2 {x : Str} {u k : Tok} {n : Int} {R : Fin → Shared → Prop} (hd : s.heap.NoDigits) (hx : x.length ≤ sizeLine) (hn : PySem.intText? x = some n) (h : R (.done (.ret (.int n s.toks))) { s with toks := s.toks + 1 }) :
    wpAny M A (Builtin.«int.__new__» ⟨[.type "int", .str x u, .int 10 k], []⟩) R E s := by
  obtain ⟨hp, g, d, tk, os⟩ := s
  have f1 := F.conv_sub_int
  have f2 := F.madeHere_int
  repeat (any_goals (first
      | assumption
      | ((with_reducible show wpAny _ _ ((int_private% "intFromText") _ _ _) _ _ _); refine text_wp hd hx hn ?_)
      | wp_step))
end
end
section
open PySem PySem.W PySem.Calls PySem.NumText PyProof.Rows
open Sem (wp)
set_option maxRecDepth 100000
theorem tc2 (a b : Value) : checkTypeCall "int" ⟨[a, b], []⟩ = pure () := by kernel_rfl
theorem nc2 (a b : Value) : checkBuiltinCall "int.__new__" ⟨[.type "int", a, b], []⟩ = pure () := by kernel_rfl
section
variable {w : World} {A : Around} {E : Value → Shared → Prop} {s : Shared}
theorem int2_wp {x : Str} {u k : Tok} {n : Int} {Q : Value → Shared → Prop} (hd : s.heap.NoDigits) (hx : x.length ≤ sizeLine) (hn : PySem.intText? x = some n) (h : Q (.int n s.toks) { s with toks := s.toks + 1 }) :
    wpAny (model PR w) A (call (.type "int") [.str x u, .int 10 k]) Q E s :=
  callType_new F.called_int F.newNe_int (tc2 _ _) (nc2 _ _) (fun obj => F.args_object_init_3 obj _ _) F.entry_int_new
    (S := fun _ R s => s.heap.NoDigits ∧ R (.ok (.ret (.int n s.toks))) { s with toks := s.toks + 1 })
    (Meets.of_wp fun _ _ _ _ _ hs => new2 hs.1 hx hn ⟨_, rfl, hs.2⟩) ⟨hd, rfl, h⟩
/- a type is called, and its __new__ raises -/
theorem S_typeR {T newId initId : String} {args : List Value} {Q : Value → Shared → Prop} (ft : TypeCalled T newId initId) (hct : checkTypeCall T ⟨args, []⟩ = pure ())
    (h : wpS (model PR w) A.in1 (call (.builtin newId) (.type T :: args)) (fun _ _ => False) E s) : wpS (model PR w) A (call (.type T) args) Q E s := by
  obtain ⟨c, tl, hmro⟩ := ft.mro
  have hmade := ft.made
  refine S_call (codeS_tree ?_)
  show wpS _ _ (callAny (.type T) _) _ _ _
  refine S_pure ⟨Code.quiet_builtin _ (by decide +kernel), codeS_builtin F.entry_type_call ?_⟩
  rw [Around.under_plain (weight_type_call_type T _ []) (units_type_call_type T _ [])]
  unfold Builtin.«type.__call__»
  dsimp only
  rw [if_neg (by rw [ft.notType]; decide), if_neg (by rw [ft.canCreate]; decide)]
  refine S_then (wpAny_of_eq hct (S_then (wpAny_of_eq hmro ?_)))
  rw [if_neg (by simp)]
  refine S_then (wpAny_of_eq hmade (S_then (wpAny_pure (S_bind (S_holding (S_mono h (fun _ _ x => x.elim) fun _ _ x => x))))))
theorem S_refuse {x : Str} {u : Tok} {Q : Value → Shared → Prop} (hA : A.handled = none) (hx : x.length ≤ 100) (hrx : (reprText x).length ≤ 1000) (hz : ((numSeenOf x).length == (numTextOf x).length) = true) (hn : PySem.intText? x = none)
    (h : ∀ h' tk e, Heap.NewExc s.heap h' e "ValueError" → E (.ref e) { s with heap := h', toks := tk }) :
    wpS (model PR w) A ((int_private% "intFromText") (.str x u) (numTextOf x) 10) Q E s := by
  have hs : (numSeenOf x).length ≤ 640 := Nat.le_trans (seen_length x) (Nat.le_trans hx (by decide))
  have hr : (int_private% "readNumeral") 0 10 (numSeenOf x) = int_private% "Numeral.invalid" := by
    rcases read0 x hs with ⟨m, h1, _⟩ | ⟨_, h1 | ⟨i, _, h1⟩⟩
    · rw [hn] at h1; cases h1
    · exact h1
    · exact absurd hz h1
  show wpS _ _ (if (numSeenOf x).length ≤ 640 then _ else _) _ _ _
  rw [if_pos hs]
  refine S_then (wpAny_pure ?_)
  have hr' : (int_private% "readNumeral") 0 10 (List.takeWhile (fun x => x != 0) (numTextOf x)) = int_private% "Numeral.invalid" := hr
  dsimp only
  rw [hr']
  dsimp only
  refine S_then (wpAny_of_eq (a := none) rfl ?_)
  rw [if_neg (by simp)]
  refine S_then (wpAny_rule (S_then (wpAny_of_eq (a := none) rfl ?_)))
  dsimp only
  refine S_then (wpAny_pyRepr_str ?_ (Nat.le_trans hrx (by decide)))
  refine S_then (wpAny_mkStr ?_ ?_)
  · unfold newExc newTuple
    refine S_then (wpAny_bind (wpAny_newObj_type ?_))
    refine wpAny_bind (m := firstArgMember _ _) (wpAny_of_eq (a := Value.none) (by simp only [firstArgMember, plainExc_ValueError.first]; rfl) ?_)
    rw [plainExc_ValueError.own]
    refine wpAny_newObj_type (S_bind (S_mark ?_))
    unfold raiseNew
    refine S_then (wpAny_handled ?_)
    rw [hA]
    first
      | refine S_of (wpAny_throw ?_)
      | refine S_then (wpAny_pure (S_of (wpAny_throw ?_)))
    exact h _ _ _ ⟨fun b o hb => Heap.get?_push_of_some _ (Heap.get?_push_of_some _ hb), Heap.get?_none_of_le (by simp), _, .ref s.heap.objs.size, Heap.get?_push_size _ rfl, rfl, by simp⟩
  · have h1 : ((reprText x).cps.extract 0 200).size ≤ 200 := by rw [Array.size_extract]; exact Nat.le_trans (Nat.sub_le ..) (Nat.min_le_left ..)
    have h2 : (Str.ofString (toString "invalid literal for int() with base " ++ toString 10 ++ toString ": ")).length ≤ 100 := by decide +kernel
    show ((Str.ofString (toString "invalid literal for int() with base " ++ toString 10 ++ toString ": ")).cps ++ (reprText x).cps.extract 0 200).size ≤ sizeLine
    rw [Array.size_append, sizeLine_eq]
    have h2 : (Str.ofString (toString "invalid literal for int() with base " ++ toString 10 ++ toString ": ")).cps.size ≤ 100 := h2
    exact Nat.le_trans (Nat.add_le_add h2 h1) (by decide)
theorem refuse2 {x : Str} {u k : Tok} {Q : Value → Shared → Prop} (hA : A.handled = none) (hx : x.length ≤ 100) (hrx : (reprText x).length ≤ 1000) (hz : ((numSeenOf x).length == (numTextOf x).length) = true) (hn : PySem.intText? x = none) (h : ∀ h' tk e, Heap.NewExc s.heap h' e "ValueError" → E (.ref e) { s with heap := h', toks := tk }) :
    wpS (model PR w) A (call (.type "int") [.str x u, .int 10 k]) Q E s := by
  refine S_typeR F.called_int (tc2 _ _) (S_call (codeS_callB F.called_int.plain F.entry_int_new (nc2 _ _) ?_))
  unfold Builtin.«int.__new__»
  dsimp only
  refine S_then (wpAny_of_eq (a := true) rfl ?_)
  rw [if_neg (by decide)]
  refine S_then (wpAny_of_eq F.conv_sub_int ?_)
  rw [if_neg (by decide)]
  refine S_then (wpAny_of_eq F.madeHere_int ?_)
  rw [if_neg (by simp), if_neg (by simp)]
  refine S_then (wpAny_of_eq (a := PUnit.unit) rfl ?_)
  show wpS _ _ (do let base ← Builtin.Int.intIndex "int.__new__" (.int 10 k); _) _ _ _
  refine S_then (wpAny_of_eq (a := (10 : Int)) rfl ?_)
  rw [if_neg (by decide)]
  refine S_then (wpAny_of_eq (a := some (numTextOf x)) rfl ?_)
  exact S_bind (S_refuse hA hx hrx hz hn h)
end
end
section
open PySem PySem.W PySem.Calls PySem.NumText PyProof.Rows Builtin Builtin.Str
set_option maxRecDepth 100000
noncomputable abbrev signs4 : Str := Str.ofString "._+-"
theorem signs4_list : signs4.cps.toList = [46, 95, 43, 45] := by decide +kernel
/- what stands in '._+-' -/
theorem in4_no {y : Str} {c : Nat} {r : List Nat} (hy : y.cps.toList = c :: r) (hc : c ≠ 46 ∧ c ≠ 95 ∧ c ≠ 43 ∧ c ≠ 45) : (!(occurrences signs4 y 0 signs4.length 1).isEmpty) = false := by
  cases q : (!(occurrences signs4 y 0 signs4.length 1).isEmpty) with
  | false => rfl
  | true =>
    obtain ⟨i, _, h2⟩ := (StrLaws.found_iff signs4 y).mp q
    have h3 : signs4.cps.extract i (i + y.length) = y.cps := by simpa [subAt] using h2
    have h4 : c ∈ signs4.cps.toList := by
      have h5 : c ∈ (signs4.cps.extract i (i + y.length)).toList := by rw [h3, hy]; exact .head _
      rw [Array.toList_extract] at h5
      exact List.mem_of_mem_drop (List.mem_of_mem_take h5)
    rw [signs4_list] at h4
    simp at h4
    exact absurd h4 (fun h4 => h4.elim hc.1 fun h => h.elim hc.2.1 fun h => h.elim hc.2.2.1 hc.2.2.2)
theorem in4_sign {c : Nat} (hc : c = 46 ∨ c = 95 ∨ c = 43 ∨ c = 45) : (!(occurrences signs4 ⟨#[c]⟩ 0 signs4.length 1).isEmpty) = true := by
  rw [StrLaws.found_one, signs4_list]
  rcases hc with rfl | rfl | rfl | rfl <;> decide
theorem in4_nil : (!(occurrences signs4 ⟨#[]⟩ 0 signs4.length 1).isEmpty) = true := by decide +kernel
noncomputable abbrev verD : List (Str × PyData) := [("dev", .int 10), ("alpha", .int 20), ("a", .int 20), ("beta", .int 30), ("b", .int 30), ("c", .int 40), ("RC", .int 50), ("rc", .int 50), ("pl", .int 200), ("p", .int 200)]
theorem tab79 {w : World} {h : Heap} (hK : (hd.heap_39 w.params).In h) : StrTab PR w h 79 (verD.map fun p => (PyData.str p.1, p.2)) :=
  KTD.strTab_of_look PR w (get := fun a => (hd.heap_39 w.params).lookup a) (fun a o e => hK a o e) (by rfl) (by decide +kernel) (by rfl)
/- the parts of a comparable version -/
inductive VerV (wd : Str) : List Value → List Nat → Prop
  | last {t u} : VerV wd [.int 200 t, .str wd u] []
  | num {n t u vs ns} : VerV wd vs ns → VerV wd (.int 100 t :: .int ((n : Nat) : Int) u :: vs) (n :: ns)
inductive Its (wd : Str) : List Str → List Nat → Prop
  | last : Its wd [wd] []
  | skip {x r ns} : (!(occurrences signs4 x 0 signs4.length 1).isEmpty) = true → Its wd r ns → Its wd (x :: r) ns
  | num {x r ns} : AllDigits x.cps.toList → x.cps.toList ≠ [] → x.length ≤ 4300 → Its wd r ns → Its wd (x :: r) (digitsVal x.cps.toList :: ns)
noncomputable def nums : List (List Nat) → List Nat
  | [] => []
  | t :: ts => match t with
    | [] => nums ts
    | c :: r => if isDg c then digitsVal (c :: r) :: nums ts else nums ts
theorem its_of {wd : List Nat} : ∀ {ts : List (List Nat)}, Toks ts wd → (∀ t ∈ ts, t.length ≤ 4300) → Its ⟨wd.toArray⟩ (splitOut ts wd) (nums ts)
  | _, .nil _, _ => .last
  | _, .sg (c := c) (ts := ts) h1 h2 h3 h4, hl => by
    have e : nums ([c] :: ts) = nums ts := by rw [nums]; simp only [h2]; rfl
    rw [e]
    refine .skip in4_nil (.skip (in4_sign ?_) (its_of h4 fun t ht => hl t (.tail _ ht)))
    revert h3
    unfold isSg
    intro h3
    simp at h3
    exact or_assoc.mp (or_assoc.mp h3)
  | _, .dg (ds := ds) (ts := ts) h1 h2 h3 h4, hl => by
    cases ds with
    | nil => exact absurd rfl h1
    | cons c r =>
      have e : nums ((c :: r) :: ts) = digitsVal (c :: r) :: nums ts := by rw [nums, h2 c (.head _)]; rfl
      rw [e]
      refine .skip in4_nil (.num (fun d hd => ?_) (by simp) ?_ (its_of h4 fun t ht => hl t (.tail _ ht)))
      · have := h2 d hd
        revert this; unfold isDg; intro this; simpa using this
      · have := hl (c :: r) (.head _)
        show (c :: r).toArray.size ≤ 4300
        simpa using this
section
variable {w : World} {mg mb : Str → Option Value} {s₀ s : Shared} {L : Nat} {cs : Scope} {locs : List Str} {globs : List (Str × Value)} {vals : List (Option Value)} {news news' : List (Nat × Knd)} {A : Around} {E : Value → Shared → Prop} {Q : Value → Shared → Prop}
theorem extL {l p : Nat} {vs us : List Value} {n : Nat} (S : St w mg mb s₀ L cs locs globs vals news s) (U : UpdK l (.lst vs) (.lst (vs ++ us)) news news') (hp : s.heap.get? p = some { cls := .type "tuple", data := .seq us.toArray n }) (hz : vs.length + us.length ≤ sizeLine)
    (h : ∀ s', St w mg mb s₀ L cs locs globs vals news' s' → Q .none s') : wpAny (model PR w) A (call (.builtin "list.extend") [.ref l, .ref p]) Q E s := by
  obtain ⟨n0, e⟩ := (S.get U.mem).lstG
  refine call_meets PySem.F.slot_list_extend ⟨_, e, rfl⟩ PySem.F.entry_list_extend (PySem.F.args_list_extend_2 _ _) (PySem.AutoSeq1.list_extend_list_tuple_0 l vs.toArray n0 p us.toArray n (extend_door (by simpa using hz)) (by simp; omega) (by simp; omega))
    ⟨e, hp, h _ (S.upd U (Heap.SameBut.update ..) (mapLst _ (by simp) e) trivial)⟩
end
end
section
open PySem PySem.W PySem.Calls PyProof.Rows
set_option maxRecDepth 100000
/- the environment of a comprehension in a def -/
noncomputable abbrev cEnv (cn : Str) (cs : Scope) (C L : Nat) (ccd : Value) (cl : List (Str × Addr)) : Env :=
  { scope := cs, locals := C, globals := mainGlobals, cells := cl, qual := cn ++ ".<locals>.", func := none, code := ccd, frame := some L, builtins := builtinsNs }
section
variable {w : World} {mg mb : Str → Option Value} {s₀ s s' : Shared} {C L : Nat} {cs : Scope} {locs : List Str} {globs : List (Str × Value)} {vals vals' vals'' : List (Option Value)} {news news' : List (Nat × Knd)}
variable {A : Around} {E : Value → Shared → Prop} {cn : Str} {fa : Addr} {ccd : Value} {cl : List (Str × Addr)} {x : Str} {v : Value} {pos : Pos}
theorem rdLc {Q : Value → Shared → Prop} (S : St w mg mb s₀ C cs locs globs vals news s) (k : At locs vals x v) (h : Q v s) : wpAny (model PR w) A (eval (.Name x pos) (cEnv cn cs C L ccd cl)) Q E s := by
  obtain ⟨m, n, hm⟩ := S.ns
  exact wpAny_Name (wpAny_loadName_local S.nm.kf (S.nm.kl x k.mem).1 n (hm.at k) h) (S.nm.kl x k.mem).2
theorem rdGc {Q : Value → Shared → Prop} (S : St w mg mb s₀ C cs locs globs vals news s) (k : (x, v) ∈ globs) (h : Q v s) : wpAny (model PR w) A (eval (.Name x pos) (cEnv cn cs C L ccd cl)) Q E s := by
  obtain ⟨k1, k2, k3⟩ := S.nm.kg _ k
  have W := S.cur
  rcases k3 with k3 | ⟨k3, k4, k5⟩
  · exact Name_function_global S.nm.kf k1 (loadGlobal_global (env := cEnv cn cs C L ccd cl) W.g k3 h) k2
  · exact Name_function_global S.nm.kf k1 (loadGlobal_builtin (env := cEnv cn cs C L ccd cl) W.g k3 W.b ((W.bu x k5).trans k4) h) k2
theorem wrLc {Q : Unit → Shared → Prop} (S : St w mg mb s₀ C cs locs globs vals news s) (k : Put locs vals x v vals') (h : ∀ s', St w mg mb s₀ C cs locs globs vals' news s' → Q () s') :
    wpAny (model PR w) A (storeName (cEnv cn cs C L ccd cl) x v) Q E s := by
  obtain ⟨m, n, hm⟩ := S.ns
  exact wpAny_storeName_local (S.nm.kl x k.mem).1 n (fun h' hn hs => h _ (S.set n hm k hn hs)) (by show (cs.kind == .class || (cs.kind == .module && C != mainGlobals)) = false; rw [S.nm.kf]; rfl)
theorem rdCc {Q : Value → Shared → Prop} {c : Nat} (S : St w mg mb s₀ C cs locs globs vals news s) (hk : Ck .cell cs x) (hc : cl.lookup x = some c) (hm : Is s.heap c (.cell (some v))) (h : Q v s) :
    wpAny (model PR w) A (eval (.Name x pos) (cEnv cn cs C L ccd cl)) Q E s := wpAny_Name (wpAny_loadName_cell S.nm.kf hk.1 hc hm.cell h) hk.2.1
/- the names of the comprehension go -/
theorem St.leave (S : St w mg mb s₀ C cs locs globs vals news s) {h' : Heap} (hs : Heap.SameBut C s.heap h') :
    Same s₀ { s with heap := h' } ∧ Keep s₀.heap h' ∧ Tb h' ∧ ∀ p ∈ news, Is h' p.1 p.2 := by
  refine ⟨S.same.trans ⟨_, _, rfl⟩, fun b o h1 h2 e => ?_, S.tb.same hs S.big fun o vs q t e hd => ?_, fun p hp => ?_⟩
  · have h3 : @LT.lt Nat _ b s₀.heap.objs.size := Heap.lt_size e
    have h4 := S.above
    exact (hs.2 b (by intro q; subst q; omega)).trans (S.keep b o h1 h2 e)
  · obtain ⟨m, ⟨o', es, ep, e', hd', _⟩, _⟩ := S.ns
    rw [e'] at e; cases e; rw [hd'] at hd; cases hd
  · have := S.N p hp
    exact this.1.keep fun o e => (hs.2 p.1 this.2.1).trans e
/- the test of a comprehension's clause -/
noncomputable def compIfs (ifs : List Expr) (env : Env) : Sem Bool := forIn ifs true fun c r => if r = true then do let ok ← isTrue c env (eval c env); pure (ForInStep.yield ok) else pure (ForInStep.yield r)
theorem compTurn_ifs (elt target iter : Expr) (ifs : List Expr) (scope : Scope) (pos : Pos) (it acc : Value) (env : Env) :
    compTurn (.ListComp elt [⟨target, iter, ifs, 0⟩] scope pos) 0 it acc env = (standAt iter.pos >>= fun _ => pyNext it >>= fun r => match r with
      | none => pure (.done .next)
      | some v => letOwnedTupleGo target it v >>= fun _ => assign target env v >>= fun _ => compIfs ifs env >>= fun ok =>
        if ok then (eval elt env >>= fun x => call (.builtin "list.append") [acc, x] >>= fun _ => pure ()) >>= fun _ => again (.compLoop (.ListComp elt [⟨target, iter, ifs, 0⟩] scope pos) 0 it acc env)
        else again (.compLoop (.ListComp elt [⟨target, iter, ifs, 0⟩] scope pos) 0 it acc env)) := by rfl

theorem codeComp {elt target iter : Expr} {ifs : List Expr} {scope : Scope} {it acc : Value} {env : Env} {R : Result → Shared → Prop} (I : Nat → Shared → Prop)
    (turn : ∀ n s, I n s → wpAny (model PR w) A (pyNext it) (fun r s₁ => match r with
      | none => R (.ok .next) s₁
      | some v => wpAny (model PR w) A (letOwnedTupleGo target it v) (fun _ s₁' => wpAny (model PR w) A (assign target env v) (fun _ s₂ => wpAny (model PR w) A (compIfs ifs env) (fun ok s₂' =>
          (ok = true → wpAny (model PR w) A (eval elt env) (fun x s₃ => wpAny (model PR w) A (call (.builtin "list.append") [acc, x]) (fun _ s₄ => ∃ m, m < n ∧ I m s₄) (fun _ _ => False) s₃) (fun _ _ => False) s₂') ∧ (ok = false → ∃ m, m < n ∧ I m s₂'))
          (fun _ _ => False) s₂) (fun _ _ => False) s₁') (fun _ _ => False) s₁) (fun _ _ => False) s)
    (n : Nat) (h : I n s) : codeAny (model PR w) A (.compLoop (.ListComp elt [⟨target, iter, ifs, 0⟩] scope pos) 0 it acc env) R s := by
  refine codeAny_loop rfl I (fun n s hI => ?_) n h
  show wpAny _ _ ((compTurn (.ListComp elt [⟨target, iter, ifs, 0⟩] scope pos) 0 it acc env).onRaise (fun x => do noteFrame x env; theTreesLotGoes x)) _ _ s
  refine wpAny_onRaise (wpAny_mono (E := fun _ _ => False) ?_ (fun _ _ x => x) fun _ _ x => x.elim)
  rw [compTurn_ifs]
  refine wpAny_bind (wpAny_standAt (wpAny_bind (wpAny_mono (turn n s hI) (fun r s₁ h₁ => ?_) fun _ _ h' => h')))
  cases r with
  | none => exact wpAny_pure h₁
  | some v =>
    refine wpAny_bind (wpAny_mono h₁ (fun _ s₁' h₁' => wpAny_bind (wpAny_mono h₁' (fun _ s₂ h₂ => wpAny_bind (wpAny_mono h₂ (fun ok s₂' h₃ => ?_) fun _ _ x => x)) fun _ _ x => x)) fun _ _ x => x)
    cases ok with
    | true =>
      rw [if_pos rfl]
      exact wpAny_bind (wpAny_bind (wpAny_mono (h₃.1 rfl) (fun x s₃ h₄ => wpAny_bind (wpAny_mono h₄ (fun _ s₄ h₅ => wpAny_pure (wpAny_pure ⟨rfl, h₅⟩)) fun _ _ x => x)) fun _ _ x => x))
    | false =>
      rw [if_neg Bool.false_ne_true]
      exact wpAny_pure ⟨rfl, h₃.2 rfl⟩
/- a list comprehension with one clause over a list -/
theorem L_compL {elt target iter : Expr} {ifs : List Expr} {scope csO : Scope} {clO : List (Str × Addr)} {Q : Value → Shared → Prop} (locs' : List Str) (globs' : List (Str × Value)) (vals₀ : List (Option Value)) (R : Scope → Prop) (I : Scope → Shared → Nat → Nat → Nat → Nat → Shared → Prop)
    (hclos : closureFor scope (envX cn csO L fa ccd clO) = pure cl) (hcell : ∀ y ∈ scope.names, y.2 ≠ .cell) (hkind : scope.kind = .function) (hnames : ∀ y ∈ scope.names, y.2 = .local → scope.names.lookup y.1 = some .local)
    (hnm : Nm mg (relabel scope (envX cn csO L fa ccd clO)) locs' globs') (hv : HasAll (fun _ => none) locs' vals₀) (hR : R (relabel scope (envX cn csO L fa ccd clO)))
    (start : wpAny (model PR w) A (eval iter (envX cn csO L fa ccd clO)) (fun xv s₁ => ∃ (l : Nat) (vs : List Value), xv = .ref l ∧ Wd w mg mb s₁.heap ∧ Tb s₁.heap ∧ Is s₁.heap l (.lst vs) ∧ 58 < l ∧
      ∀ (cs' : Scope) (C D it : Nat) s₃, R cs' → s₁.heap.objs.size ≤ it → it < D → D < C → St w mg mb s₁ C cs' locs' globs' vals₀ [(D, .lst []), (it, .it l 0), (l, .old (.lst vs))] s₃ → ∃ n, I cs' s₁ C D it n s₃) E s)
    (self : ∀ cs' s₁ C D it n s, I cs' s₁ C D it n s → ∃ l i, Is s.heap it (.it l i))
    (turn : ∀ cs' s₁ C D it n s, R cs' → I cs' s₁ C D it n s → wpAny (model PR w) A (pyNext (.ref it)) (fun r s₂ => match r with
      | none => ∃ vals' news', St w mg mb s₁ C cs' locs' globs' vals' news' s₂ ∧ ∀ s'', Same s₁ s'' → Keep s₁.heap s''.heap → Tb s''.heap → (∀ p ∈ news', Is s''.heap p.1 p.2) → Q (.ref D) s''
      | some v => wpAny (model PR w) A (letOwnedTupleGo target (.ref it) v) (fun _ s₁' => wpAny (model PR w) A (assign target (cEnv cn cs' C L ccd cl) v) (fun _ s₃ => wpAny (model PR w) A (compIfs ifs (cEnv cn cs' C L ccd cl)) (fun ok s₄ =>
          (ok = true → wpAny (model PR w) A (eval elt (cEnv cn cs' C L ccd cl)) (fun x s₅ => wpAny (model PR w) A (call (.builtin "list.append") [.ref D, x]) (fun _ s₆ => ∃ m, m < n ∧ I cs' s₁ C D it m s₆) (fun _ _ => False) s₅) (fun _ _ => False) s₄) ∧ (ok = false → ∃ m, m < n ∧ I cs' s₁ C D it m s₄))
          (fun _ _ => False) s₃) (fun _ _ => False) s₁') (fun _ _ => False) s₂) (fun _ _ => False) s)
    (hs : ∀ x, foldedSetIterable iter (envX cn csO L fa ccd clO) x = pure x := by intro _; rfl) :
    wpAny (model PR w) A (eval (.ListComp elt [⟨target, iter, ifs, 0⟩] scope pos) (envX cn csO L fa ccd clO)) Q E s := by
  rw [eval_ListComp]
  refine wpAny_comprehension_free (use := none) rfl hs hclos hkind hnames (wpAny_mono start (fun xv s₁ h₁ => ?_) fun _ _ e => e)
  obtain ⟨l, vs, rfl, W, T, hl, hl58, h₁⟩ := h₁
  refine wpAny_pyIter_list hl.lst ?_
  refine wpAny_newObj_type (wpAny_newFunctionEnv hcell (by intro y hy; simp at hy) (fun h₁' hns₁ hsb₁ => ?_) hkind)
  dsimp only at hns₁ hsb₁ ⊢
  generalize hH1 : s₁.heap.push { cls := Value.type "list_iterator", dict := none, data := Data.fields #[Value.ref l, Value.int 0 0] } = H1 at *
  have hs1 : H1.objs.size = s₁.heap.objs.size + 1 := by rw [← hH1]; exact Heap.size_push ..
  have hsz : (H1.push { cls := Value.type "list", dict := none, data := Data.seq ([] : List Value).toArray }).objs.size = s₁.heap.objs.size + 2 := by rw [Heap.size_push, hs1]
  have hkp : ∀ (b : Nat) o, b ≠ s₁.heap.objs.size + 2 → H1.get? b = some o → h₁'.get? b = some o := fun b o hb e =>
    hsb₁.extBut b o (by rw [hsz]; exact hb) (Heap.get?_push_of_some _ (Heap.get?_push_of_some _ e))
  have hk1 : ∀ b o, s₁.heap.get? b = some o → h₁'.get? b = some o := fun b o e => by
    have hb : @LT.lt Nat _ b s₁.heap.objs.size := Heap.lt_size e
    exact hkp b o (Nat.ne_of_lt (Nat.lt_of_lt_of_le hb (Nat.le_add_right _ 2))) (by rw [← hH1]; exact Heap.get?_push_of_some _ e)
  have hit : h₁'.get? s₁.heap.objs.size = some { cls := Value.type "list_iterator", dict := none, data := Data.fields #[Value.ref l, Value.int 0 0] } := hkp _ _ (Nat.ne_of_lt (Nat.lt_add_of_pos_right (by decide))) (by rw [← hH1]; exact Heap.get?_push_size _ rfl)
  have hD1 : h₁'.get? H1.objs.size = some (lstO [] 0) := by
    refine hsb₁.extBut _ _ ?_ (Heap.get?_push_of_some _ (Heap.get?_push_size _ rfl))
    rw [hsz, hs1]; exact Nat.ne_of_lt (Nat.lt_succ_self _)
  have hb58 := W.size
  have hlt := hl.lt
  have hS : St w mg mb s₁ (H1.push { cls := Value.type "list", dict := none, data := Data.seq ([] : List Value).toArray }).objs.size (relabel scope (envX cn csO L fa ccd clO)) locs' globs' vals₀ [(H1.objs.size, .lst []), (s₁.heap.objs.size, .it l 0), (l, .old (.lst vs))]
      { s₁ with heap := h₁', toks := s₁.toks + ([] : List (Str × Value)).length } := by
    refine ⟨⟨_, _, rfl⟩, W, hnm, ⟨_, hns₁, hv⟩, Keep.of hk1, by rw [hsz]; exact Nat.le_add_right _ 2, ?_, T.keeps hk1⟩
    refine List.forall_mem_cons.mpr ⟨⟨⟨_, hD1, 0, rfl⟩, by rw [hsz, hs1]; exact Nat.ne_of_lt (Nat.lt_succ_self _), by show 58 < H1.objs.size; rw [hs1]; exact Nat.lt_succ_of_lt hb58, fun _ => Heap.get?_none_of_le (by show s₁.heap.objs.size ≤ H1.objs.size; rw [hs1]; exact Nat.le_succ _)⟩,
      List.forall_mem_cons.mpr ⟨⟨⟨_, hit, rfl, rfl⟩, by rw [hsz]; exact Nat.ne_of_lt (Nat.lt_add_of_pos_right (by decide)), hb58, fun _ => Heap.get?_none_of_le (Nat.le_refl _)⟩,
      List.forall_mem_cons.mpr ⟨⟨hl.keep fun o e => hk1 _ o e, by rw [hsz]; exact Nat.ne_of_lt (Nat.lt_of_lt_of_le hlt (Nat.le_add_right _ 2)), hl58, fun q => nomatch q⟩, List.forall_mem_nil _⟩⟩⟩
  obtain ⟨n, hI⟩ := h₁ _ _ H1.objs.size s₁.heap.objs.size _ hR (Nat.le_refl _) (by rw [hs1]; exact Nat.lt_succ_self _) (by rw [hsz, hs1]; exact Nat.lt_succ_self _) hS
  generalize (H1.push { cls := Value.type "list", dict := none, data := Data.seq ([] : List Value).toArray }).objs.size = C at *
  generalize ({ s₁ with heap := h₁', toks := s₁.toks + ([] : List (Str × Value)).length } : Shared) = s₃ at *
  have loop : codeAny (model PR w) A (.compLoop (.ListComp elt [⟨target, iter, ifs, 0⟩] scope pos) 0 (.ref s₁.heap.objs.size) (.ref H1.objs.size) (cEnv cn (relabel scope (envX cn csO L fa ccd clO)) C L ccd cl)) (compPost (model PR w) A E none Q (.ref H1.objs.size) C) s₃ := by
    refine codeComp (I _ s₁ C H1.objs.size s₁.heap.objs.size) (fun n s hI => wpAny_mono (turn _ s₁ C _ _ n s hR hI) (fun r s₂ h₂ => ?_) fun _ _ x => x) n hI
    cases r with
    | none =>
      obtain ⟨vals', news', S', hQ⟩ := h₂
      obtain ⟨m, hm, _⟩ := S'.ns
      exact ⟨m, hm, fun h' hs' => let ⟨a1, a2, a3, a4⟩ := S'.leave hs'; hQ _ a1 a2 a3 a4⟩
    | some v => exact h₂
  obtain ⟨l', i', o, ho, hc, hd⟩ := self _ _ _ _ _ _ _ hI
  exact codeAny_compStart_list loop (wpAny_pyIter_listiter ⟨o, ho, hc, hd⟩ loop)
end
end
section
open PySem PySem.W PySem.Calls PyProof.Rows
open Sem (wp)
set_option maxRecDepth 100000
/- the caller's thread ends, from the sure logic -/
theorem thread_S {prog : Program} {w : World} {t : Sem Fin} {s : Shared} {R : Result → Shared → Prop} (hz : s.asleep)
    (h : wpS (model prog w) callerA t (fun fin s' => ∃ f, fin = .done f ∧ R (.ok f) s' ∧ AllBare s'.gens) (fun e s' => R (.error e) s' ∧ AllBare s'.gens) s) :
    ∃ n r s' s'', schedN (denote table) prog w n (.single s ⟨t, .builtin "claim.caller" {}, default, []⟩) = .halted (outcomeOf r) s' ∧
      runN (denote table) prog w n s ⟨t, .builtin "claim.caller" {}, default, []⟩ = .halted (outcomeOf r) s' ∧ s'.forget = s''.forget ∧ R r s'' := by
  have h0 := h ⟨.builtin "claim.caller" {}, none, none, [], none⟩ default caller_in (.inl rfl)
  obtain ⟨n, r, s₂, s₃, k1, k2, k3, k4⟩ := wp_halts_full (M := model prog w) (R := R) (c := .builtin "claim.caller" {}) (t := t) (p := default) hz
    (Sem.wp_mono _ _ t (fun fin p' s' x => by
      obtain ⟨f, rfl, x1, x2⟩ := x
      exact (show R (.ok f) s' ∧ leftWithCleanup s'.gens = false from ⟨x1, leftWithCleanup_false_of_bare x2⟩)) (fun e p' s' x => ⟨x.1, leftWithCleanup_false_of_bare x.2⟩) _ _ h0)
  exact ⟨n, r, s₃, s₂, k1, k2, k3, k4⟩
/- what is asked of the walk, on the spine -/
noncomputable abbrev WalkS (q : Program) (loose : List Str) (XP : (Str → Option Value) → Heap → Prop) (YP : World → Heap → Prop) (r : RowW) (d : DefRec) (kwd : List (Str × Expr)) : Prop :=
  ∀ (w : World) (s₀ s₁ : Shared) (mg mb : Str → Option Value), Ground q loose r.records XP w s₀ mg mb s₁.heap → YP w s₁.heap → ∀ (a : Addr) (o : Obj) (pm cd doc dV kV : Value), s₁.heap.get? a = some o →
    o.data = .func { docDef d.name d.params d.body d.scope pm cd doc with defaults := dV, kwdefaults := kV } → s₁.heap.CodeRec cd d.name → Dflts mg s₁.heap d.params kwd dV kV → mg d.name = some (.ref a) → s₁.gens = #[] →
    ∀ (args : List WData) (vals : List Value) (as : List Addr), r.claim.pre args = true → WData.layableAll args = true → ReadsAllW r.records (classAt s₀.heap) s₁.heap vals args as → WellAll w.params s₁.heap vals args → (∀ a ∈ as, (a == sysModules) = false) → YP w s₀.heap → (∀ a ∈ as, s₀.heap.objs.size ≤ a) →
      wpS (model r.prog w) callerA (call (.ref a) vals) (fun v s' => GoodWG r.claim (classAt s₀.heap) (ExcName.means s₀.heap) args s₁ (.ok (.ret v)) s')
        (fun e s' => GoodWG r.claim (classAt s₀.heap) (ExcName.means s₀.heap) args s₁ (.error e) s') s₁
theorem S_nsGet {M : Model} {A : Around} {s : Shared} {E : Value → Shared → Prop} {a : Addr} {x : Str} {m : Str → Option Value} {β : Type} {f : Option Value → Sem β} {Q : β → Shared → Prop} (hn : s.heap.Ns a m) (h : wpS M A (f (m x)) Q E s) :
    wpS M A (nsGet a x >>= f) Q E s := S_then (wpAny_nsGet hn h)
/- the end of the claim's call -/
noncomputable def EndR (r : OpenRow) (s : Shared) (args : List WData) (vs : List Value) (s₁ : Shared) (res : Result) (s' : Shared) : Prop :=
  r.toRowW.claim.Ends s args vs s₁ res s' ∧ s'.os = s.os ∧ (r.writes = true → namesKept r.prog r.keeps s.heap s'.heap ∧ ∀ x ∈ r.records, ∀ a, classAt s.heap x.1 = some a → recordClass s'.heap a x.1 (x.2.map (·.1)) = true)
theorem holdsS {r : OpenRow} {q : Program} {loose : List Str} {Xt : Shared → Bool} {XP : (Str → Option Value) → Heap → Prop} {H : Hook} {d : DefRec} {kwd : List (Str × Expr)} {N : Nat}
    (left : LeftO r.prog q loose Xt H.obs H.val N) (hX : ∀ s, Xt s = true → XP (s.heap.nsMap mainGlobals) s.heap) (hXk : ∀ mg h h', XP mg h → (∀ b o, h.get? b = some o → h'.get? b = some o) → XP mg h')
    (hdef : defOf q r.name = some (d, kwd)) (hp : r.prog.theDef r.name = some (d.params, d.body, d.scope)) (hk : kwWritten? d.params.kwonlyargs d.params.kw_defaults = some kwd) (hRf : ∀ s, Xt s = true → RecFacts r.records s.heap) (hwr : (!r.writes || r.records.isEmpty) = true)
    (k1 : r.wellSaid = true) (ok : (chainsOk q && opensWell r.prog && (frees r.toRowW && r.within.isEmpty)) = true) (hb : r.prog.bare) (hw : r.toRowW.promised)
    (walk : WalkS q loose XP H.says r.toRowW d kwd) : r.Holds := by
  simp only [Bool.and_eq_true] at ok
  obtain ⟨⟨hch, hop⟩, hfr, hin⟩ := ok
  obtain ⟨hsame, hu, ha, hap, hm⟩ := frees_parts hfr
  have hwi : r.toRowW.claim.within = [] := List.isEmpty_iff.mp hin
  have hi := ident_freeW hu ha hap
  refine ⟨k1, hw, ⟨hb, hop, ?_⟩, hw.witness, fun w => ?_⟩
  · show r.makers.map _ = []
    have hm' : r.makers = [] := hm
    rw [hm']; rfl
  have B := left.behind (XP := fun mg h => XP mg h ∧ RecFacts r.records h) (fun s e => ⟨hX s e, hRf s e⟩) hch w
  refine ⟨B.1, fun s' hs' => ?_⟩
  refine Classical.byContradiction fun hno => ?_
  obtain ⟨s₀, f1, f2, s, T, hz, hgens, hg, G0, y⟩ := B.2 s' hs'
  refine hno ?_
  clear hno
  have G1 : Ground q loose [] XP w s (s.heap.nsMap mainGlobals) (s.heap.nsMap builtinsNs) s.heap := ⟨G0.T, G0.B, G0.D, G0.TE, G0.TD, G0.W, G0.X.1, G0.cls, G0.has, G0.apart, G0.once, G0.K⟩
  have RF := G0.X.2
  have G := RF.ground G1
  have hgens : s.gens = #[] := Array.eq_empty_of_size_eq_zero (beq_iff_eq.mp hgens)
  refine ⟨s₀, f1, f2, s, T, fun n hn => ?_, RF.1, RF.2.1, ?_⟩
  · obtain rfl : n = r.name := by split at hn <;> simp_all
    exact pinned_of_view hg G1 hdef hp hk
  intro args hpre hlay ord hord
  obtain ⟨⟨vs, s₁⟩, hlaid⟩ := Option.isSome_iff_exists.mp (layAllW_isSome (P := w.params) (ord := ord) G.has args r.args s (pre_splitW hpre).1)
  have keeps := layAllW_keeps _ _ _ hlaid
  have hal := layAllW_rest _ _ _ hlaid
  refine Classical.byContradiction fun hno => ?_
  obtain ⟨as, hrd, hinn, hold⟩ := reads_layAllW hord _ _ _ hlaid hlay s₁.heap (fun _ _ e => e)
  refine hno ?_
  clear hno
  have L : Laid r.records w s s₁ args vs as := ⟨⟨ord, hord, hlaid⟩, hrd, hinn, hold, keeps, hal.1.trans hgens, hal.2.2.1⟩
  have G2 := G.keeps hXk keeps
  refine Classical.byContradiction fun hno => ?_
  obtain ⟨a, o, pm, cd, doc, dV, kV, h1, h2, h3, h4, h5⟩ := G2.fn hdef
  refine hno ?_
  clear hno
  have hwalk := walk w s s₁ _ _ G2 (H.keeps _ _ _ (H.of w s y) keeps) a o pm cd doc dV kV h2 h3 h4 h5 (defOf_name hdef ▸ h1) L.gens args vs as hpre hlay L.reads L.well (L.low G.low) (H.of w s y) fun a ha => (hinn.2.2 a ha).1
  have fin : ∀ {res : Result} {s' : Shared}, GoodWG r.toRowW.claim (classAt s.heap) (ExcName.means s.heap) args s₁ res s' →
      EndR r s args vs s₁ res s' ∧ AllBare s'.gens := fun g =>
    have z := g.laid (c := r.toRowW.claim) hsame hwi hi L
    ⟨⟨z.1, z.2.1, fun q => ⟨namesKept_of T hg r.keeps keeps g.2.1.old, noTable hwr q⟩⟩, z.2.2⟩
  have hrun : wpS (model r.prog w) callerA (do match ← nsGet mainNs r.name with
      | some f => do ret (← PySem.call f vs)
      | none => unsupported "claim.caller:no-such-global") (fun fin s' => ∃ f, fin = .done f ∧ (EndR r s args vs s₁ (.ok f) s' ∧ AllBare s'.gens))
      (fun e s' => EndR r s args vs s₁ (.error e) s' ∧ AllBare s'.gens) s₁ := by
    refine S_nsGet G2.T.g ?_
    rw [h1]
    exact S_bind (S_mono hwalk (fun v s' g => S_pure ⟨_, rfl, fin g⟩) fun e s' g => fin g)
  refine Classical.byContradiction fun hno => ?_
  obtain ⟨k, res, s2, s3, hsched, hrunN, hfo, hcase, hos, hkp⟩ := thread_S (R := EndR r s args vs s₁) (Shared.asleep_of_life hal.2.2.2 hz) hrun
  refine hno ?_
  clear hno
  refine Classical.byContradiction fun hno => ?_
  obtain ⟨eh, _, _, eo, _⟩ := Shared.forget_eq hfo
  refine hno ?_
  clear hno
  have hcase := hcase.congr eh
  rw [← eh] at hkp
  rw [← eo] at hos
  have hlife : s2.heap.life = s.heap.life := (runN_life _ _ _ hrunN).trans hal.2.2.2
  refine ⟨vs, s₁, hlaid, k, _, s2, hsched, ?_, (fun _ i x hx => by rw [hgens] at hx; simp at hx), hkp, by rw [hlife], Shared.rest_eq hos⟩
  rcases hcase with ⟨v, rfl, d1, d2, d3, d4, d5⟩ | ⟨e, ob, cls, rfl, d1, d2, d3, d4, d5⟩
  · exact .inl ⟨v, rfl, d1, d2, d3, fun b o y _ => d4 b o y, d5⟩
  · exact .inr ⟨e, ob, cls, rfl, d1, d2, d3, d4, fun b o y _ => d5 b o y⟩
end
section
open PySem PySem.W PySem.Calls PyProof.Rows
set_option maxRecDepth 100000
/- what the law's walk shows -/
noncomputable def LawOk : Prop := ∀ (w : World) (mg mb : Str → Option Value) (l : Nat) (vs : List Value) (ns : List Int) (s : Shared) (Q E : Value → Shared → Prop), Wd w mg mb s.heap → Tb s.heap → Is s.heap l (.lst vs) → IntsAre vs ns → ns.length ≤ 63 → 58 < l →
  (∀ s' t, Same s s' → Keep s.heap s'.heap → Tb s'.heap → Q (.bool true) { s' with toks := t }) → wpS (model PR w) callerA (call (.ref 128) [.ref l]) Q E s
theorem tab_ends {h h' : Heap} {c P : Addr} {line : Int} {q : Str} (C : CodeHd h c P) (_ : h.get? P = some (tabObj #[])) (t1 : TabOk h' P line q) : asItWas h h' P (tabObj #[]) ∧ ∃ o', h'.get? P = some o' := by
  rcases t1 with e | ⟨c', e, _⟩
  · exact ⟨.inl e, _, e⟩
  · obtain ⟨o, vs, file, tf, flags, tg, inF, text, tt, e1, e2, e3, e4, _⟩ := C
    exact ⟨.inr (.inl ⟨⟨c, o, vs, e1, e2, e3, e4⟩, rfl, #[], #[rawInt line, rawInt 4, .ref c'], rfl, e⟩), _, e⟩
theorem good_end {w : World} {mg mb : Str → Option Value} {cl : Str → Option Addr} {mean : ExcName → Option Value} {ds : List WData} {s₁ s' : Shared} {t : Nat} (W : Wd w mg mb s₁.heap) (h54 : s₁.heap.get? 54 = some (tabObj #[])) (h47 : s₁.heap.get? 47 = some (tabObj #[]))
    (hg : s₁.gens = #[]) (hs : Same s₁ s') (hk : Keep s₁.heap s'.heap) (ht : Tb s'.heap) : GoodWG PySem.Challenge.rw_ph0118_01.row.claim cl mean ds s₁ (.ok (.ret (.bool true))) { s' with toks := t } := by
  have k54 := tab_ends W.c1 h54 ht.b
  have k47 := tab_ends W.c2 h47 ht.a
  have hos : s'.os = s₁.os ∧ s'.gens = s₁.gens := by obtain ⟨h, tk, rfl⟩ := hs; exact ⟨rfl, rfl⟩
  refine ⟨.inl ⟨.bool true, .bool true, [], rfl, fun _ => rfl, .bool true, (by with_unfolding_all rfl), fun _ => ⟨List.nodup_nil, fun _ h => nomatch h⟩⟩, ⟨fun b o e => ?_, fun b o e => ?_⟩, hos.1, .of_eq (hos.2.trans hg)⟩
  · by_cases e1 : b = 54
    · subst e1; rw [h54] at e; cases e; exact k54.1
    by_cases e2 : b = 47
    · subst e2; rw [h47] at e; cases e; exact k47.1
    exact .inl (hk b o e1 e2 e)
  · by_cases e1 : b = 54
    · subst e1; exact k54.2
    by_cases e2 : b = 47
    · subst e2; exact k47.2
    exact ⟨o, hk b o e1 e2 e⟩
set_option maxHeartbeats 8000000 in
theorem holds_of (law : LawOk) : PySem.Challenge.rw_ph0118_01.Holds := by
  w_on
  o_law
  refine holdsS (LeftO.of_split "special-get-raises" hd._proof_42) (fun s e => xl_of s (Bool.and_eq_true_iff.mp e).1) XL.keeps (by rfl) (by rfl) (by rfl) (fun s e => recFacts_of (Bool.and_eq_true_iff.mp e).2) (by rfl) (by assumption) hd._proof_40 ⟨rfl, rfl, rfl, rfl, rfl, by decide +kernel⟩ ⟨[WData.list []], hd._proof_43, hd._proof_44⟩ ?_
  intro w s₀ s₁ mg mb G Y fa o pm cd doc dV kV ho hd' hcd hD hmg hg args vals as hpre hlay hrd hwl hlo Y0 hbig
  have KX := km_in_of Y
  have TX := km_tabs_of Y
  have T := G.T
  have hb58 : ∀ a ∈ as, @LT.lt Nat _ 58 a := fun a ha => by
    have h1 : @LE.le Nat _ s₀.heap.objs.size a := hbig a ha
    have h2 : @LT.lt Nat _ 78 s₀.heap.objs.size := Heap.lt_size (km_in_of Y0 78 _ rfl)
    omega
  have W : Wd w mg mb s₁.heap := ⟨KX, T.g, T.b, T.nolimit, T.nodigits, T.builtins, T.bmain, codeHd_of_K KX (by rfl), codeHd_of_K KX (by rfl), ⟨_, TX 54 (by simp)⟩, ⟨_, TX 47 (by simp)⟩⟩
  have TB : Tb s₁.heap := ⟨.inl (TX 47 (by simp)), .inl (TX 54 (by simp))⟩
  have hfa : fa = 128 := by
    have e1 := mgK W (x := "law") (v := .ref 128) (by rfl)
    have e2 : mg "law" = some (.ref fa) := hmg
    rw [e1] at e2; cases e2; rfl
  have h54 := TX 54 (by simp)
  have h47 := TX 47 (by simp)
  clear G Y Y0 ho hd' hcd hD hmg T TX KX
  wrow_args hpre hlay hrd hwl hlo
  rename_i ns _ _ _ _ _ as1 _ a1 vs1 _ hL _ w1 r0 hI _ hlen _
  have hlen : ns.length ≤ 63 := by omega
  have ha : @LT.lt Nat _ 58 a1 := by
    cases r0 with
    | list => exact hb58 _ (by simp)
  have hl : Is s₁.heap a1 (.lst vs1) := by
    obtain ⟨o1, e1, _, n1, e2⟩ := hL
    cases w1 with
    | list e3 _ => rw [e3] at e1; cases e1; cases e2; exact ⟨_, e3, 0, rfl⟩
  subst hfa
  exact law w mg mb a1 vs1 ns s₁ _ _ W TB hl hI hlen ha fun s' t k1 k2 k3 => good_end W h54 h47 hg k1 k2 k3
end
section
open PySem PySem.W PySem.Calls PySem.Spec PyProof.Rows
set_option maxRecDepth 100000
section
variable {w : World} {mg mb : Str → Option Value} {s₀ s s' : Shared} {L : Nat} {cs : Scope} {locs : List Str} {globs : List (Str × Value)} {vals vals' : List (Option Value)} {news news' : List (Nat × Knd)}
variable {A : Around} {E : Value → Shared → Prop} {env : Env} {x : Str} {v : Value} {pos : Pos} {l : Nat} {vs us ws : List Value} {Q : Value → Shared → Prop}
theorem P_none (h : Q .none s) : wpAny (model PR w) A (evalPart none env) Q E s := wpAny_pure h
theorem P_some {e : Expr} (h : wpAny (model PR w) A (eval e env) Q E s) : wpAny (model PR w) A (evalPart (some e) env) Q E s := h
/- a slice of a list -/
theorem sliceL {value slice : Expr} {lo hi st : Option Int} {vl vu vk : Value} {ops : List Value} (S : St w mg mb s₀ L cs locs globs vals news s) (hl : Is s.heap l (.lst vs)) (pl : IsPart vl lo) (pu : IsPart vu hi) (pk : IsPart vk st) (h0 : st ≠ some 0) (hz : vs.length ≤ sizeLine)
    (hpick : slicePick vs.toArray lo hi st = ws.toArray) (h : ∀ t s', St w mg mb s₀ L cs locs globs vals ((t, .obj (lstO ws 0)) :: news) s' → L < t → LtAll t news → Q (.ref t) s')
    (hs : subscripted slice false (.ref l) (.ref s.heap.objs.size) = operate ops (getItem (.ref l) (.ref s.heap.objs.size)) := by with_unfolding_all rfl) :
    wpAny (model PR w) A (subscriptTail value slice (.ref l) (.ref s.heap.objs.size)) Q E { s with heap := s.heap.push { cls := .type "slice", data := .fields #[vl, vu, vk] } } := by
  have S1 := S.push { cls := .type "slice", data := .fields #[vl, vu, vk] } (kd := .prp fun _ => True) trivial
  have S1 := S1.drop
  have hl1 : Is ({ s with heap := s.heap.push { cls := .type "slice", data := .fields #[vl, vu, vk] } } : Shared).heap l (.lst vs) := hl.keep fun o e => Heap.get?_push_of_some _ e
  refine tail_any hl1.lst.typeIs slot_list_getitem.lookup (wpAny_getItem_list_slice hl1.lst (Heap.IsSliceOf.new ..) pl pu pk h0 ?_ (by rw [List.size_toArray]; exact hz)) hs
  rw [hpick]
  have S2 := S1.push (lstO ws 0) (kd := .obj (lstO ws 0)) rfl
  exact h _ _ S2 (S1.freshOf S1.newAddr).1 (S1.freshOf S1.newAddr).2
theorem itemLR {value slice : Expr} {k : Int} {u : Tok} (hl : Is s.heap l (.lst vs)) (h0 : 0 ≤ k) (hz : k < 2 ^ 63) (hx : vs[k.toNat]? = some v) (h : Q v s)
    (hs : subscripted slice false (.ref l) (.int k u) = operate [.ref l, .int k u] (getItem (.ref l) (.int k u)) := by with_unfolding_all rfl) :
    wpAny (model PR w) A (subscriptTail value slice (.ref l) (.int k u)) Q E s :=
  tail_any hl.lst.typeIs slot_list_getitem.lookup (wpAny_getItem_list hl.lst h0 hz (by simpa using hx) h) hs
theorem itemLN {value slice : Expr} {k : Int} {u : Tok} (hl : Is s.heap l (.lst vs)) (h0 : k < 0) (h1 : -(vs.length : Int) ≤ k) (hz : -(2 ^ 63) ≤ k) (hx : vs[(k + vs.length).toNat]? = some v) (h : Q v s)
    (hs : subscripted slice false (.ref l) (.int k u) = operate [.ref l, .int k u] (getItem (.ref l) (.int k u)) := by with_unfolding_all rfl) :
    wpAny (model PR w) A (subscriptTail value slice (.ref l) (.int k u)) Q E s :=
  tail_any hl.lst.typeIs slot_list_getitem.lookup (wpAny_getItem_list_neg hl.lst h0 (by simpa using h1) hz (by simpa using hx) h) hs
theorem itemT {value slice : Expr} {k : Int} {u : Tok} {j : Nat} (ht : Is s.heap l (.tup vs)) (hlo : -(2 ^ 63) ≤ k) (hhi : k < 2 ^ 63) (hj : seqIndex? k vs.length = some j) (hx : vs[j]? = some v) (h : Q v s)
    (hs : subscripted slice false (.ref l) (.int k u) = operate [.ref l, .int k u] (getItem (.ref l) (.int k u)) := by with_unfolding_all rfl) :
    wpAny (model PR w) A (subscriptTail value slice (.ref l) (.int k u)) Q E s := item_tupleT ht.tup hlo hhi hj hx h hs
theorem addL {b : Nat} (S : St w mg mb s₀ L cs locs globs vals news s) (hl : Is s.heap l (.lst vs)) (hb : Is s.heap b (.lst us)) (hz : vs.length + us.length ≤ sizeLine)
    (h : ∀ t s', St w mg mb s₀ L cs locs globs vals ((t, .obj (lstO (vs ++ us) 0)) :: news) s' → L < t → LtAll t news → Q (.ref t) s') : wpAny (model PR w) A (binaryOp .Add (.ref l) (.ref b)) Q E s := by
  obtain ⟨n1, e1⟩ := hl.lstG
  obtain ⟨n2, e2⟩ := hb.lstG
  refine P.add_list e1 e2 ?_ (by simpa using hz)
  have e : vs.toArray ++ us.toArray = (vs ++ us).toArray := by simp
  rw [e]
  exact h _ _ (S.push (lstO (vs ++ us) 0) (kd := .obj (lstO (vs ++ us) 0)) rfl) (S.freshOf S.newAddr).1 (S.freshOf S.newAddr).2
theorem O_pow {a n : Int} {t u : Tok} (S : St w mg mb s₀ L cs locs globs vals news s) (hn : 0 ≤ n) (hn2 : n ≤ 1000000) (ha : a.natAbs < 2 ^ 64) (h : ∀ t s', St w mg mb s₀ L cs locs globs vals news s' → Q (.int (a ^ n.toNat) t) s') : wpAny (model PR w) A (binaryOp .Pow (.int a t) (.int n u)) Q E s := pow_int_small hn hn2 ha (h _ _ (S.tok _))
theorem O_mod {a b : Int} {t u : Tok} (S : St w mg mb s₀ L cs locs globs vals news s) (hb : b ≠ 0) (h : ∀ t s', St w mg mb s₀ L cs locs globs vals news s' → Q (.int (a.fmod b) t) s') : wpAny (model PR w) A (binaryOp .Mod (.int a t) (.int b u)) Q E s := PyProof.Rows.mod_int hb (h _ _ (S.tok _))
theorem absI {a : Int} {t : Tok} (S : St w mg mb s₀ L cs locs globs vals news s) (h : ∀ t s', St w mg mb s₀ L cs locs globs vals news s' → Q (.int a.natAbs t) s') : wpAny (model PR w) A (call (.builtin "abs") [.int a t]) Q E s := by
  refine call_abs_int fun u tk => ?_
  have e : (if a < 0 then -a else a) = (a.natAbs : Int) := by split <;> omega
  rw [e]
  exact h _ _ (S.tok _)
theorem sumL {ns : List Int} (S : St w mg mb s₀ L cs locs globs vals news s) (hA : A.handled = none) (hl : Is s.heap l (.lst vs)) (hi : IntsAre vs ns) (h : ∀ t s', St w mg mb s₀ L cs locs globs vals news s' → Q (.int ns.sum t) s') : wpAny (model PR w) A (call (.builtin "sum") [.ref l]) Q E s := by
  obtain ⟨xs, e⟩ := hi.allInts.items
  refine sum_intListG hA (by rw [← e]; exact hl.lst) fun h' tk t' hk => ?_
  have e2 : preSum (numAt xs) xs.size = ns.sum := by
    rw [preSum_eq, List.take_of_length_le (by simp), ← nums_intItems, ← e]
    exact congrArg List.sum hi.numsOf
  rw [e2]
  exact h _ _ ((S.call (s' := { s with heap := h', toks := tk }) ⟨_, _, rfl⟩ (Keep.of hk) (S.tb.keeps hk)))
end
end
section
open PySem PySem.W PySem.Calls PySem.Spec PyProof.Rows
set_option maxRecDepth 100000
/- what a scalar expression comes to -/
inductive EvI (cs : Scope) (cl : List (Str × Addr)) (locs : List Str) (vals : List (Option Value)) (news : List (Nat × Knd)) : Expr → Int → Prop
  | name {x : Str} {p : Pos} {n : Int} {t : Tok} : At locs vals x (.int n t) → EvI cs cl locs vals news (.Name x p) n
  | cell {x : Str} {p : Pos} {n : Int} {t : Tok} {c : Nat} : Ck .cell cs x → cl.lookup x = some c → (c, Knd.cell (some (.int n t))) ∈ news → EvI cs cl locs vals news (.Name x p) n
  | free {x : Str} {p : Pos} {n : Int} {t : Tok} {c : Nat} : Ck .free cs x → cl.lookup x = some c → (c, Knd.old (.cell (some (.int n t)))) ∈ news → EvI cs cl locs vals news (.Name x p) n
  | const {c : Int} {k : Nat} {p : Pos} : EvI cs cl locs vals news (.Constant (.int c) k p) c
  | neg {e : Expr} {n : Int} {p : Pos} : EvI cs cl locs vals news e n → EvI cs cl locs vals news (.UnaryOp .USub e p) (-n)
  | add {l r : Expr} {a b : Int} {p : Pos} : EvI cs cl locs vals news l a → EvI cs cl locs vals news r b → EvI cs cl locs vals news (.BinOp l .Add r p) (a + b)
  | sub {l r : Expr} {a b : Int} {p : Pos} : EvI cs cl locs vals news l a → EvI cs cl locs vals news r b → EvI cs cl locs vals news (.BinOp l .Sub r p) (a - b)
  | inv {e : Expr} {n : Int} {p : Pos} : EvI cs cl locs vals news e n → EvI cs cl locs vals news (.UnaryOp .Invert e p) (Builtin.bitNot n)
  | land {l r : Expr} {a b : Int} {p : Pos} : EvI cs cl locs vals news l a → EvI cs cl locs vals news r b → EvI cs cl locs vals news (.BinOp l .BitAnd r p) (Builtin.bitAnd a b)
  | lor {l r : Expr} {a b : Int} {p : Pos} : EvI cs cl locs vals news l a → EvI cs cl locs vals news r b → EvI cs cl locs vals news (.BinOp l .BitOr r p) (Builtin.bitOr a b)
  | lxor {l r : Expr} {a b : Int} {p : Pos} : EvI cs cl locs vals news l a → EvI cs cl locs vals news r b → EvI cs cl locs vals news (.BinOp l .BitXor r p) (Builtin.bitXor a b)
  | shl {l r : Expr} {a b : Int} {p : Pos} : EvI cs cl locs vals news l a → EvI cs cl locs vals news r b → 0 ≤ b → (Builtin.Int.intBits a : Int) + b ≤ 2 ^ 27 → EvI cs cl locs vals news (.BinOp l .LShift r p) (a * 2 ^ b.toNat)
  | shr {l r : Expr} {a b : Int} {p : Pos} : EvI cs cl locs vals news l a → EvI cs cl locs vals news r b → 0 ≤ b → EvI cs cl locs vals news (.BinOp l .RShift r p) (a.fdiv (2 ^ b.toNat))
  | mul {l r : Expr} {a b : Int} {p : Pos} : EvI cs cl locs vals news l a → EvI cs cl locs vals news r b → PySem.IntMulOk a b → EvI cs cl locs vals news (.BinOp l .Mult r p) (a * b)
  | idx {x : Str} {p p2 : Pos} {l : Nat} {vs : List Value} {e : Expr} {i n : Int} {t : Tok} : At locs vals x (.ref l) → (l, Knd.lst vs) ∈ news → EvI cs cl locs vals news e i → 0 ≤ i → i < 2 ^ 63 → vs[i.toNat]? = some (.int n t) →
      (∀ u, subscripted e false (.ref l) (.int i u) = operate [.ref l, .int i u] (getItem (.ref l) (.int i u))) → EvI cs cl locs vals news (.Subscript (.Name x p) e p2) n
  | idn {x : Str} {p p2 : Pos} {l : Nat} {vs : List Value} {e : Expr} {i n : Int} {t : Tok} : At locs vals x (.ref l) → (l, Knd.lst vs) ∈ news → EvI cs cl locs vals news e i → i < 0 → -(vs.length : Int) ≤ i → -(2 ^ 63) ≤ i → vs[(i + vs.length).toNat]? = some (.int n t) →
      (∀ u, subscripted e false (.ref l) (.int i u) = operate [.ref l, .int i u] (getItem (.ref l) (.int i u))) → EvI cs cl locs vals news (.Subscript (.Name x p) e p2) n
theorem EvI.run {w : World} {mg mb : Str → Option Value} {s₀ : Shared} {L : Nat} {cs : Scope} {locs : List Str} {globs : List (Str × Value)} {vals : List (Option Value)} {news : List (Nat × Knd)} {A : Around} {E : Value → Shared → Prop} {cn : Str} {fa : Addr} {ccd : Value} {cl : List (Str × Addr)} {e : Expr} {n : Int}
    (h : EvI cs cl locs vals news e n) : ∀ {s : Shared} {Q : Value → Shared → Prop}, St w mg mb s₀ L cs locs globs vals news s → (∀ t s', St w mg mb s₀ L cs locs globs vals news s' → Q (.int n t) s') → wpAny (model PR w) A (eval e (envX cn cs L fa ccd cl)) Q E s := by
  induction h with
  | name k => intro s Q S hQ; exact rdL S k (hQ _ _ S)
  | cell hk hc m => intro s Q S hQ; exact rdC S hk hc m (hQ _ _ S)
  | free hk hc m => intro s Q S hQ; exact rdF S hk hc m (hQ _ _ S)
  | inv h ih => intro s Q S hQ; exact UnaryOp_ (ih S fun t s' S' => O_inv S' hQ)
  | land h1 h2 i1 i2 => intro s Q S hQ; exact wpAny_BinOp (i1 S fun t s1 S1 => i2 S1 fun u s2 S2 => O_and S2 hQ)
  | lor h1 h2 i1 i2 => intro s Q S hQ; exact wpAny_BinOp (i1 S fun t s1 S1 => i2 S1 fun u s2 S2 => O_or S2 hQ)
  | lxor h1 h2 i1 i2 => intro s Q S hQ; exact wpAny_BinOp (i1 S fun t s1 S1 => i2 S1 fun u s2 S2 => O_xor S2 hQ)
  | shl h1 h2 h3 h4 i1 i2 => intro s Q S hQ; exact wpAny_BinOp (i1 S fun t s1 S1 => i2 S1 fun u s2 S2 => O_shl S2 h3 h4 hQ)
  | shr h1 h2 h3 i1 i2 => intro s Q S hQ; exact wpAny_BinOp (i1 S fun t s1 S1 => i2 S1 fun u s2 S2 => O_shr S2 h3 hQ)
  | const => intro s Q S hQ; exact E_int S hQ
  | neg h ih => intro s Q S hQ; exact UnaryOp_ (ih S fun t s' S' => O_neg S' hQ)
  | add h1 h2 i1 i2 => intro s Q S hQ; exact wpAny_BinOp (i1 S fun t s1 S1 => i2 S1 fun u s2 S2 => O_add S2 hQ)
  | sub h1 h2 i1 i2 => intro s Q S hQ; exact wpAny_BinOp (i1 S fun t s1 S1 => i2 S1 fun u s2 S2 => O_sub S2 hQ)
  | mul h1 h2 hm i1 i2 => intro s Q S hQ; exact wpAny_BinOp (i1 S fun t s1 S1 => i2 S1 fun u s2 S2 => O_mul S2 hm hQ)
  | idx k m h h0 hz hx hs ih => intro s Q S hQ; exact Subscript_ (rdL S k (ih S fun t s1 S1 => itemLR (S1.get m) h0 hz hx (hQ _ _ S1) (hs t)))
  | idn k m h h0 h1 hz hx hs ih => intro s Q S hQ; exact Subscript_ (rdL S k (ih S fun t s1 S1 => itemLN (S1.get m) h0 h1 hz hx (hQ _ _ S1) (hs t)))
section
variable {cs : Scope} {cl : List (Str × Addr)} {locs : List Str} {vals : List (Option Value)} {news : List (Nat × Knd)} {x y : Str} {p p1 p2 p3 p4 : Pos} {l k c q : Nat} {vs : List Value} {n : Int} {t u : Tok}
theorem n63 {c : Nat} (h : c < 1000) : (c : Int) < 2 ^ 63 := Int.lt_of_lt_of_le (Int.ofNat_lt.mpr h) (by decide)
/- x[c] -/
theorem EvI.atc (h : At locs vals x (.ref l)) (m : (l, Knd.lst vs) ∈ news) (hx : vs[c]? = some (.int n t)) (hc : c < 1000) : EvI cs cl locs vals news (.Subscript (.Name x p) (.Constant (.int (c : Int)) q p1) p2) n :=
  .idx h m .const (Int.natCast_nonneg c) (n63 hc) hx fun _ => by with_unfolding_all rfl
/- x[y] -/
theorem EvI.atn (h : At locs vals x (.ref l)) (m : (l, Knd.lst vs) ∈ news) (hy : At locs vals y (.int (k : Int) u)) (hx : vs[k]? = some (.int n t)) (hc : k < 1000) : EvI cs cl locs vals news (.Subscript (.Name x p) (.Name y p1) p2) n :=
  .idx h m (.name hy) (Int.natCast_nonneg k) (n63 hc) hx fun _ => by with_unfolding_all rfl
/- x[y + c] -/
theorem EvI.atp (h : At locs vals x (.ref l)) (m : (l, Knd.lst vs) ∈ news) (hy : At locs vals y (.int (k : Int) u)) (hx : vs[k + c]? = some (.int n t)) (hc : k + c < 1000) : EvI cs cl locs vals news (.Subscript (.Name x p) (.BinOp (.Name y p1) .Add (.Constant (.int (c : Int)) q p4) p3) p2) n :=
  .idx h m (.add (.name hy) .const) (Int.natCast_nonneg (k + c)) (n63 hc) hx fun _ => by with_unfolding_all rfl
/- x[-c] -/
theorem EvI.atl (h : At locs vals x (.ref l)) (m : (l, Knd.lst vs) ∈ news) (hc : 0 < c) (hl : vs.length = k + c) (hx : vs[k]? = some (.int n t)) (hc2 : c < 1000) : EvI cs cl locs vals news (.Subscript (.Name x p) (.UnaryOp .USub (.Constant (.int (c : Int)) q p1) p3) p2) n :=
  .idn h m (.neg .const) (Int.neg_neg_of_pos (Int.ofNat_lt.mpr hc)) (Int.neg_le_neg (Int.ofNat_le.mpr (hl ▸ Nat.le_add_left c k))) (Int.neg_le_neg (Int.le_of_lt (n63 hc2))) (by rw [hl, Int.natCast_add, Int.add_comm (k : Int), Int.neg_add_cancel_left]; exact hx) fun _ => by with_unfolding_all rfl
end
/- x << k, x >> k -/
theorem shl_ok {x n : Nat} (h : x + n ≤ 134217728) : (x : Int) + (n : Int) ≤ 2 ^ 27 := by lia
theorem EvI.shlN {cs : Scope} {cl : List (Str × Addr)} {locs : List Str} {vals : List (Option Value)} {news : List (Nat × Knd)} {l r : Expr} {a : Int} {n : Nat} {p : Pos} (h1 : EvI cs cl locs vals news l a) (h2 : EvI cs cl locs vals news r (n : Int)) (hz : Builtin.Int.intBits a + n ≤ 134217728) : EvI cs cl locs vals news (.BinOp l .LShift r p) (a * 2 ^ n) := .shl h1 h2 (Int.natCast_nonneg n) (shl_ok hz)
theorem EvI.shrN {cs : Scope} {cl : List (Str × Addr)} {locs : List Str} {vals : List (Option Value)} {news : List (Nat × Knd)} {l r : Expr} {a : Int} {n : Nat} {p : Pos} (h1 : EvI cs cl locs vals news l a) (h2 : EvI cs cl locs vals news r (n : Int)) (h0 : 0 ≤ a) : EvI cs cl locs vals news (.BinOp l .RShift r p) (a / 2 ^ n) := by
  rw [← fdiv_pow n h0]; exact .shr h1 h2 (Int.natCast_nonneg n)
theorem EvI.shr1 {cs : Scope} {cl : List (Str × Addr)} {locs : List Str} {vals : List (Option Value)} {news : List (Nat × Knd)} {l : Expr} {a : Int} {p q : Pos} {k : Nat} (h1 : EvI cs cl locs vals news l a) : EvI cs cl locs vals news (.BinOp l .RShift (.Constant (.int 1) k q) p) (a / 2) := by
  rw [← Int.fdiv_eq_ediv_of_nonneg a (by decide)]; exact .shr h1 .const (by decide)
end
section
open PySem PySem.W PySem.Calls PyProof.Rows
set_option maxRecDepth 100000
section
variable {w : World} {mg mb : Str → Option Value} {s₀ s₁ s₂ s : Shared} {C L : Nat} {cs : Scope} {locs : List Str} {globs : List (Str × Value)} {vals vals' vals'' : List (Option Value)} {news news' : List (Nat × Knd)}
variable {A : Around} {E : Value → Shared → Prop} {cn : Str} {fa : Addr} {ccd : Value} {cl : List (Str × Addr)} {x : Str} {v : Value} {pos : Pos}
/- the name is bound while the comprehension's own names still stand; then they go -/
theorem St.bindThenGo {cs' : Scope} {locs' : List Str} {globs' : List (Str × Value)} {vals₁ : List (Option Value)} {newsI : List (Nat × Knd)} {y : Str} {py : Pos} (S : St w mg mb s₀ L cs locs globs vals news s₁) (S' : St w mg mb s₁ C cs' locs' globs' vals₁ newsI s₂) (P : Put locs vals y v vals')
    (hne : ∀ p ∈ newsI, p.1 ≠ L) {Q : Shared → Prop} (h : ∀ s3, St w mg mb s₀ L cs locs globs vals' news s3 → (∀ p ∈ newsI, Is s3.heap p.1 p.2) → Q s3) :
    wpAny (model PR w) A (assign (.Name y py) (envX cn cs L fa ccd cl) v) (fun _ s3 => ∃ m, s3.heap.Ns C m ∧ ∀ h', Heap.SameBut C s3.heap h' → Q { s3 with heap := h' }) E s₂ := by
  have S1 := S.call S'.same S'.keep S'.tb
  have hLs : L < s₁.heap.objs.size := S.ltL
  have hCs := S'.above
  have hLC : L ≠ C := Nat.ne_of_lt (Nat.lt_of_lt_of_le hLs hCs)
  obtain ⟨m, n, hm⟩ := S1.ns
  obtain ⟨mC, nC, _⟩ := S'.ns
  refine wpAny_assign_Name (wpAny_storeName_local (S1.nm.kl y P.mem).1 n (fun h2 hn2 hs2 => ?_) (by show (cs.kind == .class || (cs.kind == .module && L != mainGlobals)) = false; rw [S1.nm.kf]; rfl))
  have S2 := S1.set n hm P hn2 hs2 (t := s₂.toks + 1)
  have nC2 : h2.Ns C mC := nC.sameBut hs2 (fun q => hLC q.symm)
  refine ⟨mC, nC2, fun h3 hs3 => ?_⟩
  have hCL : L < C := Nat.lt_of_lt_of_le hLs hCs
  have S3 := S2.add (a := C) (k := .prp fun o => ∃ es n, o.data = .dict es n) (by obtain ⟨o, es, ep, e, d, _⟩ := nC2; exact ⟨o, e, es, ep, d⟩) hCL
  have hnC : ∀ p ∈ news, p.1 ≠ C := fun p hp => by
    have : p.1 < s₁.heap.objs.size := S.lt (k := p.2) hp
    exact Nat.ne_of_lt (Nat.lt_of_lt_of_le this hCs)
  have S4 := S3.ext (h' := h3) hs3.extBut hnC (fun o ho vs q t hd => by obtain ⟨es, n, e⟩ := ho; rw [e] at hd; cases hd)
  refine h _ S4 fun p hp => ?_
  have h1 := S'.N p hp
  exact h1.1.keep fun o e => (hs3.2 p.1 h1.2.1).trans ((hs2.2 p.1 (hne p hp)).trans e)
/- a list comprehension with one clause over a list, bound to a name of the frame -/
theorem X_compU {elt target iter : Expr} {ifs : List Expr} {scope csO : Scope} {clO : List (Str × Addr)} {Q : Flow → Shared → Prop} {y : Str} {py spos : Pos} {rest : List Stmt} (locs' : List Str) (globs' : List (Str × Value)) (vals₀ : List (Option Value)) (R : Scope → Prop) (I : Scope → Shared → Nat → Nat → Nat → Nat → Shared → Prop)
    (hsw : swapsWith (.ListComp elt [⟨target, iter, ifs, 0⟩] scope pos) (some (.Name y py)) spos.line (envX cn csO L fa ccd clO) = pure true)
    (hclos : closureFor scope (envX cn csO L fa ccd clO) = pure cl) (hcell : ∀ y ∈ scope.names, y.2 ≠ .cell) (hkind : scope.kind = .function) (hnames : ∀ y ∈ scope.names, y.2 = .local → scope.names.lookup y.1 = some .local)
    (hnm : Nm mg (relabel scope (envX cn csO L fa ccd clO)) locs' globs') (hv : HasAll (fun _ => none) locs' vals₀) (hR : R (relabel scope (envX cn csO L fa ccd clO)))
    (start : wpAny (model PR w) A (eval iter (envX cn csO L fa ccd clO)) (fun xv s₁ => ∃ (l : Nat) (vs : List Value), xv = .ref l ∧ Wd w mg mb s₁.heap ∧ Tb s₁.heap ∧ Is s₁.heap l (.lst vs) ∧ 58 < l ∧
      ∀ (cs' : Scope) (C D it : Nat) s₃, R cs' → s₁.heap.objs.size ≤ it → it < D → D < C → St w mg mb s₁ C cs' locs' globs' vals₀ [(D, .lst []), (it, .it l 0), (l, .old (.lst vs))] s₃ → ∃ n, I cs' s₁ C D it n s₃) E s)
    (self : ∀ cs' s₁ C D it n s, I cs' s₁ C D it n s → ∃ l i, Is s.heap it (.it l i))
    (turn : ∀ cs' s₁ C D it n s, R cs' → I cs' s₁ C D it n s → wpAny (model PR w) A (pyNext (.ref it)) (fun r s₂ => match r with
      | none => ∃ vals₁ newsI newsO, ∃ vals vals', St w mg mb s₁ C cs' locs' globs' vals₁ newsI s₂ ∧ St w mg mb s₀ L csO locs globs vals newsO s₁ ∧ Put locs vals y (.ref D) vals' ∧ (∀ p ∈ newsI, p.1 ≠ L) ∧
          ∀ s3, St w mg mb s₀ L csO locs globs vals' newsO s3 → (∀ p ∈ newsI, Is s3.heap p.1 p.2) → wpAny (model PR w) A (execs rest (envX cn csO L fa ccd clO)) Q E s3
      | some v => wpAny (model PR w) A (letOwnedTupleGo target (.ref it) v) (fun _ s₁' => wpAny (model PR w) A (assign target (cEnv cn cs' C L ccd cl) v) (fun _ s₃ => wpAny (model PR w) A (compIfs ifs (cEnv cn cs' C L ccd cl)) (fun ok s₄ =>
          (ok = true → wpAny (model PR w) A (eval elt (cEnv cn cs' C L ccd cl)) (fun x s₅ => wpAny (model PR w) A (call (.builtin "list.append") [.ref D, x]) (fun _ s₆ => ∃ m, m < n ∧ I cs' s₁ C D it m s₆) (fun _ _ => False) s₅) (fun _ _ => False) s₄) ∧ (ok = false → ∃ m, m < n ∧ I cs' s₁ C D it m s₄))
          (fun _ _ => False) s₃) (fun _ _ => False) s₁') (fun _ _ => False) s₂) (fun _ _ => False) s)
    (hs : ∀ x, foldedSetIterable iter (envX cn csO L fa ccd clO) x = pure x := by intro _; rfl) :
    wpAny (model PR w) A (execs (.Assign [.Name y py] (.ListComp elt [⟨target, iter, ifs, 0⟩] scope pos) spos :: rest) (envX cn csO L fa ccd clO)) Q E s := by
  refine wpAny_execs_cons ?_
  rw [exec_Assign_Name_used _ _ _ _ hsw]
  refine wpAny_bind (wpAny_standAt (wpAny_bind ?_))
  show wpAny _ A (do let _ ← comprehension (.ListComp elt [⟨target, iter, ifs, 0⟩] scope pos) scope (envX cn csO L fa ccd clO) _ (newList []) false (eval iter (envX cn csO L fa ccd clO)) (some (assign (.Name y py) (envX cn csO L fa ccd clO)))) _ _ s
  refine wpAny_bind (wpAny_mono (wpAny_comprehension_free (use := some (assign (.Name y py) (envX cn csO L fa ccd clO))) (Q := fun _ s' => wpAny (model PR w) A (execs rest (envX cn csO L fa ccd clO)) Q E s') rfl hs hclos hkind hnames (wpAny_mono start (fun xv s₁ h₁ => ?_) fun _ _ e => e)) (fun _ s' hq => wpAny_pure (wpAny_pure hq)) fun _ _ e => e)
  obtain ⟨l, vs, rfl, W, T, hl, hl58, h₁⟩ := h₁
  refine wpAny_pyIter_list hl.lst ?_
  refine wpAny_newObj_type (wpAny_newFunctionEnv hcell (by intro y hy; simp at hy) (fun h₁' hns₁ hsb₁ => ?_) hkind)
  dsimp only at hns₁ hsb₁ ⊢
  generalize hH1 : s₁.heap.push { cls := Value.type "list_iterator", dict := none, data := Data.fields #[Value.ref l, Value.int 0 0] } = H1 at *
  have hs1 : H1.objs.size = s₁.heap.objs.size + 1 := by rw [← hH1]; exact Heap.size_push ..
  have hsz : (H1.push { cls := Value.type "list", dict := none, data := Data.seq ([] : List Value).toArray }).objs.size = s₁.heap.objs.size + 2 := by rw [Heap.size_push, hs1]
  have hkp : ∀ (b : Nat) o, b ≠ s₁.heap.objs.size + 2 → H1.get? b = some o → h₁'.get? b = some o := fun b o hb e =>
    hsb₁.extBut b o (by rw [hsz]; exact hb) (Heap.get?_push_of_some _ (Heap.get?_push_of_some _ e))
  have hk1 : ∀ b o, s₁.heap.get? b = some o → h₁'.get? b = some o := fun b o e => by
    have hb : @LT.lt Nat _ b s₁.heap.objs.size := Heap.lt_size e
    exact hkp b o (Nat.ne_of_lt (Nat.lt_of_lt_of_le hb (Nat.le_add_right _ 2))) (by rw [← hH1]; exact Heap.get?_push_of_some _ e)
  have hit : h₁'.get? s₁.heap.objs.size = some { cls := Value.type "list_iterator", dict := none, data := Data.fields #[Value.ref l, Value.int 0 0] } := hkp _ _ (Nat.ne_of_lt (Nat.lt_add_of_pos_right (by decide))) (by rw [← hH1]; exact Heap.get?_push_size _ rfl)
  have hD1 : h₁'.get? H1.objs.size = some (lstO [] 0) := by
    refine hsb₁.extBut _ _ ?_ (Heap.get?_push_of_some _ (Heap.get?_push_size _ rfl))
    rw [hsz, hs1]; exact Nat.ne_of_lt (Nat.lt_succ_self _)
  have hb58 := W.size
  have hlt := hl.lt
  have hS : St w mg mb s₁ (H1.push { cls := Value.type "list", dict := none, data := Data.seq ([] : List Value).toArray }).objs.size (relabel scope (envX cn csO L fa ccd clO)) locs' globs' vals₀ [(H1.objs.size, .lst []), (s₁.heap.objs.size, .it l 0), (l, .old (.lst vs))]
      { s₁ with heap := h₁', toks := s₁.toks + ([] : List (Str × Value)).length } := by
    refine ⟨⟨_, _, rfl⟩, W, hnm, ⟨_, hns₁, hv⟩, Keep.of hk1, by rw [hsz]; exact Nat.le_add_right _ 2, ?_, T.keeps hk1⟩
    refine List.forall_mem_cons.mpr ⟨⟨⟨_, hD1, 0, rfl⟩, by rw [hsz, hs1]; exact Nat.ne_of_lt (Nat.lt_succ_self _), by show 58 < H1.objs.size; rw [hs1]; exact Nat.lt_succ_of_lt hb58, fun _ => Heap.get?_none_of_le (by show s₁.heap.objs.size ≤ H1.objs.size; rw [hs1]; exact Nat.le_succ _)⟩,
      List.forall_mem_cons.mpr ⟨⟨⟨_, hit, rfl, rfl⟩, by rw [hsz]; exact Nat.ne_of_lt (Nat.lt_add_of_pos_right (by decide)), hb58, fun _ => Heap.get?_none_of_le (Nat.le_refl _)⟩,
      List.forall_mem_cons.mpr ⟨⟨hl.keep fun o e => hk1 _ o e, by rw [hsz]; exact Nat.ne_of_lt (Nat.lt_of_lt_of_le hlt (Nat.le_add_right _ 2)), hl58, fun q => nomatch q⟩, List.forall_mem_nil _⟩⟩⟩
  obtain ⟨n, hI⟩ := h₁ _ _ H1.objs.size s₁.heap.objs.size _ hR (Nat.le_refl _) (by rw [hs1]; exact Nat.lt_succ_self _) (by rw [hsz, hs1]; exact Nat.lt_succ_self _) hS
  generalize (H1.push { cls := Value.type "list", dict := none, data := Data.seq ([] : List Value).toArray }).objs.size = C at *
  generalize ({ s₁ with heap := h₁', toks := s₁.toks + ([] : List (Str × Value)).length } : Shared) = s₃ at *
  have loop : codeAny (model PR w) A (.compLoop (.ListComp elt [⟨target, iter, ifs, 0⟩] scope pos) 0 (.ref s₁.heap.objs.size) (.ref H1.objs.size) (cEnv cn (relabel scope (envX cn csO L fa ccd clO)) C L ccd cl))
      (compPost (model PR w) A E (some (assign (.Name y py) (envX cn csO L fa ccd clO))) (fun _ s' => wpAny (model PR w) A (execs rest (envX cn csO L fa ccd clO)) Q E s') (.ref H1.objs.size) C) s₃ := by
    refine codeComp (I _ s₁ C H1.objs.size s₁.heap.objs.size) (fun n s hI => wpAny_mono (turn _ s₁ C _ _ n s hR hI) (fun r s₂ h₂ => ?_) fun _ _ x => x) n hI
    cases r with
    | none =>
      obtain ⟨vals₁, newsI, newsO, vals, vals', SI, SO, P, hne, hQ⟩ := h₂
      exact SO.bindThenGo SI P hne hQ
    | some v => exact h₂
  obtain ⟨l', i', o, ho, hc, hd⟩ := self _ _ _ _ _ _ _ hI
  exact codeAny_compStart_list loop (wpAny_pyIter_listiter ⟨o, ho, hc, hd⟩ loop)
end
end
section
open PySem PySem.W PySem.Calls PySem.NumText PyProof.Rows
open Sem (wp)
set_option maxRecDepth 100000
/- facts of the type map -/
theorem owner_map : Manifest.owners.lookup (String.ofList ['p', 'a', 'm'].reverse) = some Manifest.sig_map := by kernel_rfl
theorem slot_map_next : Slot "map" "__next__" "map.__next__" :=
  .of (owner := "map") (n := "__next__") (by rw [typeLookup_type, builtinLookup_eq_fast]; kernel_rfl) (by decide +kernel) (by decide +kernel) (by decide +kernel)
    (by first | exact .inl (by decide +kernel) | exact .inr (by decide +kernel)) (by rw [isSubtype_type]; kernel_rfl)
theorem slot_map_iter : Slot "map" "__iter__" "map.__iter__" :=
  .of (owner := "map") (n := "__iter__") (by rw [typeLookup_type, builtinLookup_eq_fast]; kernel_rfl) (by decide +kernel) (by decide +kernel) (by decide +kernel)
    (by first | exact .inl (by decide +kernel) | exact .inr (by decide +kernel)) (by rw [isSubtype_type]; kernel_rfl)
theorem slot_map_init : Slot "map" "__init__" "object.__init__" :=
  .of (owner := "object") (n := "__init__") (by rw [typeLookup_type, builtinLookup_eq_fast]; kernel_rfl) (by decide +kernel) (by decide +kernel) (by decide +kernel)
    (by first | exact .inl (by decide +kernel) | exact .inr (by decide +kernel)) (by rw [isSubtype_type]; kernel_rfl)
theorem args_map_next (a : Value) : argsOk "map.__next__" ⟨[a], []⟩ := by
  unfold argsOk; rw [signature?_of (id := "map.__next__") (n := ['_', '_', 't', 'x', 'e', 'n', '_', '_']) (o := ['p', 'a', 'm']) (by kernel_rfl) owner_map]; kernel_rfl
theorem args_map_iter (a : Value) : argsOk "map.__iter__" ⟨[a], []⟩ := by
  unfold argsOk; rw [signature?_of (id := "map.__iter__") (n := ['_', '_', 'r', 'e', 't', 'i', '_', '_']) (o := ['p', 'a', 'm']) (by kernel_rfl) owner_map]; kernel_rfl
theorem entry_map_next : entryFor table "map.__next__" = some Builtin.«map.__next__» := entryFor_of_fast (by kernel_rfl)
theorem entry_map_new : entryFor table "map.__new__" = some Builtin.«map.__new__» := entryFor_of_tree (by kernel_rfl)
theorem entry_map_iter : entryFor table "map.__iter__" = some Builtin.«dict_keyiterator.__iter__» :=
  entryFor_alias (id' := "dict_keyiterator.__iter__") (by kernel_rfl) (by first | rfl | decide +kernel | (unfold String.splitOn; simp +decide [String.splitOnAux])) (by decide +kernel) (by kernel_rfl)
theorem mro_map : mroOf (.type "map") = pure [.type "map", .type "object"] := by rw [mroOf_type]; kernel_rfl
theorem lookup_map_new : typeLookup (.type "map") "__new__" = pure (some (.builtin "map.__new__")) := by rw [typeLookup_type, builtinLookup_eq_fast]; kernel_rfl
theorem called_map : TypeCalled "map" "map.__new__" "object.__init__" :=
  ⟨by decide +kernel, by decide +kernel, ⟨_, _, mro_map⟩, madeBy_type mro_map lookup_map_new (by decide +kernel), by decide +kernel, by rw [isSubtype_type]; kernel_rfl, slot_map_init⟩
theorem typeCall_map (a b : Value) : checkTypeCall "map" ⟨[a, b], []⟩ = pure () := by kernel_rfl
theorem newCall_map (a b : Value) : checkBuiltinCall "map.__new__" ⟨[.type "map", a, b], []⟩ = pure () := by kernel_rfl
theorem sub_map : isSubtype (.type "map") (.type "map") = pure true := by rw [isSubtype_type]; kernel_rfl
theorem map_no_len : typeLookup (.type "map") "__len__" = pure none := by rw [typeLookup_type, builtinLookup_eq_fast]; kernel_rfl
theorem map_no_hint : typeLookup (.type "map") "__length_hint__" = pure none := by rw [typeLookup_type, builtinLookup_eq_fast]; kernel_rfl
/- a map object: T is its tuple of iterators -/
noncomputable abbrev IsMap (h : Heap) (m T : Addr) (f : Value) : Prop := h.get? m = some { cls := .type "map", data := .fields #[.ref T, f] }
noncomputable abbrev IsOne (h : Heap) (T : Addr) (a : Value) : Prop := h.get? T = some { cls := .type "tuple", data := .seq #[a] }
section
variable {w : World} {A : Around} {E : Value → Shared → Prop} {s : Shared}
theorem wpAny_pyIter_map {m T : Addr} {f : Value} {Q : Value → Shared → Prop} (hm : IsMap s.heap m T f) (h : Q (.ref m) s) : wpAny (model PR w) A (pyIter (.ref m)) Q E s := by
  have hT : s.TypeIs (.ref m) "map" := ⟨_, hm, rfl⟩
  refine wpAny_pyIter_slot hT slot_map_iter (wpAny_call_entry slot_map_iter hT entry_map_iter ?_ (args_map_iter _))
  show wpAny _ _ (ret (.ref m)) _ _ s
  exact wpAny_pure ⟨_, rfl, "map", _, hT, slot_map_next.lookup, h⟩
end
end
section
open PySem PySem.W PySem.Calls PySem.NumText PyProof.Rows
open Sem (wp)
set_option maxRecDepth 100000
noncomputable abbrev itO (l : Addr) : Obj := { cls := .type "list_iterator", data := .fields #[.ref l, .int 0 0] }
noncomputable abbrev oneO (a : Value) : Obj := { cls := .type "tuple", data := .seq #[a] }
noncomputable abbrev mapO (T : Addr) (f : Value) : Obj := { cls := .type "map", data := .fields #[.ref T, f] }
noncomputable abbrev mapH (h : Heap) (l : Addr) (f : Value) : Heap := ((h.push (itO l)).push (oneO (.ref h.objs.size))).push (mapO (h.push (itO l)).objs.size f)
theorem meets_map_list (f : Value) (l : Addr) (xs : Array Value) :
    Meets (Builtin.«map.__new__» ⟨[.type "map", f, .ref l], []⟩) (fun _ R s => s.heap.IsList l xs ∧ R (.ok (.ret (.ref ((s.heap.push (itO l)).push (oneO (.ref s.heap.objs.size))).objs.size))) { s with heap := mapH s.heap l f }) :=
  .of_wp fun prog w A R s h => by
    obtain ⟨hp, g, d, tk, os⟩ := s; obtain ⟨hl1, h⟩ := h
    have hsub := sub_map
    have hL1 : Heap.IsList (Shared.heap ⟨hp, g, d, tk, os⟩) l xs := hl1
    wp_walk using wpAny_pyIter_list hL1
    exact ⟨_, rfl, h⟩
noncomputable abbrev mapH2 (h : Heap) (m : Addr) (f : Value) : Heap := (h.push (oneO (.ref m))).push (mapO h.objs.size f)
theorem pyIter_map' {prog : Program} {w : World} {A : Around} {E : Value → Shared → Prop} {s : Shared} {m T : Addr} {f : Value} {Q : Value → Shared → Prop} (hm : IsMap s.heap m T f) (h : Q (.ref m) s) : wpAny (model prog w) A (pyIter (.ref m)) Q E s := by
  have hT : s.TypeIs (.ref m) "map" := ⟨_, hm, rfl⟩
  refine wpAny_pyIter_slot hT slot_map_iter (wpAny_call_entry slot_map_iter hT entry_map_iter ?_ (args_map_iter _))
  show wpAny _ _ (ret (.ref m)) _ _ s
  exact wpAny_pure ⟨_, rfl, "map", _, hT, slot_map_next.lookup, h⟩
theorem meets_map_map (f g : Value) (m T : Addr) :
    Meets (Builtin.«map.__new__» ⟨[.type "map", f, .ref m], []⟩) (fun _ R s => IsMap s.heap m T g ∧ R (.ok (.ret (.ref (s.heap.push (oneO (.ref m))).objs.size))) { s with heap := mapH2 s.heap m f }) :=
  .of_wp fun prog w A R s h => by
    obtain ⟨hp, gg, d, tk, os⟩ := s; obtain ⟨hl1, h⟩ := h
    have hsub := sub_map
    have hL1 : IsMap (Shared.heap ⟨hp, gg, d, tk, os⟩) m T g := hl1
    wp_walk using pyIter_map' hL1
    exact ⟨_, rfl, h⟩
section
variable {w : World} {mg mb : Str → Option Value} {s₀ s s' : Shared} {L : Nat} {cs : Scope} {locs : List Str} {globs : List (Str × Value)} {vals vals' : List (Option Value)} {news news' : List (Nat × Knd)}
variable {A : Around} {E : Value → Shared → Prop} {Q : Value → Shared → Prop} {l : Nat} {vs : List Value}
theorem mapL {f : Value} (S : St w mg mb s₀ L cs locs globs vals news s) (hl : Is s.heap l (.lst vs))
    (h : ∀ (i T m : Nat) s', St w mg mb s₀ L cs locs globs vals ((m, .obj (mapO T f)) :: (T, .obj (oneO (.ref i))) :: (i, .it l 0) :: news) s' → L < i → i < T → T < m → LtAll i news → Q (.ref m) s') :
    wpAny (model PR w) A (call (.type "map") [f, .ref l]) Q E s := by
  refine callType_new called_map (by decide) (typeCall_map _ _) (newCall_map _ _) (fun obj => F.args_object_init_3 obj _ _) entry_map_new (meets_map_list f l vs.toArray) ⟨hl.lst, ?_⟩
  have S1 := S.push (itO l) (kd := .it l 0) ⟨rfl, rfl⟩
  have S2 := S1.push (oneO (.ref s.heap.objs.size)) (kd := .obj (oneO (.ref s.heap.objs.size))) rfl
  have S3 := S2.push (mapO (s.heap.push (itO l)).objs.size f) (kd := .obj (mapO (s.heap.push (itO l)).objs.size f)) rfl
  have z1 : (s.heap.push (itO l)).objs.size = s.heap.objs.size + 1 := Heap.size_push ..
  have z2 : ((s.heap.push (itO l)).push (oneO (.ref s.heap.objs.size))).objs.size = s.heap.objs.size + 2 := by rw [Heap.size_push, z1]
  refine ⟨⟨_, (S3.get (.head _)).obj, rfl⟩, h s.heap.objs.size (s.heap.push (itO l)).objs.size _ _ S3 (S.freshOf S.newAddr).1 ?_ ?_ (S.freshOf S.newAddr).2⟩
  · rw [z1]; exact Nat.lt_succ_self _
  · show (s.heap.push (itO l)).objs.size < ((s.heap.push (itO l)).push (oneO (.ref s.heap.objs.size))).objs.size
    rw [z1, z2]; exact Nat.lt_succ_self _
theorem mapM {f g : Value} {m T : Nat} (S : St w mg mb s₀ L cs locs globs vals news s) (hl : Is s.heap m (.obj (mapO T g)))
    (h : ∀ (T' m' : Nat) s', St w mg mb s₀ L cs locs globs vals ((m', .obj (mapO T' f)) :: (T', .obj (oneO (.ref m))) :: news) s' → L < T' → T' < m' → LtAll T' news → Q (.ref m') s') :
    wpAny (model PR w) A (call (.type "map") [f, .ref m]) Q E s := by
  refine callType_new called_map (by decide) (typeCall_map _ _) (newCall_map _ _) (fun obj => F.args_object_init_3 obj _ _) entry_map_new (meets_map_map f g m T) ⟨hl.obj, ?_⟩
  have S2 := S.push (oneO (.ref m)) (kd := .obj (oneO (.ref m))) rfl
  have S3 := S2.push (mapO s.heap.objs.size f) (kd := .obj (mapO s.heap.objs.size f)) rfl
  have z1 : (s.heap.push (oneO (.ref m))).objs.size = s.heap.objs.size + 1 := Heap.size_push ..
  refine ⟨⟨_, (S3.get (.head _)).obj, rfl⟩, h s.heap.objs.size _ _ S3 (S.freshOf S.newAddr).1 ?_ (S.freshOf S.newAddr).2⟩
  show s.heap.objs.size < (s.heap.push (oneO (.ref m))).objs.size
  rw [z1]; exact Nat.lt_succ_self _
end
/- int() of one text -/
theorem new1 {M : Model} {A : Around} {E : Value → Shared → Prop} {s : Shared} {x : Str} {u : Tok} {n : Int} {R : Fin → Shared → Prop} (hd : s.heap.NoDigits) (hx : x.length ≤ sizeLine) (hn : PySem.intText? x = some n) (h : R (.done (.ret (.int n s.toks))) { s with toks := s.toks + 1 }) :
    wpAny M A (Builtin.«int.__new__» ⟨[.type "int", .str x u], []⟩) R E s := by
  obtain ⟨hp, g, d, tk, os⟩ := s
  have f1 := F.conv_sub_int
  have f2 := F.madeHere_int
  have f3 := KIN.str_int
  have f4 := KIN.str_idx
  have f5 := KIN.str_trunc
  have f6 : typeOf (.str x u) = pure (.type "str") := rfl
  repeat (any_goals (first
      | assumption
      | ((with_reducible show wpAny _ _ ((int_private% "intFromText") _ _ _) _ _ _); refine text_wp hd hx hn ?_)
      | wp_step))
  all_goals (first | exact h | skip)
theorem int1_wp {w : World} {A : Around} {E : Value → Shared → Prop} {s : Shared} {x : Str} {u : Tok} {n : Int} {Q : Value → Shared → Prop} (hd : s.heap.NoDigits) (hx : x.length ≤ sizeLine) (hn : PySem.intText? x = some n) (h : Q (.int n s.toks) { s with toks := s.toks + 1 }) :
    wpAny (model PR w) A (call (.type "int") [.str x u]) Q E s :=
  call_int_1 (S := fun _ R s => s.heap.NoDigits ∧ R (.ok (.ret (.int n s.toks))) { s with toks := s.toks + 1 })
    (Meets.of_wp fun _ _ _ _ _ hs => new1 hs.1 hx hn ⟨_, rfl, hs.2⟩) ⟨hd, rfl, h⟩
end
section
open PySem PySem.W PySem.Calls PySem.NumText PyProof.Rows
open Sem (wp)
open AutoSeq1 (wpAny_loadPart')
set_option maxRecDepth 100000
section
variable {w : World} {A : Around} {E : Value → Shared → Prop} {s : Shared}
theorem map_next {m T : Addr} {f it : Value} {Q : Value → Shared → Prop} (hm : IsMap s.heap m T f) (hT : IsOne s.heap T it)
    (h : wpAny (model PR w) A (Builtin.SmallTypes.nextOf it) (fun v s₁ => IsMap s₁.heap m T f ∧ wpAny (model PR w) A (call f [v]) Q E s₁) E s) :
    wpAny (model PR w) A (Builtin.«map.__next__» ⟨[.ref m], []⟩) (fun fin s' => ∃ v, fin = .done (.ret v) ∧ Q v s') E s := by
  show wpAny _ _ (field (.ref m) 0 >>= _) _ _ _
  refine wpAny_bind (wpAny_field hm rfl (x := .ref T) rfl ?_)
  refine wpAny_bind (wpAny_seqItems hT rfl ?_)
  dsimp only
  simp only [List.forIn_toArray, List.forIn_cons, List.forIn_nil]
  refine wpAny_bind (wpAny_bind (wpAny_bind (wpAny_holding (wpAny_mono h (fun v s₁ h₁ => ?_) fun _ _ x => x))))
  obtain ⟨hm1, h₁⟩ := h₁
  refine wpAny_pure (wpAny_pure ?_)
  refine wpAny_bind (wpAny_field hm1 rfl (x := f) rfl ?_)
  refine wpAny_bind (wpAny_holding (wpAny_mono h₁ (fun r s₂ h₂ => ?_) fun _ _ x => x))
  exact wpAny_bind (wpAny_letGo (wpAny_pure ⟨r, rfl, h₂⟩))
theorem nextOf_map {m T : Addr} {f it : Value} {Q : Value → Shared → Prop} (hm : IsMap s.heap m T f) (hT : IsOne s.heap T it)
    (h : wpAny (model PR w) A.in1 (Builtin.SmallTypes.nextOf it) (fun v s₁ => IsMap s₁.heap m T f ∧ wpAny (model PR w) A.in1 (call f [v]) Q E s₁) E s) :
    wpAny (model PR w) A (Builtin.SmallTypes.nextOf (.ref m)) Q E s := by
  have hTy : s.TypeIs (.ref m) "map" := ⟨_, hm, rfl⟩
  unfold Builtin.SmallTypes.nextOf
  exact wpAny_bind (wpAny_callSpecial?_slot (name := Str.ofString "__next__") hTy slot_map_next (wpAny_call_entry slot_map_next hTy entry_map_next (map_next hm hT (wpAny_mono h (fun v s₁ h₁ => ⟨h₁.1, wpAny_mono h₁.2 (fun r s₂ h₂ => wpAny_pure h₂) fun _ _ x => x⟩) fun _ _ x => x)) (args_map_next _)))
theorem pyNext_map {m T : Addr} {f it : Value} {Q : Option Value → Shared → Prop} (hm : IsMap s.heap m T f) (hT : IsOne s.heap T it)
    (h : wpAny (model PR w) A.in1 (Builtin.SmallTypes.nextOf it) (fun v s₁ => IsMap s₁.heap m T f ∧ wpAny (model PR w) A.in1 (call f [v]) (fun r s₂ => Q (some r) s₂) (fun _ _ => False) s₁)
      (fun e s₁ => ∃ a, e = .ref a ∧ (∃ o, s₁.heap.get? a = some o ∧ o.cls = .type "StopIteration") ∧ Q none s₁) s) :
    wpAny (model PR w) A (pyNext (.ref m)) Q E s := by
  have hTy : s.TypeIs (.ref m) "map" := ⟨_, hm, rfl⟩
  unfold pyNext
  refine wpAny_bind (wpAny_attempt (wpAny_callSpecial?_slot (name := Str.ofString "__next__") hTy slot_map_next (wpAny_call_entry slot_map_next hTy entry_map_next (map_next hm hT (wpAny_mono h (fun v s₁ h₁ => ⟨h₁.1, wpAny_mono h₁.2 (fun r s₂ h₂ => wpAny_pure h₂) fun _ _ x => x.elim⟩) (fun e s₁ h₁ => ?_))) (args_map_next _))))
  obtain ⟨a, rfl, ⟨o, ho, hc⟩, hQ⟩ := h₁
  refine wpAny_bind (wpAny_isInstance (T := "StopIteration") (b := true) ⟨o, ho, hc⟩ isSubtype_stop ?_)
  exact wpAny_pure hQ
structure Maps (h : Heap) (m2 T2 m1 T1 i l : Addr) (vs : List Value) (k : Nat) : Prop where
  a : IsMap h m2 T2 (.type "str")
  b : IsOne h T2 (.ref m1)
  c : IsMap h m1 T1 (.type "int")
  d : IsOne h T1 (.ref i)
  e : h.IsListIter i l k
  f : h.IsList l vs.toArray
  g : h.NoDigits
theorem Maps.ne {h : Heap} {m2 T2 m1 T1 i l : Addr} {vs : List Value} {k : Nat} (M : Maps h m2 T2 m1 T1 i l vs k) : m2 ≠ i ∧ T2 ≠ i ∧ m1 ≠ i ∧ T1 ≠ i ∧ l ≠ i ∧ cStatics ≠ i := by
  obtain ⟨o, e1, e2, e3⟩ := M.e
  refine ⟨?_, ?_, ?_, ?_, ?_, ?_⟩
  · rintro rfl; rw [M.a] at e1; cases e1; simp at e2
  · rintro rfl; rw [M.b] at e1; cases e1; simp at e2
  · rintro rfl; rw [M.c] at e1; cases e1; simp at e2
  · rintro rfl; rw [M.d] at e1; cases e1; simp at e2
  · obtain ⟨ol, g1, g2, _⟩ := M.f
    rintro rfl; rw [g1] at e1; cases e1; rw [g2] at e2; simp at e2
  · obtain ⟨mc, ⟨oc, es, ep, g1, g2, _⟩, _⟩ := M.g
    intro q; rw [q, e1] at g1; cases g1; rw [e3] at g2; cases g2
theorem NoDigits.at' {h h' : Heap} (x : h.NoDigits) (k : ∀ o, h.get? cStatics = some o → h'.get? cStatics = some o) : h'.NoDigits := let ⟨mc, a, r⟩ := x; ⟨mc, a.at' k, r⟩
theorem Maps.to {h h' : Heap} {m2 T2 m1 T1 i l : Addr} {vs : List Value} {k k' : Nat} (M : Maps h m2 T2 m1 T1 i l vs k) (hi : h'.IsListIter i l k') (hk : Heap.SameBut i h h') : Maps h' m2 T2 m1 T1 i l vs k' := by
  obtain ⟨n1, n2, n3, n4, n5, n6⟩ := M.ne
  exact ⟨(hk.2 _ n1).trans M.a, (hk.2 _ n2).trans M.b, (hk.2 _ n3).trans M.c, (hk.2 _ n4).trans M.d, hi, M.f.at fun o e => (hk.2 _ n5).trans e, NoDigits.at' M.g fun o e => (hk.2 _ n6).trans e⟩
theorem maps_item {m2 T2 m1 T1 i l : Addr} {vs : List Value} {k : Nat} {x : Str} {u : Tok} {n : Int} {Q : Option Value → Shared → Prop} (hh : A.handled = none) (M : Maps s.heap m2 T2 m1 T1 i l vs k) (hx : vs[k]? = some (.str x u)) (hlen : x.length ≤ sizeLine) (hn : PySem.intText? x = some n) (hb : n.natAbs < 10 ^ 4300)
    (hQ : ∀ h' tk t, Maps h' m2 T2 m1 T1 i l vs (k + 1) → Heap.SameBut i s.heap h' → Q (some (.str (Str.ofString (toString n)) t)) { s with heap := h', toks := tk }) : wpAny (model PR w) A (pyNext (.ref m2)) Q E s := by
  refine pyNext_map M.a M.b (nextOf_map M.c M.d (wpAny_nextOf_list_item M.e M.f (by simpa using hx) fun h' hi hk => ?_))
  have M' := M.to hi hk
  exact ⟨M'.c, int1_wp M'.g hlen hn ⟨M'.a, str_of_int_or hh M'.g (fun _ => hQ _ _ _ M' hk) fun h => absurd hb (Nat.not_lt.mpr h)⟩⟩
theorem maps_end {m2 T2 m1 T1 i l : Addr} {vs : List Value} {Q : Option Value → Shared → Prop} (hh : A.handled = none) (M : Maps s.heap m2 T2 m1 T1 i l vs vs.length)
    (hQ : ∀ h', Heap.ExtBut i s.heap h' → Q none { s with heap := h' }) : wpAny (model PR w) A (pyNext (.ref m2)) Q E s :=
  pyNext_map M.a M.b (nextOf_map M.c M.d (wpAny_nextOf_list_end hh M.e M.f (by simp) fun h' e hk he => ⟨e, rfl, he, hQ h' hk⟩))
/- what int() and str() make of the texts -/
inductive Nums : List Value → List Int → Prop
  | nil : Nums [] []
  | cons {x u n vs ns} : PySem.intText? x = some n → x.length ≤ sizeLine → n.natAbs < 10 ^ 4300 → Nums vs ns → Nums (.str x u :: vs) (n :: ns)
theorem Nums.len {vs : List Value} {ns : List Int} (h : Nums vs ns) : vs.length = ns.length := by
  induction h with
  | nil => rfl
  | cons _ _ _ _ ih => simp [ih]
theorem Nums.get {vs : List Value} {ns : List Int} (h : Nums vs ns) : ∀ k, k < vs.length → ∃ x u n, vs[k]? = some (.str x u) ∧ ns[k]? = some n ∧ PySem.intText? x = some n ∧ x.length ≤ sizeLine ∧ n.natAbs < 10 ^ 4300 := by
  induction h with
  | nil => intro k hk; simp at hk
  | @cons x u n vs ns h1 h2 h3 _ ih =>
    intro k hk
    cases k with
    | zero => exact ⟨x, u, n, rfl, rfl, h1, h2, h3⟩
    | succ k => simpa using ih k (by simpa using hk)
theorem walks_maps (hh : A.handled = none) {m2 T2 m1 T1 i l : Addr} {vs : List Value} {ns : List Int} (hN : Nums vs ns) :
    Walks PR w A m2 [m2, T2, m1, T1, i, l, cStatics] [i] vs.length (fun k v => ∃ n t, ns[k]? = some n ∧ v = .str (Str.ofString (toString n)) t) (fun k h => Maps h m2 T2 m1 T1 i l vs k) where
  sub := fun b hb => by simp at hb; simp [hb]
  frame := fun k h h' M hk => ⟨hk _ (by simp) _ M.a, hk _ (by simp) _ M.b, hk _ (by simp) _ M.c, hk _ (by simp) _ M.d, by obtain ⟨o, e, r⟩ := M.e; exact ⟨o, hk _ (by simp) _ e, r⟩, M.f.at fun o e => hk _ (by simp) _ e, NoDigits.at' M.g fun o e => hk _ (by simp) _ e⟩
  item := fun k s Q E hk M hQ => by
    obtain ⟨x, u, n, g1, g2, g3, g4, g5⟩ := hN.get k hk
    exact maps_item hh M g1 g4 g3 g5 fun h' tk t M' hs => hQ _ h' tk ⟨n, t, g2, rfl⟩ M' fun b o hb e => (hs.2 b (by simpa using hb)).trans e
  done := fun s Q E M hQ => maps_end hh M fun h' hs => hQ h' s.toks fun b o hb e => hs b o (by simpa using hb) e
  self := fun k s Q E M hQ => wpAny_pyIter_map M.a hQ
end
end
section
open PySem PySem.W PySem.Calls PySem.NumText PyProof.Rows
open Sem (wp)
set_option maxRecDepth 100000
section
variable {w : World} {A : Around} {s : Shared} {E : Value → Shared → Prop}
variable {I : Addr} {fp wr : List Addr} {G : Array GenState → Array GenState → Prop} {n : Nat} {P : Nat → Value → Prop} {Z : Nat → Shared → Prop}
/- list() of a map object -/
theorem list_map {Q : Value → Shared → Prop} (W : WalksS PR w A.in1.in1 I fp wr G n P Z) (hT : ∀ i s, Z i s → s.TypeIs (.ref I) "map") (hst : Z 0 s) (hfp : ∀ b ∈ fp, b < s.heap.objs.size) (hI : I ∈ fp) (hn : n ≤ sizeLine)
    (hQ : ∀ s' acc' c', Moved (s.heap.objs.size :: wr) G { s with heap := s.heap.push { cls := .type "list", data := .seq #[] } } s' →
      s'.heap.get? s.heap.objs.size = some { cls := .type "list", dict := none, data := .seq acc' c', slots := #[] } → ItemsOf P acc' n → Q (.ref s.heap.objs.size) s') :
    wpAny (model PR w) A (call (.type "list") [.ref I]) Q E s := by
  have hSf : s.heap.objs.size ∉ fp := fun hm => Nat.lt_irrefl _ (hfp _ hm)
  have hSI : s.heap.objs.size ≠ I := fun e => hSf (e ▸ hI)
  refine callType_codes (Q₁ := fun obj s₁ => obj = .ref s.heap.objs.size ∧ s₁ = { s with heap := s.heap.push { cls := .type "list", data := .seq #[] } }) F.called_list (F.typeCall_list_1 _) F.entry_list_init
    (code_list_new _ ⟨rfl, rfl⟩) fun obj s₁ h₁ => ?_
  obtain ⟨rfl, rfl⟩ := h₁
  have hS : (s.heap.push { cls := .type "list", data := .seq #[] }).get? s.heap.objs.size = some { cls := .type "list", data := .seq #[] } := Heap.get?_push_size _ rfl
  refine ⟨⟨_, hS, rfl⟩, F.args_list_init_2 _ _, ?_⟩
  have hst1 := W.frame 0 s (s.heap.push { cls := .type "list", data := .seq #[] }) s.toks hst (Nat.le_refl _) fun b _ o e => Heap.get?_push_of_some _ e
  generalize s.heap.objs.size = D at *
  generalize hs1 : ({ s with heap := s.heap.push { cls := .type "list", data := .seq #[] } } : Shared) = s1 at *
  have hS : s1.heap.get? D = some { cls := .type "list", data := .seq #[] } := by rw [← hs1]; exact hS
  show wpAny _ A.in1.in1 (do let old ← Builtin.List.listItems (.ref D); Builtin.List.listUpdate (.ref D) (fun _ => #[]); letGo old.toList.reverse; Builtin.List.listExtendWith (.ref D) (.ref I) .none) _ _ s1
  refine wpAny_bind ?_
  unfold Builtin.List.listItems
  refine wpAny_bind (wpAny_seqItems hS rfl (wpAny_pure ?_))
  show wpAny _ A.in1.in1 (updateSeq D (fun _ => #[]) >>= fun _ => letGo (#[] : Array Value).toList.reverse >>= fun _ => Builtin.List.listExtendWith (.ref D) (.ref I) .none) _ _ s1
  refine wpAny_bind (wpAny_updateSeq hS rfl ?_)
  have hS2 := Heap.get?_update_self (Obj.mapSeq (fun _ => (#[] : Array Value))) hS rfl
  refine wpAny_bind (wpAny_letGo ?_)
  have k2 : ∀ b o, b ≠ D → s1.heap.get? b = some o → (s1.heap.update D (Obj.mapSeq (fun _ => (#[] : Array Value)))).get? b = some o := fun b o hb e => (Heap.get?_update_other _ _ (Ne.symm hb)).trans e
  have hst2 := W.frame 0 s1 _ s1.toks hst1 (Nat.le_refl _) fun b hb o e => k2 b o (fun q => hSf (q ▸ hb)) e
  unfold Builtin.List.listExtendWith
  refine wpAny_bind (wpAny_typeOf (hT 0 _ hst2) ?_)
  have h1 : Builtin.List.listSameRef (.ref D) (.ref I) = false := by simp [Builtin.List.listSameRef, hSI]
  have h2 : (Value.type "map" == Value.type "list") = false := by decide
  have h3 : (Value.type "map" == Value.type "tuple") = false := by decide
  simp only [h1, h2, h3, Bool.or_false, Bool.false_eq_true, if_false]
  refine wpAny_bind (W.self 0 _ _ _ hst2 ?_)
  refine wpAny_bind (wpAny_holding ?_)
  unfold Builtin.List.listLengthHint
  refine wpAny_bind (wpAny_specialOf (hT 0 _ hst2) map_no_len ?_)
  show wpAny _ A.in1.in1 (specialOf (Value.ref I) (Str.ofString "__length_hint__") >>= _) _ _ _
  refine wpAny_bind (wpAny_specialOf (hT 0 _ hst2) map_no_hint ?_)
  refine wpAny_pure ?_
  show wpAny _ A.in1.in1 (rule "list.extend.makes-room" >>= fun _ => Builtin.List.listTouch (.ref D) >>= fun _ =>
    again (.builtin "list.extend.loop" ⟨[.ref D, .ref I, .none], []⟩)) _ _ _
  refine wpAny_bind (wpAny_rule ?_)
  refine wpAny_bind ?_
  show wpAny _ A.in1.in1 (updateSeq D (·.push .none) >>= fun _ => updateSeq D (·.pop)) _ _ _
  refine wpAny_bind (wpAny_updateSeq hS2 rfl ?_)
  have hS3 := Heap.get?_update_self (Obj.mapSeq (·.push Value.none)) hS2 rfl
  refine wpAny_updateSeq (hz := by seq_fits) hS3 rfl ?_
  have hS4 := Heap.get?_update_self (Obj.mapSeq (·.pop)) hS3 rfl
  have k3 : ∀ b o, b ≠ D → s1.heap.get? b = some o → (((s1.heap.update D (Obj.mapSeq (fun _ => (#[] : Array Value)))).update D (Obj.mapSeq (·.push Value.none))).update D (Obj.mapSeq (·.pop))).get? b = some o :=
    fun b o hb e => (Heap.get?_update_other _ _ (Ne.symm hb)).trans ((Heap.get?_update_other _ _ (Ne.symm hb)).trans (k2 b o hb e))
  refine wpAny_pure ⟨plainId_quiet F.plain_extend_loop _, codeAny_extend_loopS W hn _ hSf _ n 0 _ _ _ rfl (Nat.zero_le _)
    (W.frame 0 s1 _ s1.toks hst1 (Nat.le_refl _) fun b hb o e => k3 b o (fun q => hSf (q ▸ hb)) e) hS4 (ItemsOf.nil P) fun s' acc' c' hm hS' hacc => ⟨rfl, ?_⟩⟩
  exact hQ s' acc' c' (Moved.trans W.gtrans ((Moved.refl W.grefl).then_heap (Nat.le_refl _) fun b o hb e => k3 b o (fun q => hb (q ▸ List.mem_cons_self)) e) hm) hS' hacc
end
end
section
open PySem PySem.W PySem.Calls PySem.NumText PyProof.Rows
open Sem (wp)
set_option maxRecDepth 100000
theorem strs_of_items {ns : List Int} {xs : List Value} (hl : xs.length = ns.length) (h : ∀ (k : Nat) (v : Value), xs[k]? = some v → ∃ (n : Int) (t : Tok), ns[k]? = some n ∧ v = Value.str (Str.ofString (toString n)) t) : StrsAre xs (ns.map fun n => Str.ofString (toString n)) := by
  induction xs generalizing ns with
  | nil =>
    cases ns with
    | nil => exact .nil
    | cons _ _ => simp at hl
  | cons x xs ih =>
    cases ns with
    | nil => simp at hl
    | cons n ns =>
      obtain ⟨n', t, e1, e2⟩ := h 0 x rfl
      cases e1; subst e2
      exact .cons _ t (ih (by simpa using hl) fun k v hv => by simpa using h (k + 1) v (by simpa using hv))
section
variable {w : World} {mg mb : Str → Option Value} {s₀ s : Shared} {L : Nat} {cs : Scope} {locs : List Str} {globs : List (Str × Value)} {vals : List (Option Value)} {news : List (Nat × Knd)}
variable {A : Around} {E : Value → Shared → Prop} {Q : Value → Shared → Prop}
theorem listMaps {m2 T2 m1 T1 i l : Nat} {vs : List Value} {ns : List Int} (S : St w mg mb s₀ L cs locs globs vals ((i, .it l 0) :: news) s) (hA : A.handled = none) (ha : (m2, .obj (mapO T2 (.type "str"))) ∈ news) (hb : (T2, .obj (oneO (.ref m1))) ∈ news)
    (hc : (m1, .obj (mapO T1 (.type "int"))) ∈ news) (hd : (T1, .obj (oneO (.ref i))) ∈ news) (hf : (l, .lst vs) ∈ news) (hne : ∀ p ∈ news, p.1 ≠ i) (hN : Nums vs ns) (hz : vs.length ≤ 1000)
    (h : ∀ (D : Nat) ws s', St w mg mb s₀ L cs locs globs vals ((D, .lst ws) :: news) s' → L < D → LtAll D news → StrsAre ws (ns.map fun n => Str.ofString (toString n)) → Q (.ref D) s') :
    wpAny (model PR w) A (call (.type "list") [.ref m2]) Q E s := by
  have M : Maps s.heap m2 T2 m1 T1 i l vs 0 := ⟨(S.get (.tail _ ha)).obj, (S.get (.tail _ hb)).obj, (S.get (.tail _ hc)).obj, (S.get (.tail _ hd)).obj, by obtain ⟨o, e, r⟩ := S.get (a := i) (k := .it l 0) (.head _); exact ⟨o, e, r⟩, (S.get (k := .lst vs) (.tail _ hf)).lst, S.cur.nodigits⟩
  have W := walks_maps (w := w) (A := A.in1.in1) hA (m2 := m2) (T2 := T2) (m1 := m1) (T1 := T1) (i := i) (l := l) hN
  refine list_map W.toS (fun k s M => ⟨_, (show Maps s.heap m2 T2 m1 T1 i l vs k from M).a, rfl⟩) M (fun b hb => ?_) (by simp) (by rw [sizeLine_eq]; omega) fun s' acc' c' hm hS' hacc => ?_
  · simp only [List.mem_cons, List.not_mem_nil, or_false] at hb
    rcases hb with rfl | rfl | rfl | rfl | rfl | rfl | rfl
    · exact Heap.lt_size M.a
    · exact Heap.lt_size M.b
    · exact Heap.lt_size M.c
    · exact Heap.lt_size M.d
    · obtain ⟨_, e, _⟩ := M.e; exact Heap.lt_size e
    · obtain ⟨_, e, _⟩ := M.f; exact Heap.lt_size e
    · obtain ⟨_, ⟨_, _, _, e, _⟩, _⟩ := M.g; exact Heap.lt_size e
  rw [Moved.eq_with hm] at hS' ⊢
  have S1 := S.ext (h' := s'.heap) (fun b o hbi e => hm.heap b o (fun q => by
    rcases List.mem_cons.mp q with q | q
    · exact absurd (Heap.lt_size e) (by rw [q]; exact Nat.lt_irrefl _)
    · exact hbi (List.mem_singleton.mp q)) (Heap.get?_push_of_some _ e)) hne trivial
  have S2 := S1.tok s'.toks
  refine h s.heap.objs.size acc'.toList _ (S2.add ⟨_, hS', c', by simp⟩ S.ltL) S.ltL (LtAll.of fun p hp => S.lt (k := p.2) (.tail _ hp)) ?_
  exact strs_of_items (by rw [Array.length_toList, hacc.1, hN.len]) fun k v hv => hacc.2 k v (by simpa using hv)
end
/- a refused int() within map within map within list -/
section
variable {w : World} {A : Around} {E : Value → Shared → Prop} {s : Shared}
theorem S_callB {T : String} {name : Str} {id : String} {b : Builtin} {self : Value} {rest : List Value} {Q : Value → Shared → Prop} (h : Slot T name id) (hT : s.TypeIs self T) (hb : entryFor table id = some b)
    (hc : wpS (model PR w) A.in1 (b ⟨self :: rest, []⟩) (fun _ _ => False) E s) (hk : checkBuiltinCall id ⟨self :: rest, []⟩ = pure ()) : wpS (model PR w) A (call (.builtin id) (self :: rest)) Q E s :=
  S_call (codeS_callB h.plain hb hk (S_mono hc (fun _ _ x => x.elim) fun _ _ x => x))
end
end
section
open PySem PySem.W PySem.Calls PySem.NumText PyProof.Rows
open Sem (wp)
set_option maxRecDepth 100000
section
variable {w : World} {A : Around} {E : Value → Shared → Prop} {s : Shared}
theorem S_slot {T : String} {name : Str} {id : String} {b : Builtin} {self : Value} {rest : List Value} {Q : Value → Shared → Prop} (h : Slot T name id) (hT : s.TypeIs self T) (hb : entryFor table id = some b) (ha : argsOk id ⟨self :: rest, []⟩)
    (hc : wpS (model PR w) A.in1 (b ⟨self :: rest, []⟩) (fun fin s' => match fin with | .done _ => False | .again c' => c'.quiet = true ∧ codeS (model PR w) A c' (fun r s' => match r with | .ok _ => False | .error e => E e s') s') E s) : wpS (model PR w) A (call (.builtin id) (self :: rest)) Q E s := by
  refine S_call (codeS_tree ?_)
  show wpS _ A.in1 (do checkBuiltinCall id ⟨self :: rest, []⟩; again (.builtin id ⟨self :: rest, []⟩)) _ _ s
  refine S_then (h.check _ _ _ _ _ _ _ _ hT ha (S_pure ⟨plainId_quiet h.plain _, codeS_builtin hb ?_⟩))
  rw [Around.under_plainId h.plain _]
  refine S_mono hc (fun fin s' x => ?_) fun _ _ x => x
  cases fin with
  | done f => exact x.elim
  | again c' => exact ⟨x.1, codeS_mono x.2 fun r s' y => by cases r with | ok f => exact y.elim | error e => exact y⟩
theorem S_special {T : String} {name : Str} {id : String} {self : Value} {args : List Value} {Q : Option Value → Shared → Prop} (hT : s.TypeIs self T) (h : Slot T name id)
    (hc : wpS (model PR w) A (call (.builtin id) (self :: args)) (fun _ _ => False) E s) : wpS (model PR w) A (callSpecial? self name args) Q E s := by
  simp only [callSpecial?]
  refine S_then (wpAny_specialOf hT h.lookup ?_)
  simp only [h.bind]
  exact S_holding (S_then (wpAny_pure (S_bind (S_mono hc (fun v s' h' => h'.elim) fun _ _ h' => h'))))
theorem S_map_next {m T : Addr} {f it : Value} {Q : Fin → Shared → Prop} (hm : IsMap s.heap m T f) (hT : IsOne s.heap T it)
    (h : wpS (model PR w) A (Builtin.SmallTypes.nextOf it) (fun v s₁ => IsMap s₁.heap m T f ∧ wpS (model PR w) A (call f [v]) (fun _ _ => False) E s₁) E s) :
    wpS (model PR w) A (Builtin.«map.__next__» ⟨[.ref m], []⟩) Q E s := by
  show wpS _ _ (field (.ref m) 0 >>= _) _ _ _
  refine S_then (wpAny_field hm rfl (x := .ref T) rfl ?_)
  refine S_then (wpAny_seqItems hT rfl ?_)
  dsimp only
  simp only [List.forIn_toArray, List.forIn_cons, List.forIn_nil]
  refine S_bind (S_bind (S_bind (S_holding (S_mono h (fun v s₁ h₁ => ?_) fun _ _ x => x))))
  obtain ⟨hm1, h₁⟩ := h₁
  refine S_pure (S_pure ?_)
  refine S_then (wpAny_field hm1 rfl (x := f) rfl ?_)
  exact S_bind (S_holding (S_mono h₁ (fun r s₂ h₂ => h₂.elim) fun _ _ x => x))
theorem S_nextOf_map {m T : Addr} {f it : Value} {Q : Value → Shared → Prop} (hm : IsMap s.heap m T f) (hT : IsOne s.heap T it)
    (h : wpS (model PR w) A.in1 (Builtin.SmallTypes.nextOf it) (fun v s₁ => IsMap s₁.heap m T f ∧ wpS (model PR w) A.in1 (call f [v]) (fun _ _ => False) E s₁) E s) :
    wpS (model PR w) A (Builtin.SmallTypes.nextOf (.ref m)) Q E s := by
  have hTy : s.TypeIs (.ref m) "map" := ⟨_, hm, rfl⟩
  unfold Builtin.SmallTypes.nextOf
  exact S_bind (S_special (name := Str.ofString "__next__") hTy slot_map_next (S_slot slot_map_next hTy entry_map_next (args_map_next _) (S_map_next hm hT h)))
/- a class of exceptions -/
noncomputable def Exc (X : String) (e : Value) (s : Shared) : Prop := ∃ a, e = .ref a ∧ ∃ o, s.heap.get? a = some o ∧ o.cls = .type X
theorem S_pyNext_map {m T : Addr} {f it : Value} {Q : Option Value → Shared → Prop} (hm : IsMap s.heap m T f) (hT : IsOne s.heap T it)
    (h : wpS (model PR w) A.in1 (Builtin.SmallTypes.nextOf it) (fun v s₁ => IsMap s₁.heap m T f ∧ wpS (model PR w) A.in1 (call f [v]) (fun _ _ => False) (fun e s₁ => Exc "ValueError" e s₁ ∧ E e s₁) s₁) (fun e s₁ => Exc "ValueError" e s₁ ∧ E e s₁) s) :
    wpS (model PR w) A (pyNext (.ref m)) Q E s := by
  have hTy : s.TypeIs (.ref m) "map" := ⟨_, hm, rfl⟩
  unfold pyNext
  refine S_bind (S_attempt (S_mono (S_special (Q := fun _ _ => False) (name := Str.ofString "__next__") hTy slot_map_next (S_slot slot_map_next hTy entry_map_next (args_map_next _) (S_map_next hm hT h))) (fun _ _ x => x.elim) fun e s₁ h₁ => ?_))
  obtain ⟨⟨a, rfl, o, ho, hc⟩, hE⟩ := h₁
  refine S_then (wpAny_isInstance (T := "ValueError") (b := false) ⟨o, ho, hc⟩ (by rw [isSubtype_type]; kernel_rfl) ?_)
  exact S_of (wpAny_throw hE)
theorem S_fromObject {x : Str} {u : Tok} {Q : Value → Shared → Prop} (hA : A.handled = none) (hx : x.length ≤ 100) (hrx : (reprText x).length ≤ 1000) (hz : ((numSeenOf x).length == (numTextOf x).length) = true) (hn : PySem.intText? x = none)
    (h : ∀ h' tk e, Heap.NewExc s.heap h' e "ValueError" → E (.ref e) { s with heap := h', toks := tk }) : wpS (model PR w) A ((int_private% "intFromObject") (.str x u)) Q E s := by
  have hT : s.TypeIs (.str x u) "str" := typeIs_str s x u
  show wpS _ _ (callSpecial? (.str x u) (Str.ofString "__int__") >>= _) _ _ _
  refine S_then (wpAny_callSpecial?_none hT KIN.str_int ?_)
  dsimp only
  refine S_then (wpAny_specialOf hT KIN.str_idx ?_)
  simp only [Option.isSome_none, Bool.false_eq_true, if_false]
  refine S_then (wpAny_specialOf hT KIN.str_trunc ?_)
  dsimp only
  refine S_then (wpAny_of_eq (a := some (numTextOf x)) rfl ?_)
  exact S_refuse hA hx hrx hz hn h
theorem refuse1 {x : Str} {u : Tok} {Q : Value → Shared → Prop} (hA : A.handled = none) (hx : x.length ≤ 100) (hrx : (reprText x).length ≤ 1000) (hz : ((numSeenOf x).length == (numTextOf x).length) = true) (hn : PySem.intText? x = none)
    (h : ∀ h' tk e, Heap.NewExc s.heap h' e "ValueError" → E (.ref e) { s with heap := h', toks := tk }) : wpS (model PR w) A (call (.type "int") [.str x u]) Q E s := by
  refine S_typeR F.called_int (F.typeCall_int_1 _) (S_call (codeS_callB F.called_int.plain F.entry_int_new (F.newCall_int_1 _) ?_))
  unfold Builtin.«int.__new__»
  dsimp only
  refine S_then (wpAny_of_eq (a := true) rfl ?_)
  rw [if_neg (by decide)]
  refine S_then (wpAny_of_eq F.conv_sub_int ?_)
  rw [if_neg (by decide)]
  refine S_then (wpAny_of_eq F.madeHere_int ?_)
  rw [if_neg (by simp), if_neg (by simp)]
  refine S_then (wpAny_of_eq (a := PUnit.unit) rfl ?_)
  show wpS _ _ (do let v ← (int_private% "intFromObject") (.str x u); _) _ _ _
  exact S_bind (S_fromObject hA hx hrx hz hn h)
theorem S_listMap {I T : Addr} {f : Value} {Q : Value → Shared → Prop} (hI : IsMap s.heap I T f)
    (h : ∀ h1 tk, (∀ b o, s.heap.get? b = some o → h1.get? b = some o) → wpS (model PR w) A.in1.in1 (pyNext (.ref I)) (fun _ _ => False) E { s with heap := h1, toks := tk }) :
    wpS (model PR w) A (call (.type "list") [.ref I]) Q E s := by
  have ft := F.called_list
  obtain ⟨c, tl, hmro⟩ := ft.mro
  have hmade := ft.made
  refine S_call (codeS_tree ?_)
  show wpS _ _ (callAny (.type "list") _) _ _ _
  refine S_pure ⟨Code.quiet_builtin _ (by decide +kernel), codeS_builtin F.entry_type_call ?_⟩
  rw [Around.under_plain (weight_type_call_type "list" _ []) (units_type_call_type "list" _ [])]
  unfold Builtin.«type.__call__»
  dsimp only
  rw [if_neg (by rw [ft.notType]; decide), if_neg (by rw [ft.canCreate]; decide)]
  refine S_then (wpAny_of_eq (F.typeCall_list_1 _) (S_then (wpAny_of_eq hmro ?_)))
  rw [if_neg (by simp)]
  refine S_then (wpAny_of_eq hmade (S_then (wpAny_pure ?_)))
  have hS : (s.heap.push { cls := .type "list", data := .seq #[] }).get? s.heap.objs.size = some { cls := .type "list", data := .seq #[] } := Heap.get?_push_size _ rfl
  have hSI : s.heap.objs.size ≠ I := Nat.ne_of_gt (Heap.lt_size hI)
  refine S_then (wpAny_holding (wpAny_call (codeAny_mono (code_list_new (Q₁ := fun obj s₁ => obj = .ref s.heap.objs.size ∧ s₁ = { s with heap := s.heap.push { cls := .type "list", data := .seq #[] } }) (E := fun _ _ => False) _ ⟨rfl, rfl⟩) fun r s₁ hr => ?_)))
  cases r with
  | error e => exact hr.elim
  | ok fl =>
    cases fl with
    | ret obj =>
      obtain ⟨rfl, rfl⟩ := hr
      have hT : ({ s with heap := s.heap.push { cls := .type "list", data := .seq #[] } } : Shared).TypeIs (.ref s.heap.objs.size) "list" := ⟨_, hS, rfl⟩
      refine S_then (wpAny_isInstance hT ft.sub ?_)
      rw [if_neg (by decide)]
      refine S_bind (S_holding (S_special hT F.slot_list_init (S_slot F.slot_list_init hT F.entry_list_init (F.args_list_init_2 _ _) ?_)))
      have kp : ∀ b o, s.heap.get? b = some o → (s.heap.push { cls := .type "list", data := .seq #[] }).get? b = some o ∧ b ≠ s.heap.objs.size := fun b o e => ⟨Heap.get?_push_of_some _ e, Nat.ne_of_lt (Heap.lt_size e)⟩
      generalize s.heap.objs.size = D at *
      generalize hs1 : ({ s with heap := s.heap.push { cls := .type "list", data := .seq #[] } } : Shared) = s1 at *
      have hS : s1.heap.get? D = some { cls := .type "list", data := .seq #[] } := by rw [← hs1]; exact hS
      show wpS _ A.in1.in1 (do let old ← Builtin.List.listItems (.ref D); Builtin.List.listUpdate (.ref D) (fun _ => #[]); letGo old.toList.reverse; Builtin.List.listExtendWith (.ref D) (.ref I) .none) _ _ s1
      refine S_bind ?_
      unfold Builtin.List.listItems
      refine S_then (wpAny_seqItems hS rfl (S_pure ?_))
      show wpS _ A.in1.in1 (updateSeq D (fun _ => #[]) >>= fun _ => letGo (#[] : Array Value).toList.reverse >>= fun _ => Builtin.List.listExtendWith (.ref D) (.ref I) .none) _ _ s1
      refine S_then (wpAny_updateSeq hS rfl ?_)
      have hS2 := Heap.get?_update_self (Obj.mapSeq (fun _ => (#[] : Array Value))) hS rfl
      refine S_then (wpAny_letGo ?_)
      have k2 : ∀ b o, b ≠ D → s1.heap.get? b = some o → (s1.heap.update D (Obj.mapSeq (fun _ => (#[] : Array Value)))).get? b = some o := fun b o hb e => (Heap.get?_update_other _ _ (Ne.symm hb)).trans e
      have hI1 : IsMap s1.heap I T f := by rw [← hs1]; exact (kp I _ hI).1
      have hI2 := k2 I _ (Ne.symm hSI) hI1
      unfold Builtin.List.listExtendWith
      refine S_then (wpAny_typeOf (T := "map") ⟨_, hI2, rfl⟩ ?_)
      have h1 : Builtin.List.listSameRef (.ref D) (.ref I) = false := by simp [Builtin.List.listSameRef, hSI]
      have h2 : (Value.type "map" == Value.type "list") = false := by decide
      have h3 : (Value.type "map" == Value.type "tuple") = false := by decide
      simp only [h1, h2, h3, Bool.or_false, Bool.false_eq_true, if_false]
      refine S_then (wpAny_pyIter_map hI2 ?_)
      refine S_then (wpAny_holding ?_)
      unfold Builtin.List.listLengthHint
      refine wpAny_bind (wpAny_specialOf (T := "map") ⟨_, hI2, rfl⟩ map_no_len ?_)
      show wpAny _ A.in1.in1 (specialOf (Value.ref I) (Str.ofString "__length_hint__") >>= _) _ _ _
      refine wpAny_bind (wpAny_specialOf (T := "map") ⟨_, hI2, rfl⟩ map_no_hint ?_)
      refine wpAny_pure ?_
      show wpS _ A.in1.in1 (rule "list.extend.makes-room" >>= fun _ => Builtin.List.listTouch (.ref D) >>= fun _ =>
        again (.builtin "list.extend.loop" ⟨[.ref D, .ref I, .none], []⟩)) _ _ _
      refine S_then (wpAny_rule ?_)
      refine S_bind ?_
      show wpS _ A.in1.in1 (updateSeq D (·.push .none) >>= fun _ => updateSeq D (·.pop)) _ _ _
      refine S_then (wpAny_updateSeq hS2 rfl ?_)
      have hS3 := Heap.get?_update_self (Obj.mapSeq (·.push Value.none)) hS2 rfl
      refine S_of (wpAny_updateSeq (hz := by seq_fits) hS3 rfl ?_)
      have k3 : ∀ b o, b ≠ D → s1.heap.get? b = some o → (((s1.heap.update D (Obj.mapSeq (fun _ => (#[] : Array Value)))).update D (Obj.mapSeq (·.push Value.none))).update D (Obj.mapSeq (·.pop))).get? b = some o :=
        fun b o hb e => (Heap.get?_update_other _ _ (Ne.symm hb)).trans ((Heap.get?_update_other _ _ (Ne.symm hb)).trans (k2 b o hb e))
      refine S_pure ⟨plainId_quiet F.plain_extend_loop _, codeS_builtin F.entry_extend_loop ?_⟩
      rw [Around.under_plainId F.plain_extend_loop _]
      show wpS _ _ (pyNext (.ref I) >>= _) _ _ _
      have hh := h (((s1.heap.update D (Obj.mapSeq (fun _ => (#[] : Array Value)))).update D (Obj.mapSeq (·.push Value.none))).update D (Obj.mapSeq (·.pop))) s1.toks fun b o e => k3 b o (kp b o e).2 (by rw [← hs1]; exact (kp b o e).1)
      subst hs1
      exact S_bind (S_mono hh (fun _ _ x => x.elim) fun _ _ x => x)
    | _ => exact hr.elim
end
end
section
open PySem PySem.W PySem.Calls PySem.NumText PyProof.Rows
open Sem (wp)
set_option maxRecDepth 100000
theorem str_ext {x y : Str} (h : x.cps.toList = y.cps.toList) : x = y := by
  cases x; cases y
  simp only [Str.mk.injEq]
  exact Array.toList_inj.mp h
theorem app_inj (c : Nat) : ∀ (p q X Y : List Nat), c ∉ p → c ∉ q → p ++ c :: X = q ++ c :: Y → p = q ∧ X = Y
  | [], [], X, Y, _, _, h => by simpa using h
  | a :: p, [], X, Y, hp, _, h => by simp at h hp; exact absurd h.1.symm hp.1
  | [], b :: q, X, Y, _, hq, h => by simp at h hq; exact absurd h.1 hq.1
  | a :: p, b :: q, X, Y, hp, hq, h => by
    simp at h hp hq
    obtain ⟨e1, e2⟩ := app_inj c p q X Y hp.2 hq.2 h.2
    exact ⟨by rw [h.1, e1], e2⟩
theorem join_inj (c : Nat) : ∀ {ts us : List Str}, ts ≠ [] → us ≠ [] → (∀ t ∈ ts, c ∉ t.cps.toList) → (∀ t ∈ us, c ∉ t.cps.toList) → Str.join ⟨#[c]⟩ ts = Str.join ⟨#[c]⟩ us → ts = us
  | [], _, h, _, _, _, _ => absurd rfl h
  | _, [], _, h, _, _, _ => absurd rfl h
  | [t], [u], _, _, _, _, h => by rw [show t = u from h]
  | [t], u :: u' :: us, _, _, ht, _, h => by
    have h1 : t = u ++ ⟨#[c]⟩ ++ Str.join ⟨#[c]⟩ (u' :: us) := h
    have := ht t (.head _)
    rw [h1] at this
    exact absurd (show c ∈ (u ++ ⟨#[c]⟩ ++ Str.join ⟨#[c]⟩ (u' :: us)).cps.toList by
      show c ∈ ((u.cps ++ #[c]) ++ (Str.join ⟨#[c]⟩ (u' :: us)).cps).toList
      simp) this
  | t :: t' :: ts, [u], _, _, _, hu, h => by
    have h1 : t ++ ⟨#[c]⟩ ++ Str.join ⟨#[c]⟩ (t' :: ts) = u := h
    have := hu u (.head _)
    rw [← h1] at this
    exact absurd (show c ∈ (t ++ ⟨#[c]⟩ ++ Str.join ⟨#[c]⟩ (t' :: ts)).cps.toList by
      show c ∈ ((t.cps ++ #[c]) ++ (Str.join ⟨#[c]⟩ (t' :: ts)).cps).toList
      simp) this
  | t :: t' :: ts, u :: u' :: us, _, _, ht, hu, h => by
    have h1 : t ++ ⟨#[c]⟩ ++ Str.join ⟨#[c]⟩ (t' :: ts) = u ++ ⟨#[c]⟩ ++ Str.join ⟨#[c]⟩ (u' :: us) := h
    have h2 : t.cps.toList ++ c :: (Str.join ⟨#[c]⟩ (t' :: ts)).cps.toList = u.cps.toList ++ c :: (Str.join ⟨#[c]⟩ (u' :: us)).cps.toList := by
      have := congrArg (fun x : Str => x.cps.toList) h1
      have e : ∀ a b : Str, (a ++ ⟨#[c]⟩ ++ b : Str).cps.toList = a.cps.toList ++ c :: b.cps.toList := fun a b => by
        show ((a.cps ++ #[c]) ++ b.cps).toList = _
        simp
      simpa [e] using this
    obtain ⟨e1, e2⟩ := app_inj c _ _ _ _ (ht t (.head _)) (hu u (.head _)) h2
    rw [str_ext e1, join_inj c (by simp) (by simp) (fun x hx => ht x (.tail _ hx)) (fun x hx => hu x (.tail _ hx)) (str_ext e2)]
theorem split_join (c : Nat) {ts : List Str} (h0 : ts ≠ []) (h : ∀ t ∈ ts, c ∉ t.cps.toList) : Txt.split (Str.join ⟨#[c]⟩ ts) ⟨#[c]⟩ = ts := by
  refine join_inj c (fun q => ?_) h0 (StrLaws.split_free _ c) h (StrLaws.join_split _ _)
  have := split_pos (Str.join ⟨#[c]⟩ ts) ⟨#[c]⟩
  rw [q] at this
  exact absurd this (by decide)
section
variable {w : World} {mg mb : Str → Option Value} {s₀ s : Shared} {L : Nat} {cs : Scope} {locs : List Str} {globs : List (Str × Value)} {vals : List (Option Value)} {news : List (Nat × Knd)}
variable {A : Around} {E : Value → Shared → Prop} {Q : Value → Shared → Prop}
theorem refuseMaps {m2 T2 m1 T1 i l : Nat} {vs : List Value} {x : Str} {u : Tok} (S : St w mg mb s₀ L cs locs globs vals ((i, .it l 0) :: news) s) (hA : A.handled = none) (ha : (m2, .obj (mapO T2 (.type "str"))) ∈ news) (hb : (T2, .obj (oneO (.ref m1))) ∈ news)
    (hc : (m1, .obj (mapO T1 (.type "int"))) ∈ news) (hd : (T1, .obj (oneO (.ref i))) ∈ news) (hf : (l, .lst vs) ∈ news) (hne : ∀ p ∈ news, p.1 ≠ i) (hx0 : vs[0]? = some (.str x u))
    (hx : x.length ≤ 100) (hrx : (reprText x).length ≤ 1000) (hz : ((numSeenOf x).length == (numTextOf x).length) = true) (hn : PySem.intText? x = none)
    (h : ∀ s1 h' tk e, St w mg mb s₀ L cs locs globs vals news s1 → Heap.NewExc s1.heap h' e "ValueError" → E (.ref e) { s1 with heap := h', toks := tk }) :
    wpS (model PR w) A (call (.type "list") [.ref m2]) Q E s := by
  have M : Maps s.heap m2 T2 m1 T1 i l vs 0 := ⟨(S.get (.tail _ ha)).obj, (S.get (.tail _ hb)).obj, (S.get (.tail _ hc)).obj, (S.get (.tail _ hd)).obj, by obtain ⟨o, e, r⟩ := S.get (a := i) (k := .it l 0) (.head _); exact ⟨o, e, r⟩, (S.get (k := .lst vs) (.tail _ hf)).lst, S.cur.nodigits⟩
  refine S_listMap M.a fun h1 tk hk => ?_
  have M1 : Maps h1 m2 T2 m1 T1 i l vs 0 := ⟨hk _ _ M.a, hk _ _ M.b, hk _ _ M.c, hk _ _ M.d, by obtain ⟨o, e, r⟩ := M.e; exact ⟨o, hk _ _ e, r⟩, M.f.at fun o e => hk _ _ e, NoDigits.at' M.g fun o e => hk _ _ e⟩
  refine S_pyNext_map (s := { s with heap := h1, toks := tk }) M1.a M1.b (S_nextOf_map M1.c M1.d (S_of (wpAny_nextOf_list_item M1.e M1.f (by simpa using hx0) fun h2 hi hs => ?_)))
  have M2 := M1.to hi hs
  have S1 := (S.ext (h' := h2) (fun b o hbi e => (hs.2 b hbi).trans (hk b o e)) hne trivial).tok tk
  refine ⟨M2.c, refuse1 hA hx hrx hz hn fun h' tk' e hx => ⟨⟨e, rfl, ?_⟩, h _ h' tk' e S1 hx⟩⟩
  obtain ⟨ob, t, he, hcls, hdt⟩ := hx.there
  exact ⟨_, he, hcls⟩
theorem splitL {x y : Str} {t u : Tok} (S : St w mg mb s₀ L cs locs globs vals news s) (hy : (y.length == 0) = false) (hx : x.length ≤ 1000000)
    (h : ∀ (D : Nat) vs s', St w mg mb s₀ L cs locs globs vals ((D, .obj (lstO vs 0)) :: news) s' → L < D → LtAll D news → StrsAre vs (Txt.split x y) → Q (.ref D) s') : wpAny (model PR w) A (call (.builtin "str.split") [.str x t, .str y u]) Q E s := by
  have fin : ∀ (l : List (Str × Tok)) (tk : Nat), l.map (·.1) = Txt.split x y → Q (.ref s.heap.objs.size) { s with heap := s.heap.push { cls := .type "list", data := .seq (strValues l).toArray }, toks := tk } := fun l tk hl =>
    h s.heap.objs.size (strValues l) _ ((S.push (lstO (strValues l) 0) (kd := .obj (lstO (strValues l) 0)) rfl).tok tk) (S.freshOf S.newAddr).1 (S.freshOf S.newAddr).2 (hl ▸ strsAre_of_values l)
  cases h1 : (decide (x.length < y.length) || decide (Builtin.Str.strKind x < Builtin.Str.strKind y))
  · cases hf : (Builtin.Str.occurrences x y 0 x.length (x.length + 1)).isEmpty
    · have e : Txt.split x y = Builtin.Str.partsBetween x (Builtin.Str.occurrences x y 0 x.length (x.length + 1)) y.length := ((if_neg (ne_true_of_eq_false h1)).trans (if_neg (ne_true_of_eq_false hf)))
      have hle := split_le x y
      rw [e] at hle
      refine call_meets F.slot_str_split (typeIs_str _ _ _) F.entry_str_split (F.args_str_split_2 _ _) (meets_str_split_sep x y t u h1 hy hf (by rw [sizeLine_eq]; omega) (by rw [sizeLine_eq]; omega)) ?_
      show wants Q E _ { s with toks := _, heap := s.heap.push { cls := .type "list", data := .seq (strsFrom s.toks (Builtin.Str.partsBetween x (Builtin.Str.occurrences x y 0 x.length (x.length + 1)) y.length)).toArray } }
      rw [strsFrom_eq]
      exact fin (numbered s.toks _) _ ((numbered_texts _ _).trans e.symm)
    · exact call_meets F.slot_str_split (typeIs_str _ _ _) F.entry_str_split (F.args_str_split_2 _ _) (meets_str_split_not_found x y t u h1 hy hf) (fin [(x, t)] s.toks ((if_neg (ne_true_of_eq_false h1)).trans (if_pos hf)).symm)
  · exact call_meets F.slot_str_split (typeIs_str _ _ _) F.entry_str_split (F.args_str_split_2 _ _) (meets_str_split_cannot_occur x y t u h1) (fin [(x, t)] s.toks (if_pos h1).symm)
end
section
variable {M : Model} {A : Around} {E : Value → Shared → Prop} {s : Shared} {env : Env}
theorem S_ifJ {test : Expr} {body orelse rest : List Stmt} {pos : Pos} {Q : Flow → Shared → Prop} (J : Shared → Prop) (h : wpAny M A (isTrue test env (eval test env))
      (fun b s₂ => (b = true → wpAny M A (execs body env) (fun f s' => f = .next ∧ J s') E s₂) ∧ (b = false → wpAny M A (execs orelse env) (fun f s' => f = .next ∧ J s') E s₂)) E s)
    (hJ : ∀ s', J s' → wpS M A (execs rest env) Q E s') : wpS M A (execs (.If test body orelse pos :: rest) env) Q E s := by
  have k : ∀ f s', (f = Flow.next ∧ J s') → KontS M A env E rest Q f s' := fun f s' ⟨e, j⟩ => by subst e; exact hJ s' j
  exact S_cons (S_of (wpAny_If (wpAny_mono h (fun b s₂ h₂ => by
    cases b
    · exact wpAny_mono (h₂.2 rfl) k fun _ _ x => x
    · exact wpAny_mono (h₂.1 rfl) k fun _ _ x => x) fun _ _ x => x)))
end
end
section
set_option maxHeartbeats 4000000
open PySem PySem.W PySem.Calls PySem.Spec PyProof.Rows
set_option maxRecDepth 100000
local macro_rules | `(tactic| size_fits) => `(tactic| first | exact sz2 | exact sz0 | exact sz1 | exact sz3 | exact sz4)
local macro_rules | `(tactic| walk_at "m_as") => `(tactic| with_reducible assumption)
local macro_rules | `(tactic| walk_at "m_ltR") => `(tactic| first | walk_at "m_as" | (with_reducible refine Nat.lt_trans ?_ (by walk_at "m_as"); first | decide | walk_at "m_ltR") | (with_reducible refine Nat.lt_of_lt_of_le ?_ (by walk_at "m_as"); walk_at "m_ltR"))
local macro_rules | `(tactic| walk_at "m_ltL") => `(tactic| first | walk_at "m_as" | (with_reducible refine Nat.lt_trans (by walk_at "m_as") ?_; walk_at "m_ltL"))
local macro_rules | `(tactic| walk_at "m_lt") => `(tactic| first | walk_at "m_ltR" | walk_at "m_ltL")
local macro_rules | `(tactic| walk_at "m_ord") => `(tactic| first | (with_reducible refine ltN ?_; first | walk_at "m_lt" | with_reducible exact dep (by with_reducible assumption) (by decide) | with_reducible exact dep0 (by with_reducible assumption)) | (with_reducible refine Ne.symm ?_; with_reducible assumption) | (with_reducible refine Nat.ne_of_gt ?_; walk_at "m_lt") | (with_reducible refine Nat.ne_of_lt ?_; walk_at "m_lt") | with_reducible exact Int.le_of_lt (by with_reducible assumption) | with_reducible exact Int.ne_of_gt (by with_reducible assumption) | with_reducible exact Nat.le_trans (by with_reducible assumption) (by decide) | (with_reducible refine Nat.le_trans (by walk_at "m_as") (Nat.le_of_lt ?_); walk_at "m_ltR"))
local macro_rules | `(tactic| walk_at "om") => `(tactic| first | assumption | walk_at "m_ord" | ((repeat (rename St _ _ _ _ _ _ _ _ _ _ _ => S0; clear S0)); lia) | omega)
local macro_rules | `(tactic| walk_at "m_at") => `(tactic| first | with_reducible exact At.head | (with_reducible apply At.tail; walk_at "m_at"))
local macro_rules | `(tactic| walk_at "m_put") => `(tactic| first | with_reducible exact Put.head | (with_reducible apply Put.tail; walk_at "m_put"))
local macro_rules | `(tactic| walk_at "m_mem") => `(tactic| first | with_reducible exact List.mem_cons_self | (with_reducible apply List.mem_cons_of_mem; walk_at "m_mem"))
local macro_rules | `(tactic| walk_at "m_ne") => `(tactic| (refine neN ?_; (try dsimp only); (first | exact Nat.ne_of_lt (by assumption) | exact Nat.ne_of_gt (by assumption) | walk_at "om")))
local macro_rules | `(tactic| walk_at "m_all") => `(tactic| first | assumption | exact List.forall_mem_nil _ | (refine' List.forall_mem_cons.mpr ⟨?a, ?b⟩; (case a => walk_at "m_ne"); (case b => walk_at "m_all")))
local macro_rules | `(tactic| walk_at "m_upd") => `(tactic| first | (with_reducible refine' UpdK.head ?a; (case a => walk_at "m_all")) | (with_reducible refine' UpdK.tail ?a ?b; (case a => walk_at "m_ne"); (case b => walk_at "m_upd")))
local macro_rules | `(tactic| walk_at "m_le") => `(tactic| first | with_reducible exact Le.nil | (with_reducible apply Le.same; walk_at "m_le") | (with_reducible apply Le.none; walk_at "m_le"))
local macro_rules | `(tactic| walk_at "m_tl") => `(tactic| first | assumption | (apply List.mem_cons_of_mem; walk_at "m_tl"))
local macro_rules | `(tactic| walk_at "m_sub") => `(tactic| first | exact List.forall_mem_nil _ | (refine' List.forall_mem_cons.mpr ⟨?a, ?b⟩; (case a => walk_at "m_mem"); (case b => walk_at "m_sub")) | (intro p hp; walk_at "m_tl"))
local macro_rules | `(tactic| walk_at "n") => `(tactic| (with_reducible refine' rdL ?S ?k ?_; (case S => assumption); (case k => walk_at "m_at")))
local macro_rules | `(tactic| walk_at "w") => `(tactic| ((rename St _ _ _ _ _ _ _ _ _ _ _ => S0); with_reducible refine' wrL S0 ?k ?_; (case k => walk_at "m_put"); clear S0; intro s S))
local macro_rules | `(tactic| walk_at "ac") => `(tactic| (with_reducible refine' args_cons ?_ ?a; (case a => with_unfolding_all rfl)))
section
open PySem PySem.W PySem.Calls PySem.Spec PyProof.Rows
set_option maxRecDepth 100000
theorem fillK_a : PySem.Challenge.rw_ph0118_01.prog = PySem.Challenge.rw_ph0118_01.prog ∧ hd.heap_39 = hd.heap_39 := by k_fill; exact ⟨rfl, rfl⟩
section
variable {w : World} {mg mb : Str → Option Value}
/- the two defs of the division, as contracts: a / b and a % b come back as a new tuple -/
noncomputable def D2 (w : World) (mg mb : Str → Option Value) (d : Nat) (a b : Int) (n : Nat) : Prop :=
  ∀ (A : Around) (Q E : Value → Shared → Prop) (s : Shared) (t1 t2 t3 : Tok), Wd w mg mb s.heap → Tb s.heap → A.handled = none → A.depth + d < recursionLimit →
    (∀ p u1 u2 s', Same s s' → Keep s.heap s'.heap → Tb s'.heap → Fresh s.heap p → Is s'.heap p (.tup [.int (a / b) u1, .int (a % b) u2]) → Q (.ref p) s') →
    wpAny (model PR w) A (call (.ref 38) [.int a t1, .int b t2, .int (n : Int) t3]) Q E s
noncomputable def D3 (w : World) (mg mb : Str → Option Value) (d : Nat) (a12 a3 b b1 b2 : Int) (n : Nat) : Prop :=
  ∀ (A : Around) (Q E : Value → Shared → Prop) (s : Shared) (t1 t2 t3 t4 t5 t6 : Tok), Wd w mg mb s.heap → Tb s.heap → A.handled = none → A.depth + d < recursionLimit →
    (∀ p u1 u2 s', Same s s' → Keep s.heap s'.heap → Tb s'.heap → Fresh s.heap p → Is s'.heap p (.tup [.int ((a12 * 2 ^ n + a3) / b) u1, .int ((a12 * 2 ^ n + a3) % b) u2]) → Q (.ref p) s') →
    wpAny (model PR w) A (call (.ref 45) [.int a12 t1, .int a3 t2, .int b t3, .int b1 t4, .int b2 t5, .int (n : Int) t6]) Q E s
section
variable {A : Around} {Q E : Value → Shared → Prop} {s s₀ : Shared} {L : Nat} {cs : Scope} {locs : List Str} {globs : List (Str × Value)} {vals : List (Option Value)} {news : List (Nat × Knd)}
theorem D2.use {d : Nat} {a b : Int} {n : Nat} {t1 t2 t3 : Tok} (C : D2 w mg mb d a b n) (S : St w mg mb s₀ L cs locs globs vals news s) (hA : A.handled = none) (hdp : A.depth + d < recursionLimit)
    (h : ∀ p u1 u2 s', St w mg mb s₀ L cs locs globs vals ((p, .tup [.int (a / b) u1, .int (a % b) u2]) :: news) s' → Q (.ref p) s') : wpAny (model PR w) A (call (.ref 38) [.int a t1, .int b t2, .int (n : Int) t3]) Q E s :=
  C A Q E s t1 t2 t3 S.cur S.tb hA hdp fun p u1 u2 s' e k tb hp hg => h p u1 u2 s' (S.got e k tb hp hg)
theorem D3.use {d : Nat} {a12 a3 b b1 b2 : Int} {n : Nat} {t1 t2 t3 t4 t5 t6 : Tok} (C : D3 w mg mb d a12 a3 b b1 b2 n) (S : St w mg mb s₀ L cs locs globs vals news s) (hA : A.handled = none) (hdp : A.depth + d < recursionLimit)
    (h : ∀ p u1 u2 s', St w mg mb s₀ L cs locs globs vals ((p, .tup [.int ((a12 * 2 ^ n + a3) / b) u1, .int ((a12 * 2 ^ n + a3) % b) u2]) :: news) s' → Q (.ref p) s') :
    wpAny (model PR w) A (call (.ref 45) [.int a12 t1, .int a3 t2, .int b t3, .int b1 t4, .int b2 t5, .int (n : Int) t6]) Q E s :=
  C A Q E s t1 t2 t3 t4 t5 t6 S.cur S.tb hA hdp fun p u1 u2 s' e k tb hp hg => h p u1 u2 s' (S.got e k tb hp hg)
end
structure Pre2 (a b : Int) (n : Nat) : Prop where
  n1 : 1 ≤ n
  nb : n ≤ 1000000
  a0 : 0 ≤ a
  b0 : 2 ^ (n - 1) ≤ b
  b1 : b < 2 ^ n
  ab : a < b * 2 ^ n
structure Pre3 (a12 a3 b b1 b2 : Int) (n : Nat) : Prop where
  n1 : 1 ≤ n
  nb : n ≤ 1000000
  h0 : 2 ^ (n - 1) ≤ b1
  h1 : b1 < 2 ^ n
  h2 : 0 ≤ b2
  h3 : b2 < 2 ^ n
  hb : b = b1 * 2 ^ n + b2
  h4 : 0 ≤ a3
  h5 : a3 < 2 ^ n
  h6 : 0 ≤ a12
  h7 : a12 < b
theorem Pre3.pos {a12 a3 b b1 b2 : Int} {n : Nat} (P : Pre3 a12 a3 b b1 b2 n) : 0 < b1 := Int.lt_of_lt_of_le (two_pow_pos (n - 1)) P.h0
theorem Pre3.room {a12 a3 b b1 b2 : Int} {n : Nat} (P : Pre3 a12 a3 b b1 b2 n) {k : Nat} (h : k ≤ n + n + 1) : k + n ≤ 134217728 :=
  Nat.le_trans (Nat.add_le_add (Nat.le_trans h (Nat.succ_le_succ (Nat.add_le_add P.nb P.nb))) P.nb) (by decide)
theorem le_div_mul {x p : Int} (hp : 0 < p) : x / p * p ≤ x := Int.le_trans (Int.le_add_of_nonneg_right (Int.emod_nonneg x (Int.ne_of_gt hp))) (Int.le_of_eq (ediv_mod x p).symm)
theorem d3_eq {a12 a3 b b1 b2 : Int} {n : Nat} (P : Pre3 a12 a3 b b1 b2 n) (hq : a12 / 2 ^ n = b1) :
    a12 = (1 * 2 ^ n - 1) * b1 + (a12 - b1 * 2 ^ n + b1) ∧ (0 : Int) ≤ 1 * 2 ^ n - 1 ∧ 0 ≤ a12 - b1 * 2 ^ n + b1 ∧ (a12 - b1 * 2 ^ n + b1) * 2 ^ n + a3 - (1 * 2 ^ n - 1) * b2 < b ∧ (1 : Int) * 2 ^ n - 1 ≤ 2 ^ n := by
  have hp := two_pow_pos n
  have hb1 := P.pos
  have hle := le_div_mul (x := a12) hp
  obtain ⟨_, _, h0, h1, h2, h3, hb, h4, h5, h6, h7⟩ := P
  rw [hq] at hle
  rw [Int.one_mul]
  generalize (2 : Int) ^ n = p at *
  refine ⟨by grind, Int.le_sub_one_of_lt hp, Int.add_nonneg (Int.sub_nonneg_of_le hle) (Int.le_of_lt hb1), ?_, Int.sub_le_self _ (by decide)⟩
  have e : (a12 - b1 * p + b1) * p + a3 - (p - 1) * b2 = (a12 * p + a3) - (p - 1) * b := by rw [hb]; grind
  have h10 : (a12 + 1) * p ≤ b * p := Int.mul_le_mul_of_nonneg_right h7 (Int.le_of_lt hp)
  rw [Int.add_mul, Int.one_mul] at h10
  rw [e, Int.sub_mul, Int.one_mul, Int.mul_comm p b]
  exact Int.sub_left_lt_of_lt_add (by rw [Int.sub_add_cancel]; exact Int.lt_of_lt_of_le (Int.add_lt_add_left h5 _) h10)
theorem d3_lt {a12 a3 b b1 b2 : Int} {n : Nat} (P : Pre3 a12 a3 b b1 b2 n) (hq : a12 / 2 ^ n ≠ b1) : a12 < b1 * 2 ^ n := by
  have hp := two_pow_pos n
  obtain ⟨_, _, h0, h1, h2, h3, hb, h4, h5, h6, h7⟩ := P
  have hd := ediv_mod a12 (2 ^ n)
  have hle := le_div_mul (x := a12) hp
  have hl := Int.emod_lt_of_pos a12 hp
  generalize (2 : Int) ^ n = p at *
  have h8 : a12 / p ≤ b1 := by
    refine Int.not_lt.mp fun q => ?_
    have h9 : (b1 + 1) * p ≤ a12 / p * p := Int.mul_le_mul_of_nonneg_right q (Int.le_of_lt hp)
    rw [Int.add_mul, Int.one_mul] at h9
    rw [hb] at h7
    exact Int.lt_irrefl a12 (Int.lt_of_lt_of_le (Int.lt_trans h7 (Int.add_lt_add_left h3 _)) (Int.le_trans h9 hle))
  have h9 : (a12 / p + 1) * p ≤ b1 * p := Int.mul_le_mul_of_nonneg_right (Int.add_one_le_of_lt (Int.lt_iff_le_and_ne.mpr ⟨h8, hq⟩)) (Int.le_of_lt hp)
  rw [Int.add_mul, Int.one_mul] at h9
  exact Int.lt_of_le_of_lt (Int.le_of_eq hd) (Int.lt_of_lt_of_le (Int.add_lt_add_left hl _) h9)
theorem d3_ne {a12 a3 b b1 b2 : Int} {n : Nat} (P : Pre3 a12 a3 b b1 b2 n) (h : a12 < b1 * 2 ^ n) :
    a12 = a12 / b1 * b1 + a12 % b1 ∧ 0 ≤ a12 / b1 ∧ 0 ≤ a12 % b1 ∧ a12 % b1 * 2 ^ n + a3 - a12 / b1 * b2 < b ∧ a12 / b1 ≤ 2 ^ n := by
  have hp := two_pow_pos n
  have hb1 := P.pos
  obtain ⟨_, _, h0, h1, h2, h3, hb, h4, h5, h6, h7⟩ := P
  have hl := Int.emod_lt_of_pos a12 hb1
  have hq : 0 ≤ a12 / b1 := Int.ediv_nonneg h6 (Int.le_of_lt hb1)
  generalize (2 : Int) ^ n = p at *
  refine ⟨ediv_mod a12 b1, hq, Int.emod_nonneg a12 (Int.ne_of_gt hb1), ?_, ?_⟩
  · have h8 : (a12 % b1 + 1) * p ≤ b1 * p := Int.mul_le_mul_of_nonneg_right (Int.add_one_le_of_lt hl) (Int.le_of_lt hp)
    rw [Int.add_mul, Int.one_mul] at h8
    rw [hb]
    exact Int.lt_of_le_of_lt (Int.sub_le_self _ (Int.mul_nonneg hq h2)) (Int.lt_of_lt_of_le (Int.add_lt_add_left h5 _) (Int.le_trans h8 (Int.le_add_of_nonneg_right h2)))
  · exact Int.le_of_lt (Int.ediv_lt_of_lt_mul hb1 (by rw [Int.mul_comm]; exact h))
theorem d3_sz {a12 a3 b b1 b2 q r : Int} {n : Nat} (P : Pre3 a12 a3 b b1 b2 n) (h : a12 = q * b1 + r) (hq : 0 ≤ q) (hr : 0 ≤ r) : Builtin.Int.intBits r + n ≤ 134217728 := by
  have hp := two_pow_pos n
  have h9 : r < 2 ^ (n + n) := by
    rw [Int.pow_add]
    have h10 : (b1 + 1) * 2 ^ n ≤ 2 ^ n * 2 ^ n := Int.mul_le_mul_of_nonneg_right (Int.add_one_le_of_lt P.h1) (Int.le_of_lt hp)
    rw [Int.add_mul, Int.one_mul] at h10
    have h7 := P.h7
    rw [P.hb] at h7
    refine Int.lt_of_le_of_lt (b := a12) ?_ (Int.lt_of_lt_of_le (Int.lt_trans h7 (Int.add_lt_add_left P.h3 _)) h10)
    rw [h]
    exact Int.le_add_of_nonneg_left (Int.mul_nonneg hq (Int.le_of_lt P.pos))
  exact P.room (Nat.le_succ_of_le (bits_le hr h9))
theorem d3_mul {a12 a3 b b1 b2 q : Int} {n : Nat} (P : Pre3 a12 a3 b b1 b2 n) (hq : 0 ≤ q) (h : q ≤ 2 ^ n) : IntMulOk q b2 := by
  have e1 := bits_le (k := n + 1) hq (by rw [Int.pow_succ, mul2]; exact Int.lt_of_le_of_lt h (Int.lt_add_of_pos_right _ (two_pow_pos n)))
  exact PySem.IntMulOk.of_le e1 (bits_le P.h2 P.h3) (Nat.le_trans (Nat.add_le_add (Nat.succ_le_succ P.nb) P.nb) (by decide))
noncomputable abbrev l3 : List Str := ["a12", "a3", "b", "b1", "b2", "n", "q", "r"]
noncomputable abbrev g3 : List (Str × Value) := [("_div2n1n", .ref 38)]
theorem d3_body {d : Nat} {a12 a3 b b1 b2 : Int} {n : Nat} (P : Pre3 a12 a3 b b1 b2 n) (C : a12 < b1 * 2 ^ n → D2 w mg mb d a12 b1 n) : D3 w mg mb (d + 1) a12 a3 b b1 b2 n := by
  intro A Q E s t1 t2 t3 t4 t5 t6 W T hA hdp hQ
  refine enter (locs := l3) (globs := g3)
    (binds := [("a12", .int a12 t1), ("a3", .int a3 t2), ("b", .int b t3), ("b1", .int b1 t4), ("b2", .int b2 t5), ("n", .int (n : Int) t6)])
    (vals := [some (.int a12 t1), some (.int a3 t2), some (.int b t3), some (.int b1 t4), some (.int b2 t5), some (.int (n : Int) t6), none, none]) W T (by walk_at "om") (by k_is) (by k_is) (BindsTo.of_eq rfl) (by decide) (locs rfl)
    ⟨rfl, by decide +kernel, kl_of rfl, kg_K W rfl rfl (by k_is) kg_nil⟩
    (HasAll.cons rfl (HasAll.cons rfl (HasAll.cons rfl (HasAll.cons rfl (HasAll.cons rfl (HasAll.cons rfl (HasAll.skip (HasAll.skip trivial)))))))) rfl rfl fun cs L s₁ S => ?_
  have hA' : (A.deeper (envX (Str.ofString "_div3n2n") cs L 45 (Value.ref 44) [])).handled = none := hA
  have hd' : (A.deeper (envX (Str.ofString "_div3n2n") cs L 45 (Value.ref 44) [])).depth + d < recursionLimit := by show A.depth + 1 + d < _; walk_at "om"
  generalize A.deeper _ = A' at *
  refine A_gen2 fun Qb Eb hQb => ?_
  have hz1 : Builtin.Int.intBits 1 + n ≤ 134217728 := P.room (by rw [show Builtin.Int.intBits 1 = 1 from rfl]; exact Nat.succ_le_succ (Nat.zero_le _))
  have hz2 : Builtin.Int.intBits b1 + n ≤ 134217728 := P.room (Nat.le_trans (bits_le (Int.le_of_lt P.pos) P.h1) (Nat.le_trans (Nat.le_add_right n n) (Nat.le_succ _)))
  refine X_ifJ (fun s' => ∃ q r tq tr news', St w mg mb s L cs l3 g3 [some (.int a12 t1), some (.int a3 t2), some (.int b t3), some (.int b1 t4), some (.int b2 t5), some (.int (n : Int) t6), some (.int q tq), some (.int r tr)] news' s'
    ∧ a12 = q * b1 + r ∧ 0 ≤ q ∧ 0 ≤ r ∧ r * 2 ^ n + a3 - q * b2 < b ∧ q ≤ 2 ^ n) ?_ ?_
  · (with_reducible refine' wpAny_isTrue_Compare1 ?_ ?a1q; (case a1q => with_unfolding_all rfl)); rename St _ _ _ _ _ _ _ _ _ _ _ => S; refine EvI.run (.shrN (.name (by walk_at "m_at")) (.name (by walk_at "m_at")) P.h6) S fun t9 s9 S => ?_; walk_at "n"; (with_reducible refine PyProof.Rows.eq_int ?_); (with_reducible refine wpAny_truthy_bool ?_)
    rename St _ _ _ _ _ _ _ _ _ _ _ => S
    constructor
    · intro hq
      have hq : a12 / 2 ^ n = b1 := by simpa using hq
      refine X_swp ?_ (swp2 S.nm (by decide) (by decide) (by decide) rfl rfl rfl rfl)
      (with_reducible refine Tuple_ ?_); walk_at "ac"; rename St _ _ _ _ _ _ _ _ _ _ _ => S; refine EvI.run (.sub (.shlN .const (.name (by walk_at "m_at")) hz1) .const) S fun t9 s9 S => ?_; walk_at "ac"; rename St _ _ _ _ _ _ _ _ _ _ _ => S; refine EvI.run (.add (.sub (.name (by walk_at "m_at")) (.shlN (.name (by walk_at "m_at")) (.name (by walk_at "m_at")) hz2)) (.name (by walk_at "m_at"))) S fun t9 s9 S => ?_; (with_reducible refine args_nil ?_); ((rename St _ _ _ _ _ _ _ _ _ _ _ => Z0); with_reducible refine newTup Z0 ?z6q ?_; (case z6q => size_fits); clear Z0; intro pX sX SX hp9 hk9; clear hk9)
      rename St _ _ _ _ _ _ _ _ _ _ _ => S
      refine swpT2 S hA' (by walk_at "m_mem") (by walk_at "m_put") (by walk_at "m_put") fun s' S' => X_nil ⟨rfl, _, _, _, _, _, S', ?_⟩
      exact d3_eq P hq
    · intro hq
      have hq : a12 / 2 ^ n ≠ b1 := by simpa using hq
      (with_reducible refine' X_tup ?_ ?a7q ?b7q; (case a7q => with_unfolding_all rfl); (case b7q => with_unfolding_all rfl)); (with_reducible refine' Call_ ?_ ?a8q; (case a8q => with_unfolding_all rfl)); (with_reducible refine' rdG ?S9q ?k9q ?_; (case S9q => assumption); (case k9q => walk_at "m_mem")); (with_reducible refine' C_def ?S10q ?f10q ?_ ?a10q ?b10q; (case S10q => assumption); (case f10q => decide); (case a10q => with_unfolding_all rfl); (case b10q => with_unfolding_all rfl)); walk_at "ac"; walk_at "n"; walk_at "ac"; walk_at "n"; walk_at "ac"; walk_at "n"; (with_reducible refine args_nil ?_); (with_reducible refine' And.intro (St.cur ?S12q) ?_; (case S12q => assumption))
      have h8 := d3_lt P hq
      refine (C h8).use S hA' hd' fun p u1 u2 s' S' => asgT2 S' hA' (by walk_at "m_mem") (by walk_at "m_put") (by walk_at "m_put") fun s'' S'' => X_nil ⟨rfl, _, _, _, _, _, S'', ?_⟩
      exact d3_ne P h8
  · rintro s3 ⟨q, r, tq, tr, news, S, h9, h10, h11, h12, h13⟩
    (with_reducible refine' X_asg ?_ ?a13q; (case a13q => with_unfolding_all rfl)); rename St _ _ _ _ _ _ _ _ _ _ _ => S; refine EvI.run (.sub (.lor (.shlN (.name (by walk_at "m_at")) (.name (by walk_at "m_at")) (d3_sz P h9 h10 h11)) (.name (by walk_at "m_at"))) (.mul (.name (by walk_at "m_at")) (.name (by walk_at "m_at")) (d3_mul P h10 h13))) S fun t9 s9 S => ?_; walk_at "w"
    rename St _ _ _ _ _ _ _ _ _ _ _ => S
    rw [or_disj n h11 P.h4 P.h5] at S
    have hN : a12 * 2 ^ n + a3 = q * b + (r * 2 ^ n + a3 - q * b2) := by rw [h9, P.hb]; grind
    generalize r * 2 ^ n + a3 - q * b2 = r' at *
    refine X_while (J := fun s' => ∃ q r tq tr news', St w mg mb s L cs l3 g3 [some (.int a12 t1), some (.int a3 t2), some (.int b t3), some (.int b1 t4), some (.int b2 t5), some (.int (n : Int) t6), some (.int q tq), some (.int r tr)] news' s'
      ∧ a12 * 2 ^ n + a3 = q * b + r ∧ 0 ≤ r ∧ r < b)
      (fun k s' => ∃ q r tq tr news', St w mg mb s L cs l3 g3 [some (.int a12 t1), some (.int a3 t2), some (.int b t3), some (.int b1 t4), some (.int b2 t5), some (.int (n : Int) t6), some (.int q tq), some (.int r tr)] news' s'
      ∧ a12 * 2 ^ n + a3 = q * b + r ∧ r < b ∧ k = (-r).toNat) ?_ ?_ ⟨_, _, _, _, _, S, hN, h12, rfl⟩
    · rintro k s' ⟨q, r, tq, tr, news, S, h1, h2, h3⟩
      (with_reducible refine' wpAny_isTrue_Compare1 ?_ ?a14q; (case a14q => with_unfolding_all rfl)); walk_at "n"; ((rename St _ _ _ _ _ _ _ _ _ _ _ => Z0); with_reducible refine E_int Z0 ?_; clear Z0; intro tX sX SX); (with_reducible refine PyProof.Rows.lt_int ?_); (with_reducible refine wpAny_truthy_bool ?_)
      constructor
      · intro hr
        have hr : r < 0 := by simpa using hr
        (with_reducible refine X_aug ?_); (with_reducible refine' rdLn ?S19q ?k19q ?_; (case S19q => assumption); (case k19q => walk_at "m_at")); ((rename St _ _ _ _ _ _ _ _ _ _ _ => Z0); with_reducible refine E_int Z0 ?_; clear Z0; intro tX sX SX); ((rename St _ _ _ _ _ _ _ _ _ _ _ => Z0); with_reducible refine O_isub Z0 ?_; clear Z0; intro tX sX SX); walk_at "w"; (with_reducible refine X_aug ?_); (with_reducible refine' rdLn ?S23q ?k23q ?_; (case S23q => assumption); (case k23q => walk_at "m_at")); walk_at "n"; ((rename St _ _ _ _ _ _ _ _ _ _ _ => Z0); with_reducible refine O_iadd Z0 ?_; clear Z0; intro tX sX SX); walk_at "w"
        rename St _ _ _ _ _ _ _ _ _ _ _ => S
        have hb := Int.lt_of_le_of_lt P.h6 P.h7
        refine X_nil ⟨_, ⟨?_, rfl⟩, _, _, _, _, _, S, ?_, Int.lt_of_lt_of_le (Int.add_lt_add_right hr _) (Int.le_of_eq (Int.zero_add b)), rfl⟩
        · rw [h3]; clear S; lia
        · rw [h1, Int.sub_mul, Int.one_mul, Int.add_comm r b, ← Int.add_assoc, Int.sub_add_cancel]
      · intro hr
        have hr : 0 ≤ r := by simpa using hr
        rename St _ _ _ _ _ _ _ _ _ _ _ => S
        exact X_nil ⟨rfl, _, _, _, _, _, S, h1, hr, h2⟩
    · rintro s' ⟨q, r, tq, tr, news, S, h1, h2, h3⟩
      (with_reducible refine X_ret ?_); (with_reducible refine Tuple_ ?_); walk_at "ac"; walk_at "n"; walk_at "ac"; walk_at "n"; (with_reducible refine args_nil ?_); ((rename St _ _ _ _ _ _ _ _ _ _ _ => Z0); with_reducible refine newTup Z0 ?z28q ?_; (case z28q => size_fits); clear Z0; intro pX sX SX hp9 hk9; clear hk9)
      rename St _ _ _ _ _ _ _ _ _ _ _ => S
      obtain ⟨e1, e2⟩ := div_uniq h1 h2 h3
      refine hQb _ _ (hQ _ tq tr _ S.same S.keep S.tb (S.fr (by assumption)) ?_)
      rw [e1, e2]
      exact S.get (.head _)

theorem noPyl {a b : Int} (h : Builtin.Int.intBits a ≤ Builtin.Int.intBits b + 4000) : Builtin.divisionGoesByPylong a b = false := by
  have d : ∀ n : Int, (if n == 0 then 0 else n.natAbs.log2 / 30 + 1 : Nat) = (Builtin.Int.intBits n + 29) / 30 := by
    intro n
    unfold Builtin.Int.intBits
    by_cases hn : (n == 0) = true
    · rw [if_pos hn, if_pos hn]
    · rw [if_neg hn, if_neg hn]; walk_at "om"
  unfold Builtin.divisionGoesByPylong
  simp only [d]
  simp
  walk_at "om"
/- the numbers of the longer division -/
structure Cut (A B : Int) (N H : Nat) : Prop where
  h1 : 1 ≤ H
  hb : H ≤ 1000000
  hH : H + H = N
  a0 : 0 ≤ A
  b0 : 2 ^ (N - 1) ≤ B
  b1 : B < 2 ^ N
  ab : A < B * 2 ^ N
theorem Cut.pre1 {A B : Int} {N H : Nat} (C : Cut A B N H) : Pre3 (A / 2 ^ N) (A / 2 ^ H % 2 ^ H) B (B / 2 ^ H) (B % 2 ^ H) H := by
  obtain ⟨h1, hH, hH2, a0, b0, b1, ab⟩ := C
  have hp := two_pow_pos H
  have hP := two_pow_pos N
  have e : (2 : Int) ^ N = 2 ^ H * 2 ^ H := by rw [← hH2, Int.pow_add]
  have e' : (2 : Int) ^ (N - 1) = 2 ^ (H - 1) * 2 ^ H := by rw [← Int.pow_add, ← hH2, Nat.sub_add_comm h1]
  rw [e'] at b0
  rw [e] at b1 ab hP ⊢
  exact ⟨h1, hH, (Int.le_ediv_iff_mul_le hp).mpr b0, Int.ediv_lt_of_lt_mul hp b1, Int.emod_nonneg _ (Int.ne_of_gt hp), Int.emod_lt_of_pos _ hp, ediv_mod B _, Int.emod_nonneg _ (Int.ne_of_gt hp), Int.emod_lt_of_pos _ hp,
    Int.ediv_nonneg a0 (Int.le_of_lt hP), Int.ediv_lt_of_lt_mul hP ab⟩
theorem Cut.num1 {A B : Int} {N H : Nat} (C : Cut A B N H) : A / 2 ^ N * 2 ^ H + A / 2 ^ H % 2 ^ H = A / 2 ^ H := by
  rw [← C.hH, Int.pow_add, ← Int.ediv_ediv_of_nonneg (Int.le_of_lt (two_pow_pos H))]
  exact (ediv_mod _ _).symm
theorem Cut.pos {A B : Int} {N H : Nat} (C : Cut A B N H) : 0 < B := Int.lt_of_lt_of_le (two_pow_pos (N - 1)) C.b0
theorem Cut.pre2 {A B : Int} {N H : Nat} (C : Cut A B N H) : Pre3 (A / 2 ^ H % B) (A % 2 ^ H) B (B / 2 ^ H) (B % 2 ^ H) H := by
  have P := C.pre1
  have hp := two_pow_pos H
  exact ⟨P.n1, P.nb, P.h0, P.h1, P.h2, P.h3, P.hb, Int.emod_nonneg _ (Int.ne_of_gt hp), Int.emod_lt_of_pos _ hp, Int.emod_nonneg _ (Int.ne_of_gt C.pos), Int.emod_lt_of_pos _ C.pos⟩
theorem Cut.fin {A B : Int} {N H : Nat} (C : Cut A B N H) :
    0 ≤ A / 2 ^ H / B ∧ 0 ≤ (A / 2 ^ H % B * 2 ^ H + A % 2 ^ H) / B ∧ (A / 2 ^ H % B * 2 ^ H + A % 2 ^ H) / B < 2 ^ H ∧
      A / 2 ^ H / B * 2 ^ H + (A / 2 ^ H % B * 2 ^ H + A % 2 ^ H) / B = A / B ∧ (A / 2 ^ H % B * 2 ^ H + A % 2 ^ H) % B = A % B := by
  have P := C.pre2
  have hp := two_pow_pos H
  have hB := C.pos
  have h1 := ediv_mod A (2 ^ H)
  have h2 := ediv_mod (A / 2 ^ H) B
  have h3 := ediv_mod (A / 2 ^ H % B * 2 ^ H + A % 2 ^ H) B
  have h4 := Int.emod_nonneg (A / 2 ^ H % B * 2 ^ H + A % 2 ^ H) (Int.ne_of_gt hB)
  have h5 := Int.emod_lt_of_pos (A / 2 ^ H % B * 2 ^ H + A % 2 ^ H) hB
  have hV : 0 ≤ A / 2 ^ H / B := Int.ediv_nonneg (Int.ediv_nonneg C.a0 (Int.le_of_lt hp)) (Int.le_of_lt hB)
  have h8 := P.h7
  have h9 := P.h4
  have h10 := P.h5
  have h11 : 0 ≤ A / 2 ^ H % B * 2 ^ H := Int.mul_nonneg P.h6 (Int.le_of_lt hp)
  have h12 : (A / 2 ^ H % B + 1) * 2 ^ H ≤ B * 2 ^ H := Int.mul_le_mul_of_nonneg_right (Int.add_one_le_of_lt h8) (Int.le_of_lt hp)
  rw [Int.add_mul, Int.one_mul] at h12
  clear P C
  generalize (2 : Int) ^ H = p at *
  generalize A / p = X at *
  generalize A % p = Y at *
  generalize X % B = U at *
  generalize X / B = V at *
  have h13 : (U * p + Y) / B < p := Int.ediv_lt_of_lt_mul hB (by rw [Int.mul_comm p B]; exact Int.lt_of_lt_of_le (Int.add_lt_add_left h10 _) h12)
  refine ⟨hV, Int.ediv_nonneg (Int.add_nonneg h11 h9) (Int.le_of_lt hB), h13, ?_⟩
  have h14 : A = (V * p + (U * p + Y) / B) * B + (U * p + Y) % B := by
    refine h1.trans ?_
    rw [h2, Int.add_mul (V * B) U p, Int.add_assoc (V * B * p) (U * p) Y]
    exact (congrArg (V * B * p + ·) h3).trans (by rw [Int.add_mul (V * p), Int.mul_right_comm V B p, Int.add_assoc])
  obtain ⟨e1, e2⟩ := div_uniq h14 h4 h5
  exact ⟨e1.symm, e2.symm⟩
/- the halves of the numbers, with the pad -/
theorem Cut.of {a b aA aB : Int} {n aN h : Nat} (P : Pre2 a b n) (hh : h = (n + 1) / 2) (hcase : (n % 2 = 0 ∧ aA = a ∧ aB = b ∧ aN = n) ∨ (n % 2 = 1 ∧ aA = a * 2 ∧ aB = b * 2 ∧ aN = n + 1)) : Cut aA aB aN h := by
  obtain ⟨hn1, hnb, ha0, hb0, hb1, hab⟩ := P
  have h1 : 1 ≤ h := by lia
  have hb : h ≤ 1000000 := by lia
  rcases hcase with ⟨e, rfl, rfl, rfl⟩ | ⟨e, rfl, rfl, rfl⟩
  · exact ⟨h1, hb, by lia, ha0, hb0, hb1, hab⟩
  · have e2 : (2 : Int) ^ n = 2 ^ (n - 1) * 2 := by rw [← Int.pow_succ]; exact congrArg (fun k : Nat => (2 : Int) ^ k) (Nat.sub_add_cancel hn1).symm
    have hp : 0 ≤ b * 2 ^ n * 2 := Int.mul_nonneg (Int.le_trans ha0 (Int.le_of_lt hab)) (by decide)
    refine ⟨h1, hb, by lia, Int.mul_nonneg ha0 (by decide), ?_, ?_, ?_⟩
    · rw [Nat.add_sub_cancel, e2]; exact Int.mul_le_mul_of_nonneg_right hb0 (by decide)
    · rw [Int.pow_succ]; exact Int.mul_lt_mul_of_pos_right hb1 (by decide)
    · rw [Int.pow_succ, Int.mul_right_comm b 2, ← Int.mul_assoc b, mul2 (b * 2 ^ n * 2)]
      exact Int.lt_of_lt_of_le (Int.mul_lt_mul_of_pos_right hab (by decide)) (Int.le_add_of_nonneg_right hp)
noncomputable abbrev l2 : List Str := ["a", "b", "n", "pad", "half_n", "mask", "b1", "b2", "q1", "r", "q2"]
noncomputable abbrev g2 : List (Str × Value) := [("_DIV_LIMIT", .int 4000 284), ("divmod", .builtin "divmod"), ("_div3n2n", .ref 45)]
theorem d2_body {d : Nat} {a b : Int} {n : Nat} (P : Pre2 a b n) (C : 4000 < n → ∀ a12 a3 B b1 b2, ∀ h : Nat, h = (n + 1) / 2 → Pre3 a12 a3 B b1 b2 h → D3 w mg mb d a12 a3 B b1 b2 h) : D2 w mg mb (d + 1) a b n := by
  intro A Q E s t1 t2 t3 W T hA hdp hQ
  refine enter (locs := l2) (globs := g2) (binds := [("a", .int a t1), ("b", .int b t2), ("n", .int (n : Int) t3)])
    (vals := [some (.int a t1), some (.int b t2), some (.int (n : Int) t3), none, none, none, none, none, none, none, none]) W T (by walk_at "om") (by k_is) (by k_is) (BindsTo.of_eq rfl) (by decide) (locs rfl)
    ⟨rfl, by decide +kernel, kl_of rfl, kg_K W rfl rfl (by k_is) <| kg_B W rfl rfl (by k_is) (by boot_fast) (by decide) <| kg_K W rfl rfl (by k_is) kg_nil⟩
    (HasAll.cons rfl (HasAll.cons rfl (HasAll.cons rfl (HasAll.skip (HasAll.skip (HasAll.skip (HasAll.skip (HasAll.skip (HasAll.skip (HasAll.skip (HasAll.skip trivial))))))))))) rfl rfl fun cs L s₁ S => ?_
  have hA' : (A.deeper (envX (Str.ofString "_div2n1n") cs L 38 (Value.ref 37) [])).handled = none := hA
  have hd' : (A.deeper (envX (Str.ofString "_div2n1n") cs L 38 (Value.ref 37) [])).depth + d < recursionLimit := by show A.depth + 1 + d < _; walk_at "om"
  generalize A.deeper _ = A' at *
  refine A_gen2 fun Qb Eb hQb => ?_
  have hp := two_pow_pos n
  have hb0 : 0 < b := Int.lt_of_lt_of_le (two_pow_pos (n - 1)) P.b0
  have hbits : Builtin.Int.intBits b = n := by
    refine Nat.le_antisymm (bits_le (Int.le_of_lt hb0) P.b1) (Nat.le_of_pred_lt (Nat.lt_of_not_le fun q => ?_))
    have h4 : (2 : Int) ^ Builtin.Int.intBits b ≤ 2 ^ (n - 1) := by rw [← cast_pow, ← cast_pow]; exact Int.ofNat_le.mpr (Nat.pow_le_pow_right (by decide) q)
    exact Int.lt_irrefl _ (Int.lt_of_le_of_lt P.b0 (Int.lt_of_lt_of_le (bits_lt_int (Int.le_of_lt hb0)) h4))
  have hab : a < 2 ^ (n + n) := by
    rw [Int.pow_add]
    exact Int.lt_of_lt_of_le P.ab (Int.mul_le_mul_of_nonneg_right (Int.le_of_lt P.b1) (Int.le_of_lt hp))
  have habits := bits_le P.a0 hab
  (with_reducible refine X_if ?_); (with_reducible refine' wpAny_isTrue_Compare1 ?_ ?a30q; (case a30q => with_unfolding_all rfl)); (with_reducible refine wpAny_BinOp ?_); (with_reducible refine' MethodCall_ ?_ ?a32q; (case a32q => with_unfolding_all rfl)); walk_at "n"; (with_reducible refine getMethod_int_bit_length ?_); (with_reducible refine callWith_method0 ?_); ((rename St _ _ _ _ _ _ _ _ _ _ _ => Z0); with_reducible refine M_bits Z0 ?_; clear Z0; intro tX sX SX); walk_at "n"; ((rename St _ _ _ _ _ _ _ _ _ _ _ => Z0); with_reducible refine O_sub Z0 ?_; clear Z0; intro tX sX SX); (with_reducible refine' rdG ?S37q ?k37q ?_; (case S37q => assumption); (case k37q => walk_at "m_mem")); (with_reducible refine PyProof.Rows.le_int ?_); (with_reducible refine wpAny_truthy_bool ?_)
  rename St _ _ _ _ _ _ _ _ _ _ _ => S
  constructor
  · intro hq
    have hq : ((Builtin.Int.intBits a : Nat) : Int) - n ≤ 4000 := by simpa using hq
    (with_reducible refine X_ret ?_); (with_reducible refine' Call_ ?_ ?a41q; (case a41q => with_unfolding_all rfl)); (with_reducible refine' rdG ?S42q ?k42q ?_; (case S42q => assumption); (case k42q => walk_at "m_mem")); (with_reducible refine' callWith_builtin1 ?_ ?a43q ?b43q; (case a43q => with_unfolding_all rfl); (case b43q => with_unfolding_all rfl)); walk_at "ac"; walk_at "n"; walk_at "ac"; walk_at "n"; (with_reducible refine args_nil ?_)
    refine divmodB S (Int.ne_of_gt hb0) (noPyl (by rw [hbits]; exact Int.ofNat_le.mp (Int.le_add_of_sub_left_le hq))) fun p u1 u2 s' S hp => ?_
    rw [Int.fdiv_eq_ediv_of_nonneg _ (Int.le_of_lt hb0), Int.fmod_eq_emod_of_nonneg _ (Int.le_of_lt hb0)] at S
    exact hQb _ _ (hQ _ u1 u2 _ S.same S.keep S.tb (S.fr (by assumption)) (S.get (.head _)))
  · intro hq
    have hq : ¬ ((Builtin.Int.intBits a : Nat) : Int) - n ≤ 4000 := by simpa using hq
    (with_reducible refine X_nilK ?_); (with_reducible refine' X_asg ?_ ?a46q; (case a46q => with_unfolding_all rfl)); rename St _ _ _ _ _ _ _ _ _ _ _ => S; refine EvI.run (.land (.name (by walk_at "m_at")) .const) S fun t9 s9 S => ?_; walk_at "w"
    rename St _ _ _ _ _ _ _ _ _ _ _ => S
    rw [PyProof.Rows.bitAnd_m1, show ((n : Int) % 2) = ((n % 2 : Nat) : Int) from rfl] at S
    have hn4 : 4000 < n := Int.ofNat_lt.mp (Int.lt_of_lt_of_le (Int.not_le.mp hq) (Int.sub_left_le_of_le_add (Int.ofNat_le.mpr habits)))
    refine X_ifJ (fun s' => ∃ (aA aB : Int) (aN : Nat) (tA tB tN tp : Tok), St w mg mb s L cs l2 g2 [some (.int aA tA), some (.int aB tB), some (.int (aN : Int) tN), some (.int ((n % 2 : Nat) : Int) tp), none, none, none, none, none, none, none] [] s'
      ∧ ((n % 2 = 0 ∧ aA = a ∧ aB = b ∧ aN = n) ∨ (n % 2 = 1 ∧ aA = a * 2 ∧ aB = b * 2 ∧ aN = n + 1))) ?_ ?_
    · (with_reducible refine' isTrue_plain ?_ ?a47q; (case a47q => with_unfolding_all rfl)); walk_at "n"; (with_reducible refine PyProof.Rows.truthy_int ?_)
      constructor
      · intro hc
        have hc : n % 2 ≠ 0 := fun q => by rw [q] at hc; simp at hc
        (with_reducible refine X_aug ?_); (with_reducible refine' rdLn ?S50q ?k50q ?_; (case S50q => assumption); (case k50q => walk_at "m_at")); ((rename St _ _ _ _ _ _ _ _ _ _ _ => Z0); with_reducible refine E_int Z0 ?_; clear Z0; intro tX sX SX); ((rename St _ _ _ _ _ _ _ _ _ _ _ => Z0); with_reducible refine O_ishl Z0 ?_ ?_  ?_; rotate_left 2; clear Z0; intro tX sX SX; rotate_left)
        · decide
        · exact shl_ok (n := 1) (Nat.le_trans (Nat.succ_le_succ (Nat.le_trans habits (Nat.add_le_add P.nb P.nb))) (by decide))
        walk_at "w"; (with_reducible refine X_aug ?_); (with_reducible refine' rdLn ?S54q ?k54q ?_; (case S54q => assumption); (case k54q => walk_at "m_at")); ((rename St _ _ _ _ _ _ _ _ _ _ _ => Z0); with_reducible refine E_int Z0 ?_; clear Z0; intro tX sX SX); ((rename St _ _ _ _ _ _ _ _ _ _ _ => Z0); with_reducible refine O_ishl Z0 ?_ ?_  ?_; rotate_left 2; clear Z0; intro tX sX SX; rotate_left)
        · decide
        · exact shl_ok (n := 1) (Nat.le_trans (Nat.succ_le_succ (Nat.le_trans (Nat.le_of_eq hbits) P.nb)) (by decide))
        walk_at "w"; (with_reducible refine X_aug ?_); (with_reducible refine' rdLn ?S58q ?k58q ?_; (case S58q => assumption); (case k58q => walk_at "m_at")); ((rename St _ _ _ _ _ _ _ _ _ _ _ => Z0); with_reducible refine E_int Z0 ?_; clear Z0; intro tX sX SX); ((rename St _ _ _ _ _ _ _ _ _ _ _ => Z0); with_reducible refine O_iadd Z0 ?_; clear Z0; intro tX sX SX); walk_at "w"
        rename St _ _ _ _ _ _ _ _ _ _ _ => S
        exact X_nil ⟨rfl, _, _, n + 1, _, _, _, _, S, .inr ⟨(Nat.mod_two_eq_zero_or_one n).resolve_left hc, rfl, rfl, rfl⟩⟩
      · intro hc
        have hc : n % 2 = 0 := (Nat.mod_two_eq_zero_or_one n).elim id fun q => by rw [q] at hc; simp at hc
        exact X_nil ⟨rfl, _, _, _, _, _, _, _, S, .inl ⟨hc, rfl, rfl, rfl⟩⟩
    · rintro s3 ⟨aA, aB, aN, tA, tB, tN, tp, S, hcase⟩
      obtain ⟨h, hh⟩ : ∃ h, h = (n + 1) / 2 := ⟨_, rfl⟩
      have K := Cut.of P hh hcase
      have hfd : (aN : Int) / 2 = (h : Int) := by have := K.hH; clear S; lia
      have hB0 := Int.le_of_lt K.pos
      have P1 := K.pre1
      have P2 := K.pre2
      (with_reducible refine' X_asg ?_ ?a61q; (case a61q => with_unfolding_all rfl)); rename St _ _ _ _ _ _ _ _ _ _ _ => S; refine EvI.run (.shr1 (.name (by walk_at "m_at"))) S fun t9 s9 S => ?_; walk_at "w"
      rename St _ _ _ _ _ _ _ _ _ _ _ => S
      rw [hfd] at S
      (with_reducible refine' X_asg ?_ ?a62q; (case a62q => with_unfolding_all rfl)); rename St _ _ _ _ _ _ _ _ _ _ _ => S; refine EvI.run (.sub (.shlN .const (.name (by walk_at "m_at")) (P1.room (by rw [show Builtin.Int.intBits 1 = 1 from rfl]; exact Nat.succ_le_succ (Nat.zero_le _)))) .const) S fun t9 s9 S => ?_; walk_at "w"
      rename St _ _ _ _ _ _ _ _ _ _ _ => S
      rw [Int.one_mul] at S
      refine X_swp ?_ (swp2 S.nm (by decide) (by decide) (by decide) rfl rfl rfl rfl)
      (with_reducible refine Tuple_ ?_); walk_at "ac"; rename St _ _ _ _ _ _ _ _ _ _ _ => S; refine EvI.run (.shrN (.name (by walk_at "m_at")) (.name (by walk_at "m_at")) hB0) S fun t9 s9 S => ?_; walk_at "ac"; rename St _ _ _ _ _ _ _ _ _ _ _ => S; refine EvI.run (.land (.name (by walk_at "m_at")) (.name (by walk_at "m_at"))) S fun t9 s9 S => ?_; (with_reducible refine args_nil ?_); ((rename St _ _ _ _ _ _ _ _ _ _ _ => Z0); with_reducible refine newTup Z0 ?z65q ?_; (case z65q => size_fits); clear Z0; intro pX sX SX hp9 hk9; clear hk9)
      rename St _ _ _ _ _ _ _ _ _ _ _ => S
      rw [and_mask _ hB0] at S
      refine swpT2 S hA' (by walk_at "m_mem") (by walk_at "m_put") (by walk_at "m_put") fun s' S => ?_
      (with_reducible refine' X_tup ?_ ?a66q ?b66q; (case a66q => with_unfolding_all rfl); (case b66q => with_unfolding_all rfl)); (with_reducible refine' Call_ ?_ ?a67q; (case a67q => with_unfolding_all rfl)); (with_reducible refine' rdG ?S68q ?k68q ?_; (case S68q => assumption); (case k68q => walk_at "m_mem")); (with_reducible refine' C_def ?S69q ?f69q ?_ ?a69q ?b69q; (case S69q => assumption); (case f69q => decide); (case a69q => with_unfolding_all rfl); (case b69q => with_unfolding_all rfl)); walk_at "ac"; rename St _ _ _ _ _ _ _ _ _ _ _ => S; refine EvI.run (.shrN (.name (by walk_at "m_at")) (.name (by walk_at "m_at")) K.a0) S fun t9 s9 S => ?_; walk_at "ac"; rename St _ _ _ _ _ _ _ _ _ _ _ => S; refine EvI.run (.land (.shrN (.name (by walk_at "m_at")) (.name (by walk_at "m_at")) K.a0) (.name (by walk_at "m_at"))) S fun t9 s9 S => ?_; walk_at "ac"; walk_at "n"; walk_at "ac"; walk_at "n"; walk_at "ac"; walk_at "n"; walk_at "ac"; walk_at "n"; (with_reducible refine args_nil ?_); (with_reducible refine' And.intro (St.cur ?S71q) ?_; (case S71q => assumption))
      rw [and_mask _ (Int.ediv_nonneg K.a0 (Int.le_of_lt (two_pow_pos h)))]
      rename St _ _ _ _ _ _ _ _ _ _ _ => S
      refine (C hn4 _ _ _ _ _ _ hh P1).use S hA' hd' fun p u1 u2 s' S => asgT2 S hA' (by walk_at "m_mem") (by walk_at "m_put") (by walk_at "m_put") fun s'' S => ?_
      rw [K.num1] at S
      (with_reducible refine' X_tup ?_ ?a72q ?b72q; (case a72q => with_unfolding_all rfl); (case b72q => with_unfolding_all rfl)); (with_reducible refine' Call_ ?_ ?a73q; (case a73q => with_unfolding_all rfl)); (with_reducible refine' rdG ?S74q ?k74q ?_; (case S74q => assumption); (case k74q => walk_at "m_mem")); (with_reducible refine' C_def ?S75q ?f75q ?_ ?a75q ?b75q; (case S75q => assumption); (case f75q => decide); (case a75q => with_unfolding_all rfl); (case b75q => with_unfolding_all rfl)); walk_at "ac"; walk_at "n"; walk_at "ac"; rename St _ _ _ _ _ _ _ _ _ _ _ => S; refine EvI.run (.land (.name (by walk_at "m_at")) (.name (by walk_at "m_at"))) S fun t9 s9 S => ?_; walk_at "ac"; walk_at "n"; walk_at "ac"; walk_at "n"; walk_at "ac"; walk_at "n"; walk_at "ac"; walk_at "n"; (with_reducible refine args_nil ?_); (with_reducible refine' And.intro (St.cur ?S77q) ?_; (case S77q => assumption))
      rw [and_mask _ K.a0]
      rename St _ _ _ _ _ _ _ _ _ _ _ => S
      refine (C hn4 _ _ _ _ _ _ hh P2).use S hA' hd' fun p u1 u2 s' S => asgT2 S hA' (by walk_at "m_mem") (by walk_at "m_put") (by walk_at "m_put") fun s'' S => ?_
      obtain ⟨f1, f2, f3, f4, f5⟩ := K.fin
      rw [f5] at S
      have hz : Builtin.Int.intBits (aA / 2 ^ h / aB) + h ≤ 134217728 := by
        have h1 : aA / 2 ^ h / aB ≤ aA := Int.le_trans (Int.ediv_le_self _ (Int.ediv_nonneg K.a0 (Int.le_of_lt (two_pow_pos h)))) (Int.ediv_le_self _ K.a0)
        have h2 : aA < 2 ^ (n + n + 1) := by
          rw [Int.pow_succ]
          rcases hcase with ⟨_, e, _⟩ | ⟨_, e, _⟩ <;> rw [e]
          · rw [mul2]; exact Int.lt_of_lt_of_le hab (Int.le_add_of_nonneg_left (Int.le_of_lt (two_pow_pos _)))
          · exact Int.mul_lt_mul_of_pos_right hab (by decide)
        exact Nat.le_trans (Nat.add_le_add (Nat.le_trans (bits_le f1 (Int.lt_of_le_of_lt h1 h2)) (Nat.succ_le_succ (Nat.add_le_add P.nb P.nb))) K.hb) (by decide)
      (with_reducible refine X_if ?_); (with_reducible refine' isTrue_plain ?_ ?a79q; (case a79q => with_unfolding_all rfl)); walk_at "n"; (with_reducible refine PyProof.Rows.truthy_int ?_)
      constructor
      · intro hc
        have hc : n % 2 ≠ 0 := fun q => by rw [q] at hc; simp at hc
        (with_reducible refine X_aug ?_); (with_reducible refine' rdLn ?S82q ?k82q ?_; (case S82q => assumption); (case k82q => walk_at "m_at")); ((rename St _ _ _ _ _ _ _ _ _ _ _ => Z0); with_reducible refine E_int Z0 ?_; clear Z0; intro tX sX SX); ((rename St _ _ _ _ _ _ _ _ _ _ _ => Z0); with_reducible refine O_ishr Z0 ?_  ?_; rotate_left 1; clear Z0; intro tX sX SX; rotate_left)
        · decide
        walk_at "w"; (with_reducible refine X_nilK ?_); (with_reducible refine X_ret ?_); (with_reducible refine Tuple_ ?_); walk_at "ac"; rename St _ _ _ _ _ _ _ _ _ _ _ => S; refine EvI.run (.lor (.shlN (.name (by walk_at "m_at")) (.name (by walk_at "m_at")) hz) (.name (by walk_at "m_at"))) S fun t9 s9 S => ?_; walk_at "ac"; walk_at "n"; (with_reducible refine args_nil ?_); ((rename St _ _ _ _ _ _ _ _ _ _ _ => Z0); with_reducible refine newTup Z0 ?z89q ?_; (case z89q => size_fits); clear Z0; intro pX sX SX hp9 hk9; clear hk9)
        rename St _ _ _ _ _ _ _ _ _ _ _ => S
        rcases hcase with ⟨e, _⟩ | ⟨_, e1, e2, _⟩
        · exact absurd e hc
        rw [or_disj _ f1 f2 f3, f4, e1, e2] at S
        have e3 : a * 2 / (b * 2) = a / b := Int.mul_ediv_mul_of_pos_left _ _ (by decide)
        have e4 : (a * 2 % (b * 2)).fdiv (2 ^ (1 : Int).toNat) = a % b := by
          show (a * 2 % (b * 2)).fdiv 2 = _
          rw [Int.mul_comm a 2, Int.mul_comm b 2, Int.mul_emod_mul_of_pos _ _ (by decide : (0 : Int) < 2), Int.fdiv_eq_ediv_of_nonneg _ (by decide)]
          exact Int.mul_ediv_cancel_left _ (by decide)
        rw [e3, e4] at S
        exact hQb _ _ (hQ _ _ _ _ S.same S.keep S.tb (S.fr (by assumption)) (S.get (.head _)))
      · intro hc
        have hc : n % 2 = 0 := (Nat.mod_two_eq_zero_or_one n).elim id fun q => by rw [q] at hc; simp at hc
        (with_reducible refine X_nilK ?_); (with_reducible refine X_ret ?_); (with_reducible refine Tuple_ ?_); walk_at "ac"; rename St _ _ _ _ _ _ _ _ _ _ _ => S; refine EvI.run (.lor (.shlN (.name (by walk_at "m_at")) (.name (by walk_at "m_at")) hz) (.name (by walk_at "m_at"))) S fun t9 s9 S => ?_; walk_at "ac"; walk_at "n"; (with_reducible refine args_nil ?_); ((rename St _ _ _ _ _ _ _ _ _ _ _ => Z0); with_reducible refine newTup Z0 ?z94q ?_; (case z94q => size_fits); clear Z0; intro pX sX SX hp9 hk9; clear hk9)
        rename St _ _ _ _ _ _ _ _ _ _ _ => S
        rcases hcase with ⟨_, e1, e2, _⟩ | ⟨e, _⟩
        · rw [or_disj _ f1 f2 f3, f4, e1, e2] at S
          exact hQb _ _ (hQ _ _ _ _ S.same S.keep S.tb (S.fr (by assumption)) (S.get (.head _)))
        · exact absurd (hc.symm.trans e) (by decide)
theorem d2_all : ∀ (k : Nat) (a b : Int) (n : Nat), Pre2 a b n → n ≤ 4000 * 2 ^ k → D2 w mg mb (2 * k + 1) a b n := by
  intro k
  induction k with
  | zero =>
    intro a b n P hn
    exact d2_body (d := 0) P fun h => absurd hn (Nat.not_le.mpr h)
  | succ k ih =>
    intro a b n P hn
    refine d2_body (d := 2 * k + 2) P fun h4 a12 a3 B b1 b2 h hh P3 => d3_body P3 fun hlt => ih _ _ _ ⟨P3.n1, P3.nb, P3.h6, P3.h0, P3.h1, hlt⟩ ?_
    rw [Nat.pow_succ] at hn
    lia
end
section
variable {w : World} {mg mb : Str → Option Value}
/- the digits of x by p, the lowest first -/
noncomputable def digs (p : Int) : Nat → Int → List Int
  | 0, _ => []
  | k + 1, x => x % p :: digs p k (x / p)
theorem digs_length (p : Int) : ∀ k x, (digs p k x).length = k
  | 0, _ => rfl
  | k + 1, x => by rw [digs, List.length_cons, digs_length]
theorem digs_split {p : Int} (hp : 0 < p) : ∀ (j k : Nat) (x : Int), digs p (j + k) x = digs p j (x % p ^ j) ++ digs p k (x / p ^ j)
  | 0, k, x => by simp [digs]
  | j + 1, k, x => by
    have hpj : 0 < p ^ j := Int.pow_pos hp
    rw [Nat.add_right_comm j 1 k, digs, digs, digs_split hp j k (x / p)]
    have e1 : x % p ^ (j + 1) % p = x % p := Int.emod_emod_of_dvd _ ⟨p ^ j, by rw [Int.pow_succ, Int.mul_comm]⟩
    have e2 : x / p ^ (j + 1) = x / p / p ^ j := by rw [Int.pow_succ, Int.mul_comm, ← Int.ediv_ediv_of_nonneg (Int.le_of_lt hp)]
    have e3 : x % p ^ (j + 1) / p = x / p % p ^ j := by
      have h1 := ediv_mod x p
      have h2 := ediv_mod (x / p) (p ^ j)
      have h3 := Int.emod_nonneg x (b := p) (Int.ne_of_gt hp)
      have h4 := Int.emod_lt_of_pos x hp
      have h5 := Int.emod_nonneg (x / p) (b := p ^ j) (Int.ne_of_gt hpj)
      have h6 := Int.emod_lt_of_pos (x / p) hpj
      have h7 : x = x / p / p ^ j * p ^ (j + 1) + (x / p % p ^ j * p + x % p) := by
        conv => lhs; rw [h1, h2]
        rw [Int.pow_succ, Int.add_mul, Int.mul_assoc, Int.add_assoc]
      have h8 : x / p % p ^ j * p + x % p < p ^ (j + 1) := by
        have : (x / p % p ^ j + 1) * p ≤ p ^ j * p := Int.mul_le_mul_of_nonneg_right (Int.add_one_le_of_lt h6) (Int.le_of_lt hp)
        rw [Int.add_mul, Int.one_mul] at this
        rw [Int.pow_succ]; exact Int.lt_of_lt_of_le (Int.add_lt_add_left h4 _) this
      have h9 : 0 ≤ x / p % p ^ j * p := Int.mul_nonneg h5 (Int.le_of_lt hp)
      obtain ⟨_, e⟩ := div_uniq h7 (Int.add_nonneg h9 h3) h8
      rw [e]
      exact (div_uniq rfl h3 h4).1
    rw [e1, e2, e3]; rfl
theorem ints_setL {x : Int} {u : Tok} : ∀ {vs : List Value} {ns : List Int}, IntsAre vs ns → ∀ j : Nat, IntsAre (vs.set j (.int x u)) (ns.set j x) := fun h j => ints_set h j
/- one place written, as a piece -/
theorem set_piece (ds : List Int) (k : Nat) (x : Int) (h : k < ds.length) : ds.set k x = ds.take k ++ [x] ++ ds.drop (k + 1) := by
  rw [List.set_eq_take_append_cons_drop, if_pos h]; simp
theorem piece (ds D1 D2 : List Int) (lo mid hi : Nat) (h1 : lo ≤ mid) (h2 : mid ≤ hi) (h3 : hi ≤ ds.length) (hD1 : D1.length = mid - lo) :
    (ds.take lo ++ D1 ++ ds.drop mid).take mid ++ D2 ++ (ds.take lo ++ D1 ++ ds.drop mid).drop hi = ds.take lo ++ (D1 ++ D2) ++ ds.drop hi := by
  have e0 : (ds.take lo ++ D1).length = mid := by rw [List.length_append, List.length_take, hD1, Nat.min_eq_left (Nat.le_trans h1 (Nat.le_trans h2 h3))]; exact Nat.add_sub_cancel' h1
  rw [List.take_append_of_le_length (Nat.le_of_eq e0.symm), List.take_of_length_le (Nat.le_of_eq e0), List.drop_append, e0, List.drop_of_length_le (Nat.le_trans (Nat.le_of_eq e0) h2 : (ds.take lo ++ D1).length ≤ hi), List.nil_append, List.drop_drop, Nat.add_sub_cancel' h2]
  simp
theorem ints_rep (k : Nat) (x : Int) (t : Tok) : IntsAre (List.replicate k (.int x t)) (List.replicate k x) := by
  induction k with
  | zero => exact .nil
  | succ k ih => rw [List.replicate_succ, List.replicate_succ]; exact .cons _ _ ih
noncomputable abbrev lI : List Str := ["a"]
noncomputable abbrev gI : List (Str × Value) := [("len", .builtin "len")]
theorem i2d (a : Int) (n : Nat) (ha : 0 ≤ a) (hab : Builtin.Int.intBits a ≤ 1000000) (hn : 1 ≤ n) (hnb : n ≤ 1000000) (A : Around) (Q E : Value → Shared → Prop) (s0 : Shared) (t1 t2 : Tok) (W : Wd w mg mb s0.heap) (T : Tb s0.heap) (hA : A.handled = none) (hdp : A.depth + 40 < recursionLimit)
    (hQ : ∀ l vs s', Same s0 s' → Keep s0.heap s'.heap → Tb s'.heap → Fresh s0.heap l → Is s'.heap l (.lst vs) → IntsAre vs (digs (2 ^ n) ((((Builtin.Int.intBits a : Nat) : Int) + n - 1) / n).toNat a) → Q (.ref l) s') :
    wpAny (model PR w) A (call (.ref 52) [.int a t1, .int (n : Int) t2]) Q E s0 := by
  refine enterC (locs := lI) (globs := gI) (binds := [("a", .int a t1), ("n", .int (n : Int) t2)]) (vals := [some (.int a t1)])
    (fun n => [("inner", n + 2), ("a_digits", n + 1), ("n", n)]) (fun L => [(L + 1, .cell (some (.int (n : Int) t2))), (L + 1 + 1, .cell none), (L + 1 + 2, .cell none)]) W T (by walk_at "om") (by k_is) (by k_is) (BindsTo.of_eq rfl) (fun n => rfl) rfl
    (fun L => List.forall_mem_cons.mpr ⟨⟨"n", rfl, rfl⟩, List.forall_mem_cons.mpr ⟨⟨"a_digits", rfl, rfl⟩, List.forall_mem_cons.mpr ⟨⟨"inner", rfl, rfl⟩, List.forall_mem_nil _⟩⟩⟩)
    ⟨rfl, by decide +kernel, kl_of rfl, kg_B W rfl rfl (by k_is) (by boot_fast) (by decide) kg_nil⟩ (fun L => HasAll.cons rfl trivial) rfl rfl (R := fun cs => Ck .cell cs "n" ∧ Ck .cell cs "a_digits" ∧ Ck .cell cs "inner") ⟨⟨rfl, rfl, rfl⟩, ⟨rfl, rfl, rfl⟩, ⟨rfl, rfl, rfl⟩⟩
    fun cs L s₁ ⟨hk1, hk2, hk3⟩ S => ?_
  have o1 : L < L + 1 := Nat.lt_succ_self _
  have o2 : L + 1 < L + 1 + 1 := Nat.lt_succ_self _
  have o3 : L + 1 + 1 < L + 1 + 2 := Nat.lt_succ_self _
  generalize L + 1 + 2 = c3 at *
  generalize L + 1 + 1 = c2 at *
  generalize L + 1 = c1 at *
  have hA' : (A.deeper (envX (Str.ofString "_int2digits") cs L 52 (Value.ref 51) [("inner", c3), ("a_digits", c2), ("n", c1)])).handled = none := hA
  have hd' : (A.deeper (envX (Str.ofString "_int2digits") cs L 52 (Value.ref 51) [("inner", c3), ("a_digits", c2), ("n", c1)])).depth + 39 < recursionLimit := by show A.depth + 1 + 39 < _; walk_at "om"
  generalize A.deeper _ = A' at *
  refine A_gen2 fun Qb Eb hQb => ?_
  (with_reducible refine' X_asg ?_ ?a95q; (case a95q => with_unfolding_all rfl)); (with_reducible refine wpAny_BinOp ?_); (with_reducible refine List_ ?_); walk_at "ac"; ((rename St _ _ _ _ _ _ _ _ _ _ _ => Z0); with_reducible refine E_int Z0 ?_; clear Z0; intro tX sX SX); (with_reducible refine args_nil ?_); rename St _ _ _ _ _ _ _ _ _ _ _ => S; refine newLst S (by size_fits) fun p9 s9 S hlp0 hlt0 => ?_
  have o4 : c3 < p9 := hlt0.2.2.1
  clear hlt0
  (with_reducible refine wpAny_BinOp ?_); (with_reducible refine wpAny_BinOp ?_); (with_reducible refine wpAny_BinOp ?_); (with_reducible refine' MethodCall_ ?_ ?a103q; (case a103q => with_unfolding_all rfl)); walk_at "n"; (with_reducible refine getMethod_int_bit_length ?_); (with_reducible refine callWith_method0 ?_); ((rename St _ _ _ _ _ _ _ _ _ _ _ => Z0); with_reducible refine M_bits Z0 ?_; clear Z0; intro tX sX SX); (with_reducible refine' rdC ?S107q ?hk107q ?hc107q ?k107q ?_; (case S107q => assumption); (case hk107q => assumption); (case hc107q => with_unfolding_all rfl); (case k107q => walk_at "m_mem")); ((rename St _ _ _ _ _ _ _ _ _ _ _ => Z0); with_reducible refine O_add Z0 ?_; clear Z0; intro tX sX SX); ((rename St _ _ _ _ _ _ _ _ _ _ _ => Z0); with_reducible refine E_int Z0 ?_; clear Z0; intro tX sX SX); ((rename St _ _ _ _ _ _ _ _ _ _ _ => Z0); with_reducible refine O_sub Z0 ?_; clear Z0; intro tX sX SX); (with_reducible refine' rdC ?S111q ?hk111q ?hc111q ?k111q ?_; (case S111q => assumption); (case hk111q => assumption); (case hc111q => with_unfolding_all rfl); (case k111q => walk_at "m_mem"))
  rename St _ _ _ _ _ _ _ _ _ _ _ => S
  have hn0 : 0 ≤ (n : Int) := Int.natCast_nonneg n
  have hN0 : 0 ≤ ((Builtin.Int.intBits a : Nat) : Int) + n - 1 := by walk_at "om"
  have hx : ((((Builtin.Int.intBits a : Nat) : Int) + n - 1)).fdiv n = (((Builtin.Int.intBits a : Nat) : Int) + n - 1) / n := Int.fdiv_eq_ediv_of_nonneg _ hn0
  have hx0 : 0 ≤ (((Builtin.Int.intBits a : Nat) : Int) + n - 1) / n := Int.ediv_nonneg hN0 hn0
  have hx1 : (((Builtin.Int.intBits a : Nat) : Int) + n - 1) / n ≤ 2000000 := Int.le_trans (Int.ediv_le_self _ hN0) (by walk_at "om")
  refine O_div S (Int.ne_of_gt (Int.ofNat_lt.mpr hn)) (noPyl (Nat.le_trans (bits_le (k := 64) hN0 (by walk_at "om")) (Nat.le_trans (by decide) (Nat.le_add_left ..)))) fun t s S => ?_
  rw [hx]
  refine mulL S (by walk_at "m_mem") hx0 (Int.le_trans hx1 (by decide)) fun l s S hl1 hl2 => ?_
  have o5 : p9 < l := hl2.1
  clear hl2
  ((rename St _ _ _ _ _ _ _ _ _ _ _ => Z0); with_reducible refine' wrC Z0 ?hk112q ?hc112q ?k112q ?_; (case hk112q => assumption); (case hc112q => with_unfolding_all rfl); (case k112q => walk_at "m_upd"); clear Z0; intro sX SX)
  rename St _ _ _ _ _ _ _ _ _ _ _ => S
  refine X_defN rfl rfl rfl ?_
  rw [qualIn hk3]
  refine mkFn S (by simp [Knd.plain]) rfl (.inr rfl) S.cur.c2 rfl rfl rfl S.tb.a (fun h' hk ht => ⟨ht, S.tb.b.but hk (by decide) (by decide)⟩) fun f c' ctv doc FO s hFO S hf1 hf2 hf3 hf4 => ?_
  have o6 : l < f := hf3.1
  have g1 : l ≠ c' := hf4.1
  have g2 : c1 ≠ c' := hf4.2.2.1
  have g3 : c2 ≠ c' := hf4.2.2.2.1
  have g4 : c3 ≠ c' := hf4.2.2.2.2.1
  clear hf3 hf4
  have hbig := S.big
  ((rename St _ _ _ _ _ _ _ _ _ _ _ => Z0); with_reducible refine' wrC Z0 ?hk113q ?hc113q ?k113q ?_; (case hk113q => assumption); (case hc113q => with_unfolding_all rfl); (case k113q => walk_at "m_upd"); clear Z0; intro sX SX)
  rename St _ _ _ _ _ _ _ _ _ _ _ => S
  have hc58 : 58 < c' := (S.N _ (List.mem_cons_of_mem _ List.mem_cons_self)).2.2.1
  have hFn : ∀ h : Heap, Is h f (.obj FO) → FnAt f h := fun h e => by rw [hFO] at e; exact ⟨_, _, _, _, e.obj⟩
  have IN : ∀ (m k b e : Nat) (x : Int) (ds : List Int) (vs : List Value) (A : Around) (Q E : Value → Shared → Prop) (s : Shared) (u1 u2 u3 : Tok), e = b + k → 0 < k → k ≤ 2 ^ m → e ≤ ds.length → n * ds.length ≤ 2000000 → 0 ≤ x → x < (2 ^ n) ^ k → IntsAre vs ds →
      Wd w mg mb s.heap → Tb s.heap → A.handled = none → A.depth + m < recursionLimit → Is s.heap f (.obj FO) → Is s.heap c' (.code inQ1) → Is s.heap c1 (.cell (some (.int (n : Int) t2))) → Is s.heap c2 (.cell (some (.ref l))) → Is s.heap c3 (.cell (some (.ref f))) → Is s.heap l (.lst vs) →
      (∀ s' vs', Same s s' → Keep (hideAll s.heap [l]) s'.heap → Tb s'.heap → IntsAre vs' (ds.take b ++ digs (2 ^ n) k x ++ ds.drop e) → Is s'.heap l (.lst vs') → Q .none s') →
      wpAny (model PR w) A (call (.ref f) [.int x u1, .int (b : Int) u2, .int (e : Int) u3]) Q E s := by
    clear S
    have hFn' : ∀ h : Heap, Is h f (.old (.obj FO)) → FnAt f h := fun h e => hFn h e.unold
    clear hk1 hk2 hk3
    intro m
    induction m using Nat.strongRecOn with
    | ind m ih =>
      intro k b e x ds vs A Q E s u1 u2 u3 hk hk0 hkm h2 h3 hx hxb hI W T hA hdp i1 i2 i3 i4 i5 i6 hQ
      have i1' := i1
      rw [hFO] at i1'
      refine enterF [l] (locs := ["x", "L", "R", "mid", "shift", "upper", "lower"]) (globs := []) (binds := [("x", .int x u1), ("L", .int (b : Int) u2), ("R", .int (e : Int) u3)]) (vals := [some (.int x u1), some (.int (b : Int) u2), some (.int (e : Int) u3), none, none, none, none])
        W (W.hide i6 (by walk_at "om")) T (by walk_at "om") i1' i2.code (BindsTo.of_eq rfl) (by decide) (locs rfl) ⟨rfl, by decide +kernel, kl_of rfl, kg_nil⟩
        (HasAll.cons rfl (HasAll.cons rfl (HasAll.cons rfl (HasAll.skip (HasAll.skip (HasAll.skip (HasAll.skip trivial))))))) rfl rfl (R := fun cs => Ck .free cs "n" ∧ Ck .free cs "a_digits" ∧ Ck .free cs "inner") ⟨⟨rfl, rfl, rfl⟩, ⟨rfl, rfl, rfl⟩, ⟨rfl, rfl, rfl⟩⟩
        fun cs L' s₁ ⟨hk1, hk2, hk3⟩ S hkp hsz => ?_
      clear i1'
      generalize hAA : A.deeper _ = A'
      refine A_gen2 fun Qb Eb hQb => ?_
      have hA' : A'.handled = none := by rw [← hAA]; exact hA
      have hdA : A'.depth = A.depth + 1 := by rw [← hAA]; rfl
      clear hAA
      have hlen := hI.length
      have h3' : ds.length ≤ 2000000 := Nat.le_trans (Nat.le_mul_of_pos_left _ (hn)) h3
      have h58 : 58 < l := Nat.lt_trans (Nat.lt_trans (Nat.lt_trans (Nat.lt_trans (Nat.lt_trans hbig o1) o2) o3) o4) o5
      have hlL : l < L' := Nat.lt_of_lt_of_le i6.lt hsz
      have S := ((((((S.base (i5.hide (by walk_at "om")) (by walk_at "om")).base (i4.hide (by walk_at "om")) (by walk_at "om")).base (i3.hide (by walk_at "om")) (by walk_at "om")).base (i2.hide (fun q => g1 q.symm)) hc58).base (i1.hide (by walk_at "om")) (by walk_at "om")).addN
        (i6.keep fun o => hkp l o (by walk_at "om") (by walk_at "om")) (by walk_at "om") (by walk_at "om") (hideAll_none _ (.head _)))
      have hbe : b < e := hk ▸ Nat.lt_add_of_pos_right hk0
      (with_reducible refine X_if ?_); (with_reducible refine' wpAny_isTrue_Compare1 ?_ ?a115q; (case a115q => with_unfolding_all rfl)); rename St _ _ _ _ _ _ _ _ _ _ _ => S; refine EvI.run (.add (.name (by walk_at "m_at")) .const) S fun t9 s9 S => ?_; walk_at "n"; (with_reducible refine PyProof.Rows.eq_int ?_); (with_reducible refine wpAny_truthy_bool ?_)
      rename St _ _ _ _ _ _ _ _ _ _ _ => S
      constructor
      · intro hq
        have hq : e = b + 1 := by
          have hq : (b : Int) + 1 = e := by simpa using hq
          exact (Int.ofNat.inj hq).symm
        obtain rfl : k = 1 := Nat.add_left_cancel (hk.symm.trans hq)
        clear hk
        refine X_asgS ?_
        walk_at "n"; (with_reducible refine' rdF ?S118q ?hk118q ?hc118q ?k118q ?_; (case S118q => assumption); (case hk118q => assumption); (case hc118q => with_unfolding_all rfl); (case k118q => walk_at "m_mem")); walk_at "n"
        refine setL S (by walk_at "m_upd") (Int.natCast_nonneg b) (Int.lt_of_lt_of_le (Int.ofNat_lt.mpr (Nat.lt_of_lt_of_le (Nat.lt_of_lt_of_le hbe h2) h3')) (by decide)) (Int.ofNat_lt.mpr (by rw [hlen]; exact Nat.lt_of_lt_of_le hbe h2)) fun s' S => X_ret0 ?_
        have e2 : x % 2 ^ n = x := Int.emod_eq_of_lt hx (by rw [Int.pow_succ, Int.pow_zero, Int.one_mul] at hxb; exact hxb)
        refine hQb _ _ (hQ _ _ S.same S.keep S.tb ?_ (S.get List.mem_cons_self))
        have := ints_setL (x := x) (u := u1) hI b
        rw [set_piece _ _ _ (Nat.lt_of_lt_of_le hbe h2)] at this
        simp only [digs]
        rw [e2, hq]
        exact this
      · intro hq
        have hq : k ≠ 1 := fun q => by subst q; rw [hk] at hq; simp at hq
        have hp := two_pow_pos n
        (with_reducible refine X_nilK ?_); (with_reducible refine' X_asg ?_ ?a120q; (case a120q => with_unfolding_all rfl)); (with_reducible refine wpAny_BinOp ?_); rename St _ _ _ _ _ _ _ _ _ _ _ => S; refine EvI.run (.add (.name (by walk_at "m_at")) (.name (by walk_at "m_at"))) S fun t9 s9 S => ?_; ((rename St _ _ _ _ _ _ _ _ _ _ _ => Z0); with_reducible refine E_int Z0 ?_; clear Z0; intro tX sX SX); ((rename St _ _ _ _ _ _ _ _ _ _ _ => Z0); with_reducible refine O_shr Z0 ?_  ?_; rotate_left 1; clear Z0; intro tX sX SX; rotate_left)
        · decide
        walk_at "w"
        rename St _ _ _ _ _ _ _ _ _ _ _ => S
        have hfd : ((b : Int) + (e : Int)).fdiv (2 ^ (1 : Int).toNat) = ((b : Int) + (e : Int)) / 2 := by
          show ((b : Int) + (e : Int)).fdiv 2 = _
          exact Int.fdiv_eq_ediv_of_nonneg _ (by decide)
        rw [hfd] at S
        obtain ⟨j, i, m', rfl, hjk, rfl, hj0, hi0, hj2, hi2⟩ := halfF hq hk0 hkm
        have hd' : A'.depth + m' < recursionLimit := by rw [hdA, Nat.add_right_comm]; exact hdp
        have hmid : ((b : Int) + (e : Int)) / 2 = ((b + j : Nat) : Int) := by rw [← hjk, hk]; lia
        rw [hmid] at S
        have hjl : b + j ≤ ds.length := Nat.le_trans (hk ▸ Nat.add_le_add_left (Nat.le_add_right j i) b) h2
        have hd0 : ((b + j : Nat) : Int) - (b : Int) = (j : Int) := by rw [Int.natCast_add, Int.add_comm (b : Int)]; exact Int.add_sub_cancel ..
        have hpow : (2 : Int) ^ (j * n) = (2 ^ n) ^ j := by rw [Nat.mul_comm, Int.pow_mul]
        (with_reducible refine' X_asg ?_ ?a124q; (case a124q => with_unfolding_all rfl)); (with_reducible refine wpAny_BinOp ?_); rename St _ _ _ _ _ _ _ _ _ _ _ => S; refine EvI.run (.sub (.name (by walk_at "m_at")) (.name (by walk_at "m_at"))) S fun t9 s9 S => ?_; rw [hd0]; (with_reducible refine' rdF ?S126q ?hk126q ?hc126q ?k126q ?_; (case S126q => assumption); (case hk126q => assumption); (case hc126q => with_unfolding_all rfl); (case k126q => walk_at "m_mem")); ((rename St _ _ _ _ _ _ _ _ _ _ _ => Z0); with_reducible refine O_mul Z0 ?_  ?_; rotate_left 1; clear Z0; intro tX sX SX; rotate_left)
        · exact PySem.IntMulOk.of_le (bits_le (k := 64) (Int.natCast_nonneg j) (Int.ofNat_lt.mpr (Nat.lt_of_le_of_lt (Nat.le_trans (Nat.le_trans (Nat.le_add_left j b) hjl) h3') (by decide)))) (bits_le (k := 64) hn0 (Int.ofNat_lt.mpr (Nat.lt_of_le_of_lt hnb (by decide)))) (by decide)
        walk_at "w"; rename St _ _ _ _ _ _ _ _ _ _ _ => S
        rw [← Int.natCast_mul] at S
        (with_reducible refine' X_asg ?_ ?a128q; (case a128q => with_unfolding_all rfl)); rename St _ _ _ _ _ _ _ _ _ _ _ => S; refine EvI.run (.shrN (.name (by walk_at "m_at")) (.name (by walk_at "m_at")) hx) S fun t9 s9 S => ?_; walk_at "w"
        rename St _ _ _ _ _ _ _ _ _ _ _ => S
        have hpj : (0 : Int) < (2 ^ n) ^ j := Int.pow_pos hp
        have hu0 : 0 ≤ x / (2 ^ n) ^ j := Int.ediv_nonneg hx (Int.le_of_lt hpj)
        have hu1 : x / (2 ^ n) ^ j < (2 ^ n) ^ i := by
          refine Int.ediv_lt_of_lt_mul hpj ?_
          rw [← Int.pow_add, Nat.add_comm i j]
          exact hxb
        have hub := bits_le (k := n * i) hu0 (by rw [Int.pow_mul]; exact hu1)
        have hkl : n * j + n * i ≤ 2000000 := by
          rw [← Nat.mul_add]
          exact Nat.le_trans (Nat.mul_le_mul_left _ (Nat.le_trans (hk ▸ Nat.le_add_left (j + i) b) h2)) h3
        have hz : Builtin.Int.intBits (x / 2 ^ (j * n)) + j * n ≤ 134217728 := by rw [hpow, Nat.mul_comm j n, Nat.add_comm]; exact Nat.le_trans (Nat.le_trans (Nat.add_le_add_left hub _) hkl) (by decide)
        (with_reducible refine' X_asg ?_ ?a129q; (case a129q => with_unfolding_all rfl)); rename St _ _ _ _ _ _ _ _ _ _ _ => S; refine EvI.run (.lxor (.name (by walk_at "m_at")) (.shlN (.name (by walk_at "m_at")) (.name (by walk_at "m_at")) hz)) S fun t9 s9 S => ?_; walk_at "w"
        rename St _ _ _ _ _ _ _ _ _ _ _ => S
        rw [xor_low _ hx, hpow] at S
        have hlo0 := Int.emod_nonneg x (b := (2 ^ n) ^ j) (Int.ne_of_gt hpj)
        have hlo1 := Int.emod_lt_of_pos x hpj
        refine X_expr S.nm.kf ?_
        (with_reducible refine' Call_ ?_ ?a130q; (case a130q => with_unfolding_all rfl)); (with_reducible refine' rdF ?S131q ?hk131q ?hc131q ?k131q ?_; (case S131q => assumption); (case hk131q => assumption); (case hc131q => with_unfolding_all rfl); (case k131q => walk_at "m_mem")); (with_reducible refine' C_fn ?f132q ?S132q ?k132q ?_ ?a132q ?b132q; (case S132q => assumption); (case f132q => assumption); (case k132q => walk_at "m_mem"); (case a132q => with_unfolding_all rfl); (case b132q => with_unfolding_all rfl)); walk_at "ac"; walk_at "n"; walk_at "ac"; walk_at "n"; walk_at "ac"; walk_at "n"; (with_reducible refine args_nil ?_); (with_reducible refine' And.intro (St.get ?S134q ?k134q) ?_; (case S134q => assumption); (case k134q => walk_at "m_mem"))
        refine ih m' (Nat.lt_succ_self _) j b (b + j) _ ds vs A' _ _ _ _ _ _ rfl hj0 hj2 hjl h3 hlo0 hlo1 hI S.cur S.tb hA' hd' (S.get (by walk_at "m_mem")).unold (S.get (by walk_at "m_mem")).unold (S.get (by walk_at "m_mem")).unold (S.get (by walk_at "m_mem")).unold (S.get (by walk_at "m_mem")).unold (S.get (by walk_at "m_mem"))
          fun s' vs' e9 k1 t hI2 hl2 => ⟨(fun a q => nomatch q), ?_⟩
        have S := S.callB (by walk_at "m_upd") e9 k1 t hl2
        refine X_expr S.nm.kf ?_
        (with_reducible refine' Call_ ?_ ?a135q; (case a135q => with_unfolding_all rfl)); (with_reducible refine' rdF ?S136q ?hk136q ?hc136q ?k136q ?_; (case S136q => assumption); (case hk136q => assumption); (case hc136q => with_unfolding_all rfl); (case k136q => walk_at "m_mem")); (with_reducible refine' C_fn ?f137q ?S137q ?k137q ?_ ?a137q ?b137q; (case S137q => assumption); (case f137q => assumption); (case k137q => walk_at "m_mem"); (case a137q => with_unfolding_all rfl); (case b137q => with_unfolding_all rfl)); walk_at "ac"; walk_at "n"; walk_at "ac"; walk_at "n"; walk_at "ac"; walk_at "n"; (with_reducible refine args_nil ?_); (with_reducible refine' And.intro (St.get ?S139q ?k139q) ?_; (case S139q => assumption); (case k139q => walk_at "m_mem"))
        have hlen2 : (ds.take b ++ digs (2 ^ n) j (x % (2 ^ n) ^ j) ++ ds.drop (b + j)).length = ds.length := by
          rw [List.length_append, List.length_append, List.length_take, List.length_drop, digs_length, Nat.min_eq_left (Nat.le_trans (Nat.le_add_right b j) hjl)]
          exact Nat.add_sub_cancel' hjl
        have hbj : e = b + j + i := by rw [hk, Nat.add_assoc]
        refine ih m' (Nat.lt_succ_self _) i (b + j) e _ _ vs' A' _ _ _ _ _ _ hbj hi0 hi2 (by rw [hlen2]; exact h2) (by rw [hlen2]; exact h3) hu0 hu1 hI2 S.cur S.tb hA' hd' (S.get (by walk_at "m_mem")).unold (S.get (by walk_at "m_mem")).unold (S.get (by walk_at "m_mem")).unold (S.get (by walk_at "m_mem")).unold (S.get (by walk_at "m_mem")).unold (S.get (by walk_at "m_mem"))
          fun s' vs' e9 k1 t hI3 hl3 => ⟨(fun a q => nomatch q), ?_⟩
        have S := S.callB (by walk_at "m_upd") e9 k1 t hl3
        refine X_nil (hQb _ _ (hQ _ _ S.same S.keep S.tb ?_ (S.get List.mem_cons_self)))
        rw [piece _ _ _ _ _ _ (Nat.le_add_right b j) (hbj ▸ Nat.le_add_right ..) h2 (by rw [digs_length]; exact (Nat.add_sub_cancel_left ..).symm)] at hI3
        rw [digs_split hp]
        exact hI3
  refine X_ifJ (fun s' => ∃ vs, St w mg mb s0 L cs lI gI [some (.int a t1)] [(l, .lst vs), (c2, .cell (some (.ref l)))] s' ∧ IntsAre vs (digs (2 ^ n) ((((Builtin.Int.intBits a : Nat) : Int) + n - 1) / n).toNat a)) ?_ ?_
  · (with_reducible refine' isTrue_plain ?_ ?a140q; (case a140q => with_unfolding_all rfl)); walk_at "n"; (with_reducible refine PyProof.Rows.truthy_int ?_)
    rename St _ _ _ _ _ _ _ _ _ _ _ => S
    constructor
    · intro hq
      have hq : a ≠ 0 := by simpa using hq
      refine X_expr S.nm.kf ?_
      (with_reducible refine' Call_ ?_ ?a142q; (case a142q => with_unfolding_all rfl)); (with_reducible refine' rdC ?S143q ?hk143q ?hc143q ?k143q ?_; (case S143q => assumption); (case hk143q => assumption); (case hc143q => with_unfolding_all rfl); (case k143q => walk_at "m_mem")); (with_reducible refine' C_fn ?f144q ?S144q ?k144q ?_ ?a144q ?b144q; (case S144q => assumption); (case f144q => assumption); (case k144q => walk_at "m_mem"); (case a144q => with_unfolding_all rfl); (case b144q => with_unfolding_all rfl)); walk_at "ac"; walk_at "n"; walk_at "ac"; ((rename St _ _ _ _ _ _ _ _ _ _ _ => Z0); with_reducible refine E_int Z0 ?_; clear Z0; intro tX sX SX); walk_at "ac"; (with_reducible refine' Call_ ?_ ?a146q; (case a146q => with_unfolding_all rfl)); (with_reducible refine' rdG ?S147q ?k147q ?_; (case S147q => assumption); (case k147q => walk_at "m_mem")); (with_reducible refine' callWith_builtin1 ?_ ?a148q ?b148q; (case a148q => with_unfolding_all rfl); (case b148q => with_unfolding_all rfl)); walk_at "ac"; (with_reducible refine' rdC ?S149q ?hk149q ?hc149q ?k149q ?_; (case S149q => assumption); (case hk149q => assumption); (case hc149q => with_unfolding_all rfl); (case k149q => walk_at "m_mem")); (with_reducible refine args_nil ?_)
      rename St _ _ _ _ _ _ _ _ _ _ _ => S
      refine lenL S (S.get (by walk_at "m_mem")) (by simp; walk_at "om") fun t s S => ?_
      (with_reducible refine args_nil ?_); (with_reducible refine' And.intro (St.get ?S152q ?k152q) ?_; (case S152q => assumption); (case k152q => walk_at "m_mem"))
      rw [List.length_replicate]
      obtain ⟨k, hk2, hk3, hk4, hk5⟩ := ceilF (b := Builtin.Int.intBits a) hn
      have hk0 := hk5 (bits_pos (x := a) (by walk_at "om"))
      have hab2 : a < (2 ^ n) ^ k := by
        rw [← Int.pow_mul]
        refine Int.lt_of_lt_of_le (bits_lt_int ha) ?_
        rw [← cast_pow, ← cast_pow]
        exact Int.ofNat_le.mpr (Nat.pow_le_pow_right (by decide) hk3)
      rw [hk2] at hx1 S ⊢
      rw [Int.toNat_natCast] at S ⊢
      refine IN 21 k 0 k a (List.replicate k 0) _ A' _ _ _ _ _ _ (Nat.zero_add k).symm hk0 (by walk_at "om") (by simp) (by simp; walk_at "om") ha hab2 (ints_rep _ _ _) S.cur S.tb hA' (by walk_at "om") (S.get (by walk_at "m_mem")) (S.get (by walk_at "m_mem")).unold (S.get (by walk_at "m_mem")) (S.get (by walk_at "m_mem")) (S.get (by walk_at "m_mem")) (S.get (by walk_at "m_mem"))
        fun s' vs' e k1 t hI3 hl3 => ⟨(fun a q => nomatch q), ?_⟩
      have S := S.callB (by walk_at "m_upd") e k1 t hl3
      refine X_nil ⟨rfl, vs', S.sub (List.forall_mem_cons.mpr ⟨by walk_at "m_mem", List.forall_mem_cons.mpr ⟨by walk_at "m_mem", List.forall_mem_nil _⟩⟩), ?_⟩
      simpa using hI3
    · intro hq
      have hq : a = 0 := by simpa using hq
      have e : (((Builtin.Int.intBits a : Nat) : Int) + n - 1) / n = 0 := by
        rw [hq, show Builtin.Int.intBits 0 = 0 from rfl]
        exact Int.ediv_eq_zero_of_lt (by walk_at "om") (by walk_at "om")
      rw [e] at S ⊢
      refine' X_nil ⟨rfl, _, St.sub S (List.forall_mem_cons.mpr ⟨?h91, List.forall_mem_cons.mpr ⟨?h92, List.forall_mem_nil _⟩⟩), ?h93⟩
      case h91 => walk_at "m_mem"
      case h92 => walk_at "m_mem"
      case h93 => exact .nil
  · rintro s' ⟨vs, S, hI⟩
    (with_reducible refine X_ret ?_); (with_reducible refine' rdC ?S154q ?hk154q ?hc154q ?k154q ?_; (case S154q => assumption); (case hk154q => assumption); (case hc154q => with_unfolding_all rfl); (case k154q => walk_at "m_mem"))
    exact hQb _ _ (hQ _ _ _ S.same S.keep S.tb (S.fr hl1) (S.get List.mem_cons_self) hI)
end
section
variable {w : World} {mg mb : Str → Option Value}
/- the number of the digits -/
noncomputable def val (p : Int) : List Int → Int
  | [] => 0
  | d :: r => d + p * val p r
theorem val_append (p : Int) : ∀ a b : List Int, val p (a ++ b) = val p a + p ^ a.length * val p b
  | [], b => by simp [val]
  | d :: r, b => by
    rw [List.cons_append, val, val, val_append p r b, List.length_cons, Int.pow_succ, Int.mul_add, Int.add_assoc, ← Int.mul_assoc, Int.mul_comm p (p ^ r.length)]
theorem val_bound {p : Int} (hp : 0 < p) : ∀ ds : List Int, (∀ d ∈ ds, 0 ≤ d ∧ d < p) → 0 ≤ val p ds ∧ val p ds < p ^ ds.length
  | [], _ => by simp [val]
  | d :: r, h => by
    obtain ⟨h1, h2⟩ := h d (.head _)
    obtain ⟨h3, h4⟩ := val_bound hp r fun x hx => h x (.tail _ hx)
    rw [val, List.length_cons, Int.pow_succ]
    have h5 : 0 ≤ p * val p r := Int.mul_nonneg (Int.le_of_lt hp) h3
    have h6 : p * (val p r + 1) ≤ p * p ^ r.length := Int.mul_le_mul_of_nonneg_left h4 (Int.le_of_lt hp)
    rw [Int.mul_add, Int.mul_one] at h6
    refine ⟨Int.add_nonneg h1 h5, ?_⟩
    rw [Int.mul_comm _ p, Int.add_comm]
    exact Int.lt_of_lt_of_le (Int.add_lt_add_left h2 _) h6
noncomputable def seg (ds : List Int) (b k : Nat) : List Int := (ds.drop b).take k
theorem seg_length {ds : List Int} {b k : Nat} (h : b + k ≤ ds.length) : (seg ds b k).length = k := by
  unfold seg; rw [List.length_take, List.length_drop]; exact Nat.min_eq_left (Nat.le_sub_of_add_le (Nat.add_comm b k ▸ h))
theorem seg_mem {ds : List Int} {b k : Nat} {d : Int} (h : d ∈ seg ds b k) : d ∈ ds := List.mem_of_mem_drop (List.mem_of_mem_take h)
theorem seg_split {ds : List Int} {b j i : Nat} : seg ds b (j + i) = seg ds b j ++ seg ds (b + j) i := by
  unfold seg
  rw [List.take_add, List.drop_drop]
theorem seg_one {ds : List Int} {b : Nat} {d : Int} (h : ds[b]? = some d) : seg ds b 1 = [d] := by
  unfold seg
  have hlt : b < ds.length := by
    rcases Nat.lt_or_ge b ds.length with h1 | h1
    · exact h1
    · rw [List.getElem?_eq_none h1] at h; cases h
  rw [List.drop_eq_getElem_cons hlt, List.take_succ_cons, List.take_zero]
  rw [List.getElem?_eq_getElem hlt] at h
  cases h; rfl
theorem seg_all {ds : List Int} : seg ds 0 ds.length = ds := by unfold seg; simp
theorem ints_get : ∀ {vs : List Value} {ds : List Int}, IntsAre vs ds → ∀ (i : Nat), i < ds.length → ∃ d t, ds[i]? = some d ∧ vs[i]? = some (.int d t)
  | _, _, .nil, i, h => absurd h (Nat.not_lt_zero _)
  | _, _, .cons n t r, 0, _ => ⟨n, t, rfl, rfl⟩
  | _, _, .cons n t r, i + 1, h => by
    obtain ⟨d, t, h1, h2⟩ := ints_get r i (by simpa using h)
    exact ⟨d, t, by simpa using h1, by simpa using h2⟩
noncomputable abbrev gJ : List (Str × Value) := [("len", .builtin "len")]
theorem d2i (q : Nat) (vs : List Value) (ds : List Int) (n : Nat) (hI : IntsAre vs ds) (hn : 1 ≤ n) (hds : n * ds.length ≤ 2000000) (hall : ∀ d ∈ ds, 0 ≤ d ∧ d < 2 ^ n) (hq : 58 < q) (A : Around) (Q E : Value → Shared → Prop) (s0 : Shared) (t2 : Tok) (W : Wd w mg mb s0.heap) (T : Tb s0.heap)
    (hA : A.handled = none) (hdp : A.depth + 40 < recursionLimit) (hl : Is s0.heap q (.lst vs))
    (hQ : ∀ t s', Same s0 s' → Keep s0.heap s'.heap → Tb s'.heap → Q (.int (val (2 ^ n) ds) t) s') :
    wpAny (model PR w) A (call (.ref 59) [.ref q, .int (n : Int) t2]) Q E s0 := by
  refine enterC (locs := []) (globs := gJ) (binds := [("digits", .ref q), ("n", .int (n : Int) t2)]) (vals := [])
    (fun n => [("inner", n + 2), ("n", n + 1), ("digits", n)]) (fun L => [(L + 1, .cell (some (.ref q))), (L + 1 + 1, .cell (some (.int (n : Int) t2))), (L + 1 + 2, .cell none)]) W T (by walk_at "om") (by k_is) (by k_is) (BindsTo.of_eq rfl) (fun n => rfl) rfl
    (fun L => List.forall_mem_cons.mpr ⟨⟨"digits", rfl, rfl⟩, List.forall_mem_cons.mpr ⟨⟨"n", rfl, rfl⟩, List.forall_mem_cons.mpr ⟨⟨"inner", rfl, rfl⟩, List.forall_mem_nil _⟩⟩⟩)
    ⟨rfl, by decide +kernel, kl_of rfl, kg_B W rfl rfl (by k_is) (by boot_fast) (by decide) kg_nil⟩ (fun L => trivial) rfl rfl (R := fun cs => Ck .cell cs "n" ∧ Ck .cell cs "digits" ∧ Ck .cell cs "inner") ⟨⟨rfl, rfl, rfl⟩, ⟨rfl, rfl, rfl⟩, ⟨rfl, rfl, rfl⟩⟩
    fun cs L s₁ ⟨hk1, hk2, hk3⟩ S => ?_
  have o1 : L < L + 1 := Nat.lt_succ_self _
  have o2 : L + 1 < L + 1 + 1 := Nat.lt_succ_self _
  have o3 : L + 1 + 1 < L + 1 + 2 := Nat.lt_succ_self _
  generalize L + 1 + 2 = c3 at *
  generalize L + 1 + 1 = c2 at *
  generalize L + 1 = c1 at *
  generalize hAA : A.deeper _ = A'
  refine A_gen2 fun Qb Eb hQb => ?_
  have hA' : A'.handled = none := by rw [← hAA]; exact hA
  have hd' : A'.depth + 39 < recursionLimit := by rw [← hAA]; show A.depth + 1 + 39 < _; walk_at "om"
  clear hAA
  have hlen := hI.length
  have hbig := S.big
  have hqL : q < L := Nat.lt_of_lt_of_le hl.lt S.above
  have hds' : ds.length ≤ 2000000 := Nat.le_trans (Nat.le_mul_of_pos_left _ (hn)) hds
  refine X_defN rfl rfl rfl ?_
  rw [qualIn hk3]
  refine mkFn S (by simp [Knd.plain]) rfl (.inl rfl) S.cur.c1 rfl rfl rfl S.tb.b (fun h' hk ht => ⟨S.tb.a.but hk (by decide) (by decide), ht⟩) fun f c' ctv doc FO s hFO S hf1 hf2 hf3 hf4 => ?_
  have o4 : c3 < f := hf3.2.2.1
  have g1 : c1 ≠ c' := hf4.1
  have g2 : c2 ≠ c' := hf4.2.1
  have g3 : c3 ≠ c' := hf4.2.2.1
  clear hf3 hf4
  ((rename St _ _ _ _ _ _ _ _ _ _ _ => Z0); with_reducible refine' wrC Z0 ?hk155q ?hc155q ?k155q ?_; (case hk155q => assumption); (case hc155q => with_unfolding_all rfl); (case k155q => walk_at "m_upd"); clear Z0; intro sX SX)
  rename St _ _ _ _ _ _ _ _ _ _ _ => S
  have S := S.base hl hq
  have hc58 : 58 < c' := (S.N _ (List.mem_cons_of_mem _ (List.mem_cons_of_mem _ List.mem_cons_self))).2.2.1
  have hFn : ∀ h : Heap, Is h f (.obj FO) → FnAt f h := fun h e => by rw [hFO] at e; exact ⟨_, _, _, _, e.obj⟩
  have IN : ∀ (m k b e : Nat) (A : Around) (Q E : Value → Shared → Prop) (s : Shared) (u2 u3 : Tok), e = b + k → 0 < k → k ≤ 2 ^ m → e ≤ ds.length →
      Wd w mg mb s.heap → Tb s.heap → A.handled = none → A.depth + m < recursionLimit → Is s.heap f (.obj FO) → Is s.heap c' (.code inQ2) → Is s.heap c1 (.cell (some (.ref q))) → Is s.heap c2 (.cell (some (.int (n : Int) t2))) → Is s.heap c3 (.cell (some (.ref f))) → Is s.heap q (.lst vs) →
      (∀ t s', Same s s' → Keep s.heap s'.heap → Tb s'.heap → Q (.int (val (2 ^ n) (seg ds b k)) t) s') →
      wpAny (model PR w) A (call (.ref f) [.int (b : Int) u2, .int (e : Int) u3]) Q E s := by
    clear S
    have hFn' : ∀ h : Heap, Is h f (.old (.obj FO)) → FnAt f h := fun h e => hFn h e.unold
    clear hk1 hk2 hk3
    intro m
    induction m using Nat.strongRecOn with
    | ind m ih =>
      intro k b e A Q E s u2 u3 hk hk0 hkm h2 W T hA hdp i1 i2 i3 i4 i5 i6 hQ
      have i1' := i1
      rw [hFO] at i1'
      refine enterF [] (locs := ["L", "R", "mid", "shift"]) (globs := []) (binds := [("L", .int (b : Int) u2), ("R", .int (e : Int) u3)]) (vals := [some (.int (b : Int) u2), some (.int (e : Int) u3), none, none])
        W W T (by walk_at "om") i1' i2.code (BindsTo.of_eq rfl) (by decide) (locs rfl) ⟨rfl, by decide +kernel, kl_of rfl, kg_nil⟩
        (HasAll.cons rfl (HasAll.cons rfl (HasAll.skip (HasAll.skip trivial)))) rfl rfl (R := fun cs => Ck .free cs "n" ∧ Ck .free cs "digits" ∧ Ck .free cs "inner") ⟨⟨rfl, rfl, rfl⟩, ⟨rfl, rfl, rfl⟩, ⟨rfl, rfl, rfl⟩⟩
        fun cs L' s₁ ⟨hk1, hk2, hk3⟩ S hkp hsz => ?_
      clear i1'
      generalize hAA : A.deeper _ = A'
      refine A_gen2 fun Qb Eb hQb => ?_
      have hA' : A'.handled = none := by rw [← hAA]; exact hA
      have hdA : A'.depth = A.depth + 1 := by rw [← hAA]; rfl
      clear hAA
      have hbe : b < e := hk ▸ Nat.lt_add_of_pos_right hk0
      have hel := Nat.lt_of_lt_of_le hbe h2
      have S := (((((S.base i5 (by walk_at "om")).base i4 (by walk_at "om")).base i3 (by walk_at "om")).base i2 hc58).base i1 (by walk_at "om")).base i6 hq
      (with_reducible refine X_if ?_); (with_reducible refine' wpAny_isTrue_Compare1 ?_ ?a157q; (case a157q => with_unfolding_all rfl)); rename St _ _ _ _ _ _ _ _ _ _ _ => S; refine EvI.run (.add (.name (by walk_at "m_at")) .const) S fun t9 s9 S => ?_; walk_at "n"; (with_reducible refine PyProof.Rows.eq_int ?_); (with_reducible refine wpAny_truthy_bool ?_)
      rename St _ _ _ _ _ _ _ _ _ _ _ => S
      constructor
      · intro hq
        have hq : e = b + 1 := by
          have hq : (b : Int) + 1 = e := by simpa using hq
          exact (Int.ofNat.inj hq).symm
        obtain rfl : k = 1 := Nat.add_left_cancel (hk.symm.trans hq)
        obtain ⟨d, t, e1, e2⟩ := ints_get hI b hel
        (with_reducible refine X_ret ?_); (with_reducible refine Subscript_ ?_); (with_reducible refine' rdF ?S162q ?hk162q ?hc162q ?k162q ?_; (case S162q => assumption); (case hk162q => assumption); (case hc162q => with_unfolding_all rfl); (case k162q => walk_at "m_mem")); walk_at "n"
        refine itemL S (S.get (by walk_at "m_mem")).unold (Int.natCast_nonneg b) (Int.lt_of_lt_of_le (Int.ofNat_lt.mpr (Nat.lt_of_lt_of_le hel hds')) (by decide)) e2 ?_
        have e3 : val (2 ^ n) (seg ds b 1) = d := by rw [seg_one e1]; simp [val]
        rw [← e3]
        exact hQb _ _ (hQ _ _ S.same S.keep S.tb)
      · intro hq
        have hq : k ≠ 1 := fun q => by subst q; rw [hk] at hq; simp at hq
        have hp := two_pow_pos n
        (with_reducible refine X_nilK ?_); (with_reducible refine' X_asg ?_ ?a164q; (case a164q => with_unfolding_all rfl)); (with_reducible refine wpAny_BinOp ?_); rename St _ _ _ _ _ _ _ _ _ _ _ => S; refine EvI.run (.add (.name (by walk_at "m_at")) (.name (by walk_at "m_at"))) S fun t9 s9 S => ?_; ((rename St _ _ _ _ _ _ _ _ _ _ _ => Z0); with_reducible refine E_int Z0 ?_; clear Z0; intro tX sX SX); ((rename St _ _ _ _ _ _ _ _ _ _ _ => Z0); with_reducible refine O_shr Z0 ?_  ?_; rotate_left 1; clear Z0; intro tX sX SX; rotate_left)
        · decide
        walk_at "w"
        rename St _ _ _ _ _ _ _ _ _ _ _ => S
        have hfd : ((b : Int) + (e : Int)).fdiv (2 ^ (1 : Int).toNat) = ((b : Int) + (e : Int)) / 2 := by
          show ((b : Int) + (e : Int)).fdiv 2 = _
          exact Int.fdiv_eq_ediv_of_nonneg _ (by decide)
        rw [hfd] at S
        obtain ⟨j, i, m', rfl, hjk, rfl, hj0, hi0, hj2, hi2⟩ := halfF hq hk0 hkm
        have hd' : A'.depth + m' < recursionLimit := by rw [hdA, Nat.add_right_comm]; exact hdp
        have hmid : ((b : Int) + (e : Int)) / 2 = ((b + j : Nat) : Int) := by rw [← hjk, hk]; lia
        rw [hmid] at S
        have hbj : e = b + j + i := by rw [hk, Nat.add_assoc]
        have hjl : b + j ≤ ds.length := Nat.le_trans (hbj ▸ Nat.le_add_right ..) h2
        have hd0 : ((b + j : Nat) : Int) - (b : Int) = (j : Int) := by rw [Int.natCast_add, Int.add_comm (b : Int)]; exact Int.add_sub_cancel ..
        have hpow : (2 : Int) ^ (j * n) = (2 ^ n) ^ j := by rw [Nat.mul_comm, Int.pow_mul]
        (with_reducible refine' X_asg ?_ ?a168q; (case a168q => with_unfolding_all rfl)); (with_reducible refine wpAny_BinOp ?_); rename St _ _ _ _ _ _ _ _ _ _ _ => S; refine EvI.run (.sub (.name (by walk_at "m_at")) (.name (by walk_at "m_at"))) S fun t9 s9 S => ?_; rw [hd0]; (with_reducible refine' rdF ?S170q ?hk170q ?hc170q ?k170q ?_; (case S170q => assumption); (case hk170q => assumption); (case hc170q => with_unfolding_all rfl); (case k170q => walk_at "m_mem")); ((rename St _ _ _ _ _ _ _ _ _ _ _ => Z0); with_reducible refine O_mul Z0 ?_  ?_; rotate_left 1; clear Z0; intro tX sX SX; rotate_left)
        · exact PySem.IntMulOk.of_le (bits_le (k := 64) (Int.natCast_nonneg j) (Int.ofNat_lt.mpr (Nat.lt_of_le_of_lt (Nat.le_trans (Nat.le_trans (Nat.le_add_left j b) hjl) hds') (by decide)))) (bits_le (k := 64) (Int.natCast_nonneg n) (Int.ofNat_lt.mpr (Nat.lt_of_le_of_lt (Nat.le_trans (Nat.le_mul_of_pos_right _ (Nat.lt_of_le_of_lt (Nat.zero_le _) hel)) hds) (by decide)))) (by decide)
        walk_at "w"; rename St _ _ _ _ _ _ _ _ _ _ _ => S
        rw [← Int.natCast_mul] at S
        (with_reducible refine X_ret ?_); (with_reducible refine wpAny_BinOp ?_); (with_reducible refine wpAny_BinOp ?_); (with_reducible refine' Call_ ?_ ?a175q; (case a175q => with_unfolding_all rfl)); (with_reducible refine' rdF ?S176q ?hk176q ?hc176q ?k176q ?_; (case S176q => assumption); (case hk176q => assumption); (case hc176q => with_unfolding_all rfl); (case k176q => walk_at "m_mem")); (with_reducible refine' C_fn ?f177q ?S177q ?k177q ?_ ?a177q ?b177q; (case S177q => assumption); (case f177q => assumption); (case k177q => walk_at "m_mem"); (case a177q => with_unfolding_all rfl); (case b177q => with_unfolding_all rfl)); walk_at "ac"; walk_at "n"; walk_at "ac"; walk_at "n"; (with_reducible refine args_nil ?_); (with_reducible refine' And.intro (St.get ?S179q ?k179q) ?_; (case S179q => assumption); (case k179q => walk_at "m_mem"))
        rename St _ _ _ _ _ _ _ _ _ _ _ => S
        refine ih m' (Nat.lt_succ_self _) i (b + j) e A' _ _ _ _ _ hbj hi0 hi2 h2 S.cur S.tb hA' hd' (S.get (by walk_at "m_mem")).unold (S.get (by walk_at "m_mem")).unold (S.get (by walk_at "m_mem")).unold (S.get (by walk_at "m_mem")).unold (S.get (by walk_at "m_mem")).unold (S.get (by walk_at "m_mem")).unold
          fun t s' e9 k1 tb => ?_
        have S := S.call e9 k1 tb
        obtain ⟨v1, v2⟩ := val_bound hp (seg ds (b + j) i) fun d hd => hall d (seg_mem hd)
        rw [seg_length (hbj ▸ h2)] at v2
        have hub := bits_le (k := n * i) v1 (by rw [Int.pow_mul]; exact v2)
        have hkl : n * j + n * i ≤ 2000000 := by
          rw [← Nat.mul_add]
          exact Nat.le_trans (Nat.mul_le_mul_left _ (Nat.le_trans (hk ▸ Nat.le_add_left (j + i) b) h2)) hds
        walk_at "n"; ((rename St _ _ _ _ _ _ _ _ _ _ _ => Z0); with_reducible refine O_shl Z0 ?_ ?_  ?_; rotate_left 2; clear Z0; intro tX sX SX; rotate_left)
        · exact Int.natCast_nonneg _
        · exact shl_ok (by rw [Nat.mul_comm j n, Nat.add_comm]; exact Nat.le_trans (Nat.le_trans (Nat.add_le_add_left hub _) hkl) (by decide))
        (with_reducible refine' Call_ ?_ ?a181q; (case a181q => with_unfolding_all rfl)); (with_reducible refine' rdF ?S182q ?hk182q ?hc182q ?k182q ?_; (case S182q => assumption); (case hk182q => assumption); (case hc182q => with_unfolding_all rfl); (case k182q => walk_at "m_mem")); (with_reducible refine' C_fn ?f183q ?S183q ?k183q ?_ ?a183q ?b183q; (case S183q => assumption); (case f183q => assumption); (case k183q => walk_at "m_mem"); (case a183q => with_unfolding_all rfl); (case b183q => with_unfolding_all rfl)); walk_at "ac"; walk_at "n"; walk_at "ac"; walk_at "n"; (with_reducible refine args_nil ?_); (with_reducible refine' And.intro (St.get ?S185q ?k185q) ?_; (case S185q => assumption); (case k185q => walk_at "m_mem"))
        rename St _ _ _ _ _ _ _ _ _ _ _ => S
        refine ih m' (Nat.lt_succ_self _) j b (b + j) A' _ _ _ _ _ rfl hj0 hj2 hjl S.cur S.tb hA' hd' (S.get (by walk_at "m_mem")).unold (S.get (by walk_at "m_mem")).unold (S.get (by walk_at "m_mem")).unold (S.get (by walk_at "m_mem")).unold (S.get (by walk_at "m_mem")).unold (S.get (by walk_at "m_mem")).unold
          fun t s' e9 k1 tb => ?_
        have S := S.call e9 k1 tb
        ((rename St _ _ _ _ _ _ _ _ _ _ _ => Z0); with_reducible refine O_add Z0 ?_; clear Z0; intro tX sX SX)
        rename St _ _ _ _ _ _ _ _ _ _ _ => S
        have e3 : val (2 ^ n) (seg ds (b + j) i) * 2 ^ ((j * n : Nat) : Int).toNat + val (2 ^ n) (seg ds b j) = val (2 ^ n) (seg ds b (j + i)) := by
          rw [seg_split, val_append, seg_length hjl, Int.toNat_natCast, hpow, Int.mul_comm, Int.add_comm]
        rw [e3]
        exact hQb _ _ (hQ _ _ S.same S.keep S.tb)
  (with_reducible refine X_ret ?_); (with_reducible refine E_if ?_); (with_reducible refine' isTrue_plain ?_ ?a189q; (case a189q => with_unfolding_all rfl)); (with_reducible refine' rdC ?S190q ?hk190q ?hc190q ?k190q ?_; (case S190q => assumption); (case hk190q => assumption); (case hc190q => with_unfolding_all rfl); (case k190q => walk_at "m_mem"))
  rename St _ _ _ _ _ _ _ _ _ _ _ => S
  refine truthyL S (S.get (by walk_at "m_mem")).unold (by walk_at "om") fun s S => ?_
  constructor
  · intro hq
    have hne : ds ≠ [] := by intro e; subst e; cases hI; simp at hq
    have hpos : 0 < ds.length := List.length_pos_iff.mpr hne
    (with_reducible refine' Call_ ?_ ?a191q; (case a191q => with_unfolding_all rfl)); (with_reducible refine' rdC ?S192q ?hk192q ?hc192q ?k192q ?_; (case S192q => assumption); (case hk192q => assumption); (case hc192q => with_unfolding_all rfl); (case k192q => walk_at "m_mem")); (with_reducible refine' C_fn ?f193q ?S193q ?k193q ?_ ?a193q ?b193q; (case S193q => assumption); (case f193q => assumption); (case k193q => walk_at "m_mem"); (case a193q => with_unfolding_all rfl); (case b193q => with_unfolding_all rfl)); walk_at "ac"; ((rename St _ _ _ _ _ _ _ _ _ _ _ => Z0); with_reducible refine E_int Z0 ?_; clear Z0; intro tX sX SX); walk_at "ac"; (with_reducible refine' Call_ ?_ ?a195q; (case a195q => with_unfolding_all rfl)); (with_reducible refine' rdG ?S196q ?k196q ?_; (case S196q => assumption); (case k196q => walk_at "m_mem")); (with_reducible refine' callWith_builtin1 ?_ ?a197q ?b197q; (case a197q => with_unfolding_all rfl); (case b197q => with_unfolding_all rfl)); walk_at "ac"; (with_reducible refine' rdC ?S198q ?hk198q ?hc198q ?k198q ?_; (case S198q => assumption); (case hk198q => assumption); (case hc198q => with_unfolding_all rfl); (case k198q => walk_at "m_mem")); (with_reducible refine args_nil ?_)
    rename St _ _ _ _ _ _ _ _ _ _ _ => S
    refine lenL S (S.get (by walk_at "m_mem")).unold (by walk_at "om") fun t s S => ?_
    (with_reducible refine args_nil ?_); (with_reducible refine' And.intro (St.get ?S201q ?k201q) ?_; (case S201q => assumption); (case k201q => walk_at "m_mem"))
    rw [hlen]
    refine IN 21 ds.length 0 ds.length A' _ _ _ _ _ (Nat.zero_add _).symm hpos (Nat.le_trans hds' (by decide)) (Nat.le_refl _) S.cur S.tb hA' (by walk_at "om") (S.get (by walk_at "m_mem")) (S.get (by walk_at "m_mem")).unold (S.get (by walk_at "m_mem")) (S.get (by walk_at "m_mem")) (S.get (by walk_at "m_mem")) (S.get (by walk_at "m_mem")).unold
      fun t s' e k1 tb => ?_
    have S := S.call e k1 tb
    rw [seg_all]
    exact hQb _ _ (hQ _ _ S.same S.keep S.tb)
  · intro hq
    have hne : ds = [] := by cases hI with | nil => rfl | cons => simp at hq
    ((rename St _ _ _ _ _ _ _ _ _ _ _ => Z0); with_reducible refine E_int Z0 ?_; clear Z0; intro tX sX SX)
    rename St _ _ _ _ _ _ _ _ _ _ _ => S
    subst hne
    exact hQb _ _ (hQ _ _ S.same S.keep S.tb)
end
section
variable {w : World} {mg mb : Str → Option Value}
theorem digs_get (p : Int) (hp : 0 < p) : ∀ (k : Nat) (x : Int) (i : Nat), i < k → (digs p k x)[i]? = some (x / p ^ i % p)
  | k + 1, x, 0, _ => by simp [digs]
  | k + 1, x, i + 1, h => by
    rw [digs, List.getElem?_cons_succ, digs_get p hp k (x / p) i (Nat.lt_of_succ_lt_succ h), Int.pow_succ, Int.mul_comm, ← Int.ediv_ediv_of_nonneg (Int.le_of_lt hp)]
/- one turn of the schoolbook division -/
theorem turn_eq {a b p : Int} {i : Nat} (hb : 0 < b) (hp : 0 < p) :
    0 ≤ a / p ^ (i + 1) % b * p + a / p ^ i % p ∧ a / p ^ (i + 1) % b * p + a / p ^ i % p < b * p ∧
      a / p ^ i / b = (a / p ^ (i + 1) % b * p + a / p ^ i % p) / b + p * (a / p ^ (i + 1) / b) ∧ a / p ^ i % b = (a / p ^ (i + 1) % b * p + a / p ^ i % p) % b := by
  have e : a / p ^ (i + 1) = a / p ^ i / p := by rw [Int.pow_succ, ← Int.ediv_ediv_of_nonneg (Int.le_of_lt (Int.pow_pos hp))]
  rw [e]
  generalize a / p ^ i = y
  have h2 := ediv_mod (y / p) b
  have h3 := Int.emod_nonneg (y / p) (Int.ne_of_gt hb)
  have h4 := Int.emod_lt_of_pos (y / p) hb
  have h5 := Int.emod_nonneg y (Int.ne_of_gt hp)
  have h6 := Int.emod_lt_of_pos y hp
  have h8 : (y / p % b + 1) * p ≤ b * p := Int.mul_le_mul_of_nonneg_right (Int.add_one_le_of_lt h4) (Int.le_of_lt hp)
  rw [Int.add_mul, Int.one_mul] at h8
  refine ⟨Int.add_nonneg (Int.mul_nonneg h3 (Int.le_of_lt hp)) h5, Int.lt_of_lt_of_le (Int.add_lt_add_left h6 _) h8, ?_⟩
  obtain ⟨z, hz⟩ : ∃ z, z = y / p % b * p + y % p := ⟨_, rfl⟩
  rw [← hz]
  have h13 : y = (z / b + p * (y / p / b)) * b + z % b := by
    refine (ediv_mod y p).trans ?_
    refine (congrArg (fun x => x * p + y % p) h2).trans ?_
    rw [Int.add_mul, Int.add_assoc, ← hz, Int.add_mul (z / b), Int.add_right_comm, ← ediv_mod z b, Int.mul_comm p, Int.mul_right_comm, Int.add_comm]
  exact div_uniq h13 (Int.emod_nonneg z (Int.ne_of_gt hb)) (Int.emod_lt_of_pos z hb)
theorem ints_snoc : ∀ {vs : List Value} {ns : List Int}, IntsAre vs ns → ∀ (x : Int) (t : Tok), IntsAre (vs ++ [.int x t]) (ns ++ [x])
  | _, _, .nil, x, t => .cons x t .nil
  | _, _, .cons n u r, x, t => .cons n u (ints_snoc r x t)
theorem ints_rev : ∀ {vs : List Value} {ns : List Int}, IntsAre vs ns → IntsAre vs.reverse ns.reverse
  | _, _, .nil => .nil
  | _, _, .cons n u r => by rw [List.reverse_cons, List.reverse_cons]; exact ints_snoc (ints_rev r) n u
noncomputable abbrev lP : List Str := ["a", "b", "n", "a_digits", "r", "q_digits", "a_digit", "q_digit", "q"]
noncomputable abbrev gP : List (Str × Value) := [("_int2digits", .ref 52), ("reversed", .type "reversed"), ("_div2n1n", .ref 38), ("_digits2int", .ref 59)]
noncomputable def DM (w : World) (mg mb : Str → Option Value) (f : Addr) (d : Nat) (a b : Int) : Prop :=
  ∀ (A : Around) (Q E : Value → Shared → Prop) (s : Shared) (t1 t2 : Tok), Wd w mg mb s.heap → Tb s.heap → A.handled = none → A.depth + d < recursionLimit →
    (∀ p u1 u2 s', Same s s' → Keep s.heap s'.heap → Tb s'.heap → Fresh s.heap p → Is s'.heap p (.tup [.int (a.fdiv b) u1, .int (a.fmod b) u2]) → Q (.ref p) s') →
    wpAny (model PR w) A (call (.ref f) [.int a t1, .int b t2]) Q E s
theorem dmp {a b : Int} (ha : 0 ≤ a) (hab : Builtin.Int.intBits a ≤ 900000) (hb : 0 < b) (hbb : Builtin.Int.intBits b ≤ 900000) : DM w mg mb 66 60 a b := by
  intro A Q E s t1 t2 W T hA hdp hQ
  refine enter (locs := lP) (globs := gP) (binds := [("a", .int a t1), ("b", .int b t2)])
    (vals := [some (.int a t1), some (.int b t2), none, none, none, none, none, none, none]) W T (by walk_at "om") (by k_is) (by k_is) (BindsTo.of_eq rfl) (by decide) (locs rfl)
    ⟨rfl, by decide +kernel, kl_of rfl, kg_K W rfl rfl (by k_is) <| kg_B W rfl rfl (by k_is) (by boot_fast) (by decide) <| kg_K W rfl rfl (by k_is) <| kg_K W rfl rfl (by k_is) kg_nil⟩
    (HasAll.cons rfl (HasAll.cons rfl (HasAll.skip (HasAll.skip (HasAll.skip (HasAll.skip (HasAll.skip (HasAll.skip (HasAll.skip trivial))))))))) rfl rfl fun cs L s₁ S => ?_
  generalize hAA : A.deeper _ = A'
  refine A_gen2 fun Qb Eb hQb => ?_
  have hA' : A'.handled = none := by rw [← hAA]; exact hA
  have hd' : A'.depth + 59 < recursionLimit := by rw [← hAA]; show A.depth + 1 + 59 < _; walk_at "om"
  clear hAA
  have hb1 := bits_pos hb
  have hb2 := bits_ge hb
  have hb0 := Int.le_of_lt hb
  have hb3 := bits_lt_int hb0
  obtain ⟨n, hn⟩ : ∃ n : Nat, n = Builtin.Int.intBits b := ⟨_, rfl⟩
  rw [← hn] at hb1 hb2 hb3 hbb
  have hp := two_pow_pos n
  (with_reducible refine' X_asg ?_ ?a203q; (case a203q => with_unfolding_all rfl)); (with_reducible refine' MethodCall_ ?_ ?a204q; (case a204q => with_unfolding_all rfl)); walk_at "n"; (with_reducible refine getMethod_int_bit_length ?_); (with_reducible refine callWith_method0 ?_); ((rename St _ _ _ _ _ _ _ _ _ _ _ => Z0); with_reducible refine M_bits Z0 ?_; clear Z0; intro tX sX SX); walk_at "w"
  rename St _ _ _ _ _ _ _ _ _ _ _ => S
  rw [← hn] at S
  (with_reducible refine' X_asg ?_ ?a208q; (case a208q => with_unfolding_all rfl)); (with_reducible refine' Call_ ?_ ?a209q; (case a209q => with_unfolding_all rfl)); (with_reducible refine' rdG ?S210q ?k210q ?_; (case S210q => assumption); (case k210q => walk_at "m_mem")); (with_reducible refine' C_def ?S211q ?f211q ?_ ?a211q ?b211q; (case S211q => assumption); (case f211q => decide); (case a211q => with_unfolding_all rfl); (case b211q => with_unfolding_all rfl)); walk_at "ac"; walk_at "n"; walk_at "ac"; walk_at "n"; (with_reducible refine args_nil ?_); (with_reducible refine' And.intro (St.cur ?S213q) ?_; (case S213q => assumption))
  refine i2d a n ha (Nat.le_trans hab (by decide)) hb1 (Nat.le_trans hbb (by decide)) A' _ _ _ _ _ S.cur S.tb hA' (by walk_at "om") fun l vs s' e k1 tb hf hl hI => ?_
  have hl1 := (S.freshOf hf).1
  have hl58 : 58 < l := Nat.lt_trans S.big hl1
  have S := S.got e k1 tb hf hl
  clear e k1 tb hf hl
  refine byc fun hno => ?_
  obtain ⟨k, hk2, hk3, hk4, hk5⟩ := ceilF (b := Builtin.Int.intBits a) hb1
  refine hno ?_
  clear hno
  rw [hk2, Int.toNat_natCast] at hI
  have hakb : a < (2 ^ n) ^ k := by
    rw [← Int.pow_mul]
    refine Int.lt_of_lt_of_le (bits_lt_int ha) ?_
    rw [← cast_pow, ← cast_pow]
    exact Int.ofNat_le.mpr (Nat.pow_le_pow_right (by decide) hk3)
  have hnk : n * k ≤ 2000000 := Nat.le_trans hk4 (Nat.le_trans (Nat.add_le_add hab hbb) (by decide))
  have hkb : k ≤ 2000000 := Nat.le_trans (Nat.le_mul_of_pos_left _ hb1) hnk
  have hvl : vs.length = k := by have := hI.length; rw [digs_length] at this; exact this
  walk_at "w"; (with_reducible refine' X_asg ?_ ?a214q; (case a214q => with_unfolding_all rfl)); ((rename St _ _ _ _ _ _ _ _ _ _ _ => Z0); with_reducible refine E_int Z0 ?_; clear Z0; intro tX sX SX); walk_at "w"; (with_reducible refine' X_asg ?_ ?a216q; (case a216q => with_unfolding_all rfl)); (with_reducible refine List_ ?_); (with_reducible refine args_nil ?_); rename St _ _ _ _ _ _ _ _ _ _ _ => S; refine newLst S (by size_fits) fun q s9 S hq1 hq2 => ?_
  simp only [LtAll, and_true] at hq2
  walk_at "w"; rename St _ _ _ _ _ _ _ _ _ _ _ => S
  have S := (S.sub (news' := (q, .obj (lstO [] 0)) :: [(l, .lst vs)]) (fun p hp => hp)).weakL
  refine X_for (fun itv i s' => ∃ it r tr qs vq o1 o2, itv = .ref it ∧ L < it ∧ q < it ∧ l < it ∧ i ≤ k ∧ St w mg mb s L cs lP gP [some (.int a t1), some (.int b t2), some (.int (n : Int) o1), some (.ref l), some (.int r tr), some (.ref q), none, none, o2] [(it, rvK l ((i : Int) - 1)), (q, .lst vq), (l, .lst vs)] s'
      ∧ IntsAre vq qs ∧ qs.length = k - i ∧ (∀ d ∈ qs, 0 ≤ d ∧ d < 2 ^ n) ∧ val (2 ^ n) qs.reverse = a / (2 ^ n) ^ i / b ∧ r = a / (2 ^ n) ^ i % b)
    (fun s' => ∃ r tr qs vq o1 o2, St w mg mb s L cs lP gP [some (.int a t1), some (.int b t2), some (.int (n : Int) o1), some (.ref l), some (.int r tr), some (.ref q), none, none, o2] [(q, .lst vq), (l, .lst vs)] s'
      ∧ IntsAre vq qs ∧ qs.length = k ∧ (∀ d ∈ qs, 0 ≤ d ∧ d < 2 ^ n) ∧ val (2 ^ n) qs.reverse = a / b ∧ r = a % b) ?_ ?_ ?_
  · (with_reducible refine' Call_ ?_ ?a219q; (case a219q => with_unfolding_all rfl)); (with_reducible refine' rdG ?S220q ?k220q ?_; (case S220q => assumption); (case k220q => walk_at "m_mem")); (with_reducible refine' callWith_type1 ?_ ?a221q ?b221q; (case a221q => with_unfolding_all rfl); (case b221q => with_unfolding_all rfl)); walk_at "ac"; walk_at "n"; (with_reducible refine args_nil ?_)
    refine callRev S (S.get (by walk_at "m_mem")) fun it s' S h1 h2 => ?_
    simp only [LtAll, and_true] at h2
    rw [hvl] at S
    refine iterRev S (by walk_at "m_mem") ⟨k, it, 0, _, [], [], _, _, rfl, h1, h2.1, h2.2, Nat.le_refl _, S, .nil, by simp, by simp, ?_, ?_⟩
    · rw [Int.ediv_eq_zero_of_lt ha hakb]; simp [val]
    · rw [Int.ediv_eq_zero_of_lt ha hakb]; simp
  · intro itv i s' hI9
    refine byc fun hno => ?_
    obtain ⟨it, r, tr, qs, vq, o1, o2, rfl, h1, h2, h3, hik, S, hI2, hlen, hall, hval, hr⟩ := hI9
    refine hno ?_
    clear hno
    cases i with
    | zero =>
      refine endRev S hA' (by walk_at "m_all") fun s' S => ⟨r, tr, qs, vq, o1, o2, S, hI2, by walk_at "om", hall, ?_, ?_⟩
      · rw [hval]; simp
      · rw [hr]; simp
    | succ i =>
      refine byc fun hno => ?_
      obtain ⟨d, td, g1, g2⟩ := ints_get hI i (by rw [digs_length]; exact hik)
      refine hno ?_
      clear hno
      rw [digs_get _ hp _ _ _ hik] at g1
      cases g1
      refine byc fun hno => ?_
      obtain ⟨f1, f2, f3, f4⟩ := turn_eq (a := a) (b := b) (p := 2 ^ n) (i := i) hb hp
      refine hno ?_
      clear hno
      have S := (show ((i + 1 : Nat) : Int) - 1 = (i : Int) from Int.add_sub_cancel (i : Int) 1) ▸ S
      have hr0 : 0 ≤ r := hr ▸ Int.emod_nonneg _ (Int.ne_of_gt hb)
      have hrz : Builtin.Int.intBits r + n ≤ 134217728 := Nat.le_trans (Nat.add_le_add (Nat.le_trans (bits_le hr0 (Int.lt_trans (hr ▸ Int.emod_lt_of_pos _ hb) hb3)) hbb) hbb) (by decide)
      refine nextRev S (by walk_at "m_upd") (S.get (by walk_at "m_mem")) g2 fun s' S => letGoName (assign_Name ?_)
      walk_at "w"; (with_reducible refine' X_tup ?_ ?a223q ?b223q; (case a223q => with_unfolding_all rfl); (case b223q => with_unfolding_all rfl)); (with_reducible refine' Call_ ?_ ?a224q; (case a224q => with_unfolding_all rfl)); (with_reducible refine' rdG ?S225q ?k225q ?_; (case S225q => assumption); (case k225q => walk_at "m_mem")); (with_reducible refine' C_def ?S226q ?f226q ?_ ?a226q ?b226q; (case S226q => assumption); (case f226q => decide); (case a226q => with_unfolding_all rfl); (case b226q => with_unfolding_all rfl)); walk_at "ac"; rename St _ _ _ _ _ _ _ _ _ _ _ => S; refine EvI.run (.add (.shlN (.name (by walk_at "m_at")) (.name (by walk_at "m_at")) hrz) (.name (by walk_at "m_at"))) S fun t9 s9 S => ?_; walk_at "ac"; walk_at "n"; walk_at "ac"; walk_at "n"; (with_reducible refine args_nil ?_); (with_reducible refine' And.intro (St.cur ?S228q) ?_; (case S228q => assumption))
      rename St _ _ _ _ _ _ _ _ _ _ _ => S
      rw [hr]
      have hP : Pre2 (a / (2 ^ n) ^ (i + 1) % b * 2 ^ n + a / (2 ^ n) ^ i % 2 ^ n) b n := ⟨hb1, Nat.le_trans hbb (by decide), f1, hb2, hb3, f2⟩
      refine (d2_all 8 _ _ _ hP (Nat.le_trans hbb (by decide))).use S hA' (by walk_at "om") fun p u1 u2 s' S => asgT2 S hA' (by walk_at "m_mem") (by walk_at "m_put") (by walk_at "m_put") fun s' S => ?_
      rw [← f4] at S
      have S := S.drop
      refine X_expr S.nm.kf ?_
      (with_reducible refine' MethodCall_ ?_ ?a229q; (case a229q => with_unfolding_all rfl)); walk_at "n"
      refine methL S (S.get (by walk_at "m_mem")) F.slot_list_append F.type_list_append ?_
      (with_reducible refine' callWith_method1 ?_ ?a230q ?b230q; (case a230q => with_unfolding_all rfl); (case b230q => with_unfolding_all rfl)); walk_at "ac"; walk_at "n"; (with_reducible refine args_nil ?_)
      have hvq := hI2.length
      refine appL S (by walk_at "m_upd") (by rw [sizeLine_eq]; walk_at "om") fun s' S => ⟨(fun a q => nomatch q), ?_⟩
      refine X_nil ⟨i, ⟨by walk_at "om", rfl⟩, it, _, _, qs ++ [_], _, o1, o2, rfl, h1, h2, h3, by walk_at "om", (S.sub (by walk_at "m_sub")).le (by walk_at "m_le"), ints_snoc hI2 _ u1, ?_, ?_, ?_, rfl⟩
      · rw [List.length_append, List.length_singleton]; walk_at "om"
      · intro d hd
        rcases List.mem_append.mp hd with hd | hd
        · exact hall d hd
        · cases List.mem_singleton.mp hd
          exact ⟨Int.ediv_nonneg f1 hb0, Int.ediv_lt_of_lt_mul hb (by rw [Int.mul_comm (2 ^ n) b]; exact f2)⟩
      · rw [List.reverse_append, List.reverse_singleton, List.singleton_append, val, hval, f3]
  · intro s' hI9
    refine byc fun hno => ?_
    obtain ⟨r, tr, qs, vq, o1, o2, S, hI2, hlen, hall, hval, hr⟩ := hI9
    refine hno ?_
    clear hno
    refine X_expr S.nm.kf ?_
    (with_reducible refine' MethodCall_ ?_ ?a232q; (case a232q => with_unfolding_all rfl)); walk_at "n"
    refine methL S (S.get (by walk_at "m_mem")) F.slot_list_reverse F.type_list_reverse ?_
    (with_reducible refine callWith_method0 ?_)
    have hvq := hI2.length
    refine revL S (by walk_at "m_upd") (by rw [sizeLine_eq]; walk_at "om") fun s' S => ⟨(fun a q => nomatch q), ?_⟩
    (with_reducible refine' X_asg ?_ ?a234q; (case a234q => with_unfolding_all rfl)); (with_reducible refine' Call_ ?_ ?a235q; (case a235q => with_unfolding_all rfl)); (with_reducible refine' rdG ?S236q ?k236q ?_; (case S236q => assumption); (case k236q => walk_at "m_mem")); (with_reducible refine' C_def ?S237q ?f237q ?_ ?a237q ?b237q; (case S237q => assumption); (case f237q => decide); (case a237q => with_unfolding_all rfl); (case b237q => with_unfolding_all rfl)); walk_at "ac"; walk_at "n"; walk_at "ac"; walk_at "n"; (with_reducible refine args_nil ?_); (with_reducible refine' And.intro (St.cur ?S239q) ?_; (case S239q => assumption))
    have hq58 : 58 < q := (S.N _ List.mem_cons_self).2.2.1
    refine d2i q vq.reverse qs.reverse n (ints_rev hI2) hb1 (by rw [List.length_reverse, hlen]; exact hnk) (fun d hd => hall d (List.mem_reverse.mp hd)) hq58 A' _ _ _ _ S.cur S.tb hA' (by walk_at "om") (S.get (by walk_at "m_mem")) fun t s' e k1 tb => ?_
    have S := S.call e k1 tb
    walk_at "w"; (with_reducible refine X_ret ?_); (with_reducible refine Tuple_ ?_); walk_at "ac"; walk_at "n"; walk_at "ac"; walk_at "n"; (with_reducible refine args_nil ?_); ((rename St _ _ _ _ _ _ _ _ _ _ _ => Z0); with_reducible refine newTup Z0 ?z243q ?_; (case z243q => size_fits); clear Z0; intro pX sX SX hp9 hk9; clear hk9)
    rename St _ _ _ _ _ _ _ _ _ _ _ => S
    rw [hval, hr] at S
    rw [← Int.fdiv_eq_ediv_of_nonneg a hb0, ← Int.fmod_eq_emod_of_nonneg a hb0] at S
    exact hQb _ _ (hQ _ _ _ _ S.same S.keep S.tb (S.fr (by assumption)) (S.get List.mem_cons_self))
end
section
variable {w : World} {mg mb : Str → Option Value}
section
variable {A : Around} {Q E : Value → Shared → Prop} {s s₀ : Shared} {L : Nat} {cs : Scope} {locs : List Str} {globs : List (Str × Value)} {vals : List (Option Value)} {news : List (Nat × Knd)}
theorem DM.use {f : Addr} {d : Nat} {a b : Int} {t1 t2 : Tok} (C : DM w mg mb f d a b) (S : St w mg mb s₀ L cs locs globs vals news s) (hA : A.handled = none) (hdp : A.depth + d < recursionLimit)
    (h : ∀ p u1 u2 s', St w mg mb s₀ L cs locs globs vals ((p, .tup [.int (a.fdiv b) u1, .int (a.fmod b) u2]) :: news) s' → L < p → LtAll p news → Q (.ref p) s') : wpAny (model PR w) A (call (.ref f) [.int a t1, .int b t2]) Q E s :=
  C A Q E s t1 t2 S.cur S.tb hA hdp fun p u1 u2 s' e k tb hp hg => h p u1 u2 s' (S.got e k tb hp hg) (S.freshOf hp).1 (S.freshOf hp).2
end
theorem fd_neg (a b : Int) : (-a).fdiv (-b) = a.fdiv b := Int.neg_fdiv_neg ..
theorem fm_neg (a b : Int) : -((-a).fmod (-b)) = a.fmod b := by rw [Int.neg_fmod_neg, Int.neg_neg]
theorem fd_not {a b : Int} (hb : 0 < b) : Builtin.bitNot ((Builtin.bitNot a).fdiv b) = a.fdiv b ∧ b + Builtin.bitNot ((Builtin.bitNot a).fmod b) = a.fmod b := by
  unfold Builtin.bitNot
  have hb0 := Int.le_of_lt hb
  rw [Int.fdiv_eq_ediv_of_nonneg _ hb0, Int.fmod_eq_emod_of_nonneg _ hb0, Int.fdiv_eq_ediv_of_nonneg _ hb0, Int.fmod_eq_emod_of_nonneg _ hb0]
  have h1 := ediv_mod (-a - 1) b
  have h2 := Int.emod_nonneg (-a - 1) (Int.ne_of_gt hb)
  have h3 := Int.emod_lt_of_pos (-a - 1) hb
  generalize (-a - 1) / b = q at *
  generalize (-a - 1) % b = r at *
  have h4 : a = (-q - 1) * b + (b + (-r - 1)) := by
    rw [Int.sub_mul, Int.one_mul, Int.neg_mul]
    lia
  obtain ⟨e1, e2⟩ := div_uniq h4 (by lia) (by lia)
  exact ⟨e1.symm, e2.symm⟩
noncomputable abbrev lD : List Str := ["a", "b", "q", "r"]
noncomputable abbrev gD : List (Str × Value) := [("ZeroDivisionError", .type "ZeroDivisionError"), ("int_divmod", .ref 73), ("_divmod_pos", .ref 66)]
theorem dm_step {d : Nat} {a b : Int} (hb : b ≠ 0) (C1 : b < 0 → DM w mg mb 73 d (-a) (-b)) (C2 : 0 < b → a < 0 → DM w mg mb 73 d (Builtin.bitNot a) b) (C3 : 0 < b → 0 ≤ a → DM w mg mb 66 d a b) : DM w mg mb 73 (d + 1) a b := by
  intro A Q E s t1 t2 W T hA hdp hQ
  refine enter (locs := lD) (globs := gD) (binds := [("a", .int a t1), ("b", .int b t2)])
    (vals := [some (.int a t1), some (.int b t2), none, none]) W T (by walk_at "om") (by k_is) (by k_is) (BindsTo.of_eq rfl) (by decide) (locs rfl)
    ⟨rfl, by decide +kernel, kl_of rfl, kg_B W rfl rfl (by k_is) (by boot_fast) (by decide) <| kg_K W rfl rfl (by k_is) <| kg_K W rfl rfl (by k_is) kg_nil⟩
    (HasAll.cons rfl (HasAll.cons rfl (HasAll.skip (HasAll.skip trivial)))) rfl rfl fun cs L s₁ S => ?_
  generalize hAA : A.deeper _ = A'
  refine A_gen2 fun Qb Eb hQb => ?_
  have hA' : A'.handled = none := by rw [← hAA]; exact hA
  have hd' : A'.depth + d < recursionLimit := by rw [← hAA]; show A.depth + 1 + d < _; walk_at "om"
  clear hAA
  (with_reducible refine X_if ?_); (with_reducible refine' wpAny_isTrue_Compare1 ?_ ?a245q; (case a245q => with_unfolding_all rfl)); walk_at "n"; ((rename St _ _ _ _ _ _ _ _ _ _ _ => Z0); with_reducible refine E_int Z0 ?_; clear Z0; intro tX sX SX); (with_reducible refine PyProof.Rows.eq_int ?_); (with_reducible refine wpAny_truthy_bool ?_)
  constructor
  · intro hq
    exact absurd (by simpa using hq) hb
  · intro _
    (with_reducible refine X_if ?_); (with_reducible refine' wpAny_isTrue_Compare1 ?_ ?a250q; (case a250q => with_unfolding_all rfl)); walk_at "n"; ((rename St _ _ _ _ _ _ _ _ _ _ _ => Z0); with_reducible refine E_int Z0 ?_; clear Z0; intro tX sX SX); (with_reducible refine PyProof.Rows.lt_int ?_); (with_reducible refine wpAny_truthy_bool ?_)
    constructor
    · intro hq
      have hq : b < 0 := by simpa using hq
      (with_reducible refine' X_tup ?_ ?a254q ?b254q; (case a254q => with_unfolding_all rfl); (case b254q => with_unfolding_all rfl)); (with_reducible refine' Call_ ?_ ?a255q; (case a255q => with_unfolding_all rfl)); (with_reducible refine' rdG ?S256q ?k256q ?_; (case S256q => assumption); (case k256q => walk_at "m_mem")); (with_reducible refine' C_def ?S257q ?f257q ?_ ?a257q ?b257q; (case S257q => assumption); (case f257q => decide); (case a257q => with_unfolding_all rfl); (case b257q => with_unfolding_all rfl)); walk_at "ac"; rename St _ _ _ _ _ _ _ _ _ _ _ => S; refine EvI.run (.neg (.name (by walk_at "m_at"))) S fun t9 s9 S => ?_; walk_at "ac"; rename St _ _ _ _ _ _ _ _ _ _ _ => S; refine EvI.run (.neg (.name (by walk_at "m_at"))) S fun t9 s9 S => ?_; (with_reducible refine args_nil ?_); (with_reducible refine' And.intro (St.cur ?S259q) ?_; (case S259q => assumption))
      rename St _ _ _ _ _ _ _ _ _ _ _ => S
      refine (C1 hq).use S hA' hd' fun p u1 u2 s' S _ _ => asgT2 S hA' (by walk_at "m_mem") (by walk_at "m_put") (by walk_at "m_put") fun s' S => ?_
      (with_reducible refine X_ret ?_); (with_reducible refine Tuple_ ?_); walk_at "ac"; walk_at "n"; walk_at "ac"; rename St _ _ _ _ _ _ _ _ _ _ _ => S; refine EvI.run (.neg (.name (by walk_at "m_at"))) S fun t9 s9 S => ?_; (with_reducible refine args_nil ?_); ((rename St _ _ _ _ _ _ _ _ _ _ _ => Z0); with_reducible refine newTup Z0 ?z263q ?_; (case z263q => size_fits); clear Z0; intro pX sX SX hp9 hk9; clear hk9)
      rename St _ _ _ _ _ _ _ _ _ _ _ => S
      rw [fm_neg, fd_neg] at S
      exact hQb _ _ (hQ _ _ _ _ S.same S.keep S.tb (S.fr (by assumption)) (S.get List.mem_cons_self))
    · intro hq
      have hq : 0 < b := by have h9 : ¬ b < 0 := by simpa using hq
                            exact Int.lt_iff_le_and_ne.mpr ⟨Int.not_lt.mp h9, hb.symm⟩
      (with_reducible refine X_if ?_); (with_reducible refine' wpAny_isTrue_Compare1 ?_ ?a265q; (case a265q => with_unfolding_all rfl)); walk_at "n"; ((rename St _ _ _ _ _ _ _ _ _ _ _ => Z0); with_reducible refine E_int Z0 ?_; clear Z0; intro tX sX SX); (with_reducible refine PyProof.Rows.lt_int ?_); (with_reducible refine wpAny_truthy_bool ?_)
      constructor
      · intro hq2
        have hq2 : a < 0 := by simpa using hq2
        (with_reducible refine' X_tup ?_ ?a269q ?b269q; (case a269q => with_unfolding_all rfl); (case b269q => with_unfolding_all rfl)); (with_reducible refine' Call_ ?_ ?a270q; (case a270q => with_unfolding_all rfl)); (with_reducible refine' rdG ?S271q ?k271q ?_; (case S271q => assumption); (case k271q => walk_at "m_mem")); (with_reducible refine' C_def ?S272q ?f272q ?_ ?a272q ?b272q; (case S272q => assumption); (case f272q => decide); (case a272q => with_unfolding_all rfl); (case b272q => with_unfolding_all rfl)); walk_at "ac"; rename St _ _ _ _ _ _ _ _ _ _ _ => S; refine EvI.run (.inv (.name (by walk_at "m_at"))) S fun t9 s9 S => ?_; walk_at "ac"; walk_at "n"; (with_reducible refine args_nil ?_); (with_reducible refine' And.intro (St.cur ?S274q) ?_; (case S274q => assumption))
        rename St _ _ _ _ _ _ _ _ _ _ _ => S
        refine (C2 hq hq2).use S hA' hd' fun p u1 u2 s' S _ _ => asgT2 S hA' (by walk_at "m_mem") (by walk_at "m_put") (by walk_at "m_put") fun s' S => ?_
        (with_reducible refine X_ret ?_); (with_reducible refine Tuple_ ?_); walk_at "ac"; rename St _ _ _ _ _ _ _ _ _ _ _ => S; refine EvI.run (.inv (.name (by walk_at "m_at"))) S fun t9 s9 S => ?_; walk_at "ac"; rename St _ _ _ _ _ _ _ _ _ _ _ => S; refine EvI.run (.add (.name (by walk_at "m_at")) (.inv (.name (by walk_at "m_at")))) S fun t9 s9 S => ?_; (with_reducible refine args_nil ?_); ((rename St _ _ _ _ _ _ _ _ _ _ _ => Z0); with_reducible refine newTup Z0 ?z278q ?_; (case z278q => size_fits); clear Z0; intro pX sX SX hp9 hk9; clear hk9)
        rename St _ _ _ _ _ _ _ _ _ _ _ => S
        rw [(fd_not hq).1, (fd_not hq).2] at S
        exact hQb _ _ (hQ _ _ _ _ S.same S.keep S.tb (S.fr (by assumption)) (S.get List.mem_cons_self))
      · intro hq2
        have hq2 : 0 ≤ a := by have h9 : ¬ a < 0 := by simpa using hq2
                               exact Int.not_lt.mp h9
        (with_reducible refine X_ret ?_); (with_reducible refine' Call_ ?_ ?a280q; (case a280q => with_unfolding_all rfl)); (with_reducible refine' rdG ?S281q ?k281q ?_; (case S281q => assumption); (case k281q => walk_at "m_mem")); (with_reducible refine' C_def ?S282q ?f282q ?_ ?a282q ?b282q; (case S282q => assumption); (case f282q => decide); (case a282q => with_unfolding_all rfl); (case b282q => with_unfolding_all rfl)); walk_at "ac"; walk_at "n"; walk_at "ac"; walk_at "n"; (with_reducible refine args_nil ?_); (with_reducible refine' And.intro (St.cur ?S284q) ?_; (case S284q => assumption))
        rename St _ _ _ _ _ _ _ _ _ _ _ => S
        refine (C3 hq hq2).use S hA' hd' fun p u1 u2 s' S hp _ => ?_
        exact hQb _ _ (hQ _ _ _ _ S.same S.keep S.tb (S.fr hp) (S.get List.mem_cons_self))
theorem bits_abs {a b : Int} (h : a.natAbs ≤ b.natAbs) {k : Nat} (hb : Builtin.Int.intBits b ≤ k) : Builtin.Int.intBits a ≤ k := PySem.intBits_le_of_natAbs h hb
theorem dm_pos {a b : Int} (hb : 0 < b) (ha1 : Builtin.Int.intBits a ≤ 900000) (hb1 : Builtin.Int.intBits b ≤ 900000) (h0 : 0 ≤ a) : DM w mg mb 73 61 a b :=
  dm_step (d := 60) (Int.ne_of_gt hb) (fun h => absurd h (Int.not_lt.mpr (Int.le_of_lt hb))) (fun _ h => absurd h (Int.not_lt.mpr h0)) fun _ _ => dmp h0 ha1 hb hb1
theorem DM.mono {f : Addr} {d d' : Nat} {a b : Int} (C : DM w mg mb f d a b) (h : d ≤ d') : DM w mg mb f d' a b := fun A Q E s t1 t2 W T hA hd hQ => C A Q E s t1 t2 W T hA (dep hd h) hQ
theorem dm_any {a b : Int} (hb : 0 < b) (ha1 : Builtin.Int.intBits a ≤ 900000) (hb1 : Builtin.Int.intBits b ≤ 900000) : DM w mg mb 73 62 a b :=
  dm_step (d := 61) (Int.ne_of_gt hb) (fun h => absurd h (Int.not_lt.mpr (Int.le_of_lt hb))) (fun _ h => dm_pos hb (bits_abs (bn_abs h) ha1) hb1 (Int.le_sub_one_of_lt (Int.neg_pos_of_neg h))) fun _ h => (dmp h ha1 hb hb1).mono (by decide)
/- int_divmod gives the floored quotient and its rest -/
theorem int_dm {a b : Int} (hb : b ≠ 0) (ha1 : Builtin.Int.intBits a ≤ 900000) (hb1 : Builtin.Int.intBits b ≤ 900000) : DM w mg mb 73 63 a b :=
  dm_step (d := 62) hb (fun h => dm_any (Int.neg_pos_of_neg h) (bits_abs (Nat.le_of_eq (Int.natAbs_neg _)) ha1) (bits_abs (Nat.le_of_eq (Int.natAbs_neg _)) hb1)) (fun h ha => (dm_any h (bits_abs (bn_abs ha) ha1) hb1)) fun hb h => (dmp h ha1 hb hb1).mono (by decide)
end
section
variable {w : World} {mg mb : Str → Option Value}
/- the run of a fraction, from above -/
inductive HJ : Int → Int → List Int → Prop
  | nil {o} : HJ o 0 []
  | cons {o u ps} : 0 < u → HJ u ((-o).fmod u) ps → HJ o u (-((-o).fdiv u) :: ps)
noncomputable abbrev lRu : List Str := ["over", "under", "parts", "told", "rest"]
noncomputable abbrev gRu : List (Str × Value) := [("int_divmod", .ref 73)]
theorem fd_mul {a b f : Int} (hf : 0 < f) (hb : 0 < b) : (-(a * f)).fdiv (b * f) = (-a).fdiv b ∧ (-(a * f)).fmod (b * f) = (-a).fmod b * f := by
  have e : -(a * f) = -a * f := by rw [Int.neg_mul]
  have hbf : 0 < b * f := Int.mul_pos hb hf
  rw [e, Int.fdiv_eq_ediv_of_nonneg _ (by walk_at "om"), Int.fdiv_eq_ediv_of_nonneg _ (by walk_at "om"), Int.fmod_eq_emod_of_nonneg _ (by walk_at "om"), Int.fmod_eq_emod_of_nonneg _ (by walk_at "om")]
  exact ⟨Int.mul_ediv_mul_of_pos_left _ _ hf, by rw [Int.mul_comm (-a) f, Int.mul_comm b f, Int.mul_comm _ f]; exact Int.mul_emod_mul_of_pos _ _ hf⟩
theorem law_run {a b f : Int} {t1 t2 : Tok} {A : Around} {Q E : Value → Shared → Prop} {s : Shared} (hf : 0 < f) (hb0 : 0 ≤ b) (hb6 : b ≤ 6) (hz1 : Builtin.Int.intBits (a * f) ≤ 900000) (hz2 : Builtin.Int.intBits (6 * f) ≤ 900000)
    (W : Wd w mg mb s.heap) (T : Tb s.heap) (hA : A.handled = none) (hdp : A.depth + 70 < recursionLimit)
    (hQ : ∀ l vs ps s', Same s s' → Keep s.heap s'.heap → Tb s'.heap → Fresh s.heap l → Is s'.heap l (.lst vs) → IntsAre vs ps → HJ a b ps → Q (.ref l) s') : wpAny (model PR w) A (call (.ref 111) [.int (a * f) t1, .int (b * f) t2]) Q E s := by
  refine enter (locs := lRu) (globs := gRu) (binds := [("over", .int (a * f) t1), ("under", .int (b * f) t2)]) (vals := [some (.int (a * f) t1), some (.int (b * f) t2), none, none, none]) W T (by walk_at "om") (by k_is) (by k_is) (BindsTo.of_eq rfl) (by decide) (locs rfl)
    ⟨rfl, by decide +kernel, kl_of rfl, kg_K W rfl rfl (by k_is) kg_nil⟩
    (HasAll.cons rfl (HasAll.cons rfl (HasAll.skip (HasAll.skip (HasAll.skip trivial))))) rfl rfl fun cs L s₁ S => ?_
  generalize hAA : A.deeper _ = A'
  refine A_gen2 fun Qb Eb hQb => ?_
  have hA' : A'.handled = none := by rw [← hAA]; exact hA
  have hd' : A'.depth + 69 < recursionLimit := by rw [← hAA]; show A.depth + 1 + 69 < _; walk_at "om"
  clear hAA
  (with_reducible refine' X_asg ?_ ?a285q; (case a285q => with_unfolding_all rfl)); (with_reducible refine List_ ?_); (with_reducible refine args_nil ?_); rename St _ _ _ _ _ _ _ _ _ _ _ => S; refine newLst S (by size_fits) fun q s9 S hq1 hq2 => ?_
  walk_at "w"; rename St _ _ _ _ _ _ _ _ _ _ _ => S
  have S := (S.sub (news' := (q, .obj (lstO [] 0)) :: []) (fun p hp => hp)).weakL
  refine X_while (J := fun s' => ∃ vq ps o, St w mg mb s L cs lRu gRu [some o, none, some (.ref q), none, none] [(q, .lst vq)] s' ∧ IntsAre vq ps ∧ HJ a b ps)
    (fun n s' => ∃ a' b' u1 u2 vq ps, b'.toNat = n ∧ 0 ≤ b' ∧ b' ≤ 6 ∧ Builtin.Int.intBits (a' * f) ≤ 900000 ∧ vq.length + n ≤ 6 ∧ St w mg mb s L cs lRu gRu [some (.int (a' * f) u1), some (.int (b' * f) u2), some (.ref q), none, none] [(q, .lst vq)] s'
      ∧ IntsAre vq ps ∧ ∀ r, HJ a' b' r → HJ a b (ps ++ r)) ?_ ?_ (n := b.toNat) ⟨a, b, _, _, [], [], rfl, hb0, hb6, hz1, by simp; walk_at "om", S, .nil, fun r h => h⟩
  · intro n s' hI9
    refine byc fun hno => ?_
    obtain ⟨a', b', u1, u2, vq, ps, rfl, h0, h6, hz, hlen, S, hI, hpre⟩ := hI9
    refine hno ?_
    clear hno
    (with_reducible refine' wpAny_isTrue_Compare1 ?_ ?a288q; (case a288q => with_unfolding_all rfl)); walk_at "n"; ((rename St _ _ _ _ _ _ _ _ _ _ _ => Z0); with_reducible refine E_int Z0 ?_; clear Z0; intro tX sX SX); (with_reducible refine PyProof.Rows.ne_int ?_); (with_reducible refine wpAny_truthy_bool ?_)
    rename St _ _ _ _ _ _ _ _ _ _ _ => S
    refine ⟨fun hq => ?_, fun hq => ?_⟩
    · have hb' : 0 < b' := by
        rcases Int.lt_or_eq_of_le h0 with h | h
        · exact h
        · subst h; simp at hq
      obtain ⟨e1, e2⟩ := fd_mul (a := a') hf hb'
      (with_reducible refine' X_tup ?_ ?a292q ?b292q; (case a292q => with_unfolding_all rfl); (case b292q => with_unfolding_all rfl)); (with_reducible refine' Call_ ?_ ?a293q; (case a293q => with_unfolding_all rfl)); (with_reducible refine' rdG ?S294q ?k294q ?_; (case S294q => assumption); (case k294q => walk_at "m_mem")); (with_reducible refine' C_def ?S295q ?f295q ?_ ?a295q ?b295q; (case S295q => assumption); (case f295q => decide); (case a295q => with_unfolding_all rfl); (case b295q => with_unfolding_all rfl)); walk_at "ac"; rename St _ _ _ _ _ _ _ _ _ _ _ => S; refine EvI.run (.neg (.name (by walk_at "m_at"))) S fun t9 s9 S => ?_; walk_at "ac"; walk_at "n"; (with_reducible refine args_nil ?_); (with_reducible refine' And.intro (St.cur ?S297q) ?_; (case S297q => assumption))
      rename St _ _ _ _ _ _ _ _ _ _ _ => S
      have hb6' : Builtin.Int.intBits (b' * f) ≤ 900000 := bits_abs (by rw [Int.natAbs_mul, Int.natAbs_mul]; exact Nat.mul_le_mul_right _ (absN h0 h6)) hz2
      refine (int_dm (Int.ne_of_gt (Int.mul_pos hb' hf)) (bits_abs (Nat.le_of_eq (Int.natAbs_neg _)) hz) hb6').use S hA' (by walk_at "om") fun p v1 v2 s' S _ _ => asgT2 S hA' (by walk_at "m_mem") (by walk_at "m_put") (by walk_at "m_put") fun s' S => ?_
      rw [e1, e2] at S
      have S := S.drop
      refine X_expr S.nm.kf ?_
      (with_reducible refine' MethodCall_ ?_ ?a298q; (case a298q => with_unfolding_all rfl)); walk_at "n"
      refine methL S (S.get (by walk_at "m_mem")) F.slot_list_append F.type_list_append ?_
      (with_reducible refine' callWith_method1 ?_ ?a299q ?b299q; (case a299q => with_unfolding_all rfl); (case b299q => with_unfolding_all rfl)); walk_at "ac"; rename St _ _ _ _ _ _ _ _ _ _ _ => S; refine EvI.run (.neg (.name (by walk_at "m_at"))) S fun t9 s9 S => ?_; (with_reducible refine args_nil ?_)
      rename St _ _ _ _ _ _ _ _ _ _ _ => S
      refine appL S (by walk_at "m_upd") (by rw [sizeLine_eq]; walk_at "om") fun s' S => ⟨(fun a q => nomatch q), ?_⟩
      refine X_swp ?_ (swp2 S.nm (by decide) (by decide) (by decide) rfl rfl rfl rfl)
      (with_reducible refine Tuple_ ?_); walk_at "ac"; walk_at "n"; walk_at "ac"; walk_at "n"; (with_reducible refine args_nil ?_); ((rename St _ _ _ _ _ _ _ _ _ _ _ => Z0); with_reducible refine newTup Z0 ?z303q ?_; (case z303q => size_fits); clear Z0; intro pX sX SX hp9 hk9; clear hk9)
      rename St _ _ _ _ _ _ _ _ _ _ _ => S
      refine swpT2 S hA' (by walk_at "m_mem") (by walk_at "m_put") (by walk_at "m_put") fun s' S => ?_
      have hm0 : 0 ≤ (-a').fmod b' := Int.fmod_nonneg_of_pos _ hb'
      have hm1 : (-a').fmod b' < b' := Int.fmod_lt_of_pos _ hb'
      have hm2 := (Int.toNat_lt_toNat hb').mpr hm1
      refine X_nil ⟨((-a').fmod b').toNat, ⟨hm2, rfl⟩, b', (-a').fmod b', _, _, _, _, rfl, hm0, Int.le_trans (Int.le_of_lt hm1) h6, hb6', ?_, (S.drop.le (by walk_at "m_le")), ints_snoc hI _ _, fun r hr => ?_⟩
      · rw [List.length_append, List.length_singleton]; walk_at "om"
      · rw [List.append_assoc]
        exact hpre _ (.cons hb' hr)
    · have hb' : b' = 0 := by
        rcases Int.lt_or_eq_of_le h0 with h | h
        · have : b' * f ≠ 0 := Int.ne_of_gt (Int.mul_pos h hf)
          simp [this] at hq
        · exact h.symm
      subst hb'
      have := hpre [] .nil
      rw [List.append_nil] at this
      exact X_nil ⟨rfl, vq, ps, _, S.le (by walk_at "m_le"), hI, this⟩
  · intro s' hI9
    refine byc fun hno => ?_
    obtain ⟨vq, ps, o, S, hI, hH⟩ := hI9
    refine hno ?_
    clear hno
    (with_reducible refine X_ret ?_); walk_at "n"
    exact hQb _ _ (hQ q vq ps _ S.same S.keep S.tb (S.fr hq1) (S.get (by walk_at "m_mem")) hI hH)
end
end
section
set_option maxRecDepth 100000
theorem lin1 {A B C P : Int} (h : 0 ≤ C ∧ C < B) (h3 : 2 * B ≤ P) (hs : A = P - C) : 0 ≤ B ∧ B < A := by lia
theorem ltQ {X Y P Q U e e' : Int} (hX : X = P - e) (hY : Y = Q - e') (h : P + U ≤ Q) (he : 0 ≤ e) (he' : e' < U) : X < Y := by lia
theorem absm {a b : Int} (h : 0 ≤ a) (h2 : a ≤ b) : a.natAbs ≤ b.natAbs := absN h h2
theorem pos2 {B C : Int} (h : 0 ≤ C ∧ C < B) : 0 ≤ B := Int.le_trans h.1 (Int.le_of_lt h.2)
theorem le_max_l {p a b : Nat} (h : p ≤ a) : p ≤ max a b := Nat.le_trans h (Nat.le_max_left a b)
/- a run backwards -/
noncomputable def back : List Int → Int × Int → Int × Int
  | [], p => p
  | a :: r, p => (a * (back r p).1 - (back r p).2, (back r p).1)
theorem back_snoc (qs : List Int) (a x y : Int) : back (qs ++ [a]) (x, y) = back qs (a * x - y, x) := by
  induction qs with
  | nil => rfl
  | cons q r ih => simp only [List.cons_append, back, ih]
/- the rests -/
noncomputable def rs (f : Int) : List Int → List Int
  | [] => [f, 0]
  | p :: r => (p * (rs f r).getD 0 0 - (rs f r).getD 1 0) :: rs f r
theorem rs_length (f : Int) : ∀ ps, (rs f ps).length = ps.length + 2
  | [] => rfl
  | _ :: r => by rw [rs, List.length_cons, rs_length f r, List.length_cons]
theorem rs_drop (f : Int) : ∀ (ps : List Int) (k : Nat), k ≤ ps.length → (rs f ps).drop k = rs f (ps.drop k)
  | _, 0, _ => by simp
  | [], k + 1, h => by simp at h
  | p :: r, k + 1, h => by
    rw [rs, List.drop_succ_cons, List.drop_succ_cons]
    exact rs_drop f r k (by simpa using h)
/- the k-th rest -/
noncomputable def rk (f : Int) (ps : List Int) (k : Nat) : Int := (rs f ps).getD k 0
theorem rk_drop (f : Int) (ps : List Int) (k j : Nat) (h : k ≤ ps.length) : rk f ps (k + j) = rk f (ps.drop k) j := by
  unfold rk
  rw [← rs_drop f ps k h]
  simp [List.getD]
theorem rk_step (f : Int) (ps : List Int) (k : Nat) (h : k < ps.length) : rk f ps k = ps.getD k 0 * rk f ps (k + 1) - rk f ps (k + 2) := by
  have e : ps.drop k = ps[k] :: ps.drop (k + 1) := List.drop_eq_getElem_cons h
  have e0 := rk_drop f ps k 0 (Nat.le_of_lt h)
  have e1 := rk_drop f ps (k + 1) 0 h
  have e2 := rk_drop f ps (k + 1) 1 h
  rw [Nat.add_zero] at e0 e1
  rw [e0, e, e1, show k + 2 = k + 1 + 1 from rfl, e2]
  have : ps.getD k 0 = ps[k] := by simp [List.getD, h]
  rw [this]
  simp [rk, rs]
theorem rk_last (f : Int) (ps : List Int) : rk f ps ps.length = f ∧ rk f ps (ps.length + 1) = 0 := by
  have h1 := rk_drop f ps ps.length 0 (Nat.le_refl _)
  have h2 := rk_drop f ps ps.length 1 (Nat.le_refl _)
  rw [Nat.add_zero] at h1
  rw [h1, h2, List.drop_length]
  exact ⟨rfl, rfl⟩
/- the parts but the first are two and more -/
noncomputable def Two (ps : List Int) : Prop := ∀ k, 0 < k → k < ps.length → 2 ≤ ps.getD k 0
theorem rk_dec {f : Int} {ps : List Int} (hf : 0 < f) (h2 : Two ps) : ∀ k, k < ps.length → 0 ≤ rk f ps (k + 2) ∧ rk f ps (k + 2) < rk f ps (k + 1) := by
  have hl := rk_last f ps
  have key : ∀ j k, k + j + 1 = ps.length → 0 ≤ rk f ps (k + 2) ∧ rk f ps (k + 2) < rk f ps (k + 1) := by
    intro j
    induction j with
    | zero => intro k e; rw [show k + 2 = ps.length + 1 from congrArg (· + 1) e, show k + 1 = ps.length from e, hl.1, hl.2]; exact ⟨Int.le_refl _, hf⟩
    | succ j ih =>
      intro k e
      have h : 0 ≤ rk f ps (k + 3) ∧ rk f ps (k + 3) < rk f ps (k + 2) := ih (k + 1) ((congrArg (· + 1) (Nat.add_right_comm k 1 j)).trans e)
      have hk : k + 1 < ps.length := e ▸ Nat.succ_lt_succ (Nat.lt_add_of_pos_right (Nat.succ_pos j))
      have h3 : 2 * rk f ps (k + 2) ≤ ps.getD (k + 1) 0 * rk f ps (k + 2) := Int.mul_le_mul_of_nonneg_right (h2 (k + 1) (Nat.succ_pos k) hk) (pos2 h)
      exact lin1 h h3 (rk_step f ps (k + 1) hk)
  exact fun k h => key (ps.length - (k + 1)) k (by rw [Nat.add_right_comm]; exact Nat.add_sub_cancel' h)
/- the beginnings -/
noncomputable def cvn (x y : Int) (ps : List Int) : Nat → Int
  | 0 => x
  | 1 => y
  | k + 2 => ps.getD k 0 * cvn x y ps (k + 1) - cvn x y ps k
noncomputable abbrev tn (ps : List Int) := cvn 0 1 ps
noncomputable abbrev fn' (ps : List Int) := cvn (-1) 0 ps
theorem back_take (ps : List Int) : ∀ k, k ≤ ps.length → ∀ x y, back (ps.take k) (x, y) = (x * tn ps (k + 1) - y * tn ps k, x * fn' ps (k + 1) - y * fn' ps k)
  | 0, _, x, y => by simp [back, tn, fn', cvn]
  | k + 1, h, x, y => by
    have e : ps.take (k + 1) = ps.take k ++ [ps.getD k 0] := by
      rw [List.take_add_one]
      have : ps.getD k 0 = ps[k] := by simp [List.getD, (show k < ps.length from h)]
      rw [this]; simp [(show k < ps.length from h)]
    rw [e, back_snoc, back_take ps k (Nat.le_of_lt h)]
    simp only [tn, fn', cvn]
    refine Prod.ext ?_ ?_ <;> grind
theorem cv_rest {f : Int} {ps : List Int} : ∀ j, j ≤ ps.length + 1 → tn ps j * rk f ps 1 - fn' ps j * rk f ps 0 = rk f ps j := by
  have key : ∀ j, (j ≤ ps.length + 1 → tn ps j * rk f ps 1 - fn' ps j * rk f ps 0 = rk f ps j) ∧ (j + 1 ≤ ps.length + 1 → tn ps (j + 1) * rk f ps 1 - fn' ps (j + 1) * rk f ps 0 = rk f ps (j + 1)) := by
    intro j
    induction j with
    | zero => exact ⟨fun _ => by simp [tn, fn', cvn], fun _ => by simp [tn, fn', cvn]⟩
    | succ j ih =>
      refine ⟨ih.2, fun h => ?_⟩
      have h1 := ih.1 (Nat.le_of_succ_le (Nat.le_of_succ_le h))
      have h2 := ih.2 (Nat.le_of_succ_le h)
      have hs := rk_step f ps j (Nat.le_of_succ_le_succ h)
      simp only [tn, fn', cvn] at h1 h2 ⊢
      grind
  exact fun j => (key j).1
theorem cv_det (ps : List Int) : ∀ j, tn ps j * fn' ps (j + 1) - tn ps (j + 1) * fn' ps j = 1
  | 0 => by simp [tn, fn', cvn]
  | j + 1 => by
    have := cv_det ps j
    simp only [tn, fn', cvn] at this ⊢
    grind
theorem cv_inc {ps : List Int} (h2 : Two ps) : ∀ k, k < ps.length → 0 ≤ fn' ps (k + 1) ∧ fn' ps (k + 1) < fn' ps (k + 2)
  | 0, _ => by simp [fn', cvn]
  | k + 1, h => by
    have ih := cv_inc h2 k (Nat.lt_of_succ_lt h)
    exact lin1 (A := fn' ps (k + 3)) ih (Int.mul_le_mul_of_nonneg_right (h2 (k + 1) (Nat.succ_pos k) h) (pos2 ih)) rfl
theorem neg_dm {p N D : Int} (h0 : 0 ≤ D) (h1 : D < N) : (-(p * N - D)).fdiv N = -p ∧ (-(p * N - D)).fmod N = D := by
  have hN : 0 ≤ N := pos2 ⟨h0, h1⟩
  rw [Int.fdiv_eq_ediv_of_nonneg _ hN, Int.fmod_eq_emod_of_nonneg _ hN]
  exact div_uniq (by grind) h0 h1
theorem hj_cons {p N D : Int} {r : List Int} (h0 : 0 ≤ D) (h1 : D < N) (h : HJ N D r) : HJ (p * N - D) N (p :: r) := by
  obtain ⟨e1, e2⟩ := neg_dm (p := p) h0 h1
  have := HJ.cons (o := p * N - D) (u := N) (ps := r) (Int.lt_of_le_of_lt h0 h1) (by rw [e2]; exact h)
  rw [e1, Int.neg_neg] at this
  exact this
theorem hj_two : ∀ {qs : List Int}, (∀ q ∈ qs, 2 ≤ q) → HJ (back qs (1, 0)).1 (back qs (1, 0)).2 qs ∧ 0 ≤ (back qs (1, 0)).2 ∧ (back qs (1, 0)).2 < (back qs (1, 0)).1
  | [], _ => ⟨.nil, by simp [back], by simp [back]⟩
  | q :: r, h => by
    obtain ⟨h1, h2, h3⟩ := hj_two fun x hx => h x (.tail _ hx)
    have h4 := pos2 ⟨h2, h3⟩
    refine ⟨hj_cons h2 h3 h1, h4, ?_⟩
    exact (lin1 (A := q * (back r (1, 0)).1 - (back r (1, 0)).2) ⟨h2, h3⟩ (Int.mul_le_mul_of_nonneg_right (h q (.head _)) h4) rfl).2
theorem hj_take {ps : List Int} (h2 : Two ps) {k : Nat} (hk : k < ps.length) : HJ (tn ps (k + 2)) (fn' ps (k + 2)) (ps.take (k + 1)) := by
  have e := back_take ps (k + 1) hk 1 0
  cases ps with
  | nil => simp at hk
  | cons p r =>
    have h := hj_two (qs := r.take k) fun q hq => by
      obtain ⟨i, hi, rfl⟩ := List.mem_iff_getElem.mp hq
      have hi' : i < r.length := Nat.lt_of_lt_of_le hi (List.length_take_le' ..)
      have := h2 (i + 1) (Nat.succ_pos i) (Nat.succ_lt_succ hi')
      simpa [List.getD, hi'] using this
    have h' := hj_cons (p := p) h.2.1 h.2.2 h.1
    rw [show (p :: r).take (k + 1) = p :: r.take k from rfl] at e ⊢
    simp only [back] at e
    obtain ⟨e1, e2⟩ := Prod.mk.inj e
    simp at e1 e2
    rw [e1, e2] at h'
    exact h'
/- the order of the versions -/
noncomputable def vlt : List Int → List Int → Bool
  | [], _ => false
  | _ :: _, [] => true
  | p :: ps, q :: qs => if p = q then vlt ps qs else decide (p < q)
theorem hj_over {o u : Int} (hu : 0 < u) : ∃ D, 0 ≤ D ∧ D < u ∧ o = -((-o).fdiv u) * u - D ∧ D = (-o).fmod u := by
  refine ⟨(-o).fmod u, Int.fmod_nonneg_of_pos _ hu, Int.fmod_lt_of_pos _ hu, ?_, rfl⟩
  have := Int.mul_fdiv_add_fmod (-o) u
  grind
theorem hj_cmp {a b : Int} {ps : List Int} (h1 : HJ a b ps) : ∀ {c d : Int} {qs : List Int}, HJ c d qs → (b = 0 → 0 < a) → (d = 0 → 0 < c) → (vlt ps qs = true ↔ a * d < c * b) ∧ (ps = qs ↔ a * d = c * b) := by
  induction h1 with
  | nil =>
    intro c d qs h2 ha hc
    cases h2 with
    | nil => simp [vlt]
    | cons hd _ =>
      have := Int.mul_pos (ha rfl) hd
      simp [vlt]; exact ⟨Int.le_of_lt this, Int.ne_of_gt (ha rfl), Int.ne_of_gt hd⟩
  | @cons o u ps hu _ ih =>
    intro c d qs h2 ha hc
    cases h2 with
    | nil =>
      have := Int.mul_pos (hc rfl) hu
      simp [vlt]; lia
    | @cons _ _ qs hd h2 =>
      obtain ⟨D, D0, D1, e1, e2⟩ := hj_over (o := o) hu
      obtain ⟨D', D0', D1', e1', e2'⟩ := hj_over (o := c) hd
      generalize hp : -((-o).fdiv u) = p at *
      generalize hq : -((-c).fdiv d) = q at *
      rw [← e2] at ih
      rw [← e2'] at h2
      obtain ⟨i1, i2⟩ := ih h2 (fun _ => hu) (fun _ => hd)
      have k1 : D' * u < d * u := Int.mul_lt_mul_of_pos_right D1' hu
      have k2 : 0 ≤ D * d := Int.mul_nonneg D0 (Int.le_of_lt hd)
      have k3 : D * d < u * d := Int.mul_lt_mul_of_pos_right D1 hd
      have k4 : 0 ≤ D' * u := Int.mul_nonneg D0' (Int.le_of_lt hu)
      have k5 : 0 < u * d := Int.mul_pos hu hd
      have E1 : o * d = p * (u * d) - D * d := by rw [e1]; grind
      have E2 : c * u = q * (u * d) - D' * u := by rw [e1']; grind
      have k6 : d * u = u * d := Int.mul_comm ..
      by_cases hpq : p = q
      · subst hpq
        refine ⟨?_, ?_⟩
        · simp only [vlt, if_true]
          rw [i1, E1, E2, Int.mul_comm u D', Int.mul_comm d D]; exact Int.sub_lt_sub_left_iff.symm
        · rw [List.cons.injEq]
          simp only [true_and]
          rw [i2, E1, E2, Int.mul_comm u D', Int.mul_comm d D, Int.sub_right_inj]; exact eq_comm
      · have hne : ¬ (p :: ps = q :: qs) := fun h => hpq (by cases h; rfl)
        simp only [vlt, if_neg hpq, decide_eq_true_eq, hne, false_iff]
        rcases Int.lt_or_gt_of_ne hpq with h | h
        · have : (p + 1) * (u * d) ≤ q * (u * d) := Int.mul_le_mul_of_nonneg_right (Int.add_one_le_of_lt h) (Int.le_of_lt k5)
          rw [Int.add_mul, Int.one_mul] at this
          have L := ltQ E1 E2 this k2 (k6 ▸ k1)
          exact ⟨⟨fun _ => L, fun _ => h⟩, Int.ne_of_lt L⟩
        · have : (q + 1) * (u * d) ≤ p * (u * d) := Int.mul_le_mul_of_nonneg_right (Int.add_one_le_of_lt h) (Int.le_of_lt k5)
          rw [Int.add_mul, Int.one_mul] at this
          have L := ltQ E2 E1 this k4 k3
          exact ⟨⟨fun h' => absurd h (Int.not_lt.mpr (Int.le_of_lt h')), fun h' => absurd h' (Int.not_lt.mpr (Int.le_of_lt L))⟩, Int.ne_of_gt L⟩
theorem hj_len {a b : Int} {ps : List Int} (h : HJ a b ps) : (ps.length : Int) ≤ b ∨ b < 0 := by
  induction h with
  | nil => exact .inl (by simp)
  | @cons o u ps hu _ ih =>
    have h1 := Int.fmod_lt_of_pos (-o) hu
    have h2 := Int.fmod_nonneg_of_pos (-o) hu
    rw [List.length_cons]
    lia
theorem hj_nonneg {a b : Int} {ps : List Int} (h : HJ a b ps) : -b < a → ∀ p ∈ ps, 0 ≤ p := by
  induction h with
  | nil => intro _ p hp; nomatch hp
  | @cons o u ps hu _ ih =>
    intro hab p hp
    obtain ⟨D, D0, D1, e1, e2⟩ := hj_over (o := o) hu
    rcases List.mem_cons.mp hp with rfl | hp
    · generalize -((-o).fdiv u) = p at *
      rcases Int.lt_or_le p 0 with h | h
      · have : p * u ≤ -1 * u := Int.mul_le_mul_of_nonneg_right (Int.le_sub_one_of_lt h) (Int.le_of_lt hu)
        lia
      · exact h
    · exact ih (by rw [← e2]; exact Int.lt_of_le_of_lt (Int.neg_nonpos_of_nonneg D0) hu) p hp
theorem hj_abs {a b : Int} {ps : List Int} (h : HJ a b ps) : ∀ p ∈ ps, p.natAbs ≤ max a.natAbs b.natAbs := by
  induction h with
  | nil => intro p hp; nomatch hp
  | @cons o u ps hu _ ih =>
    intro p hp
    obtain ⟨D, D0, D1, e1, e2⟩ := hj_over (o := o) hu
    rcases List.mem_cons.mp hp with rfl | hp
    · generalize -((-o).fdiv u) = p at *
      have h1 : p.natAbs ≤ o.natAbs := by
        rcases Int.lt_or_le 0 p with h | h
        · have : (p - 1) * 1 ≤ (p - 1) * u := Int.mul_le_mul_of_nonneg_left hu (Int.sub_nonneg_of_le h)
          have e3 : (p - 1) * u = p * u - u := by rw [Int.sub_mul, Int.one_mul]
          have : p ≤ o := by lia
          exact absm (Int.le_of_lt h) this
        · have h3 : (-p) * 1 ≤ (-p) * u := Int.mul_le_mul_of_nonneg_left hu (Int.neg_nonneg_of_nonpos h)
          have e3 : (-p) * u = -(p * u) := Int.neg_mul ..
          have : -p ≤ -o := by lia
          have := absm (Int.neg_nonneg_of_nonpos h) this
          rwa [Int.natAbs_neg, Int.natAbs_neg] at this
      exact le_max_l h1
    · rw [← e2] at ih
      exact Nat.le_trans (ih p hp) (Nat.max_le.mpr ⟨Nat.le_max_right .., Nat.le_trans (absm D0 (Int.le_of_lt D1)) (Nat.le_max_right ..)⟩)
/- no fraction over the whole one with a lower number below the next beginning's is less than the beginning -/
theorem cv_best {f : Int} {ps : List Int} (hf : 0 < f) (h2 : Two ps) {k : Nat} (hk : k < ps.length) {c j : Int} (hj : 0 < j) (hc : 0 ≤ c * rk f ps 1 - j * rk f ps 0) (hn : k + 1 < ps.length → j < fn' ps (k + 3)) :
    tn ps (k + 2) * j ≤ c * fn' ps (k + 2) := by
  have hF := (cv_inc h2 k hk)
  have r1 : 0 < rk f ps 1 := by have h : 0 ≤ rk f ps 2 ∧ rk f ps 2 < rk f ps 1 := rk_dec hf h2 0 (Nat.lt_of_le_of_lt (Nat.zero_le k) hk); exact Int.lt_of_le_of_lt h.1 h.2
  have e1 := cv_rest (f := f) (ps := ps) (k + 2) (Nat.succ_le_succ hk)
  by_cases hl : k + 1 < ps.length
  · have hd := cv_det ps (k + 2)
    have e2 := cv_rest (f := f) (ps := ps) (k + 3) (Nat.succ_le_succ hl)
    have hr := rk_dec hf h2 (k + 1) hl
    rw [show k + 1 + 2 = k + 3 from rfl, show k + 1 + 1 = k + 2 from rfl] at hr
    have hF2 := cv_inc h2 (k + 1) hl
    rw [show k + 1 + 2 = k + 3 from rfl, show k + 1 + 1 = k + 2 from rfl] at hF2
    rw [show k + 2 + 1 = k + 3 from rfl] at hd
    have hn := hn hl
    generalize tn ps (k + 2) = T at *
    generalize tn ps (k + 3) = T' at *
    generalize fn' ps (k + 2) = F at *
    generalize fn' ps (k + 3) = F' at *
    generalize rk f ps (k + 2) = R at *
    generalize rk f ps (k + 3) = R' at *
    generalize rk f ps 1 = x at *
    generalize rk f ps 0 = y at *
    rcases Int.lt_or_le (c * F) (T * j) with hlt | hle
    rotate_left
    · exact hle
    exfalso
    have hA : ∃ A, A = c * F' - j * T' := ⟨_, rfl⟩
    have hB : ∃ B, B = T * j - F * c := ⟨_, rfl⟩
    obtain ⟨A, hA⟩ := hA
    obtain ⟨B, hB⟩ := hB
    have hB1 : 1 ≤ B := by rw [hB, Int.mul_comm F c]; exact Int.add_one_le_of_lt (Int.sub_pos_of_lt hlt)
    have j1 : j = A * F + B * F' := by
      have : A * F + B * F' = j * (T * F' - T' * F) := by rw [hA, hB]; grind
      rw [this, hd, Int.mul_one]
    have c1 : c = A * T + B * T' := by
      have : A * T + B * T' = c * (T * F' - T' * F) := by rw [hA, hB]; grind
      rw [this, hd, Int.mul_one]
    have q1 : A * R + B * R' = c * x - j * y := by rw [← e1, ← e2, c1, j1]; grind
    have hA1 : A < 0 := by
      rcases Int.lt_or_le A 0 with h | h
      · exact h
      · have h3 : 0 ≤ A * F := Int.mul_nonneg h (pos2 hF)
        have h4 : 1 * F' ≤ B * F' := Int.mul_le_mul_of_nonneg_right hB1 (pos2 hF2)
        lia
    have hBA : -A < B := by
      rcases Int.lt_or_le (-A) B with h | h
      · exact h
      · have h3 : B * R' ≤ (-A) * R' := Int.mul_le_mul_of_nonneg_right h hr.1
        have h4 : (-A) * R' < (-A) * R := Int.mul_lt_mul_of_pos_left hr.2 (Int.neg_pos_of_neg hA1)
        have h5 : (-A) * R = -(A * R) := Int.neg_mul ..
        lia
    have h6 : (-A + 1) * F' ≤ B * F' := Int.mul_le_mul_of_nonneg_right (Int.add_one_le_of_lt hBA) (pos2 hF2)
    have h7 : (-A) * F ≤ (-A) * F' := Int.mul_le_mul_of_nonneg_left (Int.le_of_lt hF2.2) (Int.le_of_lt (Int.neg_pos_of_neg hA1))
    have h8 : (-A + 1) * F' = (-A) * F' + F' := by rw [Int.add_mul, Int.one_mul]
    have h9 : (-A) * F = -(A * F) := Int.neg_mul ..
    lia
  · have e3 : rk f ps (k + 2) = 0 := by rw [show k + 2 = ps.length + 1 from congrArg (· + 1) (Nat.le_antisymm hk (Nat.le_of_not_lt hl))]; exact (rk_last f ps).2
    rw [e3] at e1
    generalize tn ps (k + 2) = T at *
    generalize fn' ps (k + 2) = F at *
    generalize rk f ps 1 = x at *
    generalize rk f ps 0 = y at *
    have h3 : 0 ≤ F * (c * x - j * y) := Int.mul_nonneg (pos2 hF) hc
    have h4 : F * (c * x - j * y) = (c * F - T * j) * x := by
      have : T * x = F * y := Int.eq_of_sub_eq_zero e1
      grind
    rw [h4] at h3
    rcases Int.lt_or_le (c * F - T * j) 0 with h | h
    · exact absurd h3 (Int.not_le.mpr (Int.mul_neg_of_neg_of_pos h r1))
    · exact Int.le_of_sub_nonneg h
end
section
open PySem PySem.W PySem.Calls PyProof.Rows PySem.SeqAt
open MeetsSeq MeetsSeq2 MeetsSeq3 SeqRoads2
set_option maxRecDepth 100000
/- equal values, of ints and texts -/
noncomputable def veq : Value → Value → Bool
  | .int a _, .int b _ => a == b
  | .str a _, .str b _ => a == b
  | _, _ => false
noncomputable def veqs : List Value → List Value → Bool
  | [], [] => true
  | x :: xs, y :: ys => veq x y && veqs xs ys
  | _, _ => false
noncomputable def IsIS : Value → Prop
  | .int _ _ => True
  | .str _ _ => True
  | _ => False
theorem veq_at {A : Around} {s : Shared} : ∀ {x y : Value}, IsIS x → IsIS y → EqAt A s x y (veq x y)
  | .int a t, .int b u, _, _ => EqAt.int_int a t b u
  | .str a t, .str b u, _, _ => EqAt.str_str a t b u
  | .int a t, .str b u, _, _ => EqAt.int_str a t b u
  | .str a t, .int b u, _, _ => EqAt.str_int a t b u
theorem veqs_all : ∀ (vs us : List Value), vs.length = us.length → (List.range vs.length).all (fun j => veq (vs.getD j .none) (us.getD j .none)) = veqs vs us
  | [], [], _ => rfl
  | x :: xs, y :: ys, h => by
    rw [List.length_cons, List.range_succ_eq_map, List.all_cons, List.all_map]
    have := veqs_all xs ys (by simpa using h)
    simp only [veqs]
    rw [← this]
    rfl
/- the end of a comparison by order, from the i-th place on -/
inductive LtR (A : Around) (s : Shared) (xs ys : Array Value) : Nat → Bool → Prop
  | done {i} : xs.size = ys.size → xs.size = i → LtR A s xs ys i false
  | diff {i r x y} : xs[i]? = some x → ys[i]? = some y → EqAt A.in1 s x y false → (∀ (prog : Program) (w : World) (E Q : Value → Shared → Prop), Q (.bool r) s → wpAny (model prog w) A.in1 (richCompare .Lt x y) Q E s) → LtR A s xs ys i r
  | same {i r x y} : xs[i]? = some x → ys[i]? = some y → EqAt A.in1 s x y true → LtR A s xs ys (i + 1) r → LtR A s xs ys i r
theorem lt_loopAt (l b : Addr) (items items2 : Array Value) (n n2 : Nat) (dd dd2 : Option Addr) (sl sl2 : Array (Option Value)) (r : Bool) (k : Nat) :
    ∀ i : Nat, items.size + 1 - i = k → Meets (Builtin.«list.__eq__.loop» ⟨[.ref l, .ref b, rawInt i, rawInt 0], []⟩)
      (fun A R s => s.heap.get? l = some { cls := .type "list", dict := dd, data := .seq items n, slots := sl } ∧ s.heap.get? b = some { cls := .type "list", dict := dd2, data := .seq items2 n2, slots := sl2 } ∧
        LtR A s items items2 i r ∧ R (.ok (.ret (.bool r))) s) := by
  induction k with
  | zero =>
    intro i hk prog w A R s h
    obtain ⟨hp, g, d, tk, os⟩ := s; obtain ⟨hl, hb, hr, h⟩ := h
    have hle := Nat.le_of_sub_eq_zero hk
    cases hr with
    | done _ e => exact absurd hle (Nat.not_le.mpr (Nat.lt_succ_of_le (Nat.le_of_eq e.symm)))
    | diff e => have := Array.getElem?_eq_some_iff.mp e; obtain ⟨q, _⟩ := this; exact absurd hle (Nat.not_le.mpr (Nat.lt_succ_of_lt q))
    | same e => have := Array.getElem?_eq_some_iff.mp e; obtain ⟨q, _⟩ := this; exact absurd hle (Nat.not_le.mpr (Nat.lt_succ_of_lt q))
  | succ k ih =>
    intro i hk prog w A R s h
    obtain ⟨hp, g, d, tk, os⟩ := s; obtain ⟨hl, hb, hr, h⟩ := h
    have hc : ((i : Int) + 1) = ((i + 1 : Nat) : Int) := by push_cast; rfl
    cases hr with
    | done e1 e2 =>
      wp_walk using PySem.AutoSeq1.wpAny_loadPart' hl, PySem.AutoSeq1.wpAny_loadPart' hb
      have hi1 : items[((i : Nat) : Int).toNat]? = none := show items[i]? = none from Array.getElem?_eq_none (Nat.le_of_eq e2)
      have hi2 : items2[((i : Nat) : Int).toNat]? = none := show items2[i]? = none from Array.getElem?_eq_none (Nat.le_of_eq (e1.symm.trans e2))
      rw [hi1, hi2]
      wp_walk using PySem.AutoSeq1.wpAny_loadPart' hl, PySem.AutoSeq1.wpAny_loadPart' hb
      have e3 : decide (items.size < items2.size) = false := decide_eq_false fun h => Nat.lt_irrefl _ (e1 ▸ h)
      show R (.ok (.ret (.bool (decide (items.size < items2.size))))) _
      rw [e3]
      exact h
    | @same _ _ x y e1 e2 e3 hr =>
      wp_walk using PySem.AutoSeq1.wpAny_loadPart' hl, PySem.AutoSeq1.wpAny_loadPart' hb
      have hi1 : items[((i : Nat) : Int).toNat]? = some x := by simpa using e1
      have hi2 : items2[((i : Nat) : Int).toNat]? = some y := by simpa using e2
      rw [hi1, hi2]
      refine wpAny_bind (e3 prog w _ _ ?_)
      wp_walk
      rw [hc]
      exact ⟨plainId_quiet plain_eq_loop _, codeAny_builtin entry_eq_loop (by
        rw [Around.under_plainId plain_eq_loop _]
        exact ih (i + 1) (by show (items.size + 1 - i).pred = k; rw [hk]; rfl) prog w A R _ ⟨hl, hb, hr, h⟩)⟩
    | @diff _ _ x y e1 e2 e3 hlt =>
      wp_walk using PySem.AutoSeq1.wpAny_loadPart' hl, PySem.AutoSeq1.wpAny_loadPart' hb
      have hi1 : items[((i : Nat) : Int).toNat]? = some x := by simpa using e1
      have hi2 : items2[((i : Nat) : Int).toNat]? = some y := by simpa using e2
      rw [hi1, hi2]
      refine wpAny_bind (e3 prog w _ _ ?_)
      wp_walk using PySem.AutoSeq1.wpAny_loadPart' hl, PySem.AutoSeq1.wpAny_loadPart' hb
      rw [hi1, hi2]
      refine wpAny_bind (hlt prog w _ _ ?_)
      wp_walk
      exact h
theorem list_ltAt (l b : Addr) (items items2 : Array Value) (n n2 : Nat) (dd dd2 : Option Addr) (sl sl2 : Array (Option Value)) (r : Bool) :
    Meets (Builtin.«list.__lt__» ⟨[.ref l, .ref b], []⟩)
      (fun A R s => s.heap.get? l = some { cls := .type "list", dict := dd, data := .seq items n, slots := sl } ∧ s.heap.get? b = some { cls := .type "list", dict := dd2, data := .seq items2 n2, slots := sl2 } ∧
        LtR A s items items2 0 r ∧ R (.ok (.ret (.bool r))) s) := by
  intro prog w A R s h
  obtain ⟨hp, g, d, tk, os⟩ := s; obtain ⟨hl, hb, hr, h⟩ := h
  have f3 := AutoSeq1.sub_list_list
  wp_walk using PySem.AutoSeq1.wpAny_loadPart' hl, PySem.AutoSeq1.wpAny_loadPart' hb
  exact ⟨plainId_quiet plain_eq_loop _, codeAny_builtin entry_eq_loop (by
    rw [Around.under_plainId plain_eq_loop _]
    exact lt_loopAt l b items items2 n n2 dd dd2 sl sl2 r _ 0 rfl prog w A R _ ⟨hl, hb, hr, h⟩)⟩
theorem lt_listAt {prog : Program} {w : World} {A : Around} {E : Value → Shared → Prop} {s : Shared} {l b : Addr} {items items2 : Array Value} {r : Bool} {Q : Value → Shared → Prop} (hl : s.heap.IsList l items) (hb : s.heap.IsList b items2) (hu : A.units < cLine)
    (hr : LtR A s items items2 0 r) (h : Q (.bool r) s) : wpAny (model prog w) A (compareOp .Lt (.ref l) (.ref b)) Q E s := by
  obtain ⟨⟨cls, dd, data, sl⟩, ho, hc, n, hd⟩ := id hl
  obtain ⟨⟨cls2, dd2, data2, sl2⟩, ho2, hc2, n2, hd2⟩ := id hb
  simp only at hc hd hc2 hd2
  subst hc hd hc2 hd2
  exact richCompare_meets_room (op := .Lt) ⟨_, ho, rfl⟩ ⟨_, ho2, rfl⟩ F.slot_list_lt F.entry_list_lt (F.args_list_lt_2 _ _) (list_ltAt l b items items2 n n2 dd dd2 sl sl2 r)
    ⟨ho, ho2, hr, show Value.bool r ≠ Value.notImplemented ∧ Q (.bool r) s from ⟨(fun x => nomatch x), h⟩⟩ hu
section
variable {wd : Str} {vs us : List Value} {ns ms : List Nat} {A : Around} {s : Shared}
theorem VerV.isIS (h : VerV wd vs ns) : ∀ v ∈ vs, IsIS v := by
  induction h with
  | last => intro v hv; rcases List.mem_cons.mp hv with rfl | hv; exact trivial; cases List.mem_singleton.mp hv; exact trivial
  | num _ ih =>
    intro v hv
    rcases List.mem_cons.mp hv with rfl | hv
    · exact trivial
    rcases List.mem_cons.mp hv with rfl | hv
    · exact trivial
    exact ih v hv
theorem VerV.veqs (h : VerV wd vs ns) : ∀ {us ms}, VerV wd us ms → Mine.veqs vs us = decide (ns = ms) := by
  induction h with
  | last =>
    intro us ms h2
    cases h2 with
    | last => simp [Mine.veqs, veq]
    | num _ => simp [Mine.veqs, veq]
  | @num n t u vs ns h ih =>
    intro us ms h2
    cases h2 with
    | last => simp [Mine.veqs, veq]
    | @num m t' u' us ms h2 =>
      simp only [Mine.veqs, veq, ih h2, List.cons.injEq, beq_self_eq_true, Bool.true_and]
      by_cases e : n = m
      · subst e; simp
      · have e2 : ((n : Int) == (m : Int)) = false := beq_false_of_ne fun q => e (Int.ofNat.inj q)
        rw [e2]
        simp [e]
theorem veqs_len : ∀ {vs us : List Value}, vs.length ≠ us.length → veqs vs us = false
  | [], [], h => absurd rfl h
  | _ :: _, [], _ => rfl
  | [], _ :: _, _ => rfl
  | x :: xs, y :: ys, h => by rw [veqs, veqs_len (by simpa using h), Bool.and_false]
/- == of two lists of ints and texts -/
theorem rc_lists {l b : Addr} (hl : s.heap.IsList l vs.toArray) (hb : s.heap.IsList b us.toArray) (hu : A.units < cLine) (h1 : ∀ v ∈ vs, IsIS v) (h2 : ∀ v ∈ us, IsIS v) : RcAt A s (.ref l) (.ref b) (veqs vs us) := by
  by_cases hlen : vs.length = us.length
  · have e := RcAt.lists (A := A) (e := fun j => veq (vs.getD j .none) (us.getD j .none)) hl hb (by simpa using hlen) hu fun j g1 g2 => by
      have g1' : j < vs.length := by simpa using g1
      have g2' : j < us.length := by simpa using g2
      have e1 : vs.getD j .none = vs[j] := by simp [List.getD, g1']
      have e2 : us.getD j .none = us[j] := by simp [List.getD, g2']
      rw [e1, e2]
      exact veq_at (h1 _ (List.getElem_mem _)) (h2 _ (List.getElem_mem _))
    rw [show vs.toArray.size = vs.length by simp, veqs_all vs us hlen] at e
    exact e
  · rw [veqs_len hlen]
    exact RcAt.lists_lengths hl hb (by simpa using hlen) hu
theorem rcne_lists {l b : Addr} (hl : s.heap.IsList l vs.toArray) (hb : s.heap.IsList b us.toArray) (hu : A.units < cLine) (h1 : ∀ v ∈ vs, IsIS v) (h2 : ∀ v ∈ us, IsIS v) : RcNeAt A s (.ref l) (.ref b) (!veqs vs us) := by
  by_cases hlen : vs.length = us.length
  · have e := RcNeAt.lists (A := A) (e := fun j => veq (vs.getD j .none) (us.getD j .none)) hl hb (by simpa using hlen) hu fun j g1 g2 => by
      have g1' : j < vs.length := by simpa using g1
      have g2' : j < us.length := by simpa using g2
      have e1 : vs.getD j .none = vs[j] := by simp [List.getD, g1']
      have e2 : us.getD j .none = us[j] := by simp [List.getD, g2']
      rw [e1, e2]
      exact veq_at (h1 _ (List.getElem_mem _)) (h2 _ (List.getElem_mem _))
    rw [show vs.toArray.size = vs.length by simp, veqs_all vs us hlen] at e
    exact e
  · rw [veqs_len hlen]
    exact RcNeAt.lists_lengths hl hb (by simpa using hlen) hu
/- == of two tuples of ints and texts -/
theorem rc_tuples {l b : Addr} (hl : s.heap.IsTuple l vs.toArray) (hb : s.heap.IsTuple b us.toArray) (hu : A.units < cLine) (hlen : vs.length = us.length) (h1 : ∀ v ∈ vs, IsIS v) (h2 : ∀ v ∈ us, IsIS v) : RcAt A s (.ref l) (.ref b) (veqs vs us) := by
  have e := RcAt.tuples (A := A) (e := fun j => veq (vs.getD j .none) (us.getD j .none)) hl hb hu fun j g1 g2 => by
    have g1' : j < vs.length := by simpa using g1
    have g2' : j < us.length := by simpa using g2
    have e1 : vs.getD j .none = vs[j] := by simp [List.getD, g1']
    have e2 : us.getD j .none = us[j] := by simp [List.getD, g2']
    rw [e1, e2]
    exact veq_at (h1 _ (List.getElem_mem _)) (h2 _ (List.getElem_mem _))
  rw [show min vs.toArray.size us.toArray.size = vs.length by simp [hlen], veqs_all vs us hlen, show (vs.toArray.size == us.toArray.size) = true by simp [hlen], Bool.and_true] at e
  exact e
theorem rcne_tuples {l b : Addr} (hl : s.heap.IsTuple l vs.toArray) (hb : s.heap.IsTuple b us.toArray) (hu : A.units < cLine) (hlen : vs.length = us.length) (h1 : ∀ v ∈ vs, IsIS v) (h2 : ∀ v ∈ us, IsIS v) : RcNeAt A s (.ref l) (.ref b) (!veqs vs us) := by
  have e := RcNeAt.tuples (A := A) (e := fun j => veq (vs.getD j .none) (us.getD j .none)) hl hb hu fun j g1 g2 => by
    have g1' : j < vs.length := by simpa using g1
    have g2' : j < us.length := by simpa using g2
    have e1 : vs.getD j .none = vs[j] := by simp [List.getD, g1']
    have e2 : us.getD j .none = us[j] := by simp [List.getD, g2']
    rw [e1, e2]
    exact veq_at (h1 _ (List.getElem_mem _)) (h2 _ (List.getElem_mem _))
  rw [show min vs.toArray.size us.toArray.size = vs.length by simp [hlen], veqs_all vs us hlen, show (vs.toArray.size == us.toArray.size) = true by simp [hlen], Bool.and_true] at e
  exact e
/- the order of versions -/
theorem VerV.ltR (h : VerV wd vs ns) : ∀ {us ms}, VerV wd us ms → ∀ (pre pre2 : List Value), pre.length = pre2.length → LtR A s (pre ++ vs).toArray (pre2 ++ us).toArray pre.length (vlt (ns.map Int.ofNat) (ms.map Int.ofNat)) := by
  have lt : ∀ (a b : Int) (t u : Tok) (prog : Program) (w : World) (E Q : Value → Shared → Prop), Q (.bool (decide (a < b))) s → wpAny (model prog w) A.in1 (richCompare .Lt (.int a t) (.int b u)) Q E s :=
    fun a b t u prog w E Q hq => PyProof.Rows.lt_int (Q := Q) hq
  induction h with
  | @last t u =>
    intro us ms h2 pre pre2 hl
    cases h2 with
    | @last t' u' =>
      refine .same (x := .int 200 t) (y := .int 200 t') (by simp) (by simp [hl]) (EqAt.int_int 200 t 200 t') (.same (x := .str wd u) (y := .str wd u') (by simp) (by simp [hl]) ?_ (.done (by simp [hl]) (by simp)))
      have := EqAt.str_str (A := A.in1) (s := s) wd u wd u'
      rwa [beq_self_eq_true] at this
    | @num m t' u' us ms h2 =>
      exact .diff (x := .int 200 t) (y := .int 100 t') (by simp) (by simp [hl]) (EqAt.int_int 200 t 100 t') (lt 200 100 t t')
  | @num n t u vs ns h ih =>
    intro us ms h2 pre pre2 hl
    cases h2 with
    | @last t' u' => exact .diff (x := .int 100 t) (y := .int 200 t') (by simp) (by simp [hl]) (EqAt.int_int 100 t 200 t') (lt 100 200 t t')
    | @num m t' u' us ms h2 =>
      refine .same (x := .int 100 t) (y := .int 100 t') (by simp) (by simp [hl]) (EqAt.int_int 100 t 100 t') ?_
      by_cases e : n = m
      · subst e
        have k := ih h2 (pre ++ [.int 100 t, .int n u]) (pre2 ++ [.int 100 t', .int n u']) (by simp [hl])
        have e1 : vlt (List.map Int.ofNat (n :: ns)) (List.map Int.ofNat (n :: ms)) = vlt (ns.map Int.ofNat) (ms.map Int.ofNat) := by simp [vlt]
        rw [e1]
        refine .same (x := .int n u) (y := .int n u') (by simp) (by simp [hl]) ?_ ?_
        · have := EqAt.int_int (A := A.in1) (s := s) n u n u'
          rwa [beq_self_eq_true] at this
        · simpa using k
      · have e1 : vlt (List.map Int.ofNat (n :: ns)) (List.map Int.ofNat (m :: ms)) = decide ((n : Int) < m) := by
          have : ¬ (Int.ofNat n = Int.ofNat m) := fun q => e (Int.ofNat.inj q)
          simp only [List.map_cons, vlt, if_neg this]; rfl
        rw [e1]
        refine .diff (x := .int n u) (y := .int m u') (by simp) (by simp [hl]) ?_ (lt n m u u')
        have := EqAt.int_int (A := A.in1) (s := s) n u m u'
        have e2 : ((n : Int) == (m : Int)) = false := beq_false_of_ne fun q => e (Int.ofNat.inj q)
        rwa [e2] at this
theorem VerV.ltR0 (h : VerV wd vs ns) (h2 : VerV wd us ms) : LtR A s vs.toArray us.toArray 0 (vlt (ns.map Int.ofNat) (ms.map Int.ofNat)) := h.ltR h2 [] [] rfl
end
end
section
open PySem PySem.W PySem.Calls PySem.NumText PyProof.Rows
set_option maxRecDepth 100000
theorem digits_len : ∀ (k n : Nat), n < 10 ^ k → (Nat.toDigits 10 n).length ≤ k + 1 := by
  intro k
  induction k with
  | zero =>
    intro n h
    have : n = 0 := by simpa using h
    subst this; decide
  | succ k ih =>
    intro n h
    by_cases hn : n < 10
    · rw [Nat.toDigits_of_lt_base hn]; simp
    · have t : Nat.toDigits 10 (n / 10) ++ Nat.toDigits 10 (n % 10) = Nat.toDigits 10 (10 * (n / 10) + n % 10) := Nat.toDigits_append_toDigits (by decide) (Nat.div_pos (Nat.not_lt.mp hn) (by decide)) (Nat.mod_lt n (by decide))
      rw [Nat.div_add_mod] at t
      rw [← t, List.length_append, Nat.toDigits_of_lt_base (Nat.mod_lt n (by decide))]
      have := ih (n / 10) (Nat.div_lt_of_lt_mul (by rw [Nat.pow_succ, Nat.mul_comm] at h; exact h))
      exact Nat.succ_le_succ this
/- the signs of a number's text -/
noncomputable def dig (n : Nat) : List Nat := (Nat.toDigits 10 n).map Char.toNat
theorem dig_all (n : Nat) : AllDigits (dig n) := by
  intro c hc
  obtain ⟨ch, hch, e⟩ := List.mem_map.mp hc
  have r := digit_range (Nat.isDigit_of_mem_toDigits (by decide) (by decide) hch)
  rw [← e]
  exact r
theorem dig_ne (n : Nat) : dig n ≠ [] := by
  unfold dig
  by_cases hn : n < 10
  · rw [Nat.toDigits_of_lt_base hn]; simp
  · have t : Nat.toDigits 10 (n / 10) ++ Nat.toDigits 10 (n % 10) = Nat.toDigits 10 (10 * (n / 10) + n % 10) := Nat.toDigits_append_toDigits (by decide) (Nat.div_pos (Nat.not_lt.mp hn) (by decide)) (Nat.mod_lt n (by decide))
    rw [Nat.div_add_mod] at t
    rw [← t, Nat.toDigits_of_lt_base (Nat.mod_lt n (by decide))]
    simp
theorem dig_val (n : Nat) : digitsVal (dig n) = n := KIN.val_back n
theorem dig_text (n : Nat) : (Str.ofString (toString ((n : Nat) : Int))).cps.toList = dig n := KIN.signs_num n
/- a number's text with noughts ahead -/
noncomputable def tok (z n : Nat) : List Nat := List.replicate z 48 ++ dig n
theorem tok_all (z n : Nat) : AllDigits (tok z n) := by
  intro c hc
  rcases List.mem_append.mp hc with h | h
  · rw [(List.mem_replicate.mp h).2]; decide
  · exact dig_all n c h
theorem tok_ne (z n : Nat) : tok z n ≠ [] := by
  intro e
  exact dig_ne n (List.append_eq_nil_iff.mp e).2
theorem val_zeros (cs : List Nat) : ∀ z, digitsVal (List.replicate z 48 ++ cs) = digitsVal cs
  | 0 => rfl
  | z + 1 => by
    rw [List.replicate_succ, List.cons_append]
    exact val_zeros cs z
theorem tok_val (z n : Nat) : digitsVal (tok z n) = n := by rw [tok, val_zeros, dig_val]
theorem tok_len {z n k : Nat} (h : n < 10 ^ k) : (tok z n).length ≤ z + k + 1 := by
  have := digits_len k n h
  rw [tok, List.length_append, List.length_replicate, dig, List.length_map]; exact Nat.add_le_add_left this z
theorem tok_dg (z n : Nat) : ∀ c ∈ tok z n, isDg c = true := fun c hc => by
  have := tok_all z n c hc
  unfold isDg; simpa using this
noncomputable def toksOf (z : Nat) (sg : List Nat) : List Nat → List (List Nat)
  | [] => []
  | [n] => [tok z n]
  | n :: m :: r => tok z n :: (sg.map fun c => [c]) ++ toksOf z sg (m :: r)
theorem toks_sg {sg wd : List Nat} {ts : List (List Nat)} (h : ∀ c ∈ sg, c < 128 ∧ isDg c = false ∧ isSg c = true) (hT : Toks ts wd) : Toks ((sg.map fun c => [c]) ++ ts) wd := by
  induction sg with
  | nil => exact hT
  | cons c r ih =>
    obtain ⟨h1, h2, h3⟩ := h c (.head _)
    exact .sg h1 h2 h3 (ih fun d hd => h d (.tail _ hd))
theorem toks_of {z : Nat} {sg wd : List Nat} (hne : sg ≠ []) (hsg : ∀ c ∈ sg, c < 128 ∧ isDg c = false ∧ isSg c = true) (hwd : ∀ c ∈ wd, c < 128 ∧ isDg c = false ∧ isSg c = false) : ∀ ns, Toks (toksOf z sg ns) wd
  | [] => .nil hwd
  | [n] => .dg (tok_ne z n) (tok_dg z n) (fun c hc => (hwd c (by
      have : wd.head? = some c := by simpa using hc
      exact List.mem_of_mem_head? this)).2.1) (.nil hwd)
  | n :: m :: r => by
    refine .dg (tok_ne z n) (tok_dg z n) (fun c hc => ?_) (toks_sg hsg (toks_of hne hsg hwd (m :: r)))
    cases sg with
    | nil => exact absurd rfl hne
    | cons d e =>
      have : d = c := by simpa using hc
      exact this ▸ (hsg d (.head _)).2.1
theorem toks_flat (z : Nat) (sg : List Nat) : ∀ ns, (toksOf z sg ns).flatten = (List.intersperse sg (ns.map (tok z))).flatten
  | [] => rfl
  | [n] => rfl
  | n :: m :: r => by
    have h1 : (sg.map fun c => [c]).flatten = sg := by induction sg with | nil => rfl | cons c r ih => simp [ih]
    have h2 := toks_flat z sg (m :: r)
    rw [toksOf, List.flatten_append, List.flatten_cons, h1, h2]
    simp
theorem nums_sg (ts : List (List Nat)) : ∀ {sg : List Nat}, (∀ c ∈ sg, isDg c = false) → nums ((sg.map fun c => [c]) ++ ts) = nums ts
  | [], _ => rfl
  | c :: r, h => by
    have h1 := h c (.head _)
    rw [List.map_cons, List.cons_append, nums]
    simp only [h1]
    exact nums_sg ts fun d hd => h d (.tail _ hd)
theorem nums_dg {t : List Nat} (ts : List (List Nat)) (h0 : t ≠ []) (h : ∀ c ∈ t, isDg c = true) : nums (t :: ts) = digitsVal t :: nums ts := by
  cases t with
  | nil => exact absurd rfl h0
  | cons c r => rw [nums]; simp only [h c (.head _), if_true]
theorem nums_toks {z : Nat} {sg : List Nat} (hsg : ∀ c ∈ sg, isDg c = false) : ∀ ns, nums (toksOf z sg ns) = ns
  | [] => rfl
  | [n] => by rw [toksOf, nums_dg _ (tok_ne z n) (tok_dg z n), tok_val]; rfl
  | n :: m :: r => by rw [toksOf, List.cons_append, nums_dg _ (tok_ne z n) (tok_dg z n), tok_val, nums_sg _ hsg, nums_toks hsg (m :: r)]
theorem toks_short {z k : Nat} {sg : List Nat} {ns : List Nat} (hn : ∀ n ∈ ns, n < 10 ^ k) : ∀ t ∈ toksOf z sg ns, t.length ≤ z + k + 1 := by
  induction ns with
  | nil => intro t h; nomatch h
  | cons n r ih =>
    intro t ht
    have h1 := tok_len (z := z) (hn n (.head _))
    cases r with
    | nil => cases List.mem_singleton.mp ht; exact h1
    | cons m r =>
      rw [toksOf] at ht
      rcases List.mem_append.mp ht with ht | ht
      · rcases List.mem_cons.mp ht with rfl | ht
        · exact h1
        · obtain ⟨c, _, rfl⟩ := List.mem_map.mp ht
          simp
      · exact ih (fun n hn' => hn n (.tail _ hn')) t ht
theorem str_append_list (a b : Str) : (a ++ b : Str).cps.toList = a.cps.toList ++ b.cps.toList := by
  show (a.cps ++ b.cps).toList = _
  simp
theorem join_list_cps (sg : Str) : ∀ ts : List Str, (Str.join sg ts).cps.toList = (List.intersperse sg.cps.toList (ts.map fun t => t.cps.toList)).flatten
  | [] => rfl
  | [t] => by simp [Str.join]
  | t :: u :: r => by
    have h := join_list_cps sg (u :: r)
    have e : Str.join sg (t :: u :: r) = t ++ sg ++ Str.join sg (u :: r) := rfl
    rw [e, str_append_list, str_append_list, h]
    simp
/- the version's text -/
theorem vers_text {z : Nat} {lead sign word : Str} (hl : lead.cps.toList = List.replicate z 48) (ns : List Nat) :
    (Str.join sign ((ns.map Int.ofNat).map fun n => lead ++ Str.ofString (toString n)) ++ word).cps.toList = (toksOf z sign.cps.toList ns).flatten ++ word.cps.toList := by
  rw [str_append_list, join_list_cps, toks_flat]
  congr 3
  rw [List.map_map, List.map_map]
  refine List.map_congr_left fun n _ => ?_
  show (lead ++ Str.ofString (toString ((n : Nat) : Int)) : Str).cps.toList = tok z n
  rw [str_append_list, hl, dig_text]; rfl
end
section
open PySem PySem.W PySem.Calls PySem.Spec PyProof.Rows
set_option maxRecDepth 100000
theorem fillK_b : PySem.Challenge.rw_ph0118_01.prog = PySem.Challenge.rw_ph0118_01.prog ∧ hd.heap_39 = hd.heap_39 := by k_fill; exact ⟨rfl, rfl⟩
section
variable {w : World} {mg mb : Str → Option Value}
section
variable {A : Around} {Q E : Value → Shared → Prop} {s s₀ : Shared} {L F : Nat} {cs : Scope} {lo : List Str} {globs : List (Str × Value)} {vals : List (Option Value)} {news : List (Nat × Knd)} {oF : Obj} {es : Array DictEntry} {n : Nat} {cn : Str} {fa : Addr} {ccd : Value} {cl : List (Str × Addr)}
/- int_divmod refuses the divisor 0 -/
theorem dm_zero {a : Int} {t1 t2 : Tok} {envF : Env} (S : St w mg mb s₀ L cs lo globs vals ((F, frK oF) :: news) s) (hd : oF.data = .dict es n) (hfr : A.frames = some [envF]) (hF : envF.frame = some F) (hFk : envF.scope.kind ≠ .module)
    (hA : A.handled = none) (hdp : A.depth + 2 < recursionLimit)
    (h : ∀ h' tk e a0, Heap.FlyingW (hideAll s.heap [L, F]) [envX cn cs L fa ccd cl, envF] e (.type "ZeroDivisionError") a0 h' → s.heap.UpToSlots h' → E (.ref e) { s with heap := h', toks := tk }) :
    wpAny (model PR w) (A.deeper (envX cn cs L fa ccd cl)) (call (.ref 73) [.int a t1, .int 0 t2]) Q E s := by
  have W := S.cur
  refine enterK (locs := lD) (globs := gD) (binds := [("a", .int a t1), ("b", .int 0 t2)])
    (vals := [some (.int a t1), some (.int 0 t2), none, none]) W S.tb (by show A.depth + 1 < _; walk_at "om") (by k_is) (by k_is) (BindsTo.of_eq rfl) (by decide) (locs rfl)
    ⟨rfl, by decide +kernel, kl_of rfl, kg_B W rfl rfl (by k_is) (by boot_fast) (by decide) <| kg_K W rfl rfl (by k_is) <| kg_K W rfl rfl (by k_is) kg_nil⟩
    (HasAll.cons rfl (HasAll.cons rfl (HasAll.skip (HasAll.skip trivial)))) rfl rfl fun cs2 L2 s₁ S2 hk => ?_
  (with_reducible refine X_if ?_); (with_reducible refine' wpAny_isTrue_Compare1 ?_ ?a306q; (case a306q => with_unfolding_all rfl)); walk_at "n"
  refine wpAny_Constant_int ?_
  (with_reducible refine PyProof.Rows.eq_int ?_); (with_reducible refine wpAny_truthy_bool ?_)
  refine ⟨fun _ => ?_, fun hq => absurd hq (by simp)⟩
  have S3 := S2.tok (s₁.toks + 1)
  refine X_cons (Raise_classB (by show A.handled = none; exact hA) excClass_ZeroDivisionError (by rw [isSubtype_type]; kernel_rfl) (rdG S3 (v := .type "ZeroDivisionError") (by walk_at "m_mem") ⟨rfl, rfl⟩) fun h' e hx => ?_)
  have hk' : ∀ b o, s.heap.get? b = some o → h'.get? b = some o := fun b o q => hx.keeps b o (hk b o q)
  obtain ⟨ob, t, he, hcls, hdt⟩ := hx.there
  obtain ⟨m, ⟨oL, es', ep, eL, dL, r⟩, x⟩ := S2.ns
  have hst : (hideAll s.heap [L, F]).StaysIn h' := fun b o q => hk' b o (of_hideAll _ q)
  have hno : ∀ b, s.heap.get? b = none → (hideAll s.heap [L, F]).get? b = none := fun b hb => by
    cases q : (hideAll s.heap [L, F]).get? b with
    | none => rfl
    | some o => have := of_hideAll _ q; rw [hb] at this; cases this
  have hen : (hideAll s.heap [L, F]).get? e = none := hno e (by
    cases q : s.heap.get? e with
    | none => rfl
    | some o => have := hk _ _ q; have e2 := hx.new; rw [show ({ s₁ with toks := s₁.toks + 1 } : Shared).heap = s₁.heap from rfl, this] at e2; cases e2)
  refine wpAny_leaving_firstW (L := L2) (a0 := t) (base := hideAll s.heap [L, F]) (outer := [envX cn cs L fa ccd cl, envF]) ?_ ⟨?_, ⟨L2, oL, rfl, hno _ (Heap.get?_none_of_le S2.above), hx.keeps _ _ eL, fun vs q => by rw [dL] at q; cases q⟩, S.frames hd hF hFk hk'⟩ rfl he hst hen hdt rfl rfl fun h'' hl => ?_
  · show (A.frames.map _).map _ = _
    rw [hfr]; rfl
  · show cs2.kind ≠ .module
    rw [S2.nm.kf]; decide
  · obtain ⟨k1, ⟨_, _, k2⟩, k3, k4⟩ := hl
    rw [hcls] at k3
    obtain ⟨h1, tk1, rfl⟩ := S2.same
    exact h h'' _ e t ⟨k1, hen, k2, k3⟩ ((Heap.UpToSlots.of_keeps hk').trans k4)
end
noncomputable abbrev lR : List Str := ["over"]
noncomputable abbrev gR : List (Str × Value) := [("int_divmod", .ref 73), ("ZeroDivisionError", .type "ZeroDivisionError")]
/- what a call gives that may touch the slots of the caller's frame -/
noncomputable def Back (F : Nat) (oF : Obj) (s s' : Shared) : Prop := Same s s' ∧ Keep (hideAll s.heap [F]) s'.heap ∧ Is s'.heap F (frK oF) ∧ Tb s'.heap
theorem refused {a : Int} {t : Tok} {A : Around} {Q E : Value → Shared → Prop} {s : Shared} {F : Nat} {oF : Obj} {es : Array DictEntry} {n : Nat} {envF : Env}
    (W : Wd w mg mb s.heap) (WX : Wd w mg mb (hideAll s.heap [F])) (T : Tb s.heap) (hF : s.heap.get? F = some oF) (hd : oF.data = .dict es n) (hF58 : 58 < F) (hfr : A.frames = some [envF]) (hf : envF.frame = some F) (hFk : envF.scope.kind ≠ .module)
    (hA : A.handled = none) (hdp : A.depth + 5 < recursionLimit) (hQ : ∀ s', Back F oF s s' → Q (.bool true) s') : wpAny (model PR w) A (call (.ref 123) [.int a t]) Q E s := by
  refine enterX (locs := lR) (globs := gR) (binds := [("over", .int a t)]) (vals := [some (.int a t)]) W WX T hF hF58 (by walk_at "om") (by k_is) (by k_is) (BindsTo.of_eq rfl) (by decide) (locs rfl)
    ⟨rfl, by decide +kernel, kl_of rfl, kg_K W rfl rfl (by k_is) <| kg_B W rfl rfl (by k_is) (by boot_fast) (by decide) kg_nil⟩
    (HasAll.cons rfl trivial) rfl rfl fun cs L s₁ S hFL => ?_
  refine X_cons (wpAny_Try_except (X_expr S.nm.kf ?_))
  (with_reducible refine' Call_ ?_ ?a309q; (case a309q => with_unfolding_all rfl)); (with_reducible refine' rdG ?S310q ?k310q ?_; (case S310q => assumption); (case k310q => walk_at "m_mem")); (with_reducible refine' C_def ?S311q ?f311q ?_ ?a311q ?b311q; (case S311q => assumption); (case f311q => decide); (case a311q => with_unfolding_all rfl); (case b311q => with_unfolding_all rfl)); walk_at "ac"; walk_at "n"; walk_at "ac"; ((rename St _ _ _ _ _ _ _ _ _ _ _ => Z0); with_reducible refine E_int Z0 ?_; clear Z0; intro tX sX SX); (with_reducible refine args_nil ?_); (with_reducible refine' And.intro (St.cur ?S314q) ?_; (case S314q => assumption))
  rename St _ _ _ _ _ _ _ _ _ _ _ => S
  refine dm_zero S hd hfr hf hFk hA (by walk_at "om") fun h' tk e a0 hx hu => ?_
  refine caughtF S hd (fun p hp => nomatch hp) hfr hx hu (T := "ZeroDivisionError") (by walk_at "m_mem") (by rw [isSubtype_type]; kernel_rfl) (by rw [isSubtype_type]; kernel_rfl) (by rw [isSubtype_type]; kernel_rfl) fun E' s' S => ?_
  refine X_ret (wpAny_pure ?_)
  exact hQ _ ⟨(show Same s _ from S.same), S.keep, S.get List.mem_cons_self, S.tb⟩
end
section
section
variable {M : Model} {A : Around} {E : Value → Shared → Prop} {s : Shared} {env : Env}
/- the aim is named: what follows speaks of the name alone -/
theorem S_gen {α : Type} {t : Sem α} {Q : α → Shared → Prop} (h : ∀ Q' : α → Shared → Prop, (∀ a s', Q a s' → Q' a s') → wpS M A t Q' E s) : wpS M A t Q E s := h Q fun _ _ x => x
theorem A_gen {α : Type} {t : Sem α} {Q : α → Shared → Prop} (h : ∀ Q' : α → Shared → Prop, (∀ a s', Q a s' → Q' a s') → wpAny M A t Q' E s) : wpAny M A t Q E s := h Q fun _ _ x => x
theorem S_nk {rest : List Stmt} {Q : Flow → Shared → Prop} (h : wpS M A (execs rest env) Q E s) : wpAny M A (execs [] env) (KontS M A env E rest Q) E s := X_nil h
theorem S_callT {T : String} {e : Expr} {rest : List Expr} {pos : Pos} {Q : Value → Shared → Prop} (h : wpAny M A (spliced (backTo pos (starEach (e :: rest) env))) (fun vs s₁ => wpS M A (call (.type T) vs) Q E s₁) E s)
    (he : starEach (e :: rest) env = (false, eval e env) :: starEach rest env := by rfl) (hplain : (backTo pos (starEach rest env)).any (·.1) = false := by rfl) : wpS M A (callWith pos (.type T) [] (backTo pos (starEach (e :: rest) env)) []) Q E s := by
  rw [he] at h ⊢
  exact S_callWith (by show (false || (backTo pos (starEach rest env)).any (·.1)) = false; rw [hplain]; rfl) (evalArgs_plain (wpAny_mono h (fun vs s₁ h₁ => ⟨⟨.machine, .inr (.inl rfl), looks_type⟩, h₁⟩) fun _ _ x => x))
theorem S_callD {f : Addr} {e : Expr} {rest : List Expr} {pos : Pos} {Q : Value → Shared → Prop} (h : wpAny M A (spliced (backTo pos (starEach (e :: rest) env))) (fun vs s₁ => FnAt f s₁.heap ∧ wpS M A (call (.ref f) vs) Q E s₁) E s)
    (he : starEach (e :: rest) env = (false, eval e env) :: starEach rest env := by rfl) (hplain : (backTo pos (starEach rest env)).any (·.1) = false := by rfl) : wpS M A (callWith pos (.ref f) [] (backTo pos (starEach (e :: rest) env)) []) Q E s := by
  rw [he] at h ⊢
  exact S_callWith (by show (false || (backTo pos (starEach rest env)).any (·.1)) = false; rw [hplain]; rfl) (evalArgs_plain (wpAny_mono h (fun vs s₁ h₁ => ⟨keeps_F _ h₁.1, h₁.2⟩) fun _ _ x => x))
theorem S_tryJ {body rest : List Stmt} {h₀ : ExceptHandler} {hs : List ExceptHandler} {pos : Pos} {Q : Flow → Shared → Prop} (J : Shared → Prop)
    (h : wpS M A (execs body env) (fun f s₁ => f = .next ∧ J s₁)
      (fun e s₁ => wpAny M A (noteFrame e env) (fun _ s₂ => wpAny M A (setFlight e none) (fun _ s₃ => wpAny M A (handleBy e env (h₀ :: hs)) (fun f s₁ => f = .next ∧ J s₁) E s₃) E s₂) E s₁) s)
    (hJ : ∀ s', J s' → wpS M A (execs rest env) Q E s') : wpS M A (execs (.Try body (h₀ :: hs) [] [] pos :: rest) env) Q E s := by
  refine S_try (S_mono h (fun f s₁ h₁ => ?_) fun e s₁ h₁ => ?_)
  · obtain ⟨rfl, h₁⟩ := h₁; exact S_nil (hJ _ h₁)
  · exact wpAny_mono h₁ (fun _ _ h₂ => wpAny_mono h₂ (fun _ _ h₃ => wpAny_mono h₃ (fun f s₄ h₄ => by obtain ⟨rfl, h₄⟩ := h₄; exact hJ _ h₄) fun _ _ x => x) fun _ _ x => x) fun _ _ x => x
end
variable {w : World} {mg mb : Str → Option Value}
noncomputable abbrev lC : List Str := ["version", "component_re", "result", "v", "t"]
noncomputable abbrev gC : List (Str × Value) := [("_twin_re_1", .ref 78), ("int", .type "int"), ("ValueError", .type "ValueError"), ("_ver_stages", .ref 79)]
theorem strs_get : ∀ {vs : List Value} {ss : List Str}, StrsAre vs ss → ∀ (j : Nat) (x : Str) (r : List Str), ss.drop j = x :: r → ∃ t, vs[j]? = some (.str x t)
  | _, _, .nil, j, x, r, h => by simp at h
  | _, _, .cons n u k, 0, x, r, h => by cases h; exact ⟨u, rfl⟩
  | _, _, .cons n u k, j + 1, x, r, h => by simpa using strs_get k j x r (by simpa using h)
theorem E_str {s₀ s : Shared} {L : Nat} {cs : Scope} {lo : List Str} {globs : List (Str × Value)} {vals : List (Option Value)} {news : List (Nat × Knd)} {A : Around} {E Q : Value → Shared → Prop} {env : Env} {x : Str} {k : Nat} {pos : Pos} (S : St w mg mb s₀ L cs lo globs vals news s)
    (h : ∀ t s', St w mg mb s₀ L cs lo globs vals news s' → Q (.str x t) s') : wpAny (model PR w) A (eval (.Constant (.str x) k pos) env) Q E s := Constant_str (h _ _ (S.tok _))
theorem int2S {s₀ s : Shared} {L : Nat} {cs : Scope} {lo : List Str} {globs : List (Str × Value)} {vals : List (Option Value)} {news : List (Nat × Knd)} {A : Around} {E Q : Value → Shared → Prop} {x : Str} {u k : Tok} {n : Int} (S : St w mg mb s₀ L cs lo globs vals news s) (hx : x.length ≤ 4300) (hn : PySem.intText? x = some n)
    (h : ∀ t s', St w mg mb s₀ L cs lo globs vals news s' → Q (.int n t) s') : wpAny (model PR w) A (call (.type "int") [.str x u, .int 10 k]) Q E s := int2_wp S.cur.nodigits (by rw [sizeLine_eq]; walk_at "om") hn (h _ _ (S.tok _))
theorem get79 {s₀ s : Shared} {L : Nat} {cs : Scope} {lo : List Str} {globs : List (Str × Value)} {vals : List (Option Value)} {news : List (Nat × Knd)} {A : Around} {E Q : Value → Shared → Prop} {wd : List Nat} {u k : Tok} (S : St w mg mb s₀ L cs lo globs vals news s) (hw : wd = [112, 108] ∨ wd = [112])
    (h : ∀ t s', St w mg mb s₀ L cs lo globs vals news s' → Q (.int 200 t) s') : wpAny (model PR w) A (call (.builtin "dict.get") [.ref 79, .str ⟨wd.toArray⟩ u, .int 0 k]) Q E s := by
  refine call_get2_strTab (tab79 S.cur.K) (PyProof.V.Flat.int 0 k) fun v hv => ?_
  have e : (Spec.lookup (PyData.str ⟨wd.toArray⟩) (verD.map fun p => (PyData.str p.1, p.2))).getD (PyData.int 0) = PyData.int 200 := by rcases hw with rfl | rfl <;> rfl
  rw [e] at hv
  obtain ⟨t, rfl⟩ := PyProof.V.Flat.int_inv hv
  exact h t _ (S.tok _)
theorem newTupO {s₀ s : Shared} {L : Nat} {cs : Scope} {lo : List Str} {globs : List (Str × Value)} {vals : List (Option Value)} {news : List (Nat × Knd)} {A : Around} {E Q : Value → Shared → Prop} {vs : List Value} (S : St w mg mb s₀ L cs lo globs vals news s) (hz : vs.length ≤ sizeLine)
    (h : ∀ t s', St w mg mb s₀ L cs lo globs vals ((t, .obj (tupO vs)) :: news) s' → L < t → LtAll t news → Q (.ref t) s') : wpAny (model PR w) A (newTuple vs) Q E s :=
  wpAny_newObj_type (h _ _ (S.push _ rfl) (S.freshOf S.newAddr).1 (S.freshOf S.newAddr).2) (by show vs.toArray.size ≤ sizeLine; rw [List.size_toArray]; exact hz)
theorem splitOut_len : ∀ (ts : List (List Nat)) (wd : List Nat), (splitOut ts wd).length = 2 * ts.length + 1
  | [], _ => rfl
  | _ :: ts, wd => by rw [splitOut, List.length_cons, List.length_cons, splitOut_len ts wd, List.length_cons]; rfl
theorem its_found {wd x : Str} {r : List Str} {ns : List Nat} {c : Nat} {y : List Nat} (hw : wd.cps.toList = c :: y) (hc : c = 112) (h : Its wd (x :: r) ns) (hb : (!(Builtin.Str.occurrences signs4 x 0 signs4.length 1).isEmpty) = true) : Its wd r ns := by
  cases h with
  | last => rw [in4_no hw (by walk_at "om")] at hb; cases hb
  | skip _ h => exact h
  | num h1 h2 h3 h4 =>
    cases hx : x.cps.toList with
    | nil => exact absurd hx h2
    | cons d z =>
      have := h1 d (by rw [hx]; exact .head _)
      rw [in4_no hx (by walk_at "om")] at hb; cases hb
theorem compv {v : Str} {t : Tok} {ts : List (List Nat)} {wd : List Nat} {A : Around} {Q E : Value → Shared → Prop} {s : Shared} {F : Nat} {oF : Obj} {es : Array DictEntry} {n : Nat} {envF : Env}
    (hT : Toks ts wd) (hlen : ∀ t ∈ ts, t.length ≤ 4300) (hv : v.cps.toList = ts.flatten ++ wd) (hwd : wd = [112, 108] ∨ wd = [112]) (hz : v.cps.size ≤ 1000000)
    (W : Wd w mg mb s.heap) (WX : Wd w mg mb (hideAll s.heap [F])) (T : Tb s.heap) (hF : s.heap.get? F = some oF) (hd : oF.data = .dict es n) (hF58 : 58 < F) (hfr : A.frames = some [envF]) (hf : envF.frame = some F) (hFk : envF.scope.kind ≠ .module)
    (hA : A.handled = none) (hdp : A.depth + 5 < recursionLimit) (hQ : ∀ l vs s', Back F oF s s' → Fresh s.heap l → Is s'.heap l (.lst vs) → VerV ⟨wd.toArray⟩ vs (nums ts) → Q (.ref l) s') : wpS (model PR w) A (call (.ref 86) [.str v t]) Q E s := by
  have hw : wd ≠ [] := by rcases hwd with rfl | rfl <;> simp
  have hw2 : wd.length ≤ 100 := by rcases hwd with rfl | rfl <;> simp
  have hI := its_of hT hlen
  refine enterS (locs := lC) (globs := gC) (binds := [("version", .str v t)]) (vals := [some (.str v t), none, none, none, none]) W WX T hF hF58 (by walk_at "om") (by k_is) (by k_is) (BindsTo.of_eq rfl) (by decide) (locs rfl)
    ⟨rfl, by decide +kernel, kl_of rfl, kg_K W rfl rfl (by k_is) <| kg_B W rfl rfl (by k_is) (by boot_fast) (by decide) <| kg_B W rfl rfl (by k_is) (by boot_fast) (by decide) <| kg_K W rfl rfl (by k_is) kg_nil⟩
    (HasAll.cons rfl (HasAll.skip (HasAll.skip (HasAll.skip (HasAll.skip trivial))))) rfl rfl fun cs L s₁ S hFL => ?_
  generalize hAA : A.deeper _ = A'
  have hA' : A'.handled = none := by rw [← hAA]; exact hA
  refine S_pre ?_
  (with_reducible refine' X_asg ?_ ?a315q; (case a315q => with_unfolding_all rfl)); (with_reducible refine' rdG ?S316q ?k316q ?_; (case S316q => assumption); (case k316q => walk_at "m_mem")); walk_at "w"
  refine S_nk (S_pre ?_)
  (with_reducible refine' X_asg ?_ ?a317q; (case a317q => with_unfolding_all rfl)); (with_reducible refine List_ ?_); (with_reducible refine args_nil ?_); rename St _ _ _ _ _ _ _ _ _ _ _ => S; refine newLst S (by size_fits) fun q s9 S hq1 hq2 => ?_
  walk_at "w"; rename St _ _ _ _ _ _ _ _ _ _ _ => S
  have S := (S.sub (news' := (q, .obj (lstO [] 0)) :: [(F, frK oF)]) (fun p hp => hp)).weakL
  refine S_nk ?_
  refine S_for (fun itv i s' => ∃ (it l : Nat) (vs vq : List Value) (j : Nat), itv = .ref it ∧ StrsAre vs (splitOut ts wd) ∧ L < it ∧ L < l ∧ l < it ∧ q < it ∧ q ≠ l ∧ i + j = vs.length ∧ vq.length ≤ 2 * j ∧ vs.length ≤ 8000000
      ∧ St w mg mb { s with heap := hideAll s.heap [F] } L cs lC gC [some (.str v t), some (.ref 78), some (.ref q), none, none] [(it, .it l j), (l, .lst vs), (q, .lst vq), (F, frK oF)] s'
      ∧ ((∃ ns, Its ⟨wd.toArray⟩ ((splitOut ts wd).drop j) ns ∧ ∀ us, VerV ⟨wd.toArray⟩ us ns → VerV ⟨wd.toArray⟩ (vq ++ us) (nums ts)) ∨ (j = vs.length ∧ VerV ⟨wd.toArray⟩ vq (nums ts)))) ?_ ?_
  · (with_reducible refine' MethodCall_ ?_ ?a320q; (case a320q => with_unfolding_all rfl)); walk_at "n"
    have h78 := S.cur.K 78 _ rfl
    refine getMethod_builtin ⟨_, h78, rfl⟩ plain_re slot_re_split type_re_split (fun a q => by cases q; exact ⟨_, h78, rfl⟩) ?_
    (with_reducible refine' callWith_method1 ?_ ?a321q ?b321q; (case a321q => with_unfolding_all rfl); (case b321q => with_unfolding_all rfl)); walk_at "ac"; walk_at "n"; (with_reducible refine args_nil ?_)
    refine split_wp S.cur.K hT hv hw hw2 hz fun vs k hS => ?_
    have hvl : vs.length ≤ 8000000 := by
      have e1 := hS.length
      have e2 := toks_len hT
      have e3 : v.cps.size = ts.flatten.length + wd.length := by rw [← Array.length_toList, hv, List.length_append]
      rw [splitOut_len] at e1
      walk_at "om"
    refine newLst (S.tok k) (by rw [sizeLine_eq]; walk_at "om") fun l s' S hl1 hl2 => ?_
    simp only [LtAll, and_true] at hl2
    have S := S.weakL
    refine iterLst S (S.get List.mem_cons_self) fun it s' S hi1 hi2 => ?_
    simp only [LtAll, and_true] at hi2
    exact ⟨vs.length, it, l, vs, [], 0, rfl, hS, hi1, hl1, hi2.1, hi2.2.1, by walk_at "om", by walk_at "om", by simp, hvl, S, .inl ⟨_, hI, fun us h => h⟩⟩
  · intro itv i s' hI9
    refine byc fun hno => ?_
    obtain ⟨it, l, vs, vq, j, rfl, hS, h1, h2, h3, h4, h5, hij, hvq, hvl, S, hinv⟩ := hI9
    refine hno ?_
    clear hno
    have hsl := hS.length
    cases i with
    | zero =>
      refine endLst S hA' (S.get (by walk_at "m_mem")) (by walk_at "om") (by walk_at "m_all") fun s' S => ?_
      rcases hinv with ⟨ns, hI', _⟩ | ⟨_, hV⟩
      · rw [List.drop_eq_nil_of_le (by walk_at "om")] at hI'; cases hI'
      refine S_of ?_
      (with_reducible refine X_ret ?_); walk_at "n"
      exact hQ q vq _ ⟨(show Same s _ from S.same), S.keep, S.get (by walk_at "m_mem"), S.tb⟩ (by have := S.fr hq1; unfold Fresh at this ⊢; rw [show ({ s with heap := hideAll s.heap [F] } : Shared).heap = hideAll s.heap [F] from rfl, hideAll_size] at this; exact this) (S.get (by walk_at "m_mem")) hV
    | succ i =>
      rcases hinv with ⟨ns, hI', hpre⟩ | ⟨hj, _⟩
      rotate_left
      · exfalso; walk_at "om"
      obtain ⟨x, r, hdr⟩ : ∃ x r, (splitOut ts wd).drop j = x :: r := by
        cases hq : (splitOut ts wd).drop j with
        | nil => rw [hq] at hI'; cases hI'
        | cons x r => exact ⟨x, r, rfl⟩
      obtain ⟨tx, hx⟩ := strs_get hS j x r hdr
      have hdr2 : (splitOut ts wd).drop (j + 1) = r := by
        have := congrArg List.tail hdr
        simpa using this
      refine nextLst S (by walk_at "m_upd") (S.get (by walk_at "m_mem")) hx fun s' S => letGoName (assign_Name ?_)
      walk_at "w"
      rename St _ _ _ _ _ _ _ _ _ _ _ => S
      rw [hdr] at hI'
      refine S_ifS (S_of ?_)
      (with_reducible refine' wpAny_isTrue_Compare1 ?_ ?a324q; (case a324q => with_unfolding_all rfl)); walk_at "n"
      refine E_str S fun t' s' S => notIn_str ?_
      (with_reducible refine wpAny_truthy_bool ?_)
      have done : ∀ s' vq', vq'.length ≤ 2 * (j + 1) → St w mg mb { s with heap := hideAll s.heap [F] } L cs lC gC [some (.str v t), some (.ref 78), some (.ref q), none, none] [(it, .it l (j + 1)), (l, .lst vs), (q, .lst vq'), (F, frK oF)] s' →
          ((∃ ns, Its ⟨wd.toArray⟩ r ns ∧ ∀ us, VerV ⟨wd.toArray⟩ us ns → VerV ⟨wd.toArray⟩ (vq' ++ us) (nums ts)) ∨ (j + 1 = vs.length ∧ VerV ⟨wd.toArray⟩ vq' (nums ts))) →
          ∃ m, m < i + 1 ∧ ∃ (it' l : Nat) (vs vq : List Value) (j : Nat), Value.ref it = .ref it' ∧ StrsAre vs (splitOut ts wd) ∧ L < it' ∧ L < l ∧ l < it' ∧ q < it' ∧ q ≠ l ∧ m + j = vs.length ∧ vq.length ≤ 2 * j ∧ vs.length ≤ 8000000
            ∧ St w mg mb { s with heap := hideAll s.heap [F] } L cs lC gC [some (.str v t), some (.ref 78), some (.ref q), none, none] [(it', .it l j), (l, .lst vs), (q, .lst vq), (F, frK oF)] s'
            ∧ ((∃ ns, Its ⟨wd.toArray⟩ ((splitOut ts wd).drop j) ns ∧ ∀ us, VerV ⟨wd.toArray⟩ us ns → VerV ⟨wd.toArray⟩ (vq ++ us) (nums ts)) ∨ (j = vs.length ∧ VerV ⟨wd.toArray⟩ vq (nums ts))) :=
        fun s' vq' hl' S' hc => ⟨i, by walk_at "om", it, l, vs, vq', j + 1, rfl, hS, h1, h2, h3, h4, h5, by walk_at "om", hl', hvl, S', by rw [hdr2]; exact hc⟩
      have hw0 : ∃ y, (⟨wd.toArray⟩ : Str).cps.toList = 112 :: y := by rcases hwd with rfl | rfl <;> exact ⟨_, rfl⟩
      obtain ⟨wy, hw0⟩ := hw0
      refine ⟨fun hb => ?_, fun hb => ?_⟩
      rotate_left
      · have hb : (!(Builtin.Str.occurrences signs4 x 0 signs4.length 1).isEmpty) = true := by simpa using hb
        refine S_nil (S_nil ?_)
        exact done _ vq (by walk_at "om") (S.le (.same (.same (.same (.none (.same .nil)))))) (.inl ⟨ns, its_found hw0 rfl hI' hb, hpre⟩)
      have hb : (!(Builtin.Str.occurrences signs4 x 0 signs4.length 1).isEmpty) = false := by simpa using hb
      refine S_tryJ (fun s' => ∃ tv vv, St w mg mb { s with heap := hideAll s.heap [F] } L cs lC gC [some (.str v t), some (.ref 78), some (.ref q), some vv, some tv] [(it, .it l (j + 1)), (l, .lst vs), (q, .lst vq), (F, frK oF)] s'
        ∧ ((∃ ns, Its ⟨wd.toArray⟩ r ns ∧ ∀ us, VerV ⟨wd.toArray⟩ us ns → VerV ⟨wd.toArray⟩ ((vq ++ [tv, vv]) ++ us) (nums ts)) ∨ (j + 1 = vs.length ∧ VerV ⟨wd.toArray⟩ (vq ++ [tv, vv]) (nums ts)))) ?_ ?_
      · cases hI' with
        | skip h _ => rw [h] at hb; cases hb
        | num d1 d2 d3 d4 =>
          refine S_pre ?_
          (with_reducible refine' X_asg ?_ ?a326q; (case a326q => with_unfolding_all rfl)); (with_reducible refine' Call_ ?_ ?a327q; (case a327q => with_unfolding_all rfl)); (with_reducible refine' rdG ?S328q ?k328q ?_; (case S328q => assumption); (case k328q => walk_at "m_mem")); (with_reducible refine' callWith_type1 ?_ ?a329q ?b329q; (case a329q => with_unfolding_all rfl); (case b329q => with_unfolding_all rfl)); walk_at "ac"; walk_at "n"; walk_at "ac"; ((rename St _ _ _ _ _ _ _ _ _ _ _ => Z0); with_reducible refine E_int Z0 ?_; clear Z0; intro tX sX SX); (with_reducible refine args_nil ?_)
          rename St _ _ _ _ _ _ _ _ _ _ _ => S
          refine int2S S d3 (PySem.intText_digits d1 d2 d3) fun t' s' S => ?_
          walk_at "w"
          refine S_nk (S_pre ?_)
          (with_reducible refine' X_asg ?_ ?a332q; (case a332q => with_unfolding_all rfl)); ((rename St _ _ _ _ _ _ _ _ _ _ _ => Z0); with_reducible refine E_int Z0 ?_; clear Z0; intro tX sX SX); walk_at "w"
          rename St _ _ _ _ _ _ _ _ _ _ _ => S
          refine S_nk (S_nil ⟨rfl, _, _, S, .inl ⟨_, d4, fun us hu => ?_⟩⟩)
          rw [List.append_assoc]
          exact hpre _ (.num hu)
        | last =>
          refine S_asg (S_Call ?_ (by with_unfolding_all rfl)) (by with_unfolding_all rfl)
          (with_reducible refine' rdG ?S334q ?k334q ?_; (case S334q => assumption); (case k334q => walk_at "m_mem"))
          refine S_callT ?_ (by with_unfolding_all rfl) (by with_unfolding_all rfl)
          walk_at "ac"; walk_at "n"; walk_at "ac"; ((rename St _ _ _ _ _ _ _ _ _ _ _ => Z0); with_reducible refine E_int Z0 ?_; clear Z0; intro tX sX SX); (with_reducible refine args_nil ?_)
          rename St _ _ _ _ _ _ _ _ _ _ _ => S
          refine refuse2 hA' (by rcases hwd with rfl | rfl <;> decide +kernel) (by rcases hwd with rfl | rfl <;> decide +kernel) (by rcases hwd with rfl | rfl <;> decide +kernel) (by rcases hwd with rfl | rfl <;> decide +kernel) fun h' tk e hx => ?_
          have S := S.sub (news' := [(F, frK oF), (it, .it l (j + 1)), (l, .lst vs), (q, .lst vq)]) (by walk_at "m_sub")
          subst hAA
          refine caughtN S hd (by walk_at "m_all") hfr hf hFk hx (T := "ValueError") (by walk_at "m_mem") (by rw [isSubtype_type]; kernel_rfl) (by rw [isSubtype_type]; kernel_rfl) (by rw [isSubtype_type]; kernel_rfl) fun E' s' S => ?_
          (with_reducible refine' X_asg ?_ ?a337q; (case a337q => with_unfolding_all rfl)); (with_reducible refine' MethodCall_ ?_ ?a338q; (case a338q => with_unfolding_all rfl)); (with_reducible refine' rdG ?S339q ?k339q ?_; (case S339q => assumption); (case k339q => walk_at "m_mem"))
          refine getMethod_strTab_get (tab79 S.cur.K) ?_
          (with_reducible refine' callWith_method1 ?_ ?a340q ?b340q; (case a340q => with_unfolding_all rfl); (case b340q => with_unfolding_all rfl)); walk_at "ac"; walk_at "n"; walk_at "ac"; ((rename St _ _ _ _ _ _ _ _ _ _ _ => Z0); with_reducible refine E_int Z0 ?_; clear Z0; intro tX sX SX); (with_reducible refine args_nil ?_)
          rename St _ _ _ _ _ _ _ _ _ _ _ => S
          refine get79 S hwd fun t' s' S => ?_
          walk_at "w"
          rename St _ _ _ _ _ _ _ _ _ _ _ => S
          have hjl : j + 1 = vs.length := by
            have e1 := congrArg List.length hdr
            rw [List.length_drop] at e1
            simp at e1
            walk_at "om"
          exact X_nil ⟨rfl, _, _, S.sub (by walk_at "m_sub"), .inr ⟨hjl, hpre _ .last⟩⟩
      · intro s' hI9
        refine byc fun hno => ?_
        obtain ⟨tv, vv, S, hc⟩ := hI9
        refine hno ?_
        clear hno
        refine S_of (X_expr S.nm.kf ?_)
        (with_reducible refine' MethodCall_ ?_ ?a343q; (case a343q => with_unfolding_all rfl)); walk_at "n"
        refine methL S (S.get (by walk_at "m_mem")) PySem.F.slot_list_extend PySem.F.type_list_extend ?_
        (with_reducible refine' callWith_method1 ?_ ?a344q ?b344q; (case a344q => with_unfolding_all rfl); (case b344q => with_unfolding_all rfl)); walk_at "ac"; (with_reducible refine Tuple_ ?_); walk_at "ac"; walk_at "n"; walk_at "ac"; walk_at "n"; (with_reducible refine args_nil ?_)
        refine newTupO S (by rw [sizeLine_eq]; simp) fun p s' S hp1 hp2 => ?_
        simp only [LtAll, and_true] at hp2
        (with_reducible refine args_nil ?_)
        refine extL S (by walk_at "m_upd") (S.get (by walk_at "m_mem")).obj (by rw [sizeLine_eq]; simp only [List.length_cons, List.length_nil]; walk_at "om") fun s' S => ⟨(fun a q => nomatch q), ?_⟩
        refine X_nil (S_nil ?_)
        exact done _ (vq ++ [tv, vv]) (by simp; walk_at "om") ((S.sub (by walk_at "m_sub")).le (by walk_at "m_le")) hc
end
section
variable {w : World} {mg mb : Str → Option Value}
noncomputable abbrev lV : List Str := ["parts", "dress", "sign", "word"]
noncomputable abbrev gV : List (Str × Value) := []
theorem sum_len {B : Nat} : ∀ {ys : List Str}, (∀ y ∈ ys, y.length ≤ B) → (ys.map (·.length)).sum ≤ ys.length * B
  | [], _ => by simp
  | y :: ys, h => by
    have h1 := h y (.head _)
    have h2 := sum_len fun z hz => h z (.tail _ hz)
    rw [List.map_cons, List.sum_cons, List.length_cons, Nat.add_mul, Nat.one_mul, Nat.add_comm]
    exact Nat.add_le_add h2 h1
theorem law_version {pl d : Nat} {pv : List Value} {ns : List Int} {lead sign word : Str} {tl ts tw : Tok} {A : Around} {Q E : Value → Shared → Prop} {s : Shared} (hI : IntsAre pv ns) (hns : ∀ n ∈ ns, n.natAbs < 10 ^ 4300 ∧ (Str.ofString (toString n)).length ≤ 5000) (hlen : ns.length ≤ 10) (hl : lead.length ≤ 10) (hsg : sign.length ≤ 10) (hw : word.length ≤ 10)
    (hp : Is s.heap pl (.lst pv)) (hp58 : 58 < pl) (hdr : Is s.heap d (.tup [.str lead tl, .str sign ts, .str word tw])) (hd58 : 58 < d)
    (W : Wd w mg mb s.heap) (T : Tb s.heap) (hA : A.handled = none) (hdp : A.depth + 5 < recursionLimit)
    (hQ : ∀ t s', Same s s' → Keep s.heap s'.heap → Tb s'.heap → Q (.str (Txt.join sign (ns.map fun n => lead ++ Str.ofString (toString n)) ++ word) t) s') : wpAny (model PR w) A (call (.ref 104) [.ref pl, .ref d]) Q E s := by
  refine enterC (locs := lV) (globs := gV) (binds := [("parts", .ref pl), ("dress", .ref d)]) (vals := [some (.ref pl), some (.ref d), none, none])
    (fun n => [("lead", n)]) (fun L => [(L + 1, .cell none)]) W T (by walk_at "om") (by k_is) (by k_is) (BindsTo.of_eq rfl) (fun n => rfl) rfl
    (fun L => List.forall_mem_cons.mpr ⟨⟨"lead", rfl, rfl⟩, List.forall_mem_nil _⟩)
    ⟨rfl, by decide +kernel, kl_of rfl, kg_nil⟩ (fun L => HasAll.cons rfl (HasAll.cons rfl (HasAll.skip (HasAll.skip trivial)))) rfl rfl (R := fun c => Ck .cell c "lead" ∧ c = _) ⟨⟨rfl, rfl, rfl⟩, rfl⟩
    fun cs L s₁ hR S => ?_
  obtain ⟨hk1, hcs⟩ := hR
  generalize hc1 : L + 1 = c1 at *
  generalize hAA : A.deeper _ = A'
  have hA' : A'.handled = none := by rw [← hAA]; exact hA
  clear hAA
  have S := (S.base hp hp58).base hdr hd58
  (with_reducible refine' X_tup ?_ ?a348q ?b348q; (case a348q => with_unfolding_all rfl); (case b348q => with_unfolding_all rfl)); walk_at "n"
  refine assign_Tuple_tuple (items := #[.str lead tl, .str sign ts, .str word tw]) hA' (S.get (k := .old (.tup _)) (by walk_at "m_mem")).unold.tup rfl rfl fun h' he => ?_
  have S := S.call (s' := { s₁ with heap := h' }) ⟨_, _, rfl⟩ (fun b o _ _ e => he b o (Nat.ne_of_lt (Heap.lt_size e)) e) (S.tb.keeps fun b o e => he b o (Nat.ne_of_lt (Heap.lt_size e)) e)
  have hdc : d ≠ c1 := by
    have h1 := hdr.lt
    have h2 := S.above
    walk_at "om"
  have hpc : pl ≠ c1 := by
    have h1 := hp.lt
    have h2 := S.above
    walk_at "om"
  show wpAny _ A' (assignInOrder [assign (.Name "lead" _) _, assign (.Name "sign" _) _, assign (.Name "word" _) _] [.str lead tl, .str sign ts, .str word tw]) _ _ _
  refine assignInOrder_cons (assign_Name ?_)
  ((rename St _ _ _ _ _ _ _ _ _ _ _ => Z0); with_reducible refine' wrC Z0 ?hk349q ?hc349q ?k349q ?_; (case hk349q => assumption); (case hc349q => with_unfolding_all rfl); (case k349q => walk_at "m_upd"); clear Z0; intro sX SX)
  refine assignInOrder_cons (assign_Name ?_)
  walk_at "w"
  refine assignInOrder_cons (assign_Name ?_)
  rename St _ _ _ _ _ _ _ _ _ _ _ => S
  refine wrL S (by walk_at "m_put") fun sN S => ?_
  refine assignInOrder_nil ?_
  (with_reducible refine X_ret ?_); (with_reducible refine wpAny_BinOp ?_); (with_reducible refine' MethodCall_ ?_ ?a352q; (case a352q => with_unfolding_all rfl)); walk_at "n"
  refine GM.join ?_
  (with_reducible refine' callWith_method1 ?_ ?a353q ?b353q; (case a353q => with_unfolding_all rfl); (case b353q => with_unfolding_all rfl)); walk_at "ac"
  have hnl := hI.length
  refine L_compL (w := w) (mg := mg) (mb := mb) (cl := [("lead", c1)]) ["part"] [("str", .type "str")] [none] (fun c => Ck .cell c "lead")
    (fun cs' s₁ C D it n s' => ∃ i vq, s₁ = sN ∧ n + i = pv.length ∧ sN.heap.objs.size ≤ it ∧ it < D ∧ D < C ∧ St w mg mb s₁ C cs' ["part"] [("str", .type "str")] [none] [(D, .lst vq), (it, .it pl i), (pl, .old (.lst pv))] s' ∧ StrsAre vq ((ns.take i).map fun n => lead ++ Str.ofString (toString n)))
    ?_ ?_ ?_ ?_ ?_ ?_ ?_ ?_ ?_ ?_ ?_
  · rw [hcs]; rfl
  · decide
  · rfl
  · decide
  · exact ⟨rfl, by decide +kernel, kl_of (by rw [hcs]; rfl), kg_B W (by rw [hcs]; rfl) rfl (by k_is) (by boot_fast) (by decide) kg_nil⟩
  · exact HasAll.skip trivial
  · exact ⟨by rw [hcs]; rfl, rfl, rfl⟩
  · walk_at "n"
    exact ⟨pl, pv, rfl, S.cur, S.tb, (S.get (k := .old (.lst pv)) (by walk_at "m_mem")).unold, hp58, fun cs' C D it s₃ hR h1 h2 h3 S3 => ⟨pv.length, 0, [], rfl, rfl, h1, h2, h3, S3, by simpa using StrsAre.nil⟩⟩
  · intro cs' s₁ C D it n s' hI9
    refine byc fun hno => ?_
    obtain ⟨i, vq, _, _, _, _, _, S3, _⟩ := hI9
    refine hno ?_
    clear hno
    exact ⟨pl, i, S3.get (by walk_at "m_mem")⟩
  · intro cs' s₁' C D it n s' hR hI9
    refine byc fun hno => ?_
    obtain ⟨i, vq, hsN, hn, h1, h2, h3, S3, hS⟩ := hI9
    refine hno ?_
    clear hno
    subst s₁'
    have hplt : pl < sN.heap.objs.size := S.lt (k := .old (.lst pv)) (by walk_at "m_mem")
    cases n with
    | zero =>
      have S4 := S3.sub (news' := [(it, .it pl i), (D, .lst vq), (pl, .old (.lst pv))]) (by walk_at "m_sub")
      refine endLst S4 hA' (S4.get (k := .old (.lst pv)) (by walk_at "m_mem")).unold (by walk_at "om") (by walk_at "m_all") fun s' S5 => ⟨_, _, S5, fun s'' e k t hN => ?_⟩
      have S6 := S.got e k t (a := D) (kd := .lst vq) (by unfold Fresh; walk_at "om") (hN _ (by walk_at "m_mem"))
      (with_reducible refine args_nil ?_)
      have hyl : ∀ y ∈ ns.map (fun n => lead ++ Str.ofString (toString n)), y.length ≤ 5010 := fun y hy => by
        refine byc fun hno => ?_
        obtain ⟨n, hn, rfl⟩ := List.mem_map.mp hy
        refine hno ?_
        clear hno
        have := (hns n hn).2
        rw [Str.length_append]; walk_at "om"
      have hsum := sum_len hyl
      rw [List.length_map] at hsum
      have hti : ns.take i = ns := List.take_of_length_le (by walk_at "om")
      rw [hti] at hS
      have hmul : ns.length * 5010 ≤ 50100 := by walk_at "om"
      have hmul2 : ns.length * sign.length ≤ 10 * 10 := Nat.mul_le_mul hlen hsg
      refine join_list (S6.get (k := .lst vq) (by walk_at "m_mem")).lst hS (by rw [List.length_map]; walk_at "om") fun t' k' => ?_
      have S7 := S6.tok k'
      walk_at "n"
      refine PyProof.Rows.add_str (fun t2 tk => ?_) ?_
      · have S8 := S7.tok tk
        exact hQ _ _ S8.same S8.keep S8.tb
      · have e : (Txt.join sign (List.map (fun n => lead ++ Str.ofString (toString n)) ns)).length = _ := size_glued _ _
        rw [e, List.length_map, sizeLine_eq]
        have : (ns.length - 1) * sign.length ≤ 10 * 10 := Nat.mul_le_mul (by walk_at "om") hsg
        walk_at "om"
    | succ n =>
      refine byc fun hno => ?_
      obtain ⟨x, tx, g1, g2⟩ := ints_get hI i (by walk_at "om")
      refine hno ?_
      clear hno
      have hxn := hns x (List.mem_of_getElem? g1)
      refine nextLst S3 (by walk_at "m_upd") (S3.get (k := .old (.lst pv)) (by walk_at "m_mem")).unold g2 fun s' S3 => letGoName (assign_Name ?_)
      have hcl := S.get (a := c1) (k := .cell (some (.str lead tl))) (by walk_at "m_mem")
      have hb := S.big
      clear S
      ((rename St _ _ _ _ _ _ _ _ _ _ _ => Z0); with_reducible refine' wrLc Z0 ?k355q ?_; (case k355q => walk_at "m_put"); clear Z0; intro sX SX)
      rename St _ _ _ _ _ _ _ _ _ _ _ => S3
      show wpAny _ _ (pure true) _ _ _
      refine wpAny_pure ⟨fun _ => ?_, fun q => nomatch q⟩
      (with_reducible refine wpAny_BinOp ?_)
      refine rdCc S3 hR rfl (hcl.keep fun o => S3.keep c1 o (by walk_at "om") (by walk_at "om")) ?_
      (with_reducible refine' Call_ ?_ ?a357q; (case a357q => with_unfolding_all rfl)); (with_reducible refine' rdGc ?S358q ?k358q ?_; (case S358q => assumption); (case k358q => walk_at "m_mem")); (with_reducible refine' callWith_type1 ?_ ?a359q ?b359q; (case a359q => with_unfolding_all rfl); (case b359q => with_unfolding_all rfl)); walk_at "ac"; (with_reducible refine' rdLc ?S360q ?k360q ?_; (case S360q => assumption); (case k360q => walk_at "m_at")); (with_reducible refine args_nil ?_)
      refine str_of_int_or hA' S3.cur.nodigits (fun _ => ?_) (fun h => absurd hxn.1 (Nat.not_lt.mpr h))
      refine PyProof.Rows.add_str (fun t2 tk => ?_) (by rw [sizeLine_eq]; have := hxn.2; show lead.length + (Str.ofString (toString x)).length ≤ _; walk_at "om")
      have S3 := S3.tok tk
      refine appL S3 (by walk_at "m_upd") (by have := hS.length; rw [List.length_map, List.length_take] at this; rw [sizeLine_eq]; walk_at "om") fun s' S3 => ?_
      refine ⟨n, by walk_at "om", i + 1, _, rfl, by walk_at "om", h1, h2, h3, S3.le (by walk_at "m_le"), ?_⟩
      have e : (ns.take (i + 1)).map (fun n => lead ++ Str.ofString (toString n)) = (ns.take i).map (fun n => lead ++ Str.ofString (toString n)) ++ [lead ++ Str.ofString (toString x)] := by
        rw [List.take_add_one, g1, List.map_append]; rfl
      rw [e]
      exact strs_snoc hS _ _
  · intro _; rfl
end
section
variable {w : World} {mg mb : Str → Option Value}
noncomputable abbrev lF : List Str := ["over", "under", "part", "rest", "more", "asked", "due"]
noncomputable abbrev gF : List (Str × Value) := []
/- the results so far, on the ledger -/
inductive Res : List (Nat × Knd) → List Value → List (Int × Int) → Prop
  | nil : Res [] [] []
  | snoc {R : List (Nat × Knd)} {vq : List Value} {ds : List (Int × Int)} {q : Nat} {a b : Int} {u v : Tok} : Res R vq ds → Res ((q, .tup [.int a u, .int b v]) :: R) (vq ++ [Value.ref q]) (ds ++ [(a, b)])
theorem Res.len {R : List (Nat × Knd)} {vq : List Value} {ds : List (Int × Int)} (h : Res R vq ds) : vq.length = ds.length := by
  induction h with
  | nil => rfl
  | snoc _ ih => simp [ih]
theorem Res.get {R : List (Nat × Knd)} {vq : List Value} {ds : List (Int × Int)} (h : Res R vq ds) : ∀ (j : Nat) (a b : Int), ds[j]? = some (a, b) → ∃ (q : Nat) (u v : Tok), vq[j]? = some (Value.ref q) ∧ (q, Knd.tup [.int a u, .int b v]) ∈ R := by
  induction h with
  | nil => intro j a b e; simp at e
  | @snoc R vq ds q a b u v h ih =>
    intro j a' b' e
    have hl := h.len
    rcases Nat.lt_or_ge j ds.length with hj | hj
    · rw [List.getElem?_append_left hj] at e
      obtain ⟨q', u', v', e1, e2⟩ := ih j a' b' e
      exact ⟨q', u', v', by rw [List.getElem?_append_left (by walk_at "om")]; exact e1, .tail _ e2⟩
    · rw [List.getElem?_append_right hj] at e
      have hj0 : j - ds.length = 0 := by
        cases q : j - ds.length with
        | zero => rfl
        | succ n => rw [q] at e; simp at e
      rw [hj0] at e
      simp at e
      obtain ⟨rfl, rfl⟩ := e
      exact ⟨q, u, v, by rw [List.getElem?_append_right (by walk_at "om"), show j - vq.length = 0 by walk_at "om"]; rfl, .head _⟩
theorem asgT2c {s₀ s : Shared} {L C : Nat} {cs : Scope} {locs : List Str} {globs : List (Str × Value)} {vals vals' vals'' : List (Option Value)} {news : List (Nat × Knd)} {A : Around} {E : Value → Shared → Prop} {cn : Str} {ccd : Value} {cl : List (Str × Addr)}
    {Q : Unit → Shared → Prop} {x1 x2 : Str} {p1 p2 tpos : Pos} {k : Nat} {v1 v2 : Value} {p : Nat} (S : St w mg mb s₀ C cs locs globs vals news s) (hA : A.handled = none) (hm : Is s.heap p (.tup [v1, v2]))
    (P1 : Put locs vals x1 v1 vals') (P2 : Put locs vals' x2 v2 vals'') (h : ∀ s', St w mg mb s₀ C cs locs globs vals'' news s' → Q () s') :
    wpAny (model PR w) A (assign (.Tuple [.Name x1 p1, .Name x2 p2] k tpos) (cEnv cn cs C L ccd cl) (.ref p)) Q E s := by
  refine assign_Tuple_tuple (items := #[v1, v2]) hA hm.tup rfl rfl fun h' he => ?_
  have S1 : St w mg mb s₀ C cs locs globs vals news { s with heap := h' } := S.call ⟨_, _, rfl⟩ (fun b o _ _ e => he b o (Nat.ne_of_lt (Heap.lt_size e)) e) (S.tb.keeps fun b o e => he b o (Nat.ne_of_lt (Heap.lt_size e)) e)
  show wpAny _ A (assignInOrder [assign (.Name x1 p1) _, assign (.Name x2 p2) _] [v1, v2]) _ _ _
  exact assignInOrder_cons (PyProof.Rows.assign_Name (wrLc S1 P1 fun s2 S2 => assignInOrder_cons (PyProof.Rows.assign_Name (wrLc S2 P2 fun s3 S3 => assignInOrder_nil (h s3 S3)))))
theorem signs_of {over under part rest : Int} (h0 : 0 ≤ rest) (h1 : rest < under) (he : over = part * under - rest) :
    ([(-over, under), (over, -under), (over + 2 * rest, under), (-(over + 2 * rest), -under)] : List (Int × Int)).map (fun p => (p.1.fdiv p.2, p.1.fmod p.2)) = [(-part, rest), (-part, -rest), (part, rest), (part, -rest)] := by
  have k1 := neg_dm (p := part) h0 h1
  have k2 := neg_dm (p := -part) h0 h1
  rw [← he] at k1
  have e2 : -((-part) * under - rest) = over + 2 * rest := by rw [he]; grind
  rw [e2, Int.neg_neg] at k2
  have k3 := fd_neg (-over) under
  have k4 := Int.neg_fmod_neg (-over) under
  rw [Int.neg_neg] at k3 k4
  have k5 := fd_neg (over + 2 * rest) under
  have k6 := Int.neg_fmod_neg (over + 2 * rest) under
  simp only [List.map_cons, List.map_nil, k1.1, k1.2, k2.1, k2.2, k3, k4, k5, k6]
theorem bits_add2 {a b : Int} {k : Nat} (h1 : Builtin.Int.intBits a ≤ k) (h2 : Builtin.Int.intBits b ≤ k) : Builtin.Int.intBits (a + 2 * b) ≤ k + 2 := by
  refine PySem.intBits_le_iff.mpr ?_
  have b1 := PySem.intBits_le_iff.mp h1
  have b2 := PySem.intBits_le_iff.mp h2
  have e : 2 ^ (k + 2) = 2 ^ k * 4 := by rw [Nat.pow_add]
  rw [e]
  refine Nat.lt_of_le_of_lt (Int.natAbs_add_le a (2 * b)) ?_
  rw [Int.natAbs_mul]
  show a.natAbs + 2 * b.natAbs < _
  generalize a.natAbs = u at *
  generalize b.natAbs = v at *
  generalize 2 ^ k = X at *
  lia
theorem four_signs {over under part rest : Int} {t1 t2 t3 t4 : Tok} {A : Around} {Q E : Value → Shared → Prop} {s : Shared} (hz1 : Builtin.Int.intBits over ≤ 800000) (hz2 : Builtin.Int.intBits under ≤ 800000) (hz3 : Builtin.Int.intBits rest ≤ 800000)
    (hu : 0 < under) (hr0 : 0 ≤ rest) (hru : rest < under) (he : over = part * under - rest)
    (W : Wd w mg mb s.heap) (T : Tb s.heap) (hA : A.handled = none) (hdp : A.depth + 70 < recursionLimit) (hun : A.units + 20 < cLine)
    (hQ : ∀ s', Same s s' → Keep s.heap s'.heap → Tb s'.heap → Q (.bool true) s') : wpAny (model PR w) A (call (.ref 116) [.int over t1, .int under t2, .int part t3, .int rest t4]) Q E s := by
  refine enterC (locs := lF) (globs := gF) (binds := [("over", .int over t1), ("under", .int under t2), ("part", .int part t3), ("rest", .int rest t4)]) (vals := [some (.int over t1), some (.int under t2), some (.int part t3), some (.int rest t4), none, none, none])
    (fun _ => []) (fun _ => []) W T (by walk_at "om") (by k_is) (by k_is) (BindsTo.of_eq rfl) (fun n => rfl) rfl (fun L => List.forall_mem_nil _)
    ⟨rfl, by decide +kernel, kl_of rfl, kg_nil⟩
    (fun L => HasAll.cons rfl (HasAll.cons rfl (HasAll.cons rfl (HasAll.cons rfl (HasAll.skip (HasAll.skip (HasAll.skip trivial))))))) rfl rfl (R := fun c => c = _) rfl fun cs L s₁ hcs S => ?_
  generalize hAA : A.deeper _ = A'
  refine A_gen2 fun Qb Eb hQb => ?_
  have hA' : A'.handled = none := by rw [← hAA]; exact hA
  have hd' : A'.depth + 69 < recursionLimit := by rw [← hAA]; show A.depth + 1 + 69 < _; walk_at "om"
  have hun' : A'.units + 17 < cLine := by rw [← hAA]; show A.units + 3 + 17 < _; walk_at "om"
  clear hAA
  (with_reducible refine' X_asg ?_ ?a362q; (case a362q => with_unfolding_all rfl)); (with_reducible refine wpAny_BinOp ?_); walk_at "n"; (with_reducible refine wpAny_BinOp ?_); ((rename St _ _ _ _ _ _ _ _ _ _ _ => Z0); with_reducible refine E_int Z0 ?_; clear Z0; intro tX sX SX); walk_at "n"; ((rename St _ _ _ _ _ _ _ _ _ _ _ => Z0); with_reducible refine O_mul Z0 ?_  ?_; rotate_left 1; clear Z0; intro tX sX SX; rotate_left)
  · exact PySem.IntMulOk.of_le (bits_le (k := 2) (by walk_at "om") (by walk_at "om")) hz3 (by decide)
  ((rename St _ _ _ _ _ _ _ _ _ _ _ => Z0); with_reducible refine O_add Z0 ?_; clear Z0; intro tX sX SX); walk_at "w"
  (with_reducible refine' X_asg ?_ ?a368q; (case a368q => with_unfolding_all rfl)); (with_reducible refine List_ ?_)
  walk_at "ac"; (with_reducible refine Tuple_ ?_); walk_at "ac"; rename St _ _ _ _ _ _ _ _ _ _ _ => S; refine EvI.run (.neg (.name (by walk_at "m_at"))) S fun t9 s9 S => ?_; walk_at "ac"; walk_at "n"; (with_reducible refine args_nil ?_)
  rename St _ _ _ _ _ _ _ _ _ _ _ => S
  refine newTup S (by size_fits) fun p1 s S hp1 hk1 => ?_
  simp only [LtAll, and_true] at hk1
  walk_at "ac"; (with_reducible refine Tuple_ ?_); walk_at "ac"; walk_at "n"; walk_at "ac"; rename St _ _ _ _ _ _ _ _ _ _ _ => S; refine EvI.run (.neg (.name (by walk_at "m_at"))) S fun t9 s9 S => ?_; (with_reducible refine args_nil ?_)
  rename St _ _ _ _ _ _ _ _ _ _ _ => S
  refine newTup S (by size_fits) fun p2 s S hp2 hk2 => ?_
  simp only [LtAll, and_true] at hk2
  walk_at "ac"; (with_reducible refine Tuple_ ?_); walk_at "ac"; walk_at "n"; walk_at "ac"; walk_at "n"; (with_reducible refine args_nil ?_)
  rename St _ _ _ _ _ _ _ _ _ _ _ => S
  refine newTup S (by size_fits) fun p3 s S hp3 hk3 => ?_
  simp only [LtAll, and_true] at hk3
  walk_at "ac"; (with_reducible refine Tuple_ ?_); walk_at "ac"; rename St _ _ _ _ _ _ _ _ _ _ _ => S; refine EvI.run (.neg (.name (by walk_at "m_at"))) S fun t9 s9 S => ?_; walk_at "ac"; rename St _ _ _ _ _ _ _ _ _ _ _ => S; refine EvI.run (.neg (.name (by walk_at "m_at"))) S fun t9 s9 S => ?_; (with_reducible refine args_nil ?_)
  rename St _ _ _ _ _ _ _ _ _ _ _ => S
  refine newTup S (by size_fits) fun p4 s S hp4 hk4 => ?_
  simp only [LtAll, and_true] at hk4
  (with_reducible refine args_nil ?_)
  refine newLst S (by size_fits) fun la s S hla kla => ?_
  simp only [LtAll, and_true] at kla
  walk_at "w"
  rename St _ _ _ _ _ _ _ _ _ _ _ => S
  (with_reducible refine' X_asg ?_ ?a379q; (case a379q => with_unfolding_all rfl)); (with_reducible refine List_ ?_)
  walk_at "ac"; (with_reducible refine Tuple_ ?_); walk_at "ac"; rename St _ _ _ _ _ _ _ _ _ _ _ => S; refine EvI.run (.neg (.name (by walk_at "m_at"))) S fun t9 s9 S => ?_; walk_at "ac"; walk_at "n"; (with_reducible refine args_nil ?_)
  rename St _ _ _ _ _ _ _ _ _ _ _ => S
  refine newTup S (by size_fits) fun p5 s S hp5 hk5 => ?_
  simp only [LtAll, and_true] at hk5
  walk_at "ac"; (with_reducible refine Tuple_ ?_); walk_at "ac"; rename St _ _ _ _ _ _ _ _ _ _ _ => S; refine EvI.run (.neg (.name (by walk_at "m_at"))) S fun t9 s9 S => ?_; walk_at "ac"; rename St _ _ _ _ _ _ _ _ _ _ _ => S; refine EvI.run (.neg (.name (by walk_at "m_at"))) S fun t9 s9 S => ?_; (with_reducible refine args_nil ?_)
  rename St _ _ _ _ _ _ _ _ _ _ _ => S
  refine newTup S (by size_fits) fun p6 s S hp6 hk6 => ?_
  simp only [LtAll, and_true] at hk6
  walk_at "ac"; (with_reducible refine Tuple_ ?_); walk_at "ac"; walk_at "n"; walk_at "ac"; walk_at "n"; (with_reducible refine args_nil ?_)
  rename St _ _ _ _ _ _ _ _ _ _ _ => S
  refine newTup S (by size_fits) fun p7 s S hp7 hk7 => ?_
  simp only [LtAll, and_true] at hk7
  walk_at "ac"; (with_reducible refine Tuple_ ?_); walk_at "ac"; walk_at "n"; walk_at "ac"; rename St _ _ _ _ _ _ _ _ _ _ _ => S; refine EvI.run (.neg (.name (by walk_at "m_at"))) S fun t9 s9 S => ?_; (with_reducible refine args_nil ?_)
  rename St _ _ _ _ _ _ _ _ _ _ _ => S
  refine newTup S (by size_fits) fun p8 s S hp8 hk8 => ?_
  simp only [LtAll, and_true] at hk8
  (with_reducible refine args_nil ?_)
  refine newLst S (by size_fits) fun ld s S hld kld => ?_
  simp only [LtAll, and_true] at kld
  rename St _ _ _ _ _ _ _ _ _ _ _ => S
  refine wrL S (by walk_at "m_put") fun sN S => ?_
  (with_reducible refine X_ret ?_); (with_reducible refine' wpAny_Compare1 ?_ ?a391q; (case a391q => with_unfolding_all rfl))
  have hb := S.big
  have hu0 : under ≠ 0 := by walk_at "om"
  have m1 : Builtin.Int.intBits (over + 2 * rest) ≤ 900000 := Nat.le_trans (bits_add2 hz1 hz3) (by decide)
  have hask : ∀ i, i < 4 → ∃ (p : Nat) (a b : Int) (t u : Tok), ([.ref p1, .ref p2, .ref p3, .ref p4] : List Value)[i]? = some (.ref p) ∧ Is sN.heap p (.tup [.int a t, .int b u]) ∧ 58 < p
      ∧ ([(-over, under), (over, -under), (over + 2 * rest, under), (-(over + 2 * rest), -under)] : List (Int × Int))[i]? = some (a, b) ∧ b ≠ 0 ∧ Builtin.Int.intBits a ≤ 900000 ∧ Builtin.Int.intBits b ≤ 900000 := by
    intro i hi
    have z1 : Builtin.Int.intBits over ≤ 900000 := by walk_at "om"
    have z2 : Builtin.Int.intBits under ≤ 900000 := by walk_at "om"
    have n1 : Builtin.Int.intBits (-over) ≤ 900000 := bits_abs (Nat.le_of_eq (Int.natAbs_neg _)) z1
    have n2 : Builtin.Int.intBits (-under) ≤ 900000 := bits_abs (Nat.le_of_eq (Int.natAbs_neg _)) z2
    have n3 : Builtin.Int.intBits (-(over + 2 * rest)) ≤ 900000 := bits_abs (Nat.le_of_eq (Int.natAbs_neg _)) m1
    rcases i with _ | _ | _ | _ | i
    · exact ⟨p1, _, _, _, _, rfl, S.get (by walk_at "m_mem"), by walk_at "om", rfl, hu0, n1, z2⟩
    · exact ⟨p2, _, _, _, _, rfl, S.get (by walk_at "m_mem"), by walk_at "om", rfl, Int.neg_ne_zero.mpr hu0, z1, n2⟩
    · exact ⟨p3, _, _, _, _, rfl, S.get (by walk_at "m_mem"), by walk_at "om", rfl, hu0, m1, z2⟩
    · exact ⟨p4, _, _, _, _, rfl, S.get (by walk_at "m_mem"), by walk_at "om", rfl, Int.neg_ne_zero.mpr hu0, n3, n2⟩
    · exfalso; walk_at "om"
  have hplt : la < sN.heap.objs.size := S.lt (by walk_at "m_mem")
  refine L_compL (w := w) (mg := mg) (mb := mb) (cl := []) ["a", "b"] [("int_divmod", .ref 73)] [none, none] (fun _ => True)
    (fun cs' s₁ C D it n s' => ∃ (i : Nat) (vq : List Value) (R : List (Nat × Knd)), s₁ = sN ∧ n + i = 4 ∧ sN.heap.objs.size ≤ it ∧ it < D ∧ D < C ∧ (∀ p ∈ R, C < p.1) ∧ St w mg mb s₁ C cs' ["a", "b"] [("int_divmod", .ref 73)] [none, none] ((D, .lst vq) :: (it, .it la i) :: (la, .old (.lst [.ref p1, .ref p2, .ref p3, .ref p4])) :: R) s'
      ∧ Res R vq ((([(-over, under), (over, -under), (over + 2 * rest, under), (-(over + 2 * rest), -under)] : List (Int × Int)).map fun p => (p.1.fdiv p.2, p.1.fmod p.2)).take i))
    ?_ ?_ ?_ ?_ ?_ ?_ ?_ ?_ ?_ ?_ ?_
  · rw [hcs]; rfl
  · decide
  · rfl
  · decide
  · exact ⟨rfl, by decide +kernel, kl_of (by rw [hcs]; rfl), kg_K W (by rw [hcs]; rfl) rfl (by k_is) kg_nil⟩
  · exact HasAll.skip (HasAll.skip trivial)
  · trivial
  · walk_at "n"
    exact ⟨la, _, rfl, S.cur, S.tb, (S.get (by walk_at "m_mem")).toLst, by walk_at "om", fun cs' C D it s₃ hR h1 h2 h3 S3 => ⟨4, 0, [], [], rfl, rfl, h1, h2, h3, List.forall_mem_nil _, S3, .nil⟩⟩
  · intro cs' s₁ C D it n s' hI9
    refine byc fun hno => ?_
    obtain ⟨i, vq, R, _, _, _, _, _, _, S3, _⟩ := hI9
    refine hno ?_
    clear hno
    exact ⟨la, i, S3.get (by walk_at "m_mem")⟩
  · intro cs' s₁' C D it n s' _ hI9
    refine byc fun hno => ?_
    obtain ⟨i, vq, R, hsN, hn, h1, h2, h3, hR, S3, hS⟩ := hI9
    refine hno ?_
    clear hno
    subst s₁'
    have hC := S3.above
    have Dit : D ≠ it := by walk_at "om"
    have laD : la ≠ D := by walk_at "om"
    have lait : la ≠ it := by walk_at "om"
    have RD : ∀ p ∈ R, p.1 ≠ D := fun p hp => by have := hR p hp; walk_at "om"
    have Rit : ∀ p ∈ R, p.1 ≠ it := fun p hp => by have := hR p hp; walk_at "om"
    cases n with
    | zero =>
      have S4 := S3.sub (news' := (it, .it la i) :: (D, .lst vq) :: (la, .old (.lst [.ref p1, .ref p2, .ref p3, .ref p4])) :: R) (by walk_at "m_sub")
      refine endLst S4 hA' (S4.get (k := .old (.lst _)) (by walk_at "m_mem")).unold (by simp; walk_at "om") (List.forall_mem_cons.mpr ⟨Dit, List.forall_mem_cons.mpr ⟨lait, Rit⟩⟩) fun s' S5 => ⟨_, _, S5, fun s'' e k t hN => ?_⟩
      have S6 := S.got e k t (a := D) (kd := .lst vq) (by unfold Fresh; walk_at "om") (hN _ (by walk_at "m_mem"))
      have hi4 : i = 4 := by walk_at "om"
      subst hi4
      rw [signs_of hr0 hru he] at hS
      have hS : Res R vq [(-part, rest), (-part, -rest), (part, rest), (part, -rest)] := hS
      have hvl := hS.len
      have hR2 : ∀ p ∈ R, Is s''.heap p.1 p.2 := fun p hp => hN p (.tail _ (.tail _ hp))
      walk_at "n"
      refine SeqAt.eq_listAt (e := fun _ => true) (S6.get (k := .lst vq) (by walk_at "m_mem")).lst (S6.get (by walk_at "m_mem")).toLst.lst (by simp [hvl]) (by walk_at "om") (fun j g1 g2 => ?_) ?_
      · have g3 : j < 4 := by simpa using g2
        have mk : ∀ (a b : Int) (t u : Tok) (p : Nat), ([(-part, rest), (-part, -rest), (part, rest), (part, -rest)] : List (Int × Int))[j]? = some (a, b) → ([.ref p5, .ref p6, .ref p7, .ref p8] : List Value)[j]? = some (.ref p) → Is s''.heap p (.tup [.int a t, .int b u]) → p < sN.heap.objs.size → SeqAt.EqAt A'.in1 s'' vq.toArray[j] [Value.ref p5, Value.ref p6, Value.ref p7, Value.ref p8].toArray[j] true := by
          intro a b t u p e1 e2 e3 e4
          refine byc fun hno => ?_
          obtain ⟨q, u', v', f1, f2⟩ := hS.get j a b e1
          refine hno ?_
          clear hno
          have x1 : vq.toArray[j] = .ref q := by
            have := List.getElem?_eq_some_iff.mp f1
            obtain ⟨_, this⟩ := this
            simpa using this
          have x2 : [Value.ref p5, Value.ref p6, Value.ref p7, Value.ref p8].toArray[j] = .ref p := by
            have := List.getElem?_eq_some_iff.mp e2
            obtain ⟨_, this⟩ := this
            simpa using this
          rw [x1, x2]
          have hq := hR _ f2
          have hq : C < q := hq
          have := rc_tuples (A := A'.in1) (hR2 _ f2).tup e3.tup (by show A'.units + 1 < cLine; walk_at "om") rfl (by simp [IsIS]) (by simp [IsIS])
          have z : veqs [.int a u', .int b v'] [.int a t, .int b u] = true := by simp [veqs, veq]
          rw [z] at this
          exact SeqAt.EqAt.of_refs (Nat.ne_of_gt (show p < q by walk_at "om")) this
        have l5 := S.lt (a := p5) (by walk_at "m_mem")
        have l6 := S.lt (a := p6) (by walk_at "m_mem")
        have l7 := S.lt (a := p7) (by walk_at "m_mem")
        have l8 := S.lt (a := p8) (by walk_at "m_mem")
        rcases j with _ | _ | _ | _ | j
        · exact mk _ _ _ _ p5 rfl rfl (S6.get (by walk_at "m_mem")) l5
        · exact mk _ _ _ _ p6 rfl rfl (S6.get (by walk_at "m_mem")) l6
        · exact mk _ _ _ _ p7 rfl rfl (S6.get (by walk_at "m_mem")) l7
        · exact mk _ _ _ _ p8 rfl rfl (S6.get (by walk_at "m_mem")) l8
        · exfalso; walk_at "om"
      · have : (List.range vq.toArray.size).all (fun _ => true) = true := by simp
        rw [this]
        exact hQb _ _ (hQ _ S6.same S6.keep S6.tb)
    | succ n =>
      refine byc fun hno => ?_
      obtain ⟨p, a, b, t, u, g1, g2, g3, g4, g5, g6, g7⟩ := hask i (by walk_at "om")
      refine hno ?_
      clear hno
      refine nextLst S3 (.tail Dit (.head (List.forall_mem_cons.mpr ⟨lait, Rit⟩))) (S3.get (k := .old (.lst _)) (by walk_at "m_mem")).unold g1 fun s' S3 => ?_
      refine wpAny_letOwnedTupleGo_listiter (l := la) (i := i + 1) (by obtain ⟨o, e, r⟩ := S3.get (a := it) (k := .it la (i + 1)) (by walk_at "m_mem"); exact ⟨o, e, r⟩) ?_
      have S3 := S3.base g2 g3
      refine asgT2c S3 hA' (S3.get (k := .old (.tup _)) (.head _)).unold (by walk_at "m_put") (by walk_at "m_put") fun s' S3 => ?_
      show wpAny _ _ (pure true) _ _ _
      refine wpAny_pure ⟨fun _ => ?_, fun q => nomatch q⟩
      (with_reducible refine' Call_ ?_ ?a392q; (case a392q => with_unfolding_all rfl)); (with_reducible refine' rdGc ?S393q ?k393q ?_; (case S393q => assumption); (case k393q => walk_at "m_mem")); (with_reducible refine' C_def ?S394q ?f394q ?_ ?a394q ?b394q; (case S394q => assumption); (case f394q => decide); (case a394q => with_unfolding_all rfl); (case b394q => with_unfolding_all rfl)); walk_at "ac"; (with_reducible refine' rdLc ?S395q ?k395q ?_; (case S395q => assumption); (case k395q => walk_at "m_at")); walk_at "ac"; (with_reducible refine' rdLc ?S396q ?k396q ?_; (case S396q => assumption); (case k396q => walk_at "m_at")); (with_reducible refine args_nil ?_); (with_reducible refine' And.intro (St.cur ?S398q) ?_; (case S398q => assumption))
      have hpC : p < C := by have := g2.lt; walk_at "om"
      refine (int_dm g5 g6 g7).use S3 hA' (by walk_at "om") fun q v1 v2 s' S3 hq1 hq2 => ?_
      have hpD : p ≠ D := by have := g2.lt; walk_at "om"
      refine appL S3 (.tail (show q ≠ D by walk_at "om") (.tail hpD (.head (List.forall_mem_cons.mpr ⟨fun q => Dit q.symm, List.forall_mem_cons.mpr ⟨laD, RD⟩⟩)))) (by have := Nat.le_trans (Nat.le_of_eq hS.len) (List.length_take_le ..); rw [sizeLine_eq]; walk_at "om") fun s' S3 => ?_
      refine ⟨n, by walk_at "om", i + 1, vq ++ [.ref q], (q, .tup [.int (a.fdiv b) v1, .int (a.fmod b) v2]) :: R, rfl, by walk_at "om", h1, h2, h3, List.forall_mem_cons.mpr ⟨hq1, hR⟩, (S3.sub (by walk_at "m_sub")).le (by walk_at "m_le"), ?_⟩
      rw [List.take_add_one, List.getElem?_map, g4]
      exact .snoc hS
  · intro _; rfl
end
section
inductive MapF (F : Int → Value → Prop) : List Int → List Value → Prop
  | nil : MapF F [] []
  | snoc {ns : List Int} {vs : List Value} {n : Int} {v : Value} : MapF F ns vs → F n v → MapF F (ns ++ [n]) (vs ++ [v])
theorem MapF.len {F : Int → Value → Prop} {ns : List Int} {vs : List Value} (h : MapF F ns vs) : vs.length = ns.length := by
  induction h with
  | nil => rfl
  | snoc _ _ ih => simp [ih]
theorem MapF.ints {g : Int → Int} {ns : List Int} {vs : List Value} (h : MapF (fun n v => ∃ t, v = .int (g n) t) ns vs) : IntsAre vs (ns.map g) := by
  induction h with
  | nil => exact .nil
  | snoc _ e ih =>
    obtain ⟨t, rfl⟩ := e
    rw [List.map_append]
    exact ints_snoc ih _ _
theorem MapF.strs {g : Int → Str} {ns : List Int} {vs : List Value} (h : MapF (fun n v => ∃ t, v = .str (g n) t) ns vs) : StrsAre vs (ns.map g) := by
  induction h with
  | nil => exact .nil
  | snoc _ e ih =>
    obtain ⟨t, rfl⟩ := e
    rw [List.map_append]
    exact strs_snoc ih _ _
section
variable {w : World} {mg mb : Str → Option Value} {s₀ s : Shared} {L : Nat} {cs csO : Scope} {locs : List Str} {globs : List (Str × Value)} {vals : List (Option Value)} {news : List (Nat × Knd)}
variable {A : Around} {E : Value → Shared → Prop} {cn : Str} {fa : Addr} {ccd : Value} {cl clO : List (Str × Addr)} {pos : Pos}
/- a comprehension over a list of ints, its element without a state of its own -/
theorem L_mapF {elt iter : Expr} {scope : Scope} {xn : Str} {xp : Pos} {Q : Value → Shared → Prop} (F : Int → Value → Prop) (globs' : List (Str × Value)) (R : Scope → Prop) (ns : List Int) (hn : ns.length ≤ 1000000) (hA : A.handled = none)
    (hclos : closureFor scope (envX cn csO L fa ccd clO) = pure cl) (hcell : ∀ y ∈ scope.names, y.2 ≠ .cell) (hkind : scope.kind = .function) (hnames : ∀ y ∈ scope.names, y.2 = .local → scope.names.lookup y.1 = some .local)
    (hnm : Nm mg (relabel scope (envX cn csO L fa ccd clO)) [xn] globs') (hR : R (relabel scope (envX cn csO L fa ccd clO)))
    (start : wpAny (model PR w) A (eval iter (envX cn csO L fa ccd clO)) (fun xv s₁ => ∃ (l : Nat) (vs : List Value) (newsO : List (Nat × Knd)), xv = .ref l ∧ St w mg mb s₀ L csO locs globs vals newsO s₁ ∧ Is s₁.heap l (.lst vs) ∧ 58 < l ∧ IntsAre vs ns ∧
      (∀ (cs' : Scope) (C : Nat) (s₂ : Shared) (news : List (Nat × Knd)) (x : Int) (t : Tok), R cs' → x ∈ ns → St w mg mb s₁ C cs' [xn] globs' [some (.int x t)] news s₂ → wpAny (model PR w) A (eval elt (cEnv cn cs' C L ccd cl)) (fun v s₃ => F x v ∧ St w mg mb s₁ C cs' [xn] globs' [some (.int x t)] news s₃) (fun _ _ => False) s₂) ∧
      (∀ (D : Nat) (vq : List Value) s₂, St w mg mb s₀ L csO locs globs vals ((D, .lst vq) :: newsO) s₂ → L < D → LtAll D newsO → MapF F ns vq → Q (.ref D) s₂)) E s)
    (hs : ∀ x, foldedSetIterable iter (envX cn csO L fa ccd clO) x = pure x := by intro _; rfl) :
    wpAny (model PR w) A (eval (.ListComp elt [⟨.Name xn xp, iter, [], 0⟩] scope pos) (envX cn csO L fa ccd clO)) Q E s := by
  refine L_compL (w := w) (mg := mg) (mb := mb) (cl := cl) [xn] globs' [none] R
    (fun cs' s₁ C D it n s' => ∃ (l : Nat) (vs : List Value) (newsO : List (Nat × Knd)) (i : Nat) (vq : List Value), n + i = vs.length ∧ s₁.heap.objs.size ≤ it ∧ it < D ∧ D < C ∧ l < s₁.heap.objs.size ∧ St w mg mb s₀ L csO locs globs vals newsO s₁
      ∧ St w mg mb s₁ C cs' [xn] globs' [none] [(D, .lst vq), (it, .it l i), (l, .old (.lst vs))] s' ∧ IntsAre vs ns ∧ MapF F (ns.take i) vq ∧
      (∀ (cs' : Scope) (C : Nat) (s₂ : Shared) (news : List (Nat × Knd)) (x : Int) (t : Tok), R cs' → x ∈ ns → St w mg mb s₁ C cs' [xn] globs' [some (.int x t)] news s₂ → wpAny (model PR w) A (eval elt (cEnv cn cs' C L ccd cl)) (fun v s₃ => F x v ∧ St w mg mb s₁ C cs' [xn] globs' [some (.int x t)] news s₃) (fun _ _ => False) s₂) ∧
      (∀ (D : Nat) (vq : List Value) s₂, St w mg mb s₀ L csO locs globs vals ((D, .lst vq) :: newsO) s₂ → L < D → LtAll D newsO → MapF F ns vq → Q (.ref D) s₂))
    hclos hcell hkind hnames hnm (HasAll.skip trivial) hR (wpAny_mono start (fun xv s₁ h₁ => ?_) fun _ _ x => x) ?_ ?_ hs
  · refine byc fun hno => ?_
    obtain ⟨l, vs, newsO, rfl, S, hl, h58, hI, helt, hfin⟩ := h₁
    refine hno ?_
    clear hno
    exact ⟨l, vs, rfl, S.cur, S.tb, hl, h58, fun cs' C D it s₃ hR h1 h2 h3 S3 => ⟨vs.length, l, vs, newsO, 0, [], rfl, h1, h2, h3, hl.lt, S, S3, hI, .nil, helt, hfin⟩⟩
  · intro cs' s₁ C D it n s' hI9
    refine byc fun hno => ?_
    obtain ⟨l, vs, newsO, i, vq, _, _, _, _, _, _, S3, _⟩ := hI9
    refine hno ?_
    clear hno
    exact ⟨l, i, S3.get (by walk_at "m_mem")⟩
  · intro cs' s₁ C D it n s' hR hI9
    refine byc fun hno => ?_
    obtain ⟨l, vs, newsO, i, vq, hn', h1, h2, h3, h4, S, S3, hI, hM, helt, hfin⟩ := hI9
    refine hno ?_
    clear hno
    have hnl := hI.length
    cases n with
    | zero =>
      have S4 := S3.sub (news' := [(it, .it l i), (D, .lst vq), (l, .old (.lst vs))]) (by walk_at "m_sub")
      refine endLst S4 hA (S4.get (k := .old (.lst vs)) (by walk_at "m_mem")).unold (by walk_at "om") (by walk_at "m_all") fun s' S5 => ⟨_, _, S5, fun s'' e k t hN => ?_⟩
      have hf : Fresh s₁.heap D := by unfold Fresh; walk_at "om"
      have S6 := S.got e k t (a := D) (kd := .lst vq) hf (hN _ (by walk_at "m_mem"))
      rw [List.take_of_length_le (by walk_at "om")] at hM
      exact hfin D vq _ S6 (S.freshOf hf).1 (S.freshOf hf).2 hM
    | succ n =>
      refine byc fun hno => ?_
      obtain ⟨x, tx, g1, g2⟩ := ints_get hI i (by walk_at "om")
      refine hno ?_
      clear hno
      refine nextLst S3 (by walk_at "m_upd") (S3.get (k := .old (.lst vs)) (by walk_at "m_mem")).unold g2 fun s' S3 => letGoName (assign_Name ?_)
      ((rename St _ _ _ _ _ _ _ _ _ _ _ => Z0); with_reducible refine' wrLc Z0 ?k399q ?_; (case k399q => walk_at "m_put"); clear Z0; intro sX SX)
      rename St _ _ _ _ _ _ _ _ _ _ _ => S3
      show wpAny _ _ (pure true) _ _ _
      refine wpAny_pure ⟨fun _ => ?_, fun q => nomatch q⟩
      refine wpAny_mono (helt cs' C _ _ x tx hR (List.mem_of_getElem? g1) S3) (fun v s₃ h₃ => ?_) fun _ _ x => x
      obtain ⟨hF, S3⟩ := h₃
      have hvl := hM.len
      rw [List.length_take] at hvl
      refine appL S3 (by walk_at "m_upd") (by rw [sizeLine_eq]; walk_at "om") fun s' S3 => ?_
      refine ⟨n, by walk_at "om", l, vs, newsO, i + 1, _, by walk_at "om", h1, h2, h3, h4, S, S3.le (by walk_at "m_le"), hI, ?_, helt, hfin⟩
      rw [List.take_add_one, g1]
      exact .snoc hM hF
/- the same, bound to a name of the frame -/
theorem X_mapF {elt iter : Expr} {scope : Scope} {xn y : Str} {xp py spos : Pos} {rest : List Stmt} {Q : Flow → Shared → Prop} (F : Int → Value → Prop) (globs' : List (Str × Value)) (R : Scope → Prop) (ns : List Int) (hn : ns.length ≤ 1000000) (hA : A.handled = none)
    (hsw : swapsWith (.ListComp elt [⟨.Name xn xp, iter, [], 0⟩] scope pos) (some (.Name y py)) spos.line (envX cn csO L fa ccd clO) = pure true)
    (hclos : closureFor scope (envX cn csO L fa ccd clO) = pure cl) (hcell : ∀ y ∈ scope.names, y.2 ≠ .cell) (hkind : scope.kind = .function) (hnames : ∀ y ∈ scope.names, y.2 = .local → scope.names.lookup y.1 = some .local)
    (hnm : Nm mg (relabel scope (envX cn csO L fa ccd clO)) [xn] globs') (hR : R (relabel scope (envX cn csO L fa ccd clO)))
    (start : wpAny (model PR w) A (eval iter (envX cn csO L fa ccd clO)) (fun xv s₁ => ∃ (l : Nat) (vs : List Value) (newsO : List (Nat × Knd)), xv = .ref l ∧ St w mg mb s₀ L csO locs globs vals newsO s₁ ∧ Is s₁.heap l (.lst vs) ∧ 58 < l ∧ IntsAre vs ns ∧
      (∀ (cs' : Scope) (C : Nat) (s₂ : Shared) (news : List (Nat × Knd)) (x : Int) (t : Tok), R cs' → x ∈ ns → St w mg mb s₁ C cs' [xn] globs' [some (.int x t)] news s₂ → wpAny (model PR w) A (eval elt (cEnv cn cs' C L ccd cl)) (fun v s₃ => F x v ∧ St w mg mb s₁ C cs' [xn] globs' [some (.int x t)] news s₃) (fun _ _ => False) s₂) ∧
      (∀ (D : Nat), L < D → ∃ vals', Put locs vals y (.ref D) vals' ∧ ∀ (vq : List Value) s₂, St w mg mb s₀ L csO locs globs vals' ((D, .lst vq) :: newsO) s₂ → LtAll D newsO → MapF F ns vq → wpAny (model PR w) A (execs rest (envX cn csO L fa ccd clO)) Q E s₂)) E s)
    (hs : ∀ x, foldedSetIterable iter (envX cn csO L fa ccd clO) x = pure x := by intro _; rfl) :
    wpAny (model PR w) A (execs (.Assign [.Name y py] (.ListComp elt [⟨.Name xn xp, iter, [], 0⟩] scope pos) spos :: rest) (envX cn csO L fa ccd clO)) Q E s := by
  refine X_compU (w := w) (mg := mg) (mb := mb) (cl := cl) (s₀ := s₀) (locs := locs) (globs := globs) [xn] globs' [none] R
    (fun cs' s₁ C D it n s' => ∃ (l : Nat) (vs : List Value) (newsO : List (Nat × Knd)) (i : Nat) (vq : List Value), n + i = vs.length ∧ s₁.heap.objs.size ≤ it ∧ it < D ∧ D < C ∧ l < s₁.heap.objs.size ∧ St w mg mb s₀ L csO locs globs vals newsO s₁
      ∧ St w mg mb s₁ C cs' [xn] globs' [none] [(D, .lst vq), (it, .it l i), (l, .old (.lst vs))] s' ∧ IntsAre vs ns ∧ MapF F (ns.take i) vq ∧
      (∀ (cs' : Scope) (C : Nat) (s₂ : Shared) (news : List (Nat × Knd)) (x : Int) (t : Tok), R cs' → x ∈ ns → St w mg mb s₁ C cs' [xn] globs' [some (.int x t)] news s₂ → wpAny (model PR w) A (eval elt (cEnv cn cs' C L ccd cl)) (fun v s₃ => F x v ∧ St w mg mb s₁ C cs' [xn] globs' [some (.int x t)] news s₃) (fun _ _ => False) s₂) ∧
      (∀ (D : Nat), L < D → ∃ vals', Put locs vals y (.ref D) vals' ∧ ∀ (vq : List Value) s₂, St w mg mb s₀ L csO locs globs vals' ((D, .lst vq) :: newsO) s₂ → LtAll D newsO → MapF F ns vq → wpAny (model PR w) A (execs rest (envX cn csO L fa ccd clO)) Q E s₂))
    hsw hclos hcell hkind hnames hnm (HasAll.skip trivial) hR (wpAny_mono start (fun xv s₁ h₁ => ?_) fun _ _ x => x) ?_ ?_ hs
  · refine byc fun hno => ?_
    obtain ⟨l, vs, newsO, rfl, S, hl, h58, hI, helt, hfin⟩ := h₁
    refine hno ?_
    clear hno
    exact ⟨l, vs, rfl, S.cur, S.tb, hl, h58, fun cs' C D it s₃ hR h1 h2 h3 S3 => ⟨vs.length, l, vs, newsO, 0, [], rfl, h1, h2, h3, hl.lt, S, S3, hI, .nil, helt, hfin⟩⟩
  · intro cs' s₁ C D it n s' hI9
    refine byc fun hno => ?_
    obtain ⟨l, vs, newsO, i, vq, _, _, _, _, _, _, S3, _⟩ := hI9
    refine hno ?_
    clear hno
    exact ⟨l, i, S3.get (by walk_at "m_mem")⟩
  · intro cs' s₁ C D it n s' hR hI9
    refine byc fun hno => ?_
    obtain ⟨l, vs, newsO, i, vq, hn', h1, h2, h3, h4, S, S3, hI, hM, helt, hfin⟩ := hI9
    refine hno ?_
    clear hno
    have hnl := hI.length
    cases n with
    | zero =>
      have S4 := S3.sub (news' := [(it, .it l i), (D, .lst vq), (l, .old (.lst vs))]) (by walk_at "m_sub")
      have hf : Fresh s₁.heap D := by unfold Fresh; walk_at "om"
      refine byc fun hno => ?_
      obtain ⟨vals', hP, hfin⟩ := hfin D (S.freshOf hf).1
      refine hno ?_
      clear hno
      have hLs := S.ltL
      refine endLst S4 hA (S4.get (k := .old (.lst vs)) (by walk_at "m_mem")).unold (by walk_at "om") (by walk_at "m_all") fun s' S5 => ⟨_, _, newsO, vals, vals', S5.sub (news' := [(D, .lst vq)]) (by walk_at "m_sub"), S, hP, ?_, fun s3 So hN => ?_⟩
      · exact List.forall_mem_cons.mpr ⟨show D ≠ L by walk_at "om", List.forall_mem_nil _⟩
      · rw [List.take_of_length_le (by walk_at "om")] at hM
        exact hfin vq _ (So.add (hN _ (List.mem_cons_self)) (S.freshOf hf).1) (S.freshOf hf).2 hM
    | succ n =>
      refine byc fun hno => ?_
      obtain ⟨x, tx, g1, g2⟩ := ints_get hI i (by walk_at "om")
      refine hno ?_
      clear hno
      refine nextLst S3 (by walk_at "m_upd") (S3.get (k := .old (.lst vs)) (by walk_at "m_mem")).unold g2 fun s' S3 => letGoName (assign_Name ?_)
      ((rename St _ _ _ _ _ _ _ _ _ _ _ => Z0); with_reducible refine' wrLc Z0 ?k400q ?_; (case k400q => walk_at "m_put"); clear Z0; intro sX SX)
      rename St _ _ _ _ _ _ _ _ _ _ _ => S3
      show wpAny _ _ (pure true) _ _ _
      refine wpAny_pure ⟨fun _ => ?_, fun q => nomatch q⟩
      refine wpAny_mono (helt cs' C _ _ x tx hR (List.mem_of_getElem? g1) S3) (fun v s₃ h₃ => ?_) fun _ _ x => x
      obtain ⟨hF, S3⟩ := h₃
      have hvl := hM.len
      rw [List.length_take] at hvl
      refine appL S3 (by walk_at "m_upd") (by rw [sizeLine_eq]; walk_at "om") fun s' S3 => ?_
      refine ⟨n, by walk_at "om", l, vs, newsO, i + 1, _, by walk_at "om", h1, h2, h3, h4, S, S3.le (by walk_at "m_le"), hI, ?_, helt, hfin⟩
      rw [List.take_add_one, g1]
      exact .snoc hM hF
end
end
section
variable {w : World} {mg mb : Str → Option Value}
noncomputable abbrev lLP : List Str := ["script", "drawn", "parts"]
noncomputable abbrev gLP : List (Str × Value) := [("sum", .builtin "sum"), ("len", .builtin "len")]
noncomputable def B13 : Int := 10 ^ 1300
noncomputable def B139 : Int := 10 ^ 1309
theorem B13_pos : 0 < B13 := by unfold B13; exact Int.pow_pos (by decide)
theorem B139_eq : B139 = 1000000000 * B13 := by
  unfold B139 B13
  rw [show (1309 : Nat) = 9 + 1300 from rfl, Int.pow_add]; rfl
theorem B13_lt : B13 < 2 ^ 5201 := by
  have h1 : (10 : Nat) ^ 1300 ≤ 16 ^ 1300 := Nat.pow_le_pow_left (by decide) 1300
  have h2 : (16 : Nat) ^ 1300 = 2 ^ 5200 := by rw [show (16 : Nat) = 2 ^ 4 from rfl, ← Nat.pow_mul]
  have h3 : (2 : Nat) ^ 5201 = 2 ^ 5200 * 2 := Nat.pow_succ ..
  have h4 : 0 < (2 : Nat) ^ 5200 := Nat.pow_pos (by decide)
  have h5 : (10 : Nat) ^ 1300 < 2 ^ 5201 := by
    rw [h2] at h1
    rw [h3, Nat.mul_two]
    exact Nat.lt_of_le_of_lt h1 (Nat.lt_add_of_pos_right h4)
  have e1 : B13 = (((10 : Nat) ^ 1300 : Nat) : Int) := by unfold B13; rw [Int.natCast_pow]; rfl
  have e2 : (2 : Int) ^ 5201 = (((2 : Nat) ^ 5201 : Nat) : Int) := by rw [Int.natCast_pow]; rfl
  rw [e1, e2]
  exact Int.ofNat_lt.mpr h5
/- what the parts and the factor are -/
structure PartsOk (ps : List Int) (f : Int) : Prop where
  pos : 0 < f
  fle : f ≤ B13
  lo : 3 ≤ ps.length
  hi : ps.length ≤ 5
  two : Two ps
  nn : ∀ p ∈ ps, 0 ≤ p
  small : ∀ p ∈ ps, p < B139 + 2
theorem dn5 (n : Nat) : 3 ≤ min 5 n + (3 - n) ∧ min 5 n + (3 - n) ≤ 5 := by
  rcases Nat.lt_or_ge n 5 with h | h
  · exact (by decide : ∀ n < 5, 3 ≤ min 5 n + (3 - n) ∧ min 5 n + (3 - n) ≤ 5) n h
  · rw [Nat.min_eq_left h, Nat.sub_eq_zero_of_le (Nat.le_trans (by decide) h)]; decide
theorem drawn_len (ns : List Int) : 3 ≤ (ns.take 5 ++ [1, 0, 1].drop ns.length).length ∧ (ns.take 5 ++ [1, 0, 1].drop ns.length).length ≤ 5 := by
  rw [List.length_append, List.length_take, List.length_drop]
  exact dn5 ns.length
noncomputable abbrev modP (f x : Int) : Int := x.fmod (if 0 ≤ x then 10 ^ 9 * f else 3)
theorem modP_bd {f x : Int} (h0 : 0 < f) (h1 : f ≤ B13) : 0 ≤ modP f x ∧ modP f x < B139 := by
  have e9 := B139_eq
  have e0 := B13_pos
  have h9 : (10 : Int) ^ 9 = 1000000000 := by decide
  rw [modP, h9]
  have hf : 0 < 1000000000 * f := Int.mul_pos (by decide) h0
  have hB : 1000000000 * f ≤ B139 := by rw [e9]; exact Int.mul_le_mul_of_nonneg_left h1 (by decide)
  split
  · exact ⟨Int.fmod_nonneg_of_pos x hf, Int.lt_of_lt_of_le (Int.fmod_lt_of_pos x hf) hB⟩
  · exact ⟨Int.fmod_nonneg_of_pos x (by decide), Int.lt_of_lt_of_le (Int.fmod_lt_of_pos x (by decide)) (Int.le_trans (Int.le_trans (by decide : (3 : Int) ≤ 1000000000 * (0 + 1)) (Int.mul_le_mul_of_nonneg_left h0 (by decide))) hB)⟩
theorem parts_ok {f : Int} {ds : List Int} (h0 : 0 < f) (h1 : f ≤ B13) (hl : 3 ≤ ds.length) (hh : ds.length ≤ 5) {p : Int} (hp : (ds.map (modP f))[0]? = some p) : PartsOk ([p] ++ ((ds.map (modP f)).drop 1).map (· + 2)) f := by
  have bd : ∀ q ∈ ds.map (modP f), 0 ≤ q ∧ q < B139 := fun q hq => by
    obtain ⟨x, _, rfl⟩ := List.mem_map.mp hq
    exact modP_bd h0 h1
  have bp := bd p (List.mem_of_getElem? hp)
  have hlen : ([p] ++ ((ds.map (modP f)).drop 1).map (· + 2)).length = ds.length := by
    rw [List.length_append, List.length_map, List.length_drop, List.length_map]; exact Nat.add_sub_cancel' (Nat.le_trans (by decide : 1 ≤ 3) hl)
  refine ⟨h0, h1, hlen ▸ hl, hlen ▸ hh, fun k hk0 hk => ?_, fun q hq => ?_, fun q hq => ?_⟩
  · cases k with
    | zero => exact absurd hk0 (Nat.lt_irrefl 0)
    | succ k =>
      have e : ([p] ++ ((ds.map (modP f)).drop 1).map (· + 2)).getD (k + 1) 0 = (((ds.map (modP f)).drop 1).map (· + 2)).getD k 0 := rfl
      have hk' : k < (((ds.map (modP f)).drop 1).map (· + 2)).length := by simpa using hk
      rw [e]
      have hm : (((ds.map (modP f)).drop 1).map (· + 2)).getD k 0 ∈ (((ds.map (modP f)).drop 1).map (· + 2)) := by
        have : (((ds.map (modP f)).drop 1).map (· + 2)).getD k 0 = (((ds.map (modP f)).drop 1).map (· + 2))[k] := by rw [List.getD_eq_getElem?_getD, List.getElem?_eq_getElem hk']; rfl
        rw [this]; exact List.getElem_mem _
      obtain ⟨x, hx, e2⟩ := List.mem_map.mp hm
      rw [← e2]
      exact Int.le_add_of_nonneg_left (bd x (List.mem_of_mem_drop hx)).1
  · rcases List.mem_append.mp hq with hq | hq
    · cases List.mem_singleton.mp hq; exact bp.1
    · obtain ⟨x, hx, e2⟩ := List.mem_map.mp hq
      rw [← e2]
      exact Int.add_nonneg (bd x (List.mem_of_mem_drop hx)).1 (by decide)
  · rcases List.mem_append.mp hq with hq | hq
    · cases List.mem_singleton.mp hq; exact Int.lt_trans bp.2 (Int.lt_add_of_pos_right _ (by decide))
    · obtain ⟨x, hx, e2⟩ := List.mem_map.mp hq
      rw [← e2]
      exact Int.add_lt_add_right (bd x (List.mem_of_mem_drop hx)).2 2
theorem law_parts {l : Nat} {vs : List Value} {ns : List Int} {A : Around} {Q E : Value → Shared → Prop} {sB : Shared} (hl : Is sB.heap l (.lst vs)) (hl58 : 58 < l) (hI : IntsAre vs ns) (hlen : ns.length ≤ 63)
    (W : Wd w mg mb sB.heap) (T : Tb sB.heap) (hA : A.handled = none) (hdp : A.depth + 5 < recursionLimit)
    (hQ : ∀ (p lp : Nat) vq ps f t s', Same sB s' → Keep sB.heap s'.heap → Tb s'.heap → Fresh sB.heap p → Is s'.heap p (.tup [.ref lp, .int f t]) → Fresh sB.heap lp → Is s'.heap lp (.lst vq) → lp < p → IntsAre vq ps → PartsOk ps f → Q (.ref p) s') : wpAny (model PR w) A (call (.ref 99) [.ref l]) Q E sB := by
  refine enterC (locs := lLP) (globs := gLP) (binds := [("script", .ref l)]) (vals := [some (.ref l), none, none])
    (fun n => [("factor", n)]) (fun L => [(L + 1, .cell none)]) W T (by walk_at "om") (by k_is) (by k_is) (BindsTo.of_eq rfl) (fun n => rfl) rfl
    (fun L => List.forall_mem_cons.mpr ⟨⟨"factor", rfl, rfl⟩, List.forall_mem_nil _⟩)
    ⟨rfl, by decide +kernel, kl_of rfl, kg_B W rfl rfl (by k_is) (by boot_fast) (by decide) <| kg_B W rfl rfl (by k_is) (by boot_fast) (by decide) kg_nil⟩ (fun L => HasAll.cons rfl (HasAll.skip (HasAll.skip trivial))) rfl rfl (R := fun c => Ck .cell c "factor" ∧ c = _) ⟨⟨rfl, rfl, rfl⟩, rfl⟩
    fun cs L s₁ hR S => ?_
  obtain ⟨hk1, hcs⟩ := hR
  generalize hc1 : L + 1 = c1 at *
  generalize hAA : A.deeper _ = A'
  refine A_gen2 fun Qb Eb hQb => ?_
  have hA' : A'.handled = none := by rw [← hAA]; exact hA
  clear hAA
  have S := S.base hl hl58
  have hnl := hI.length
  have hb := S.big
  (with_reducible refine' X_asg ?_ ?a401q; (case a401q => with_unfolding_all rfl)); (with_reducible refine wpAny_BinOp ?_); ((rename St _ _ _ _ _ _ _ _ _ _ _ => Z0); with_reducible refine E_int Z0 ?_; clear Z0; intro tX sX SX); (with_reducible refine wpAny_BinOp ?_); (with_reducible refine' Call_ ?_ ?a405q; (case a405q => with_unfolding_all rfl)); (with_reducible refine' rdG ?S406q ?k406q ?_; (case S406q => assumption); (case k406q => walk_at "m_mem")); (with_reducible refine' callWith_builtin1 ?_ ?a407q ?b407q; (case a407q => with_unfolding_all rfl); (case b407q => with_unfolding_all rfl)); walk_at "ac"
  refine L_mapF (w := w) (mg := mg) (mb := mb)  (s₀ := sB) (locs := lLP) (globs := gLP) (vals := [some (.ref l), none, none]) (cl := []) (fun n v => ∃ t, v = .int (n.natAbs : Int) t) [("abs", .builtin "abs")] (fun _ => True) (ns.drop 5) (by simp; walk_at "om") hA' (by rw [hcs]; rfl) (by decide) rfl (by decide)
    ⟨rfl, by decide +kernel, kl_of (by rw [hcs]; rfl), kg_B W (by rw [hcs]; rfl) rfl (by k_is) (by boot_fast) (by decide) kg_nil⟩ trivial ?_ (by intro _; rfl)
  · (with_reducible refine Subscript_ ?_); walk_at "n"; (with_reducible refine wpAny_Slice ?_); (with_reducible refine P_some ?_); ((rename St _ _ _ _ _ _ _ _ _ _ _ => Z0); with_reducible refine E_int Z0 ?_; clear Z0; intro tX sX SX); (with_reducible refine P_none ?_); (with_reducible refine P_none ?_)
    rename St _ _ _ _ _ _ _ _ _ _ _ => S
    refine sliceL S (S.get (k := .old (.lst vs)) (by walk_at "m_mem")).unold (.int 5 _) .none .none (by decide) (by rw [sizeLine_eq]; walk_at "om") (ws := vs.drop 5) (slicePick_from' vs.toArray 5) fun t s S h1 h2 => ?_
    refine ⟨t, vs.drop 5, _, rfl, S, (S.get (by walk_at "m_mem")).toLst, by walk_at "om", hI.drop 5, fun cs' C s₂ news x t _ _ S3 => ?_, fun D vq s₂ S hD1 hD2 hM => ?_⟩
    · (with_reducible refine' Call_ ?_ ?a414q; (case a414q => with_unfolding_all rfl)); (with_reducible refine' rdGc ?S415q ?k415q ?_; (case S415q => assumption); (case k415q => walk_at "m_mem")); (with_reducible refine' callWith_builtin1 ?_ ?a416q ?b416q; (case a416q => with_unfolding_all rfl); (case b416q => with_unfolding_all rfl)); walk_at "ac"; (with_reducible refine' rdLc ?S417q ?k417q ?_; (case S417q => assumption); (case k417q => walk_at "m_at")); (with_reducible refine args_nil ?_)
      exact absI S3 fun t s' S => ⟨⟨t, rfl⟩, S⟩
    clear h1 h2 hD2
    (with_reducible refine args_nil ?_)
    refine sumL S hA' (S.get (k := .lst vq) (by walk_at "m_mem")) (hM.ints (g := fun n => (n.natAbs : Int))) fun t1 s S => ?_
    (with_reducible refine wpAny_BinOp ?_); ((rename St _ _ _ _ _ _ _ _ _ _ _ => Z0); with_reducible refine E_int Z0 ?_; clear Z0; intro tX sX SX); ((rename St _ _ _ _ _ _ _ _ _ _ _ => Z0); with_reducible refine E_int Z0 ?_; clear Z0; intro tX sX SX)
    rename St _ _ _ _ _ _ _ _ _ _ _ => S
    refine O_pow S (by decide) (by decide) (by decide) fun t2 s S => ?_
    have hpow : (10 : Int) ^ (1300 : Int).toNat = B13 := rfl
    rw [hpow]
    have hB := B13_pos
    refine O_mod S (by walk_at "om") fun t3 s S => ?_
    ((rename St _ _ _ _ _ _ _ _ _ _ _ => Z0); with_reducible refine O_add Z0 ?_; clear Z0; intro tX sX SX)
    have m1 := Int.fmod_nonneg_of_pos (List.map (fun n : Int => (n.natAbs : Int)) (ns.drop 5)).sum hB
    have m2 := Int.fmod_lt_of_pos (List.map (fun n : Int => (n.natAbs : Int)) (ns.drop 5)).sum hB
    generalize hf : (1 + Int.fmod (List.map (fun n : Int => (n.natAbs : Int)) (ns.drop 5)).sum B13) = f
    have hf0 : 0 < f := by rw [← hf]; exact Int.add_pos_of_pos_of_nonneg (by decide) m1
    have hf1 : f ≤ B13 := by rw [← hf, Int.add_comm]; exact Int.add_one_le_of_lt m2
    clear m1 m2 hf
    rename St _ _ _ _ _ _ _ _ _ _ _ => S
    have S := S.sub (news' := [(l, .old (.lst vs)), (c1, .cell none)]) (by walk_at "m_sub")
    have hlc : l ≠ c1 := by have := hl.lt; have := S.above; walk_at "om"
    ((rename St _ _ _ _ _ _ _ _ _ _ _ => Z0); with_reducible refine' wrC Z0 ?hk424q ?hc424q ?k424q ?_; (case hk424q => assumption); (case hc424q => with_unfolding_all rfl); (case k424q => walk_at "m_upd"); clear Z0; intro sX SX)
    rename St _ _ _ _ _ _ _ _ _ _ _ => S
    (with_reducible refine' X_asg ?_ ?a425q; (case a425q => with_unfolding_all rfl)); (with_reducible refine wpAny_BinOp ?_); (with_reducible refine Subscript_ ?_); walk_at "n"; (with_reducible refine wpAny_Slice ?_); (with_reducible refine P_none ?_); (with_reducible refine P_some ?_); ((rename St _ _ _ _ _ _ _ _ _ _ _ => Z0); with_reducible refine E_int Z0 ?_; clear Z0; intro tX sX SX); (with_reducible refine P_none ?_)
    rename St _ _ _ _ _ _ _ _ _ _ _ => S
    refine sliceL S (S.get (k := .old (.lst vs)) (by walk_at "m_mem")).unold .none (.int 5 _) .none (by decide) (by rw [sizeLine_eq]; walk_at "om") (ws := vs.take 5) (slicePick_upto' vs.toArray 5) fun d1 s S hd1 kd1 => ?_
    simp only [LtAll, and_true] at kd1
    (with_reducible refine Subscript_ ?_); (with_reducible refine List_ ?_); walk_at "ac"; ((rename St _ _ _ _ _ _ _ _ _ _ _ => Z0); with_reducible refine E_int Z0 ?_; clear Z0; intro tX sX SX); walk_at "ac"; ((rename St _ _ _ _ _ _ _ _ _ _ _ => Z0); with_reducible refine E_int Z0 ?_; clear Z0; intro tX sX SX); walk_at "ac"; ((rename St _ _ _ _ _ _ _ _ _ _ _ => Z0); with_reducible refine E_int Z0 ?_; clear Z0; intro tX sX SX); (with_reducible refine args_nil ?_)
    rename St _ _ _ _ _ _ _ _ _ _ _ => S
    refine newLst S (by size_fits) fun d2 s S hd2 kd2 => ?_
    simp only [LtAll, and_true] at kd2
    (with_reducible refine wpAny_Slice ?_); (with_reducible refine P_some ?_); (with_reducible refine' Call_ ?_ ?a441q; (case a441q => with_unfolding_all rfl)); (with_reducible refine' rdG ?S442q ?k442q ?_; (case S442q => assumption); (case k442q => walk_at "m_mem")); (with_reducible refine' callWith_builtin1 ?_ ?a443q ?b443q; (case a443q => with_unfolding_all rfl); (case b443q => with_unfolding_all rfl)); walk_at "ac"; walk_at "n"; (with_reducible refine args_nil ?_)
    rename St _ _ _ _ _ _ _ _ _ _ _ => S
    refine lenL S (S.get (k := .old (.lst vs)) (by walk_at "m_mem")).unold (by walk_at "om") fun t4 s S => ?_
    (with_reducible refine P_none ?_); (with_reducible refine P_none ?_)
    refine sliceL S (S.get (by walk_at "m_mem")).toLst (.int _ _) .none .none (by decide) (by size_fits) (slicePick_from' _ vs.length) fun d3 s S hd3 kd3 => ?_
    simp only [LtAll, and_true] at kd3
    refine addL S (S.get (a := d1) (by walk_at "m_mem")).toLst (S.get (a := d3) (by walk_at "m_mem")).toLst (by rw [List.length_take, sizeLine_eq]; simp; exact Nat.le_trans (dn5 _).2 (by decide)) fun d4 s S hd4 kd4 => ?_
    simp only [LtAll, and_true] at kd4
    walk_at "w"
    rename St _ _ _ _ _ _ _ _ _ _ _ => S
    have hId : ∀ a b c, IntsAre (vs.take 5 ++ List.drop vs.length [.int 1 a, .int 0 b, .int 1 c]) (ns.take 5 ++ [1, 0, 1].drop ns.length) := fun a b c => by
      rw [← hnl]
      exact (hI.take 5).append (IntsAre.drop (.cons 1 a (.cons 0 b (.cons 1 c .nil))) vs.length)
    have hdl := drawn_len ns
    generalize hdn : ns.take 5 ++ [1, 0, 1].drop ns.length = dn at hId hdl
    have hfb : Builtin.Int.intBits f ≤ 5201 := bits_le (Int.le_of_lt hf0) (Int.lt_of_le_of_lt hf1 B13_lt)
    refine X_mapF (w := w) (mg := mg) (mb := mb) (s₀ := sB) (locs := lLP) (globs := gLP) (vals := [some (.ref l), some (.ref d4), none]) (cl := [("factor", c1)]) (fun n v => ∃ t, v = .int (modP f n) t) [] (fun c => Ck .cell c "factor") dn (by walk_at "om") hA' (by rw [hcs]; rfl) (by rw [hcs]; rfl) (by decide) rfl (by decide)
      ⟨rfl, by decide +kernel, kl_of (by rw [hcs]; rfl), kg_nil⟩ (by rw [hcs]; exact ⟨rfl, rfl, rfl⟩) ?_ (by intro _; rfl)
    walk_at "n"
    refine ⟨d4, _, _, rfl, S, (S.get (by walk_at "m_mem")).toLst, by walk_at "om", hId _ _ _, fun cs' C s₂ news x t hR _ S3 => ?_, fun D hD1 => ⟨_, by walk_at "m_put", fun vq s₂ S hD2 hM => ?_⟩⟩
    · have hcl := S.get (a := c1) (k := .cell (some (.int f _))) (by walk_at "m_mem")
      have hc1' : c1 ≠ 54 ∧ c1 ≠ 47 := by walk_at "om"
      clear S
      have hcl2 : ∀ s' vals news, St w mg mb _ C cs' ["x"] [] vals news s' → Is s'.heap c1 (.cell (some (.int f _))) := fun s' vals news S => hcl.keep fun o => S.keep c1 o hc1'.1 hc1'.2
      (with_reducible refine wpAny_BinOp ?_); (with_reducible refine' rdLc ?S448q ?k448q ?_; (case S448q => assumption); (case k448q => walk_at "m_at")); (with_reducible refine E_if ?_); (with_reducible refine' wpAny_isTrue_Compare1 ?_ ?a450q; (case a450q => with_unfolding_all rfl)); (with_reducible refine' rdLc ?S451q ?k451q ?_; (case S451q => assumption); (case k451q => walk_at "m_at")); ((rename St _ _ _ _ _ _ _ _ _ _ _ => Z0); with_reducible refine E_int Z0 ?_; clear Z0; intro tX sX SX); (with_reducible refine PyProof.Rows.ge_int ?_); (with_reducible refine wpAny_truthy_bool ?_)
      rename St _ _ _ _ _ _ _ _ _ _ _ => S3
      refine ⟨fun hq => ?_, fun hq => ?_⟩
      · have hx : 0 ≤ x := by simpa using hq
        (with_reducible refine wpAny_BinOp ?_); (with_reducible refine wpAny_BinOp ?_); ((rename St _ _ _ _ _ _ _ _ _ _ _ => Z0); with_reducible refine E_int Z0 ?_; clear Z0; intro tX sX SX); ((rename St _ _ _ _ _ _ _ _ _ _ _ => Z0); with_reducible refine E_int Z0 ?_; clear Z0; intro tX sX SX)
        rename St _ _ _ _ _ _ _ _ _ _ _ => S3
        refine O_pow S3 (by decide) (by decide) (by decide) fun t2 s S3 => ?_
        refine rdCc S3 hR rfl (hcl2 _ _ _ S3) ?_
        refine O_mul S3 (PySem.IntMulOk.of_le (bits_le (k := 30) (by decide) (by decide)) hfb (by decide)) fun t3 s S3 => ?_
        have e : modP f x = x.fmod ((10 : Int) ^ (9 : Int).toNat * f) := by rw [modP, if_pos hx]; rfl
        have h9 : (10 : Int) ^ (9 : Int).toNat = 1000000000 := by decide
        refine O_mod S3 (by rw [h9]; walk_at "om") fun t4 s S3 => ⟨⟨t4, by rw [e]⟩, S3⟩
      · have hx : ¬ 0 ≤ x := by simpa using hq
        ((rename St _ _ _ _ _ _ _ _ _ _ _ => Z0); with_reducible refine E_int Z0 ?_; clear Z0; intro tX sX SX)
        rename St _ _ _ _ _ _ _ _ _ _ _ => S3
        have e : modP f x = x.fmod 3 := by rw [modP, if_neg hx]
        refine O_mod S3 (by decide) fun t4 s S3 => ⟨⟨t4, by rw [e]⟩, S3⟩
    simp only [LtAll, and_true] at hD2
    have hIp := hM.ints
    have hpl := hM.len
    have hfp : 0 < (dn.map (modP f)).length := by rw [List.length_map]; walk_at "om"
    obtain ⟨p0, tp0, g1, g2⟩ := ints_get hIp 0 hfp
    have hok := parts_ok hf0 hf1 hdl.1 hdl.2 g1
    rw [List.length_map] at hfp
    have S := S.sub (news' := [(D, .lst vq), (c1, .cell (some (.int f _)))]) (by walk_at "m_sub")
    (with_reducible refine X_ret ?_); (with_reducible refine Tuple_ ?_); walk_at "ac"; (with_reducible refine wpAny_BinOp ?_); (with_reducible refine List_ ?_); walk_at "ac"; (with_reducible refine Subscript_ ?_); walk_at "n"; ((rename St _ _ _ _ _ _ _ _ _ _ _ => Z0); with_reducible refine E_int Z0 ?_; clear Z0; intro tX sX SX)
    rename St _ _ _ _ _ _ _ _ _ _ _ => S
    refine itemLR (S.get (k := .lst vq) (by walk_at "m_mem")) (by decide) (by decide) g2 ?_
    (with_reducible refine args_nil ?_)
    refine newLst S (by size_fits) fun e1 s S he1 ke1 => ?_
    simp only [LtAll, and_true] at ke1
    refine L_mapF (w := w) (mg := mg) (mb := mb) (s₀ := sB) (locs := lLP) (globs := gLP) (vals := [some (.ref l), some (.ref d4), some (.ref D)]) (cl := []) (fun n v => ∃ t, v = .int (n + 2) t) [] (fun _ => True) ((dn.map (modP f)).drop 1) (by simp; walk_at "om") hA' (by rw [hcs]; rfl) (by decide) rfl (by decide)
      ⟨rfl, by decide +kernel, kl_of (by rw [hcs]; rfl), kg_nil⟩ trivial ?_ (by intro _; rfl)
    (with_reducible refine Subscript_ ?_); walk_at "n"; (with_reducible refine wpAny_Slice ?_); (with_reducible refine P_some ?_); ((rename St _ _ _ _ _ _ _ _ _ _ _ => Z0); with_reducible refine E_int Z0 ?_; clear Z0; intro tX sX SX); (with_reducible refine P_none ?_); (with_reducible refine P_none ?_)
    rename St _ _ _ _ _ _ _ _ _ _ _ => S
    refine sliceL S (S.get (k := .lst vq) (by walk_at "m_mem")) (.int 1 _) .none .none (by decide) (by rw [sizeLine_eq]; walk_at "om") (ws := vq.drop 1) (slicePick_from' vq.toArray 1) fun e2 s S he2 ke2 => ?_
    simp only [LtAll, and_true] at ke2
    refine ⟨e2, vq.drop 1, _, rfl, S, (S.get (by walk_at "m_mem")).toLst, by walk_at "om", hIp.drop 1, fun cs' C s₂ news x t _ _ S3 => ?_, fun D2 vq2 s₂ S hD3 hD4 hM2 => ?_⟩
    · (with_reducible refine wpAny_BinOp ?_); (with_reducible refine' rdLc ?S474q ?k474q ?_; (case S474q => assumption); (case k474q => walk_at "m_at")); ((rename St _ _ _ _ _ _ _ _ _ _ _ => Z0); with_reducible refine E_int Z0 ?_; clear Z0; intro tX sX SX); ((rename St _ _ _ _ _ _ _ _ _ _ _ => Z0); with_reducible refine O_add Z0 ?_; clear Z0; intro tX sX SX)
      rename St _ _ _ _ _ _ _ _ _ _ _ => S3
      exact ⟨⟨_, rfl⟩, S3⟩
    simp only [LtAll, and_true] at hD4
    have hl2 := hM2.len
    rw [List.length_drop, List.length_map] at hl2
    refine addL S (S.get (a := e1) (by walk_at "m_mem")).toLst (S.get (a := D2) (by walk_at "m_mem")) (by rw [sizeLine_eq]; simp; walk_at "om") fun e3 s S he3 ke3 => ?_
    simp only [LtAll, and_true] at ke3
    walk_at "ac"; (with_reducible refine' rdC ?S477q ?hk477q ?hc477q ?k477q ?_; (case S477q => assumption); (case hk477q => assumption); (case hc477q => with_unfolding_all rfl); (case k477q => walk_at "m_mem")); (with_reducible refine args_nil ?_)
    refine newTup S (by size_fits) fun e4 s S he4 ke4 => ?_
    simp only [LtAll, and_true] at ke4
    exact hQb _ _ (hQ e4 e3 _ _ f _ _ S.same S.keep S.tb (S.fr he4) (S.get (by walk_at "m_mem")) (S.fr he3) (S.get (.tail _ (.head _))).toLst (by walk_at "om") (.cons p0 tp0 (hM2.ints (g := fun n => n + 2))) hok)
end
section
variable {w : World} {mg mb : Str → Option Value}
noncomputable abbrev lNV : List Str := ["version", "build", "l", "strings"]
noncomputable abbrev gNV : List (Str × Value) := [("list", .type "list"), ("map", .type "map"), ("str", .type "str"), ("int", .type "int"), ("ValueError", .type "ValueError")]

/- what the norming gives of the texts -/
inductive NormV : List Value → List Str → Prop
  | nums {vs : List Value} {ns : List Int} : Nums vs ns → NormV vs (ns.map fun n => Str.ofString (toString n))
  | none {vs : List Value} {us : List Str} {x : Str} {u : Tok} : StrsAre vs us → vs[0]? = some (.str x u) → x.length = 0 → NormV vs us
theorem StrsAre.take : ∀ {vs : List Value} {ss : List Str}, StrsAre vs ss → ∀ k, StrsAre (vs.take k) (ss.take k)
  | _, _, _, 0 => by simpa using StrsAre.nil
  | _, _, .nil, _ + 1 => .nil
  | _, _, .cons y t h, k + 1 => .cons y t (StrsAre.take h k)
theorem sum_take_le : ∀ (R : List Str) (k : Nat), ((R.take k).map (·.length)).sum ≤ (R.map (·.length)).sum
  | [], k => by simp
  | _ :: _, 0 => by simp
  | r :: R, k + 1 => by
    have := sum_take_le R k
    simp only [List.take_succ_cons, List.map_cons, List.sum_cons]
    walk_at "om"
theorem truthyS {s₀ s : Shared} {L : Nat} {cs : Scope} {lo : List Str} {globs : List (Str × Value)} {vals : List (Option Value)} {news : List (Nat × Knd)} {A : Around} {E : Value → Shared → Prop} {Q : Bool → Shared → Prop} {x : Str} {t : Tok} (S : St w mg mb s₀ L cs lo globs vals news s) (hx : x.length ≤ 1000000)
    (h : ∀ s', St w mg mb s₀ L cs lo globs vals news s' → Q ((x.length : Int) != 0) s') : wpAny (model PR w) A (truthy (.str x t)) Q E s := P.truthy_str (by walk_at "om") (h _ (S.tok _))
theorem empty_facts {x : Str} (h : x.length = 0) : (reprText x).length ≤ 1000 ∧ ((numSeenOf x).length == (numTextOf x).length) = true ∧ PySem.intText? x = none := by
  have e : x = ⟨#[]⟩ := by
    cases x with
    | mk c => exact congrArg Str.mk (Array.eq_empty_of_size_eq_zero h)
  subst e
  exact ⟨by decide +kernel, by decide +kernel, by decide +kernel⟩
theorem normv {v b : Str} {t u : Tok} {args : List Value} {us R : List Str} {A : Around} {Q E : Value → Shared → Prop} {s : Shared} {F : Nat} {oF : Obj} {es : Array DictEntry} {n : Nat} {envF : Env}
    (hargs : (args = [.str v t] ∧ b = Str.ofString "" ∧ u = 455) ∨ args = [.str v t, .str b u]) (hv : v.length ≤ 100000) (hb : b.length ≤ 100000)
    (hus : us = if b.length = 0 then Txt.split v (Str.ofString ".") else Txt.split v (Str.ofString ".") ++ [b]) (hlen : us.length ≤ 100) (hR : ∀ vs, StrsAre vs us → NormV vs R) (hRl : (R.map (·.length)).sum ≤ 100000) (hRn : R.length ≤ 100)
    (W : Wd w mg mb s.heap) (WX : Wd w mg mb (hideAll s.heap [F])) (T : Tb s.heap) (hF : s.heap.get? F = some oF) (hd : oF.data = .dict es n) (hF58 : 58 < F) (hfr : A.frames = some [envF]) (hf : envF.frame = some F) (hFk : envF.scope.kind ≠ .module)
    (hA : A.handled = none) (hdp : A.depth + 5 < recursionLimit) (hQ : ∀ t s', Back F oF s s' → Q (.str (Txt.join (Str.ofString ".") (R.take 3)) t) s') : wpS (model PR w) A (call (.ref 94) args) Q E s := by
  refine enterS (locs := lNV) (globs := gNV) (binds := [("version", .str v t), ("build", .str b u)]) (vals := [some (.str v t), some (.str b u), none, none]) W WX T hF hF58 (by walk_at "om") (by k_is) (by k_is)
    (by
      rcases hargs with ⟨rfl, rfl, rfl⟩ | rfl
      · exact BindsTo.of_defaults rfl (W.K 87 _ rfl) rfl rfl rfl
      · exact BindsTo.of_defaults rfl (W.K 87 _ rfl) rfl rfl rfl) (by decide) (locs rfl)
    ⟨rfl, by decide +kernel, kl_of rfl, kg_B W rfl rfl (by k_is) (by boot_fast) (by decide) <| kg_B W rfl rfl (by k_is) (by boot_fast) (by decide) <| kg_B W rfl rfl (by k_is) (by boot_fast) (by decide) <| kg_B W rfl rfl (by k_is) (by boot_fast) (by decide) <| kg_B W rfl rfl (by k_is) (by boot_fast) (by decide) kg_nil⟩
    (HasAll.cons rfl (HasAll.cons rfl (HasAll.skip (HasAll.skip trivial)))) rfl rfl fun cs L s₁ S hFL => ?_
  generalize hAA : A.deeper _ = A'
  have hA' : A'.handled = none := by rw [← hAA]; exact hA
  refine S_pre ?_
  (with_reducible refine' X_asg ?_ ?a479q; (case a479q => with_unfolding_all rfl)); (with_reducible refine' MethodCall_ ?_ ?a480q; (case a480q => with_unfolding_all rfl)); walk_at "n"
  refine GM.split ?_
  (with_reducible refine' callWith_method1 ?_ ?a481q ?b481q; (case a481q => with_unfolding_all rfl); (case b481q => with_unfolding_all rfl)); walk_at "ac"
  rename St _ _ _ _ _ _ _ _ _ _ _ => S
  refine E_str S fun t' s' S => ?_
  (with_reducible refine args_nil ?_)
  refine splitL S (by decide +kernel) (by walk_at "om") fun D vs s' S hD1 hD2 hS => ?_
  simp only [LtAll, and_true] at hD2
  walk_at "w"
  rename St _ _ _ _ _ _ _ _ _ _ _ => S
  have S := S.weakL
  refine S_nk ?_
  refine S_ifJ (fun s' => ∃ vs, St w mg mb { s with heap := hideAll s.heap [F] } L cs lNV gNV [some (.str v t), some (.str b u), some (.ref D), none] [(D, .lst vs), (F, frK oF)] s' ∧ StrsAre vs us) ?_ ?_
  · have hsl := hS.length
    have hle := split_le v (Str.ofString ".")
    (with_reducible refine' isTrue_plain ?_ ?a483q; (case a483q => with_unfolding_all rfl)); walk_at "n"
    rename St _ _ _ _ _ _ _ _ _ _ _ => S
    refine truthyS S (by walk_at "om") fun s' S => ?_
    refine ⟨fun hb => ?_, fun hb => ?_⟩
    · have hb0 : b.length ≠ 0 := by simpa using hb
      refine X_expr S.nm.kf ?_
      (with_reducible refine' MethodCall_ ?_ ?a484q; (case a484q => with_unfolding_all rfl)); walk_at "n"
      refine methL S (S.get (k := .lst vs) (by walk_at "m_mem")) PySem.F.slot_list_append PySem.F.type_list_append ?_
      (with_reducible refine' callWith_method1 ?_ ?a485q ?b485q; (case a485q => with_unfolding_all rfl); (case b485q => with_unfolding_all rfl)); walk_at "ac"; walk_at "n"; (with_reducible refine args_nil ?_)
      refine appL S (by walk_at "m_upd") (by rw [sizeLine_eq]; walk_at "om") fun s' S => ⟨(fun a q => nomatch q), X_nil ⟨rfl, _, S, ?_⟩⟩
      rw [hus, if_neg hb0]
      exact strs_snoc hS b u
    · have hb0 : b.length = 0 := by simpa using hb
      exact X_nil ⟨rfl, vs, S, by rw [hus, if_pos hb0]; exact hS⟩
  intro s' hI9
  refine byc fun hno => ?_
  obtain ⟨vs, S, hS⟩ := hI9
  refine hno ?_
  clear hno
  have hsl := hS.length
  have hNV := hR vs hS
  refine S_tryJ (fun s' => ∃ (D2 : Nat) (ws : List Value), St w mg mb { s with heap := hideAll s.heap [F] } L cs lNV gNV [some (.str v t), some (.str b u), some (.ref D), some (.ref D2)] [(D2, .lst ws), (F, frK oF)] s' ∧ StrsAre ws R) ?_ ?_
  · refine S_asg (S_Call ?_ (by with_unfolding_all rfl)) (by with_unfolding_all rfl)
    (with_reducible refine' rdG ?S487q ?k487q ?_; (case S487q => assumption); (case k487q => walk_at "m_mem"))
    refine S_callT ?_ (by with_unfolding_all rfl) (by with_unfolding_all rfl)
    walk_at "ac"; (with_reducible refine' Call_ ?_ ?a488q; (case a488q => with_unfolding_all rfl)); (with_reducible refine' rdG ?S489q ?k489q ?_; (case S489q => assumption); (case k489q => walk_at "m_mem")); (with_reducible refine' callWith_type1 ?_ ?a490q ?b490q; (case a490q => with_unfolding_all rfl); (case b490q => with_unfolding_all rfl)); walk_at "ac"; (with_reducible refine' rdG ?S491q ?k491q ?_; (case S491q => assumption); (case k491q => walk_at "m_mem")); walk_at "ac"; (with_reducible refine' Call_ ?_ ?a492q; (case a492q => with_unfolding_all rfl)); (with_reducible refine' rdG ?S493q ?k493q ?_; (case S493q => assumption); (case k493q => walk_at "m_mem")); (with_reducible refine' callWith_type1 ?_ ?a494q ?b494q; (case a494q => with_unfolding_all rfl); (case b494q => with_unfolding_all rfl)); walk_at "ac"; (with_reducible refine' rdG ?S495q ?k495q ?_; (case S495q => assumption); (case k495q => walk_at "m_mem")); walk_at "ac"; walk_at "n"; (with_reducible refine args_nil ?_)
    refine mapL S (S.get (k := .lst vs) (by walk_at "m_mem")) fun i T1 m1 s' S h1 h2 h3 h4 => ?_
    simp only [LtAll, and_true] at h4
    (with_reducible refine args_nil ?_)
    refine mapM S (S.get (by walk_at "m_mem")) fun T2 m2 s' S h5 h6 h7 => ?_
    simp only [LtAll, and_true] at h7
    (with_reducible refine args_nil ?_)
    have S := S.sub (news' := [(i, .it D 0), (F, frK oF), (m2, .obj (mapO T2 (.type "str"))), (T2, .obj (oneO (.ref m1))), (m1, .obj (mapO T1 (.type "int"))), (T1, .obj (oneO (.ref i))), (D, .lst vs)]) (by walk_at "m_sub")
    cases hNV with
    | @nums ns hN =>
      refine S_of (listMaps S hA' (by walk_at "m_mem") (by walk_at "m_mem") (by walk_at "m_mem") (by walk_at "m_mem") (by walk_at "m_mem") (by walk_at "m_all") hN (by walk_at "om") fun D2 ws s' S h8 h9 hS2 => ?_)
      walk_at "w"
      rename St _ _ _ _ _ _ _ _ _ _ _ => S
      exact S_nil ⟨rfl, D2, ws, S.sub (by walk_at "m_sub"), hS2⟩
    | @none _ x ux hS2 hx0 hxl =>
      refine byc fun hno => ?_
      obtain ⟨f1, f2, f3⟩ := empty_facts hxl
      refine hno ?_
      clear hno
      refine refuseMaps S hA' (by walk_at "m_mem") (by walk_at "m_mem") (by walk_at "m_mem") (by walk_at "m_mem") (by walk_at "m_mem") (by walk_at "m_all") hx0 (by walk_at "om") f1 f2 f3 fun s1 h' tk e S1 hx => ?_
      have S1 := S1.sub (news' := [(F, frK oF), (D, .lst vs)]) (by walk_at "m_sub")
      subst hAA
      refine caughtN S1 hd (by walk_at "m_all") hfr hf hFk hx (T := "ValueError") (by walk_at "m_mem") (by rw [isSubtype_type]; kernel_rfl) (by rw [isSubtype_type]; kernel_rfl) (by rw [isSubtype_type]; kernel_rfl) fun E' s' S => ?_
      (with_reducible refine' X_asg ?_ ?a499q; (case a499q => with_unfolding_all rfl)); walk_at "n"; walk_at "w"
      rename St _ _ _ _ _ _ _ _ _ _ _ => S
      exact X_nil ⟨rfl, D, vs, S.sub (by walk_at "m_sub"), hS2⟩
  · intro s' hI9
    refine byc fun hno => ?_
    obtain ⟨D2, ws, S, hS2⟩ := hI9
    refine hno ?_
    clear hno
    have hwl := hS2.length
    refine S_pre ?_
    (with_reducible refine' X_asg ?_ ?a500q; (case a500q => with_unfolding_all rfl)); (with_reducible refine' MethodCall_ ?_ ?a501q; (case a501q => with_unfolding_all rfl))
    refine E_str S fun t' s' S => GM.join ?_
    (with_reducible refine' callWith_method1 ?_ ?a502q ?b502q; (case a502q => with_unfolding_all rfl); (case b502q => with_unfolding_all rfl)); walk_at "ac"; (with_reducible refine Subscript_ ?_); walk_at "n"; (with_reducible refine wpAny_Slice ?_); (with_reducible refine P_none ?_); (with_reducible refine P_some ?_); ((rename St _ _ _ _ _ _ _ _ _ _ _ => Z0); with_reducible refine E_int Z0 ?_; clear Z0; intro tX sX SX); (with_reducible refine P_none ?_)
    rename St _ _ _ _ _ _ _ _ _ _ _ => S
    refine sliceL S (S.get (k := .lst ws) (by walk_at "m_mem")) .none (.int 3 _) .none (by decide) (by rw [sizeLine_eq]; walk_at "om") (ws := ws.take 3) (slicePick_upto' ws.toArray 3) fun D3 s' S h8 h9 => ?_
    (with_reducible refine args_nil ?_)
    have hS3 := StrsAre.take hS2 3
    have hsum : ((R.take 3).map (·.length)).sum ≤ 100000 := Nat.le_trans (sum_take_le R 3) hRl
    have hl3 : (R.take 3).length ≤ 3 := by rw [List.length_take]; walk_at "om"
    have hdl : (Str.ofString ".").length = 1 := by decide +kernel
    refine join_list (S.get (.head _)).toLst.lst hS3 (by rw [hdl]; walk_at "om") fun t' k' => ?_
    have S := S.tok k'
    walk_at "w"
    rename St _ _ _ _ _ _ _ _ _ _ _ => S
    refine S_nk (S_of ?_)
    (with_reducible refine X_ret ?_); walk_at "n"
    exact hQ _ _ ⟨(show Same s _ from S.same), S.keep, S.get (by walk_at "m_mem"), S.tb⟩
end
section
/- into a def with cells, on the spine, from the claim's caller -/
theorem enterCS {w : World} {mg mb : Str → Option Value} {s : Shared} {A : Around} {Q E : Value → Shared → Prop} {f : Addr} {args : List Value} {name qual : Str} {params : Arguments} {body : List Stmt} {scope : Scope}
    {dV kV doc pm cdv ct oc : Value} {an od : Option Addr} {osl : Array (Option Value)} {binds : List (Str × Value)} {locs : List Str} {globs : List (Str × Value)} {vals : List (Option Value)} (cells : Nat → List (Str × Addr)) (news : Nat → List (Nat × Knd))
    (W : Wd w mg mb s.heap) (T : Tb s.heap) (hroom : A.depth < recursionLimit)
    (ho : (hd.heap_39 w.params).lookup f = some ⟨oc, od, .func (fnX name qual params body scope [] dV kV doc pm an cdv ct), osl⟩) (hcd : codeIn (hd.heap_39 w.params) cdv qual = true)
    (hbind : BindsTo s (fnX name qual params body scope [] dV kV doc pm an cdv ct) ⟨args, []⟩ binds)
    (hcells : ∀ n, cellsFrom n scope.names [] = cells n)
    (hkind : (binds.all fun y => scope.names.lookup y.1 == some .local || scope.names.lookup y.1 == some .cell) = true)
    (hnews : ∀ L, ∀ p ∈ news L, ∃ x, (cells (L + 1)).lookup x = some p.1 ∧ p.2 = .cell (bindC (envOfC qual scope L f cdv).kindOf binds (fun _ => none) x))
    (hn : Nm mg scope locs globs) (hv : ∀ L, HasAll (bindL (envOfC qual scope L f cdv).kindOf binds fun _ => none) locs vals)
    (hco : scope.isCoroutine = false) (hgen : scope.isGenerator = false) {R : Scope → Prop} (hR : R scope)
    (h : ∀ (cs : Scope) L s₁, R cs → St w mg mb s L cs locs globs vals (news L) s₁ → wpS (model PR w) (A.deeper (envX qual cs L f cdv (cells (L + 1)))) (execs body (envX qual cs L f cdv (cells (L + 1))))
      (fun fl s' => Q (match fl with | .ret v => v | _ => .none) s')
      (fun e s' => wpAny (model PR w) (A.deeper (envX qual cs L f cdv (cells (L + 1)))) (leaving (envX qual cs L f cdv (cells (L + 1))) e) (fun _ s'' => E e s'') (fun e' s'' => E e' s'') s') s₁) :
    wpS (model PR w) A (call (.ref f) args) Q E s := by
  refine S_call (codeS_tree ?_)
  show wpS _ A.in1 (callAny (.ref f) ⟨args, []⟩) _ _ s
  simp only [callAny]
  refine S_then (wpAny_load (W.K _ _ ho) ?_)
  obtain ⟨c, oc, vs, tq, hc, hoc, hdc, hq⟩ := codeRec_of W.K hcd
  simp only [callFunction, hco, hgen, hc]
  refine S_then (m := field (.ref c) 1) (wpAny_field hoc hdc hq (S_then (wpAny_pure ?_)))
  refine S_then (hbind _ _ _ _ ?_)
  rw [← hc]
  refine S_then (wpAny_newFunctionEnv_cells hn.kf (kindsX hkind _) fun env' he s' x => ?_)
  subst he
  refine S_then (wpAny_enterFrame (W.nolimit.keeps x.toInCall.keep) hroom (S_pure ⟨rfl, codeS_func ?_⟩))
  obtain ⟨h₁, tk, rfl, hk₁⟩ := x.done
  have e : newEnv scope s.heap.objs.size mainGlobals (cellsFrom (s.heap.objs.size + 1) scope.names []) (qual ++ ".<locals>.") (some f) cdv none builtinsNs = envX qual scope s.heap.objs.size f cdv (cells (s.heap.objs.size + 1)) := by
    rw [hcells]; rfl
  have S : St w mg mb s s.heap.objs.size scope locs globs vals (news s.heap.objs.size) { s with heap := h₁, toks := tk } := by
    refine ⟨⟨_, _, rfl⟩, W, hn, ⟨_, x.toInCall.ns, hv _⟩, Keep.of hk₁, Nat.le_refl _, fun p hp => ?_, T.keeps hk₁⟩
    obtain ⟨y, hy, hp2⟩ := hnews _ p hp
    have hy' : (cellsFrom (s.heap.objs.size + 1) scope.names []).lookup y = some p.1 := by rw [hcells]; exact hy
    have hc := x.cell y p.1 hy'
    have ha := x.above y p.1 (mem_of_lookup hy')
    refine ⟨by rw [hp2]; exact hc, Nat.ne_of_gt ha, Nat.lt_trans W.size ha, fun _ => Heap.get?_none_of_le (Nat.le_of_lt ha)⟩
  have := h scope s.heap.objs.size _ hR S
  rw [← e] at this
  exact this
/- how the versions are dressed -/
structure Dress (z : Nat) (lead sign word : Str) : Prop where
  l : lead.cps.toList = List.replicate z 48
  z : z ≤ 2
  s0 : sign.cps.toList ≠ []
  s1 : ∀ c ∈ sign.cps.toList, c = 46 ∨ c = 95 ∨ c = 43 ∨ c = 45
  s2 : sign.length ≤ 2
  w : word.cps.toList = [112, 108] ∨ word.cps.toList = [112]
theorem flat_len {B : Nat} : ∀ {ts : List (List Nat)}, (∀ t ∈ ts, t.length ≤ B) → ts.flatten.length ≤ ts.length * B
  | [], _ => by simp
  | t :: r, h => by
    have h1 := h t (.head _)
    have h2 := flat_len fun x hx => h x (.tail _ hx)
    rw [List.flatten_cons, List.length_append, List.length_cons, Nat.add_mul]; walk_at "om"
theorem toksOf_len (z : Nat) (sg : List Nat) : ∀ ns, (toksOf z sg ns).length ≤ (sg.length + 1) * ns.length
  | [] => by simp [toksOf]
  | [n] => by simp [toksOf]
  | n :: m :: r => by
    have := toksOf_len z sg (m :: r)
    rw [toksOf, List.length_append, List.length_cons, List.length_map]
    simp only [List.length_cons] at this ⊢
    rw [Nat.mul_add (sg.length + 1) (r.length + 1) 1]; walk_at "om"
noncomputable abbrev versT (lead sign word : Str) (ns : List Nat) : Str := Txt.join sign ((ns.map Int.ofNat).map fun n => lead ++ Str.ofString (toString n)) ++ word
section
variable {w : World} {mg mb : Str → Option Value} {s₀ s : Shared} {L : Nat} {cs : Scope} {locs : List Str} {globs : List (Str × Value)} {vals : List (Option Value)} {news : List (Nat × Knd)}
variable {A : Around} {Q E : Value → Shared → Prop} {env : Env} {z : Nat} {lead sign word : Str}
theorem compVers {ns : List Nat} {t : Tok} (S : St w mg mb s₀ L cs locs globs vals news s) (D : Dress z lead sign word) (hn : ∀ n ∈ ns, n < 10 ^ 1320) (hlen : ns.length ≤ 10)
    (hfr : A.frames = some [env]) (hf : env.frame = some L) (hFk : env.scope.kind ≠ .module) (hA : A.handled = none) (hdp : A.depth + 5 < recursionLimit)
    (h : ∀ l vs s', St w mg mb s₀ L cs locs globs vals ((l, .lst vs) :: news) s' → L < l → LtAll l news → VerV word vs ns → Q (.ref l) s') : wpS (model PR w) A (call (.ref 86) [.str (versT lead sign word ns) t]) Q E s := by
  obtain ⟨oL, es, ep, hL, hd'⟩ := S.own
  have hsg : ∀ c ∈ sign.cps.toList, c < 128 ∧ isDg c = false ∧ isSg c = true := fun c hc => by
    rcases D.s1 c hc with rfl | rfl | rfl | rfl <;> decide
  have hwd : ∀ c ∈ word.cps.toList, c < 128 ∧ isDg c = false ∧ isSg c = false := fun c hc => by
    rcases D.w with e | e <;> rw [e] at hc <;> simp at hc
    · rcases hc with rfl | rfl <;> decide
    · subst hc; decide
  have hv : (versT lead sign word ns).cps.toList = (toksOf z sign.cps.toList ns).flatten ++ word.cps.toList := by
    rw [versT, show Txt.join sign ((ns.map Int.ofNat).map fun n => lead ++ Str.ofString (toString n)) = Str.join sign ((ns.map Int.ofNat).map fun n => lead ++ Str.ofString (toString n)) from StrLaws.glued_eq_join _ _]
    exact vers_text D.l ns
  have hsh := toks_short (z := z) (sg := sign.cps.toList) hn
  have hz := D.z
  have hsl : sign.cps.toList.length ≤ 2 := by rw [Array.length_toList]; exact D.s2
  have hwl : word.cps.toList.length ≤ 2 := by rcases D.w with e | e <;> rw [e] <;> decide
  have h1 := flat_len hsh
  have h2 := toksOf_len z sign.cps.toList ns
  have h3 : (sign.cps.toList.length + 1) * ns.length ≤ 3 * 10 := Nat.mul_le_mul (by walk_at "om") hlen
  have h4 : (toksOf z sign.cps.toList ns).length * (z + 1320 + 1) ≤ 30 * 1323 := Nat.mul_le_mul (by walk_at "om") (by walk_at "om")
  have hw2 : (⟨word.cps.toList.toArray⟩ : Str) = word := by cases word; simp
  refine compv (wd := word.cps.toList) (toks_of D.s0 hsg hwd ns) (fun t ht => by have := hsh t ht; walk_at "om") hv D.w (by rw [← Array.length_toList, hv, List.length_append]; walk_at "om") S.cur S.hideSelf S.tb hL hd' S.big hfr hf hFk hA hdp fun l vs s' hB hfl his hV => ?_
  rw [nums_toks (fun c hc => (hsg c hc).2.1), hw2] at hV
  exact h l vs s' ((S.callF hL hB.1 hB.2.1 hB.2.2.1 hB.2.2.2).add his (S.freshOf hfl).1) (S.freshOf hfl).1 (S.freshOf hfl).2 hV
theorem refS {a : Int} {t : Tok} (S : St w mg mb s₀ L cs locs globs vals news s) (hfr : A.frames = some [env]) (hf : env.frame = some L) (hFk : env.scope.kind ≠ .module) (hA : A.handled = none) (hdp : A.depth + 5 < recursionLimit)
    (h : ∀ s', St w mg mb s₀ L cs locs globs vals news s' → Q (.bool true) s') : wpAny (model PR w) A (call (.ref 123) [.int a t]) Q E s := by
  obtain ⟨oL, es, ep, hL, hd'⟩ := S.own
  exact refused S.cur S.hideSelf S.tb hL hd' S.big hfr hf hFk hA hdp fun s' hB => h s' (S.callF hL hB.1 hB.2.1 hB.2.2.1 hB.2.2.2)
theorem normS {v b : Str} {t u : Tok} {args : List Value} {us R : List Str} (S : St w mg mb s₀ L cs locs globs vals news s)
    (hargs : (args = [.str v t] ∧ b = Str.ofString "" ∧ u = 455) ∨ args = [.str v t, .str b u]) (hv : v.length ≤ 100000) (hb : b.length ≤ 100000)
    (hus : us = if b.length = 0 then Txt.split v (Str.ofString ".") else Txt.split v (Str.ofString ".") ++ [b]) (hlen : us.length ≤ 100) (hR : ∀ vs, StrsAre vs us → NormV vs R) (hRl : (R.map (·.length)).sum ≤ 100000) (hRn : R.length ≤ 100)
    (hfr : A.frames = some [env]) (hf : env.frame = some L) (hFk : env.scope.kind ≠ .module) (hA : A.handled = none) (hdp : A.depth + 5 < recursionLimit)
    (h : ∀ t s', St w mg mb s₀ L cs locs globs vals news s' → Q (.str (Txt.join (Str.ofString ".") (R.take 3)) t) s') : wpS (model PR w) A (call (.ref 94) args) Q E s := by
  obtain ⟨oL, es, ep, hL, hd'⟩ := S.own
  exact normv hargs hv hb hus hlen hR hRl hRn S.cur S.hideSelf S.tb hL hd' S.big hfr hf hFk hA hdp fun t s' hB => h t s' (S.callF hL hB.1 hB.2.1 hB.2.2.1 hB.2.2.2)
theorem fourS {over under part rest : Int} {t1 t2 t3 t4 : Tok} (S : St w mg mb s₀ L cs locs globs vals news s) (hz1 : Builtin.Int.intBits over ≤ 800000) (hz2 : Builtin.Int.intBits under ≤ 800000) (hz3 : Builtin.Int.intBits rest ≤ 800000)
    (hu : 0 < under) (hr0 : 0 ≤ rest) (hru : rest < under) (he : over = part * under - rest) (hA : A.handled = none) (hdp : A.depth + 70 < recursionLimit) (hun : A.units + 20 < cLine)
    (h : ∀ s', St w mg mb s₀ L cs locs globs vals news s' → Q (.bool true) s') : wpAny (model PR w) A (call (.ref 116) [.int over t1, .int under t2, .int part t3, .int rest t4]) Q E s :=
  four_signs hz1 hz2 hz3 hu hr0 hru he S.cur S.tb hA hdp hun fun s' e k t => h s' (S.call e k t)
theorem num_len {n : Nat} (h : n < 10 ^ 1320) : (n : Int).natAbs < 10 ^ 4300 ∧ (Str.ofString (toString ((n : Nat) : Int))).length ≤ 1321 := by
  refine ⟨?_, ?_⟩
  · rw [Int.natAbs_natCast]
    exact Nat.lt_of_lt_of_le h (Nat.pow_le_pow_right (by decide) (by decide))
  · have := digits_len 1320 n h
    have e := dig_text n
    have : (Str.ofString (toString ((n : Nat) : Int))).cps.toList.length ≤ 1321 := by rw [e, dig, List.length_map]; walk_at "om"
    rw [Array.length_toList] at this
    exact this
theorem versS {pl d : Nat} {pv : List Value} {ns : List Nat} {tl ts tw : Tok} (S : St w mg mb s₀ L cs locs globs vals news s) (D : Dress z lead sign word) (hn : ∀ n ∈ ns, n < 10 ^ 1320) (hlen : ns.length ≤ 10)
    (hI : IntsAre pv (ns.map Int.ofNat)) (hp : Is s.heap pl (.lst pv)) (hp58 : 58 < pl) (hdr : Is s.heap d (.tup [.str lead tl, .str sign ts, .str word tw])) (hd58 : 58 < d) (hA : A.handled = none) (hdp : A.depth + 5 < recursionLimit)
    (h : ∀ t s', St w mg mb s₀ L cs locs globs vals news s' → Q (.str (versT lead sign word ns) t) s') : wpAny (model PR w) A (call (.ref 104) [.ref pl, .ref d]) Q E s := by
  have hl : lead.length ≤ 10 := by
    have := congrArg List.length D.l
    rw [Array.length_toList, List.length_replicate] at this
    have := D.z
    show lead.cps.size ≤ 10; walk_at "om"
  have hw : word.length ≤ 10 := by
    show word.cps.size ≤ 10
    rw [← Array.length_toList]
    rcases D.w with e | e <;> rw [e] <;> decide
  refine law_version hI (fun n hn' => ?_) (by rw [List.length_map]; exact hlen) hl (Nat.le_trans D.s2 (by decide)) hw hp hp58 hdr hd58 S.cur S.tb hA hdp fun t s' e k tb => h t s' (S.call e k tb)
  obtain ⟨m, hm, rfl⟩ := List.mem_map.mp hn'
  have := num_len (hn m hm)
  exact ⟨this.1, Nat.le_trans this.2 (by decide)⟩
theorem runS {a b f : Int} {t1 t2 : Tok} (S : St w mg mb s₀ L cs locs globs vals news s) (hf : 0 < f) (hb0 : 0 ≤ b) (hb6 : b ≤ 6) (hz1 : Builtin.Int.intBits (a * f) ≤ 900000) (hz2 : Builtin.Int.intBits (6 * f) ≤ 900000) (hA : A.handled = none) (hdp : A.depth + 70 < recursionLimit)
    (h : ∀ l vs ps s', St w mg mb s₀ L cs locs globs vals ((l, .lst vs) :: news) s' → L < l → LtAll l news → IntsAre vs ps → HJ a b ps → Q (.ref l) s') : wpAny (model PR w) A (call (.ref 111) [.int (a * f) t1, .int (b * f) t2]) Q E s :=
  law_run hf hb0 hb6 hz1 hz2 S.cur S.tb hA hdp fun l vs ps s' e k t hfl his hI hH => h l vs ps s' (S.got e k t hfl his) (S.freshOf hfl).1 (S.freshOf hfl).2 hI hH
end
end
section
section
variable {w : World} {mg mb : Str → Option Value} {s₀ s : Shared} {L : Nat} {cs : Scope} {locs : List Str} {globs : List (Str × Value)} {vals : List (Option Value)} {news news' : List (Nat × Knd)}
variable {A : Around} {E : Value → Shared → Prop}
/- a range's iterator -/
noncomputable abbrev rgO (x left : Int) : Obj := { cls := .type "range_iterator", dict := none, data := .fields #[rawInt x, rawInt left, rawInt 1], slots := #[] }
theorem rgO_plain (x left : Int) : (Knd.obj (rgO x left)).plain := fun vs q t hd e => by cases hd; simp [rawInt] at e
theorem range2S {a b : Int} {t u : Tok} {Q : Value → Shared → Prop} (S : St w mg mb s₀ L cs locs globs vals news s) (hsm : Builtin.Range.small a b 1 = true)
    (h : ∀ (r : Nat) s', St w mg mb s₀ L cs locs globs vals news s' → (∀ Q' : Value → Shared → Prop, (∀ (it : Nat) s'', St w mg mb s₀ L cs locs globs vals ((it, .obj (rgO a (Builtin.Range.rangeSize a b 1))) :: news) s'' → L < it → LtAll it news → Q' (.ref it) s'') → wpAny (model PR w) A (pyIter (.ref r)) Q' E s') → Q (.ref r) s') :
    wpAny (model PR w) A (call (.type "range") [.int a t, .int b u]) Q E s := by
  refine call_range_2 ?_
  have S1 := (S.push { cls := .type "range", data := .fields #[.int a t, .int b u, .int 1 s.toks] } (kd := .obj { cls := .type "range", data := .fields #[.int a t, .int b u, .int 1 s.toks] }) rfl).tok (s.toks + 1)
  refine h s.heap.objs.size _ (S1.sub fun p hp => .tail _ hp) fun Q' h' => ?_
  refine wpAny_pyIter_range (S1.get (.head _)).obj hsm ?_
  have S2 := S1.push (rgO a (Builtin.Range.rangeSize a b 1)) (kd := .obj (rgO a (Builtin.Range.rangeSize a b 1))) rfl
  have hf := S1.freshOf S1.newAddr
  exact h' _ _ (S2.sub fun p hp => by
    rcases List.mem_cons.mp hp with rfl | hp
    · exact .head _
    · exact .tail _ (.tail _ hp)) hf.1 hf.2.2
theorem range1S {b : Int} {u : Tok} {Q : Value → Shared → Prop} (S : St w mg mb s₀ L cs locs globs vals news s) (hsm : Builtin.Range.small 0 b 1 = true)
    (h : ∀ (r : Nat) s', St w mg mb s₀ L cs locs globs vals news s' → (∀ Q' : Value → Shared → Prop, (∀ (it : Nat) s'', St w mg mb s₀ L cs locs globs vals ((it, .obj (rgO 0 (Builtin.Range.rangeSize 0 b 1))) :: news) s'' → L < it → LtAll it news → Q' (.ref it) s'') → wpAny (model PR w) A (pyIter (.ref r)) Q' E s') → Q (.ref r) s') :
    wpAny (model PR w) A (call (.type "range") [.int b u]) Q E s := by
  refine call_range_1 ?_
  have S1 := (S.push { cls := .type "range", data := .fields #[.int 0 s.toks, .int b u, .int 1 (s.toks + 1)] } (kd := .obj { cls := .type "range", data := .fields #[.int 0 s.toks, .int b u, .int 1 (s.toks + 1)] }) rfl).tok (s.toks + 1 + 1)
  refine h s.heap.objs.size _ (S1.sub fun p hp => .tail _ hp) fun Q' h' => ?_
  refine wpAny_pyIter_range (S1.get (.head _)).obj hsm ?_
  have S2 := S1.push (rgO 0 (Builtin.Range.rangeSize 0 b 1)) (kd := .obj (rgO 0 (Builtin.Range.rangeSize 0 b 1))) rfl
  have hf := S1.freshOf S1.newAddr
  exact h' _ _ (S2.sub fun p hp => by
    rcases List.mem_cons.mp hp with rfl | hp
    · exact .head _
    · exact .tail _ (.tail _ hp)) hf.1 hf.2.2
theorem nextRg {it : Nat} {x left : Int} {Q : Option Value → Shared → Prop} (S : St w mg mb s₀ L cs locs globs vals news s) (U : UpdK it (.obj (rgO x left)) (.obj (rgO (x + 1) (left - 1))) news news') (hl : 0 < left)
    (h : ∀ t s', St w mg mb s₀ L cs locs globs vals news' s' → Q (some (.int x t)) s') : wpAny (model PR w) A (pyNext (.ref it)) Q E s :=
  wpAny_pyNext_range_item (S.get U.mem).obj hl fun h' hi hs => h _ _ (S.upd U hs ⟨_, hi, rfl⟩ (rgO_plain _ _))
theorem endRg {it : Nat} {x left : Int} {Q : Option Value → Shared → Prop} (S : St w mg mb s₀ L cs locs globs vals ((it, .obj (rgO x left)) :: news) s) (hA : A.handled = none) (hl : left ≤ 0) (hne : ∀ p ∈ news, p.1 ≠ it)
    (h : ∀ s', St w mg mb s₀ L cs locs globs vals news s' → Q none s') : wpAny (model PR w) A (pyNext (.ref it)) Q E s :=
  wpAny_pyNext_range_end hA (S.get (.head _)).obj hl fun h' hx => h _ (S.ext hx hne (rgO_plain _ _))
end
section
variable {M : Model} {A : Around} {E : Value → Shared → Prop} {s : Shared} {env : Env}
/- or, on the spine in its last arm -/
theorem S_isTrue_or2 {x y : Expr} {pos whole} {Q : Bool → Shared → Prop} (h : wpAny M A (isTrue x env (eval x env)) (fun c s' => (c = true → Q true s') ∧ (c = false → wpS M A (isTrue y env (eval y env)) Q E s')) E s) :
    wpS M A (isTrue (.BoolOp .Or [x, y] pos) env whole) Q E s := by
  show wpS M A (do
    match BoolOp.Or, ← isTrue x env (eval x env) with
    | .And, false => pure false
    | .Or, true => pure true
    | _, _ => allTrue .Or [y] env) Q E s
  refine S_then (wpAny_mono h (fun c s' h' => ?_) fun _ _ x => x)
  cases c with
  | true => exact S_pure (h'.1 rfl)
  | false =>
    show wpS M A (do
      match BoolOp.Or, ← isTrue y env (eval y env) with
      | .And, false => pure false
      | .Or, true => pure true
      | _, _ => allTrue .Or [] env) Q E s'
    refine S_bind (S_mono (h'.2 rfl) (fun c s'' h'' => ?_) fun _ _ x => x)
    cases c with
    | true => exact S_pure h''
    | false => exact S_pure h''
end
end
section
noncomputable def lawB : List Stmt := match PR.main.body.getLast? with | some (.FunctionDef _ _ b _ _ _ _ _ _ _) => b | _ => []
noncomputable def lawSc : Scope := match PR.main.body.getLast? with | some (.FunctionDef _ _ _ _ _ _ sc _ _ _) => sc | _ => default
noncomputable abbrev lL : List Str := ["script", "parts", "factor", "lead", "sign", "dress", "rests", "part", "tops", "feet", "flat", "texts", "ends", "k", "plain", "told", "least", "quotient", "rest", "top", "read", "a", "b", "left", "c", "d", "right"]
noncomputable abbrev lTF : List Str := ["told", "ends", "a", "b", "left", "c", "d", "right"]
noncomputable abbrev lTE : List Str := ["least", "quotient", "rest", "top", "read", "told", "factor", "dress", "rests", "ends"]
noncomputable abbrev gL : List (Str × Value) := [("_law_parts", .ref 99), ("len", .builtin "len"), ("_law_refused", .ref 123), ("range", .type "range"), ("str", .type "str"), ("_law_four_signs", .ref 116), ("int_divmod", .ref 73), ("_comparable_version", .ref 86), ("_law_version", .ref 104), ("_norm_version", .ref 94), ("_law_run", .ref 111)]
noncomputable abbrev envL (cs : Scope) (L c1 : Nat) : Env := envX "law" cs L 128 (.ref 127) [("foot", c1)]
structure AOk (A : Around) (env : Env) : Prop where
  h : A.handled = none
  d : A.depth + 100 < recursionLimit
  u : A.units + 40 < cLine
  f : A.frames = some [env]
/- the entries of told and ends -/
inductive EndsR (word : Str) : List (Nat × Knd) → List Value → List (Int × Int × List Nat) → Prop
  | nil : EndsR word [] [] []
  | snoc {R : List (Nat × Knd)} {vq : List Value} {ds : List (Int × Int × List Nat)} {p q : Nat} {a b : Int} {ns : List Nat} {t u : Tok} {vs : List Value} : EndsR word R vq ds → VerV word vs ns →
      EndsR word ((p, .tup [.int a t, .int b u, .ref q]) :: (q, .lst vs) :: R) (vq ++ [Value.ref p]) (ds ++ [(a, b, ns)])
theorem EndsR.len {word : Str} {R : List (Nat × Knd)} {vq : List Value} {ds : List (Int × Int × List Nat)} (h : EndsR word R vq ds) : vq.length = ds.length := by
  induction h with
  | nil => rfl
  | snoc _ _ ih => simp [ih]
theorem EndsR.get {word : Str} {R : List (Nat × Knd)} {vq : List Value} {ds : List (Int × Int × List Nat)} (h : EndsR word R vq ds) : ∀ (j : Nat), j < vq.length →
    ∃ (p q : Nat) (a b : Int) (ns : List Nat) (t u : Tok) (vs : List Value), vq[j]? = some (Value.ref p) ∧ ds[j]? = some (a, b, ns) ∧ (p, Knd.tup [.int a t, .int b u, .ref q]) ∈ R ∧ (q, Knd.lst vs) ∈ R ∧ VerV word vs ns := by
  induction h with
  | nil => intro j hj; simp at hj
  | @snoc R vq ds p q a b ns t u vs h hV ih =>
    intro j hj
    have hl := h.len
    rcases Nat.lt_or_ge j vq.length with h1 | h1
    · obtain ⟨p', q', a', b', ns', t', u', vs', e1, e2, e3, e4, e5⟩ := ih j h1
      exact ⟨p', q', a', b', ns', t', u', vs', by rw [List.getElem?_append_left h1]; exact e1, by rw [List.getElem?_append_left (by walk_at "om")]; exact e2, .tail _ (.tail _ e3), .tail _ (.tail _ e4), e5⟩
    · rw [List.length_append, List.length_singleton] at hj
      have : j = vq.length := by walk_at "om"
      subst this
      exact ⟨p, q, a, b, ns, t, u, vs, by simp, by rw [hl]; simp, .head _, .tail _ (.head _), hV⟩
/- what is known of an entry -/
structure Good (x : Int × Int × List Nat) : Prop where
  pos : 0 < x.2.1
  hj : HJ x.1 x.2.1 (x.2.2.map Int.ofNat)
  b1 : Builtin.Int.intBits x.1 ≤ 100000
  b2 : Builtin.Int.intBits x.2.1 ≤ 100000
theorem Nm.sub {mg : Str → Option Value} {cs : Scope} {locs locs' : List Str} {globs : List (Str × Value)} (n : Nm mg cs locs globs) (h : ∀ x ∈ locs', x ∈ locs) (nd : locs'.Nodup) : Nm mg cs locs' globs := ⟨n.kf, nd, fun x hx => n.kl x (h x hx), n.kg⟩
/- other names are kept an eye on -/
theorem St.reloc {w : World} {mg mb : Str → Option Value} {s₀ s : Shared} {L : Nat} {cs : Scope} {locs locs' : List Str} {globs : List (Str × Value)} {vals vals' : List (Option Value)} {news : List (Nat × Knd)} (S : St w mg mb s₀ L cs locs globs vals news s) (nm : Nm mg cs locs' globs) (h : ∀ m, HasAll m locs vals → HasAll m locs' vals') : St w mg mb s₀ L cs locs' globs vals' news s :=
  ⟨S.same, S.wd, nm, let ⟨m, a, b⟩ := S.ns; ⟨m, a, h m b⟩, S.keep, S.above, S.N, S.tb⟩
theorem ne_bools {A : Around} {s : Shared} {l b : Addr} {x y : Bool} (hl : s.heap.IsTuple l #[.bool x, .bool y]) (hb : s.heap.IsTuple b #[.bool x, .bool y]) (hu : A.units < cLine) : SeqAt.RcNeAt A s (.ref l) (.ref b) false := by
  have e := SeqAt.RcNeAt.tuples (A := A) (e := fun _ => true) hl hb hu fun j h1 h2 => SeqAt.EqAt.same _
  have : (!((List.range (min (#[Value.bool x, .bool y] : Array Value).size (#[Value.bool x, .bool y] : Array Value).size)).all (fun _ => true) && (#[Value.bool x, .bool y] : Array Value).size == (#[Value.bool x, .bool y] : Array Value).size)) = false := by simp
  rw [this] at e
  exact e
section
variable {w : World} {mg mb : Str → Option Value} {sB s s₀ : Shared} {L c1 : Nat} {cs : Scope} {A : Around} {E : Value → Shared → Prop}
theorem asgT3 {locs : List Str} {globs : List (Str × Value)} {vals v1' v2' v3' : List (Option Value)} {news : List (Nat × Knd)} {cn : Str} {fa : Addr} {ccd : Value} {cl : List (Str × Addr)} {Q : Unit → Shared → Prop} {x1 x2 x3 : Str} {p1 p2 p3 tpos : Pos} {k : Nat} {v1 v2 v3 : Value} {p : Nat} (S : St w mg mb s₀ L cs locs globs vals news s) (hA : A.handled = none) (hm : Is s.heap p (.tup [v1, v2, v3]))
    (P1 : Put locs vals x1 v1 v1') (P2 : Put locs v1' x2 v2 v2') (P3 : Put locs v2' x3 v3 v3') (h : ∀ s', St w mg mb s₀ L cs locs globs v3' news s' → Q () s') :
    wpAny (model PR w) A (assign (.Tuple [.Name x1 p1, .Name x2 p2, .Name x3 p3] k tpos) (envX cn cs L fa ccd cl) (.ref p)) Q E s := by
  refine assign_Tuple_tuple (items := #[v1, v2, v3]) hA hm.tup rfl rfl fun h' he => ?_
  have S1 : St w mg mb s₀ L cs locs globs vals news { s with heap := h' } := S.call ⟨_, _, rfl⟩ (fun b o _ _ e => he b o (Nat.ne_of_lt (Heap.lt_size e)) e) (S.tb.keeps fun b o e => he b o (Nat.ne_of_lt (Heap.lt_size e)) e)
  show wpAny _ A (assignInOrder [assign (.Name x1 p1) _, assign (.Name x2 p2) _, assign (.Name x3 p3) _] [v1, v2, v3]) _ _ _
  exact assignInOrder_cons (PyProof.Rows.assign_Name (wrL S1 P1 fun s2 S2 => assignInOrder_cons (PyProof.Rows.assign_Name (wrL S2 P2 fun s3 S3 => assignInOrder_cons (PyProof.Rows.assign_Name (wrL S3 P3 fun s4 S4 => assignInOrder_nil (h s4 S4)))))))
theorem tailF {Qf : Flow → Shared → Prop} {word : Str} {lt le : Nat} {tv ev : List Value} {td en : List (Int × Int × List Nat)} {Rt Re : List (Nat × Knd)} (K : AOk A (envL cs L c1))
    (S : St w mg mb sB L cs lTF gL [some (.ref lt), some (.ref le), none, none, none, none, none, none] ((lt, .lst tv) :: (le, .lst ev) :: (Rt ++ Re)) s)
    (hne : lt ≠ le) (hT : EndsR word Rt tv td) (hE : EndsR word Re ev en) (hgt : ∀ x ∈ td, Good x) (hge : ∀ x ∈ en, Good x) (hl1 : tv.length ≤ 10) (hl2 : ev.length ≤ 10)
    (hQ : ∀ s', Same sB s' → Keep sB.heap s'.heap → Tb s'.heap → Qf (.ret (.bool true)) s') : wpS (model PR w) A (execs (lawB.drop 11) (envL cs L c1)) Qf E s := by
  show wpS _ _ (execs (_ :: _ :: _) _) _ _ _
  have both : ∀ j, j < (tv ++ ev).length → ∃ (p q : Nat) (a b : Int) (ns : List Nat) (t u : Tok) (vs : List Value), (tv ++ ev)[j]? = some (Value.ref p) ∧ Good (a, b, ns) ∧ (p, Knd.tup [.int a t, .int b u, .ref q]) ∈ Rt ++ Re ∧ (q, Knd.lst vs) ∈ Rt ++ Re ∧ VerV word vs ns := by
    intro j hj
    rw [List.length_append] at hj
    rcases Nat.lt_or_ge j tv.length with h | h
    · refine byc fun hno => ?_
      obtain ⟨p, q, a, b, ns, t, u, vs, e1, e2, e3, e4, e5⟩ := hT.get j h
      refine hno ?_
      clear hno
      exact ⟨p, q, a, b, ns, t, u, vs, by rw [List.getElem?_append_left h]; exact e1, hgt _ (List.mem_of_getElem? e2), List.mem_append_left _ e3, List.mem_append_left _ e4, e5⟩
    · refine byc fun hno => ?_
      obtain ⟨p, q, a, b, ns, t, u, vs, e1, e2, e3, e4, e5⟩ := hE.get (j - tv.length) (by walk_at "om")
      refine hno ?_
      clear hno
      exact ⟨p, q, a, b, ns, t, u, vs, by rw [List.getElem?_append_right h]; exact e1, hge _ (List.mem_of_getElem? e2), List.mem_append_right _ e3, List.mem_append_right _ e4, e5⟩
  refine S_for (fun itv n s' => ∃ (it i : Nat), itv = .ref it ∧ n + i = tv.length ∧ LtAll it ((lt, .lst tv) :: (le, .lst ev) :: (Rt ++ Re)) ∧ St w mg mb sB L cs lTF gL [some (.ref lt), some (.ref le), none, none, none, none, none, none] ((it, .it lt i) :: (lt, .lst tv) :: (le, .lst ev) :: (Rt ++ Re)) s') ?_ ?_
  · walk_at "n"
    refine iterLst S (S.get (k := .lst tv) (by walk_at "m_mem")) fun it s' S h1 h2 => ⟨tv.length, it, 0, rfl, rfl, h2, S⟩
  intro itv n s' hI9
  refine byc fun hno => ?_
  obtain ⟨it, i, rfl, hn, hLt, S⟩ := hI9
  refine hno ?_
  clear hno
  have hlt1 : ∀ p ∈ ((lt, Knd.lst tv) :: (le, Knd.lst ev) :: (Rt ++ Re)), p.1 ≠ it := fun p hp => Nat.ne_of_lt (hLt.get p hp)
  cases n with
  | zero =>
    refine endLst S K.h (S.get (k := .lst tv) (by walk_at "m_mem")) (by walk_at "om") hlt1 fun s' S => ?_
    refine S_of ?_
    show wpAny _ _ (execs (_ :: _) _) _ _ _
    refine X_ret (wpAny_pure ?_)
    exact hQ _ S.same S.keep S.tb
  | succ n =>
    refine byc fun hno => ?_
    obtain ⟨p, q, a, b, ns, t, u, vs, e1, e2, e3, e4, e5⟩ := both i (by rw [List.length_append]; walk_at "om")
    refine hno ?_
    clear hno
    rw [List.getElem?_append_left (by walk_at "om")] at e1
    refine nextLst S (.head hlt1) (S.get (k := .lst tv) (by walk_at "m_mem")) e1 fun s' S => ?_
    refine wpAny_letOwnedTupleGo_listiter (l := lt) (i := i + 1) (by obtain ⟨o, e, r⟩ := S.get (a := it) (k := .it lt (i + 1)) (by walk_at "m_mem"); exact ⟨o, e, r⟩) ?_
    refine asgT3 S K.h (S.get (.tail _ (.tail _ (.tail _ e3)))) (by walk_at "m_put") (by walk_at "m_put") (by walk_at "m_put") fun s' S => ?_
    refine S_gen fun Qb hQb => ?_
    show wpS _ _ (execs (_ :: _) _) _ _ _
    have g1 := e2
    have hIt := S.lt (a := it) (k := .it lt (i + 1)) (.head _)
    have hq1 := S.lt (a := q) (k := .lst vs) (.tail _ (.tail _ (.tail _ e4)))
    refine S_for (fun itv m s' => ∃ (lc it2 j : Nat), itv = .ref it2 ∧ m + j = (tv ++ ev).length ∧ LtAll lc ((it, .it lt (i + 1)) :: (lt, .lst tv) :: (le, .lst ev) :: (Rt ++ Re)) ∧ lc < it2 ∧
      St w mg mb sB L cs lTF gL [some (.ref lt), some (.ref le), some (.int a t), some (.int b u), some (.ref q), none, none, none] ((it2, .it lc j) :: (lc, .lst (tv ++ ev)) :: (it, .it lt (i + 1)) :: (lt, .lst tv) :: (le, .lst ev) :: (Rt ++ Re)) s') ?_ ?_
    · (with_reducible refine wpAny_BinOp ?_); walk_at "n"; walk_at "n"
      refine addL S (S.get (k := .lst tv) (by walk_at "m_mem")) (S.get (k := .lst ev) (by walk_at "m_mem")) (by rw [sizeLine_eq]; walk_at "om") fun lc s' S h1 h2 => ?_
      have S := S.weakL
      refine iterLst S (S.get (.head _)) fun it2 s' S h3 h4 => ⟨(tv ++ ev).length, lc, it2, 0, rfl, rfl, h2, h4.1, S⟩
    intro itv m s' hI9
    refine byc fun hno => ?_
    obtain ⟨lc, it2, j, rfl, hm, hLt2, hlc, S⟩ := hI9
    refine hno ?_
    clear hno
    have hlt2 : ∀ p ∈ ((lc, Knd.lst (tv ++ ev)) :: (it, Knd.it lt (i + 1)) :: (lt, Knd.lst tv) :: (le, Knd.lst ev) :: (Rt ++ Re)), p.1 ≠ it2 := fun p hp => by
      rcases List.mem_cons.mp hp with rfl | hp
      · exact Nat.ne_of_lt hlc
      · exact Nat.ne_of_lt (Nat.lt_trans (hLt2.get p hp) hlc)
    cases m with
    | zero =>
      refine endLst S K.h (S.get (k := .lst (tv ++ ev)) (by walk_at "m_mem")) (by walk_at "om") hlt2 fun s' S => S_nil (hQb .next _ ⟨n, by walk_at "om", it, i + 1, rfl, by walk_at "om", hLt, (S.drop).le (by walk_at "m_le")⟩)
    | succ m =>
      refine byc fun hno => ?_
      obtain ⟨p', q', c, d, ms, t', u', us, f1, f2, f3, f4, f5⟩ := both j (by walk_at "om")
      refine hno ?_
      clear hno
      refine nextLst S (.head hlt2) (S.get (k := .lst (tv ++ ev)) (by walk_at "m_mem")) f1 fun s' S => ?_
      refine wpAny_letOwnedTupleGo_listiter (l := lc) (i := j + 1) (by obtain ⟨o, e, r⟩ := S.get (a := it2) (k := .it lc (j + 1)) (by walk_at "m_mem"); exact ⟨o, e, r⟩) ?_
      refine asgT3 S K.h (S.get (.tail _ (.tail _ (.tail _ (.tail _ (.tail _ f3)))))) (by walk_at "m_put") (by walk_at "m_put") (by walk_at "m_put") fun s' S => ?_
      refine S_gen fun Qc hQc => ?_
      have hc := hj_cmp g1.hj f2.hj (fun q => absurd g1.pos (by rw [show (a, b, ns).2.1 = b from rfl] at *; walk_at "om")) (fun q => absurd f2.pos (by rw [show (c, d, ms).2.1 = d from rfl] at *; walk_at "om"))
      have v1 : (vlt (ns.map Int.ofNat) (ms.map Int.ofNat)) = decide (a * d < c * b) := by
        rw [Bool.eq_iff_iff, decide_eq_true_eq]; exact hc.1
      have v2 : veqs vs us = decide (a * d = c * b) := by
        rw [e5.veqs f5]
        have : ns = ms ↔ a * d = c * b := by
          rw [← hc.2]
          exact ⟨fun h => by rw [h], fun h => (List.map_inj_right (fun x y h => Int.ofNat.inj h)).mp h⟩
        exact decide_eq_decide.mpr this
      have hu := K.u
      refine S_ifS (S_of ?_)
      (with_reducible refine' wpAny_isTrue_Compare1 ?_ ?a512q; (case a512q => with_unfolding_all rfl)); (with_reducible refine Tuple_ ?_); walk_at "ac"; (with_reducible refine' wpAny_Compare1 ?_ ?a514q; (case a514q => with_unfolding_all rfl)); walk_at "n"; walk_at "n"
      refine lt_listAt (S.get (a := q) (k := .lst vs) (by exact .tail _ (.tail _ (.tail _ (.tail _ (.tail _ e4)))))).lst (S.get (a := q') (k := .lst us) (by exact .tail _ (.tail _ (.tail _ (.tail _ (.tail _ f4)))))).lst (by walk_at "om") (e5.ltR0 f5) ?_
      walk_at "ac"; (with_reducible refine' wpAny_Compare1 ?_ ?a515q; (case a515q => with_unfolding_all rfl)); walk_at "n"; walk_at "n"
      refine rc_lists (S.get (a := q) (k := .lst vs) (by exact .tail _ (.tail _ (.tail _ (.tail _ (.tail _ e4)))))).lst (S.get (a := q') (k := .lst us) (by exact .tail _ (.tail _ (.tail _ (.tail _ (.tail _ f4)))))).lst (by walk_at "om") e5.isIS f5.isIS PR w _ _ ?_
      (with_reducible refine args_nil ?_)
      rw [v1, v2]
      refine newTup S (by size_fits) fun x1 s' S hx1 hx2 => ?_
      have mulk : ∀ {x y : Int}, Builtin.Int.intBits x ≤ 100000 → Builtin.Int.intBits y ≤ 100000 → PySem.IntMulOk x y := fun h1 h2 => PySem.IntMulOk.of_le h1 h2 (by decide)
      (with_reducible refine Tuple_ ?_); walk_at "ac"; (with_reducible refine' wpAny_Compare1 ?_ ?a518q; (case a518q => with_unfolding_all rfl)); (with_reducible refine wpAny_BinOp ?_); walk_at "n"; walk_at "n"
      refine O_mul S (mulk g1.b1 f2.b2) fun t1 s' S => ?_
      (with_reducible refine wpAny_BinOp ?_); walk_at "n"; walk_at "n"
      refine O_mul S (mulk f2.b1 g1.b2) fun t1 s' S => ?_
      (with_reducible refine PyProof.Rows.lt_int ?_)
      walk_at "ac"; (with_reducible refine' wpAny_Compare1 ?_ ?a522q; (case a522q => with_unfolding_all rfl)); (with_reducible refine wpAny_BinOp ?_); walk_at "n"; walk_at "n"
      refine O_mul S (mulk g1.b1 f2.b2) fun t1 s' S => ?_
      (with_reducible refine wpAny_BinOp ?_); walk_at "n"; walk_at "n"
      refine O_mul S (mulk f2.b1 g1.b2) fun t1 s' S => ?_
      (with_reducible refine PyProof.Rows.eq_int ?_)
      (with_reducible refine args_nil ?_)
      refine newTup S (by size_fits) fun x2 s' S hx3 hx4 => ?_
      have hbe : ((a * d == c * b) : Bool) = decide (a * d = c * b) := by
        rw [Bool.eq_iff_iff]; simp
      rw [hbe] at S
      refine ne_bools (S.get (a := x1) (k := .tup _) (.tail _ (.head _))).tup (S.get (a := x2) (k := .tup _) (.head _)).tup (by walk_at "om") PR w _ _ ?_
      (with_reducible refine wpAny_truthy_bool ?_)
      refine ⟨fun hq => Bool.noConfusion hq, fun _ => ?_⟩
      refine S_nil (S_nil (hQc .next _ ⟨m, by walk_at "om", lc, it2, j + 1, rfl, by walk_at "om", hLt2, hlc, (S.drop.drop).le (by walk_at "m_le")⟩))
end
end
section
theorem nat_bits {x : Int} {k : Nat} (h : x.natAbs ≤ 2 ^ k) : Builtin.Int.intBits x ≤ k + 1 := by
  refine PySem.intBits_le_iff.mpr ?_
  have e : 2 ^ (k + 1) = 2 ^ k * 2 := Nat.pow_succ ..
  have : 0 < 2 ^ k := Nat.pow_pos (by decide)
  rw [e, Nat.mul_two]
  exact Nat.lt_of_le_of_lt h (Nat.lt_add_of_pos_right this)
theorem B139_lt : B139 + 2 ≤ 2 ^ 5300 := by
  have h1 := B13_lt
  have h2 := B139_eq
  have e : (2 : Int) ^ 5300 = 2 ^ 5201 * 2 ^ 99 := by rw [← Int.pow_add]
  have h3 : (2 : Int) ^ 99 = 633825300114114700748351602688 := by decide
  rw [e, h3, h2]
  have h4 : (0 : Int) < 2 ^ 5201 := Int.pow_pos (by decide)
  generalize (2 : Int) ^ 5201 = X at *
  lia
theorem natAbs_le' {x : Int} {X : Nat} (h : 0 ≤ x) (h2 : x ≤ X) : x.natAbs ≤ X := Int.ofNat_le.mp (by rw [Int.natAbs_of_nonneg h]; exact h2)
theorem part_abs {ps : List Int} {f : Int} (P : PartsOk ps f) {k : Nat} (hk : k < ps.length) : 0 ≤ ps.getD k 0 ∧ (ps.getD k 0).natAbs ≤ 2 ^ 5300 := by
  have e : ps.getD k 0 = ps[k] := by simp [List.getD, hk]
  have h1 := P.nn _ (List.getElem_mem hk)
  have h2 := P.small _ (List.getElem_mem hk)
  have h3 := B139_lt
  have h4 : (2 : Int) ^ 5300 = ((2 ^ 5300 : Nat) : Int) := by rw [Int.natCast_pow]; rfl
  rw [e]
  rw [h4] at h3
  exact ⟨h1, natAbs_le' h1 (Int.le_of_lt (Int.lt_of_lt_of_le h2 h3))⟩
theorem mul_sub_abs {p x y : Int} {X B C : Nat} (hp : p.natAbs ≤ X) (hx : x.natAbs ≤ B) (hy : y.natAbs ≤ C) : (p * x - y).natAbs ≤ X * B + C := by
  have h1 : (p * x).natAbs ≤ X * B := by rw [Int.natAbs_mul]; exact Nat.mul_le_mul hp hx
  exact Nat.le_trans (Int.natAbs_add_le (p * x) (-y)) (by rw [Int.natAbs_neg]; exact Nat.add_le_add h1 hy)
theorem s5302 (k : Nat) : 5302 * (k + 1) = 2 + (5300 + 5302 * k) := by lia
theorem le22 {X Y : Nat} (h : Y ≤ X) : X + Y ≤ 2 ^ 2 * X := by lia
theorem subs1 {n j : Nat} (h : j + 1 ≤ n) : n - (j + 1) + 1 = n - j := by rw [Nat.sub_add_eq]; exact Nat.sub_add_cancel (Nat.sub_pos_of_lt h)
theorem subs2 {n j : Nat} (h : j + 1 ≤ n) : n - (j + 1) + 2 = n + 1 - j := (congrArg (· + 1) (subs1 h)).trans (Nat.succ_sub (Nat.le_of_succ_le h)).symm
theorem step_pow {k : Nat} : 2 ^ 5300 * 2 ^ (5302 * (k + 1)) + 2 ^ (5302 * k) ≤ 2 ^ (5302 * (k + 2)) := by
  have e1 : 2 ^ (5302 * (k + 2)) = 2 ^ 2 * (2 ^ 5300 * 2 ^ (5302 * (k + 1))) := by rw [← Nat.pow_add, ← Nat.pow_add]; rw [s5302 (k + 1)]
  have e2 : 2 ^ (5302 * k) ≤ 2 ^ 5300 * 2 ^ (5302 * (k + 1)) := by rw [← Nat.pow_add]; exact Nat.pow_le_pow_right (by decide) (Nat.le_trans (Nat.mul_le_mul_left 5302 (Nat.le_succ k)) (Nat.le_add_left ..))
  rw [e1]
  exact le22 e2
theorem cvn_abs {ps : List Int} {f x y : Int} (P : PartsOk ps f) (hx : x.natAbs ≤ 1) (hy : y.natAbs ≤ 1) : ∀ j, j ≤ ps.length + 1 → (cvn x y ps j).natAbs ≤ 2 ^ (5302 * j) := by
  have key : ∀ j, (j ≤ ps.length + 1 → (cvn x y ps j).natAbs ≤ 2 ^ (5302 * j)) ∧ (j + 1 ≤ ps.length + 1 → (cvn x y ps (j + 1)).natAbs ≤ 2 ^ (5302 * (j + 1))) := by
    intro j
    induction j with
    | zero =>
      refine ⟨fun _ => by simpa [cvn] using hx, fun _ => ?_⟩
      have : 1 ≤ 2 ^ (5302 * (0 + 1)) := Nat.one_le_two_pow
      exact Nat.le_trans hy this
    | succ j ih =>
      refine ⟨ih.2, fun h => ?_⟩
      have h2 := Nat.le_of_succ_le h
      exact Nat.le_trans (mul_sub_abs (part_abs P (k := j) (Nat.le_of_succ_le_succ h)).2 (ih.2 h2) (ih.1 (Nat.le_of_succ_le h2))) step_pow
  exact fun j => (key j).1
theorem rk_abs {ps : List Int} {f : Int} (P : PartsOk ps f) : ∀ j, j ≤ ps.length → (rk f ps (ps.length - j)).natAbs ≤ 2 ^ (5302 * (j + 1)) ∧ (rk f ps (ps.length + 1 - j)).natAbs ≤ 2 ^ (5302 * (j + 1)) := by
  intro j
  induction j with
  | zero =>
    intro _
    have h := rk_last f ps
    rw [Nat.sub_zero, Nat.sub_zero, h.1, h.2]
    refine ⟨?_, by simp⟩
    have h1 := P.pos
    have h2 := P.fle
    have h3 := B13_lt
    have e : (2 : Int) ^ 5201 = ((2 ^ 5201 : Nat) : Int) := by rw [Int.natCast_pow]; rfl
    have h4 : (2 : Nat) ^ 5201 ≤ 2 ^ (5302 * (0 + 1)) := Nat.pow_le_pow_right (by decide) (by decide)
    rw [e] at h3
    exact Nat.le_trans (natAbs_le' (Int.le_of_lt h1) (Int.le_of_lt (Int.lt_of_le_of_lt h2 h3))) h4
  | succ j ih =>
    intro hj
    obtain ⟨h1, h2⟩ := ih (Nat.le_of_succ_le hj)
    have e1 : ps.length + 1 - (j + 1) = ps.length - j := Nat.add_sub_add_right ..
    have hm : (2 : Nat) ^ (5302 * (j + 1)) ≤ 2 ^ (5302 * (j + 1 + 1)) := Nat.pow_le_pow_right (by decide) (Nat.mul_le_mul_left _ (Nat.le_succ _))
    have hlt : ps.length - (j + 1) < ps.length := Nat.sub_lt (Nat.lt_of_lt_of_le (Nat.succ_pos j) hj) (Nat.succ_pos j)
    refine ⟨?_, by rw [e1]; exact Nat.le_trans h1 hm⟩
    have hs := rk_step f ps (ps.length - (j + 1)) hlt
    rw [subs1 hj, subs2 hj] at hs
    rw [hs]
    refine Nat.le_trans (mul_sub_abs (part_abs P (k := ps.length - (j + 1)) hlt).2 h1 h2) ?_
    have e2 : 2 ^ (5302 * (j + 1 + 1)) = 2 ^ 2 * (2 ^ 5300 * 2 ^ (5302 * (j + 1))) := by rw [← Nat.pow_add, ← Nat.pow_add]; rw [s5302 (j + 1)]
    have e3 : 1 * 2 ^ (5302 * (j + 1)) ≤ 2 ^ 5300 * 2 ^ (5302 * (j + 1)) := Nat.mul_le_mul_right _ Nat.one_le_two_pow
    rw [Nat.one_mul] at e3
    rw [e2]
    exact le22 e3
theorem rk_bits {ps : List Int} {f : Int} (P : PartsOk ps f) {k : Nat} (hk : k ≤ ps.length + 1) : Builtin.Int.intBits (rk f ps k) ≤ 32000 := by
  have hh := P.hi
  have : (rk f ps k).natAbs ≤ 2 ^ 31999 := by
    by_cases h : k = ps.length + 1
    · rw [h, (rk_last f ps).2]; simp
    · have := (rk_abs P (ps.length - k) (Nat.sub_le ..)).1
      rw [Nat.sub_sub_self (Nat.le_of_lt_succ (Nat.lt_of_le_of_ne hk h))] at this
      exact Nat.le_trans this (Nat.pow_le_pow_right (by decide) (Nat.le_trans (Nat.mul_le_mul_left 5302 (Nat.succ_le_succ (Nat.le_trans (Nat.sub_le ..) hh))) (by decide)))
  exact nat_bits this
theorem cvn_bits {ps : List Int} {f x y : Int} (P : PartsOk ps f) (hx : x.natAbs ≤ 1) (hy : y.natAbs ≤ 1) {j : Nat} (hj : j ≤ ps.length + 1) : Builtin.Int.intBits (cvn x y ps j) ≤ 40000 := by
  have hh := P.hi
  have := cvn_abs P hx hy j hj
  exact nat_bits (k := 39999) (Nat.le_trans this (Nat.pow_le_pow_right (by decide) (Nat.le_trans (Nat.mul_le_mul_left 5302 (Nat.le_trans hj (Nat.succ_le_succ hh))) (by decide))))
theorem k1000 {k n c : Nat} (hk : k < n) (hn : n ≤ 5) (hc : c ≤ 10) : k + c < 1000 := Nat.lt_of_lt_of_le (Nat.add_lt_add_right hk c) (Nat.le_trans (Nat.add_le_add hn hc) (by decide))
theorem k63 {k n : Nat} (hk : k < n) (hn : n ≤ 5) : (k : Int) < 2 ^ 63 := n63 (k1000 (c := 0) hk hn (by decide))
theorem m1_toNat (k : Nat) : ((-1 : Int) + ((k + 1 : Nat) : Int)).toNat = k := by
  show ((-1 : Int) + ((k : Int) + 1)).toNat = k
  rw [Int.add_comm, Int.add_neg_cancel_right]; rfl
/- the least number above a lower one -/
noncomputable def cc (f : Int) (ps : List Int) (m : Int) : Int := -((-m * rk f ps 0).fdiv (rk f ps 1))
theorem r1_pos {ps : List Int} {f : Int} (P : PartsOk ps f) : 0 < rk f ps 1 := by
  have h : 0 ≤ rk f ps 2 ∧ rk f ps 2 < rk f ps 1 := rk_dec P.pos P.two 0 (Nat.lt_of_lt_of_le (by decide) P.lo)
  exact Int.lt_of_le_of_lt h.1 h.2
theorem cc_facts {ps : List Int} {f : Int} (P : PartsOk ps f) (m : Int) : cc f ps m * rk f ps 1 - m * rk f ps 0 = (-m * rk f ps 0).fmod (rk f ps 1) ∧ 0 ≤ (-m * rk f ps 0).fmod (rk f ps 1) ∧ (-m * rk f ps 0).fmod (rk f ps 1) < rk f ps 1 := by
  have hr := r1_pos P
  have h1 := Int.mul_fdiv_add_fmod (-m * rk f ps 0) (rk f ps 1)
  refine ⟨?_, Int.fmod_nonneg_of_pos _ hr, Int.fmod_lt_of_pos _ hr⟩
  unfold cc
  generalize Int.fdiv (-m * rk f ps 0) (rk f ps 1) = q at *
  generalize Int.fmod (-m * rk f ps 0) (rk f ps 1) = r at *
  grind
theorem cc_end {ps : List Int} {f : Int} (P : PartsOk ps f) {k : Nat} (hk : k < ps.length) : cc f ps (fn' ps (k + 2)) = tn ps (k + 2) ∧ (-(fn' ps (k + 2)) * rk f ps 0).fmod (rk f ps 1) = rk f ps (k + 2) := by
  have hr := r1_pos P
  have h1 := cv_rest (f := f) (ps := ps) (k + 2) (Nat.succ_le_succ hk)
  have h2 := rk_dec P.pos P.two
  have h3 : 0 ≤ rk f ps (k + 2) ∧ rk f ps (k + 2) < rk f ps 1 := by
    refine ⟨(h2 k hk).1, ?_⟩
    have : ∀ j, j ≤ k → rk f ps (j + 2) < rk f ps 1 := by
      intro j
      induction j with
      | zero => intro _; exact (h2 0 (Nat.lt_of_le_of_lt (Nat.zero_le k) hk)).2
      | succ j ih => intro hj; exact Int.lt_trans (h2 (j + 1) (Nat.lt_of_le_of_lt hj hk)).2 (ih (Nat.le_of_succ_le hj))
    exact this k (Nat.le_refl _)
  have e : -(fn' ps (k + 2)) * rk f ps 0 = -(tn ps (k + 2)) * rk f ps 1 + rk f ps (k + 2) := by
    have h4 : -(fn' ps (k + 2)) * rk f ps 0 = -(fn' ps (k + 2) * rk f ps 0) := Int.neg_mul ..
    have h5 : -(tn ps (k + 2)) * rk f ps 1 = -(tn ps (k + 2) * rk f ps 1) := Int.neg_mul ..
    rw [h4, h5, ← h1]
    exact (Int.neg_add_cancel_left (tn ps (k + 2) * rk f ps 1) (-(fn' ps (k + 2) * rk f ps 0))).symm
  have hr := Int.le_of_lt hr
  obtain ⟨d1, d2⟩ := div_uniq e h3.1 h3.2
  unfold cc
  rw [Int.fdiv_eq_ediv_of_nonneg _ hr, Int.fmod_eq_emod_of_nonneg _ hr, d1, d2]
  exact ⟨Int.neg_neg _, rfl⟩
theorem cc_low {ps : List Int} {f : Int} (P : PartsOk ps f) {m : Int} (hm : 0 < m) : -m < cc f ps m := by
  have hlo : 0 < ps.length := Nat.lt_of_lt_of_le (by decide) P.lo
  have hr := r1_pos P
  obtain ⟨c1, c2, c3⟩ := cc_facts P m
  have h0 := rk_step f ps 0 hlo
  have hp := (part_abs P (k := 0) hlo).1
  have h2 : 0 ≤ rk f ps 2 ∧ rk f ps 2 < rk f ps 1 := rk_dec P.pos P.two 0 hlo
  rcases Int.lt_or_le (-m) (cc f ps m) with h | h
  · exact h
  exfalso
  have h3 : cc f ps m * rk f ps 1 ≤ -m * rk f ps 1 := Int.mul_le_mul_of_nonneg_right h (Int.le_of_lt hr)
  have h4 : 0 ≤ ps.getD 0 0 * rk f ps (0 + 1) := Int.mul_nonneg hp (Int.le_of_lt hr)
  have h0 : rk f ps 0 = ps.getD 0 0 * rk f ps (0 + 1) - rk f ps 2 := h0
  have h5 : -(rk f ps 1) < rk f ps 0 := by rw [h0]; exact Int.lt_of_lt_of_le (Int.neg_lt_neg h2.2) (Int.zero_sub (rk f ps 2) ▸ Int.sub_le_sub_right h4 (rk f ps 2))
  have h6 : m * (-(rk f ps 1)) < m * rk f ps 0 := Int.mul_lt_mul_of_pos_left h5 hm
  have h7 : m * (-(rk f ps 1)) = -m * rk f ps 1 := by rw [Int.mul_neg, Int.neg_mul]
  rw [h7] at h6
  exact Int.lt_irrefl _ (Int.lt_of_le_of_lt h3 (Int.lt_of_lt_of_le h6 (Int.le_of_sub_nonneg (c1 ▸ c2))))
theorem cc_high {ps : List Int} {f : Int} (P : PartsOk ps f) {m : Int} (hm : 0 < m) : cc f ps m ≤ m * ps.getD 0 0 := by
  have hlo : 0 < ps.length := Nat.lt_of_lt_of_le (by decide) P.lo
  have hr := r1_pos P
  obtain ⟨c1, c2, c3⟩ := cc_facts P m
  have h0 : rk f ps 0 = ps.getD 0 0 * rk f ps 1 - rk f ps 2 := rk_step f ps 0 hlo
  have h2 : 0 ≤ rk f ps 2 ∧ rk f ps 2 < rk f ps 1 := rk_dec P.pos P.two 0 hlo
  rcases Int.lt_or_le (m * ps.getD 0 0) (cc f ps m) with h | h
  rotate_left
  · exact h
  exfalso
  have h3 : (m * ps.getD 0 0 + 1) * rk f ps 1 ≤ cc f ps m * rk f ps 1 := Int.mul_le_mul_of_nonneg_right (Int.add_one_le_of_lt h) (Int.le_of_lt hr)
  have h4 : m * rk f ps 0 = m * ps.getD 0 0 * rk f ps 1 - m * rk f ps 2 := by rw [h0, Int.mul_sub, Int.mul_assoc]
  have h5 : 0 ≤ m * rk f ps 2 := Int.mul_nonneg (Int.le_of_lt hm) h2.1
  rw [Int.add_mul, Int.one_mul] at h3
  lia
theorem cc_abs {ps : List Int} {f : Int} (P : PartsOk ps f) {m : Int} (hm : 0 < m) (hm6 : m ≤ 6) : ps.getD 0 0 ∈ ps ∧ (cc f ps m).natAbs ≤ 6 * (ps.getD 0 0).toNat + 6 := by
  have hlo : 0 < ps.length := Nat.lt_of_lt_of_le (by decide) P.lo
  have hp0 : ps.getD 0 0 ∈ ps := by
    have : ps.getD 0 0 = ps[0] := by simp [List.getD, hlo]
    rw [this]; exact List.getElem_mem _
  have s2 := P.nn _ hp0
  have hmul : m * ps.getD 0 0 ≤ 6 * ps.getD 0 0 := Int.mul_le_mul_of_nonneg_right hm6 s2
  have hlow := cc_low P hm
  have hhigh := Int.le_trans (cc_high P hm) hmul
  refine ⟨hp0, ?_⟩
  generalize cc f ps m = C at *
  lia
theorem small_pow : (6 * 10 ^ 1309 + 12 : Nat) < 10 ^ 1320 := by
  have e : (10 : Nat) ^ 1320 = 10 ^ 1309 * 10 ^ 11 := by rw [← Nat.pow_add]
  have h : 0 < (10 : Nat) ^ 1309 := Nat.pow_pos (by decide)
  rw [e]
  generalize (10 : Nat) ^ 1309 = X at *
  lia
theorem B139_nat : B139 = ((10 ^ 1309 : Nat) : Int) := by unfold B139; rw [Int.natCast_pow]; rfl
theorem part_le {ps : List Int} {f : Int} (P : PartsOk ps f) {p : Int} (h : p ∈ ps) : p.toNat ≤ 10 ^ 1309 + 1 := by
  have h2 := P.small p h
  rw [B139_nat] at h2
  exact Int.toNat_le.mpr (Int.le_of_lt_add_one h2)
theorem part_small {ps : List Int} {f : Int} (P : PartsOk ps f) {p : Int} (h : p ∈ ps) : p.toNat < 10 ^ 1320 := by
  have h2 := part_le P h
  have h3 := small_pow
  generalize (10 : Nat) ^ 1309 = X at *
  generalize (10 : Nat) ^ 1320 = Y at *
  lia
theorem cc_bits {ps : List Int} {f : Int} (P : PartsOk ps f) {m : Int} (hm : 0 < m) (hm6 : m ≤ 6) : Builtin.Int.intBits (cc f ps m) ≤ 100000 := by
  have hlo : 0 < ps.length := Nat.lt_of_lt_of_le (by decide) P.lo
  have h1 := (cc_abs P hm hm6).2
  have h2 := part_abs P (k := 0) hlo
  have h3 := Int.toNat_le.mpr (Int.le_trans Int.le_natAbs (Int.ofNat_le.mpr h2.2))
  have h4 : (2 : Nat) ^ 5303 = 2 ^ 5300 * 8 := by rw [show (8 : Nat) = 2 ^ 3 from rfl, ← Nat.pow_add]
  have h5 : 2 ^ 2 ≤ (2 : Nat) ^ 5300 := Nat.pow_le_pow_right (by decide) (by decide)
  refine Nat.le_trans (nat_bits (k := 5303) ?_) (by decide)
  rw [h4]
  refine Nat.le_trans h1 ?_
  generalize (2 : Nat) ^ 5300 = X at *
  generalize Int.toNat _ = Y at *
  lia
/- the run of a foot's fraction -/
theorem foot_run {ps : List Int} {f : Int} (P : PartsOk ps f) {m : Int} (hm : 0 < m) (hm6 : m ≤ 6) {qs : List Int} (h : HJ (cc f ps m) m qs) :
    ∃ ns : List Nat, qs = ns.map Int.ofNat ∧ (∀ n ∈ ns, n < 10 ^ 1320) ∧ ns.length ≤ 10 ∧ Good (cc f ps m, m, ns) := by
  have hn := hj_nonneg h (cc_low P hm)
  have ha := hj_abs h
  have hl := hj_len h
  have e : qs = (qs.map Int.toNat).map Int.ofNat := by
    rw [List.map_map]
    have : qs.map id = qs.map (Int.ofNat ∘ Int.toNat) := List.map_congr_left fun q hq => (Int.toNat_of_nonneg (hn q hq)).symm
    simpa using this
  refine ⟨qs.map Int.toNat, e, fun n hn' => ?_, by rw [List.length_map]; lia, ⟨hm, by rw [← e]; exact h, cc_bits P hm hm6, Nat.le_trans (bits_le (k := 3) (Int.le_of_lt hm) (Int.lt_of_le_of_lt hm6 (by decide))) (by decide)⟩⟩
  obtain ⟨q, hq, rfl⟩ := List.mem_map.mp hn'
  have h1 := ha q hq
  have h2 : q.toNat ≤ q.natAbs := Int.toNat_le.mpr Int.le_natAbs
  obtain ⟨hp, h3⟩ := cc_abs P hm hm6
  have h4 := part_le P hp
  have h5 := small_pow
  have h6 : m.natAbs ≤ 6 := natAbs_le' (Int.le_of_lt hm) hm6
  generalize (10 : Nat) ^ 1309 = X at *
  generalize (10 : Nat) ^ 1320 = Y at *
  generalize Int.toNat (ps.getD 0 0) = p at *
  have h7 : max (cc f ps m).natAbs m.natAbs ≤ 6 * p + 6 := Nat.max_le.mpr ⟨h3, Nat.le_trans h6 (Nat.le_add_left ..)⟩
  refine Nat.lt_of_le_of_lt (Nat.le_trans h2 (Nat.le_trans h1 (Nat.le_trans h7 ?_))) h5
  exact Nat.add_le_add_right (Nat.mul_le_mul_left 6 h4) 6
theorem frac_trans {a b c d x y : Int} (hd : 0 < d) (h1 : a * d ≤ c * b) (h2 : c * y ≤ x * d) (hb : 0 < b) (hy : 0 < y) : a * y ≤ x * b := by
  have k1 : a * d * y ≤ c * b * y := Int.mul_le_mul_of_nonneg_right h1 (Int.le_of_lt hy)
  have k2 : c * y * b ≤ x * d * b := Int.mul_le_mul_of_nonneg_right h2 (Int.le_of_lt hb)
  have k3 : (a * y) * d ≤ (x * b) * d := by
    rw [Int.mul_right_comm a y d, Int.mul_right_comm x b d]
    exact Int.le_trans k1 (Int.mul_right_comm c b y ▸ k2)
  exact Int.le_of_mul_le_mul_right k3 hd
end
section
theorem bits_mul {a b : Int} {j k : Nat} (h1 : Builtin.Int.intBits a ≤ j) (h2 : Builtin.Int.intBits b ≤ k) : Builtin.Int.intBits (a * b) ≤ j + k := by
  refine PySem.intBits_le_iff.mpr ?_
  have b1 := PySem.intBits_le_iff.mp h1
  have b2 := PySem.intBits_le_iff.mp h2
  rw [Int.natAbs_mul, Nat.pow_add]
  exact Nat.mul_lt_mul'' b1 b2
theorem bits_small {m : Int} (h1 : -8 < m) (h2 : m < 8) : Builtin.Int.intBits m ≤ 3 := PySem.intBits_le_iff.mpr (by walk_at "om")
theorem fn2 (ps : List Int) : fn' ps 2 = 1 := by simp [fn', cvn]
theorem rv_get {f : Int} {ps : List Int} {rv : List Value} (h : IntsAre rv (rs f ps)) {k : Nat} (hk : k < ps.length + 2) : ∃ t, rv[k]? = some (.int (rk f ps k) t) := by
  obtain ⟨x, t, e1, e2⟩ := ints_get h k (by rw [rs_length]; exact hk)
  refine ⟨t, ?_⟩
  have : rk f ps k = x := by unfold rk; simp [List.getD, e1]
  rw [this]; exact e2
/- what is told after i feet -/
structure Told (f : Int) (ps : List Int) (i : Nat) (td : List (Int × Int × List Nat)) : Prop where
  len : td.length = i
  val : ∀ (j : Nat) (x : Int × Int × List Nat), td[j]? = some x → x.1 = cc f ps (1 + (j : Int)) ∧ x.2.1 = 1 + (j : Int)
  good : ∀ x ∈ td, Good x
/- the least so far -/
inductive Least (word : Str) (Rt : List (Nat × Knd)) (td : List (Int × Int × List Nat)) : Value → Prop
  | none : td = [] → Least word Rt td .none
  | some {q : Nat} {vs : List Value} {ns : List Nat} {a b : Int} : (q, Knd.lst vs) ∈ Rt → VerV word vs ns → (a, b, ns) ∈ td → (∀ x ∈ td, a * x.2.1 ≤ x.1 * b) → Least word Rt td (.ref q)
theorem compIfs_one {M : Model} {A : Around} {E : Value → Shared → Prop} {s : Shared} {env : Env} {c : Expr} {Q : Bool → Shared → Prop} (h : wpAny M A (isTrue c env (eval c env)) Q E s) : wpAny M A (compIfs [c] env) Q E s := by
  unfold compIfs
  rw [List.forIn_cons]
  refine wpAny_bind ?_
  rw [if_pos rfl]
  refine wpAny_bind (wpAny_mono h (fun b s' hb => ?_) fun _ _ x => x)
  refine wpAny_pure ?_
  show wpAny _ _ (forIn [] b _) _ _ _
  rw [List.forIn_nil]
  exact wpAny_pure hb
/- the least of what is told is the foot's own version -/
theorem least_eq {f : Int} {ps : List Int} (P : PartsOk ps f) {i : Nat} {td : List (Int × Int × List Nat)} (T : Told f ps i td) {a b : Int} {ns es : List Nat} (hm : (a, b, ns) ∈ td) (hmin : ∀ x ∈ td, a * x.2.1 ≤ x.1 * b)
    {k : Nat} (hk : k < ps.length) (h1 : fn' ps (k + 2) ≤ (i : Int)) (h2 : k + 1 < ps.length → (i : Int) < fn' ps (k + 3)) (hg : Good (tn ps (k + 2), fn' ps (k + 2), es)) : ns = es := by
  have hF : 0 < fn' ps (k + 2) := hg.pos
  have gx := T.good _ hm
  obtain ⟨j, hj, ej⟩ := List.getElem_of_mem hm
  have e1 : td[j]? = some (a, b, ns) := by rw [List.getElem?_eq_getElem hj, ej]
  obtain ⟨ea, eb⟩ := T.val j _ e1
  have ea : a = cc f ps (1 + (j : Int)) := ea
  have eb : b = 1 + (j : Int) := eb
  have hl := T.len
  have hb : 0 < b := by rw [eb]; exact Int.add_pos_of_pos_of_nonneg (by decide) (Int.natCast_nonneg j)
  obtain ⟨c1, c2, c3⟩ := cc_facts P b
  have ea' : a = cc f ps b := by rw [ea, eb]
  have k1 : tn ps (k + 2) * b ≤ a * fn' ps (k + 2) := cv_best P.pos P.two hk hb (by rw [ea', c1]; exact c2) (fun h => Int.lt_of_le_of_lt (by rw [eb, Int.add_comm]; exact Int.ofNat_le.mpr (hl ▸ hj)) (h2 h))
  have hF1 : 0 < (fn' ps (k + 2)).toNat := Int.lt_toNat.mpr hF
  have hj2 : (fn' ps (k + 2)).toNat - 1 < td.length := Nat.lt_of_lt_of_le (Nat.sub_lt hF1 (by decide)) (hl ▸ Int.toNat_le.mpr h1)
  have e2 : td[(fn' ps (k + 2)).toNat - 1]? = some td[(fn' ps (k + 2)).toNat - 1] := List.getElem?_eq_getElem hj2
  obtain ⟨ex, ey⟩ := T.val _ _ e2
  have hx := hmin _ (List.getElem_mem hj2)
  have e3 : (1 + (((fn' ps (k + 2)).toNat - 1 : Nat) : Int)) = fn' ps (k + 2) := by
    rw [Int.ofNat_sub hF1, Int.toNat_of_nonneg (Int.le_of_lt hF), Int.add_comm]; exact Int.sub_add_cancel ..
  rw [ex, ey, e3, (cc_end P hk).1] at hx
  have hc := hj_cmp gx.hj hg.hj (fun q => absurd hb (by rw [show b = 0 from q]; exact Int.lt_irrefl 0)) (fun q => absurd hF (by rw [show fn' ps (k + 2) = 0 from q]; exact Int.lt_irrefl 0))
  have e4 : a * fn' ps (k + 2) = tn ps (k + 2) * b := Int.le_antisymm hx k1
  exact (List.map_inj_right (fun x y h => Int.ofNat.inj h)).mp (hc.2.mpr e4)
/- what the comprehension has picked after i ends -/
inductive Pick (ps : List Int) (m : Int) (Re : List (Nat × Knd)) (word : Str) (en : List (Int × Int × List Nat)) : Nat → List Value → Prop
  | none : Pick ps m Re word en 0 []
  | some {i k q : Nat} {vq vs : List Value} {ns : List Nat} : k < i → fn' ps (k + 2) ≤ m → (k + 1 < i → m < fn' ps (k + 3)) → en[k]? = some (tn ps (k + 2), fn' ps (k + 2), ns) → (q, Knd.lst vs) ∈ Re → VerV word vs ns → vq.length < i → Pick ps m Re word en i (vq ++ [.ref q])
theorem Pick.len {ps : List Int} {m : Int} {Re : List (Nat × Knd)} {word : Str} {en : List (Int × Int × List Nat)} {i : Nat} {vq : List Value} (h : Pick ps m Re word en i vq) : vq.length ≤ i := by
  cases h with
  | none => exact Nat.le_refl _
  | some _ _ _ _ _ _ h => rw [List.length_append, List.length_singleton]; walk_at "om"
theorem Pick.skip {ps : List Int} {m : Int} {Re : List (Nat × Knd)} {word : Str} {en : List (Int × Int × List Nat)} {i : Nat} {vq : List Value} (h : Pick ps m Re word en i vq) (h0 : fn' ps 2 ≤ m) (hb : m < fn' ps (i + 2)) : Pick ps m Re word en (i + 1) vq := by
  cases h with
  | none => exact absurd h0 (Int.not_le.mpr hb)
  | @some _ k q vq vs ns h1 h2 h3 h4 h5 h6 h7 =>
    refine .some (Nat.lt_succ_of_lt h1) h2 (fun h => ?_) h4 h5 h6 (Nat.lt_succ_of_lt h7)
    by_cases hk : k + 1 < i
    · exact h3 hk
    · have : k + 1 = i := Nat.le_antisymm h1 (Nat.not_lt.mp hk)
      subst this; exact hb
end
section
section
variable {w : World} {mg mb : Str → Option Value} {sB s s₀ : Shared} {L c1 : Nat} {cs : Scope} {A : Around} {E : Value → Shared → Prop}
theorem tailE {Qf : Flow → Shared → Prop} {z : Nat} {lead sign word : Str} {tl ts tw tf : Tok} {f : Int} {ps : List Int} {d lr le : Nat} {rv ev : List Value} {en : List (Int × Int × List Nat)} {Re : List (Nat × Knd)} {v0 : Option Value} (K : AOk A (envL cs L c1)) (hcs : cs = lawSc)
    (S : St w mg mb sB L cs lL gL [none, none, some (.int f tf), none, none, some (.ref d), some (.ref lr), none, none, none, none, none, some (.ref le), none, none, none, none, none, none, none, none, none, none, none, none, none, none]
      ((c1, .cell v0) :: (d, .tup [.str lead tl, .str sign ts, .str word tw]) :: (lr, .lst rv) :: (le, .lst ev) :: Re) s)
    (hc1 : ∀ p ∈ (d, Knd.tup [.str lead tl, .str sign ts, .str word tw]) :: (lr, Knd.lst rv) :: (le, Knd.lst ev) :: Re, c1 < p.1) (D : Dress z lead sign word) (P : PartsOk ps f) (hrv : IntsAre rv (rs f ps))
    (hE : EndsR word Re ev en) (hen : en = (List.range ps.length).map fun k => (tn ps (k + 2), fn' ps (k + 2), (ps.take (k + 1)).map Int.toNat)) (hge : ∀ x ∈ en, Good x)
    (hQ : ∀ s', Same sB s' → Keep sB.heap s'.heap → Tb s'.heap → Qf (.ret (.bool true)) s') : wpS (model PR w) A (execs (lawB.drop 9) (envL cs L c1)) Qf E s := by
  have nmL := S.nm
  have S : St w mg mb sB L cs lTE gL [none, none, none, none, none, none, some (.int f tf), some (.ref d), some (.ref lr), some (.ref le)] _ s := S.reloc (nmL.sub (by decide) (by decide)) fun m h => HasAll.skip (HasAll.skip (HasAll.skip (HasAll.skip (HasAll.skip (HasAll.skip (HasAll.cons (h.at (by walk_at "m_at")) (HasAll.cons (h.at (by walk_at "m_at")) (HasAll.cons (h.at (by walk_at "m_at")) (HasAll.cons (h.at (by walk_at "m_at")) trivial)))))))))
  have hk1 : Ck .cell cs "foot" := by rw [hcs]; exact ⟨rfl, rfl, rfl⟩
  have hb := S.big
  have hlo := P.lo
  have hhi := P.hi
  have hevl := hE.len
  have henl : en.length = ps.length := by rw [hen]; simp
  show wpS _ _ (execs (_ :: _) _) _ _ _
  refine S_pre ?_
  refine X_swp ?_ (swp2 S.nm (by decide) (by decide) (by decide) rfl rfl rfl rfl)
  (with_reducible refine Tuple_ ?_); walk_at "ac"; (with_reducible refine List_ ?_); (with_reducible refine args_nil ?_)
  refine newLst S (by size_fits) fun lt s S hl1 hl2 => ?_
  walk_at "ac"
  refine wpAny_Constant_none ?_
  (with_reducible refine args_nil ?_)
  refine newTup S (by size_fits) fun p0 s S hp1 hp2 => swpT2 S K.h (.head _) (by walk_at "m_put") (by walk_at "m_put") fun s S => ?_
  have S := (S.drop).weakL
  have hl3 : ∀ p ∈ ((c1, Knd.cell v0) :: (d, Knd.tup [.str lead tl, .str sign ts, .str word tw]) :: (lr, Knd.lst rv) :: (le, Knd.lst ev) :: Re), p.1 < lt := hl2.get
  refine S_nk ?_
  show wpS _ _ (execs (_ :: _) _) _ _ _
  refine S_for (fun itv n s' => ∃ (it i : Nat) (tv : List Value) (Rt : List (Nat × Knd)) (td : List (Int × Int × List Nat)) (lv : Value) (v0 : Option Value), itv = .ref it ∧ n + i = 6 ∧ lt < it ∧ (∀ p ∈ Rt, it < p.1) ∧ EndsR word Rt tv td ∧ Told f ps i td ∧ Least word Rt td lv ∧
      St w mg mb sB L cs lTE gL [some lv, none, none, none, none, some (.ref lt), some (.int f tf), some (.ref d), some (.ref lr), some (.ref le)]
        ((it, .obj (rgO (1 + (i : Int)) (6 - (i : Int)))) :: (lt, .lst tv) :: (c1, .cell v0) :: (d, .tup [.str lead tl, .str sign ts, .str word tw]) :: (lr, .lst rv) :: (le, .lst ev) :: (Rt ++ Re)) s') ?_ ?_
  · (with_reducible refine' Call_ ?_ ?a532q; (case a532q => with_unfolding_all rfl)); (with_reducible refine' rdG ?S533q ?k533q ?_; (case S533q => assumption); (case k533q => walk_at "m_mem")); (with_reducible refine' callWith_type1 ?_ ?a534q ?b534q; (case a534q => with_unfolding_all rfl); (case b534q => with_unfolding_all rfl)); walk_at "ac"; ((rename St _ _ _ _ _ _ _ _ _ _ _ => Z0); with_reducible refine E_int Z0 ?_; clear Z0; intro tX sX SX); walk_at "ac"; ((rename St _ _ _ _ _ _ _ _ _ _ _ => Z0); with_reducible refine E_int Z0 ?_; clear Z0; intro tX sX SX); (with_reducible refine args_nil ?_)
    rename St _ _ _ _ _ _ _ _ _ _ _ => S
    refine range2S S (by decide) fun r s' S hit => hit _ fun it s'' S h1 h2 => ?_
    exact ⟨6, it, 0, [], [], [], .none, v0, rfl, rfl, h2.1, List.forall_mem_nil _, .nil, ⟨rfl, (fun j x e => by simp at e), List.forall_mem_nil _⟩, .none rfl, S⟩
  intro itv n s' hI9
  refine byc fun hno => ?_
  obtain ⟨it, i, tv, Rt, td, lv, v0, rfl, hn, hlit, hRt, hT, hTd, hLe, S⟩ := hI9
  refine hno ?_
  clear hno
  have hclt : c1 < lt := hl3 _ (.head _)
  have k9 : ∀ p ∈ (d, Knd.tup [.str lead tl, .str sign ts, .str word tw]) :: (lr, Knd.lst rv) :: (le, Knd.lst ev) :: Re, c1 < p.1 ∧ p.1 ≠ lt ∧ p.1 ≠ it := fun p hp => ⟨hc1 p hp, Nat.ne_of_lt (hl3 p (.tail _ hp)), Nat.ne_of_lt (Nat.lt_trans (hl3 p (.tail _ hp)) hlit)⟩
  have hall : ∀ p ∈ (d, Knd.tup [.str lead tl, .str sign ts, .str word tw]) :: (lr, Knd.lst rv) :: (le, Knd.lst ev) :: (Rt ++ Re), c1 < p.1 ∧ p.1 ≠ lt ∧ p.1 ≠ it := List.forall_mem_cons.mpr ⟨k9 _ (.head _), List.forall_mem_cons.mpr ⟨k9 _ (.tail _ (.head _)), List.forall_mem_cons.mpr ⟨k9 _ (.tail _ (.tail _ (.head _))), fun p hp => (List.mem_append.mp hp).elim
    (fun h => ⟨Nat.lt_trans (Nat.lt_trans hclt hlit) (hRt p h), Nat.ne_of_gt (Nat.lt_trans hlit (hRt p h)), Nat.ne_of_gt (hRt p h)⟩) fun h => k9 p (.tail _ (.tail _ (.tail _ h)))⟩⟩⟩
  have ne_c1 : ∀ p ∈ (d, Knd.tup [.str lead tl, .str sign ts, .str word tw]) :: (lr, Knd.lst rv) :: (le, Knd.lst ev) :: (Rt ++ Re), p.1 ≠ c1 := fun p hp => Nat.ne_of_gt (hall p hp).1
  have ne_lt : ∀ v, ∀ p ∈ (c1, Knd.cell v) :: (d, Knd.tup [.str lead tl, .str sign ts, .str word tw]) :: (lr, Knd.lst rv) :: (le, Knd.lst ev) :: (Rt ++ Re), p.1 ≠ lt := fun v => List.forall_mem_cons.mpr ⟨Nat.ne_of_lt hclt, fun p hp => (hall p hp).2.1⟩
  have ne_it : ∀ v, ∀ p ∈ (lt, Knd.lst tv) :: (c1, Knd.cell v) :: (d, Knd.tup [.str lead tl, .str sign ts, .str word tw]) :: (lr, Knd.lst rv) :: (le, Knd.lst ev) :: (Rt ++ Re), p.1 ≠ it := fun v => List.forall_mem_cons.mpr ⟨Nat.ne_of_lt hlit, List.forall_mem_cons.mpr ⟨show c1 ≠ it by walk_at "om", fun p hp => (hall p hp).2.2⟩⟩
  cases n with
  | zero =>
    refine endRg S K.h (by walk_at "om") (ne_it v0) fun s' S => ?_
    exact tailF K ((S.sub (news' := (lt, .lst tv) :: (le, .lst ev) :: (Rt ++ Re)) (by walk_at "m_sub")).reloc (nmL.sub (by decide) (by decide)) fun m h => HasAll.cons (h.at (by walk_at "m_at")) (HasAll.cons (h.at (by walk_at "m_at")) (HasAll.skip (HasAll.skip (HasAll.skip (HasAll.skip (HasAll.skip (HasAll.skip trivial)))))))) (by have := (hall (le, .lst ev) (.tail _ (.tail _ (.head _)))).2.1; exact fun q => this q.symm) hT hE hTd.good hge (by rw [hT.len, hTd.len]; walk_at "om") (by walk_at "om") hQ
  | succ n =>
    refine nextRg S (.head (ne_it v0)) (by walk_at "om") fun tm s' S => letGoName (assign_Name ?_)
    rw [show (1 + (i : Int) + 1) = 1 + ((i + 1 : Nat) : Int) by walk_at "om", show (6 - (i : Int) - 1) = 6 - ((i + 1 : Nat) : Int) by walk_at "om"] at S
    generalize hm : 1 + (i : Int) = m
    have hm0 : 0 < m := by walk_at "om"
    have hm6 : m ≤ 6 := by walk_at "om"
    refine wrC S hk1 rfl (.tail (show it ≠ c1 by walk_at "om") (.tail (show lt ≠ c1 by walk_at "om") (.head ne_c1))) fun s' S => ?_
    refine S_gen fun Qb hQb => ?_
    show wpS _ _ (execs (_ :: _) _) _ _ _
    obtain ⟨t0, hr0⟩ := rv_get hrv (k := 0) (by walk_at "om")
    obtain ⟨t1, hr1⟩ := rv_get hrv (k := 1) (by walk_at "om")
    have r1p := r1_pos P
    refine byc fun hno => ?_
    obtain ⟨cf1, cf2, cf3⟩ := cc_facts P m
    refine hno ?_
    clear hno
    have b0 := rk_bits P (k := 0) (by walk_at "om")
    have b1 := rk_bits P (k := 1) (by walk_at "om")
    have bm := bits_small (m := m) (by walk_at "om") (by walk_at "om")
    have bm' := bits_small (m := -m) (by walk_at "om") (by walk_at "om")
    have bmr : Builtin.Int.intBits (-m * rk f ps 0) ≤ 900000 := Nat.le_trans (bits_mul bm' b0) (by decide)
    refine S_pre ?_
    (with_reducible refine' X_tup ?_ ?a538q ?b538q; (case a538q => with_unfolding_all rfl); (case b538q => with_unfolding_all rfl)); (with_reducible refine' Call_ ?_ ?a539q; (case a539q => with_unfolding_all rfl)); (with_reducible refine' rdG ?S540q ?k540q ?_; (case S540q => assumption); (case k540q => walk_at "m_mem")); (with_reducible refine' C_def ?S541q ?f541q ?_ ?a541q ?b541q; (case S541q => assumption); (case f541q => decide); (case a541q => with_unfolding_all rfl); (case b541q => with_unfolding_all rfl)); walk_at "ac"
    refine EvI.run (.mul (.neg (.cell hk1 rfl (by walk_at "m_mem"))) (.atc (c := 0) (by walk_at "m_at") (by walk_at "m_mem") hr0 (by decide)) (PySem.IntMulOk.of_le bm' b0 (by decide))) S fun t2 s S => ?_
    walk_at "ac"
    refine EvI.run (.atc (c := 1) (by walk_at "m_at") (by walk_at "m_mem") hr1 (by decide)) S fun t3 s S => ?_
    (with_reducible refine args_nil ?_); (with_reducible refine' And.intro (St.cur ?S543q) ?_; (case S543q => assumption))
    refine (int_dm (Int.ne_of_gt r1p) bmr (Nat.le_trans b1 (by decide))).use S K.h (by have := K.d; walk_at "om") fun p u1 u2 s S _ _ => asgT2 S K.h (.head _) (by walk_at "m_put") (by walk_at "m_put") fun s S => ?_
    have S := S.drop
    generalize hρ : (-m * rk f ps 0).fmod (rk f ps 1) = ρ at *
    have hcc : -((-m * rk f ps 0).fdiv (rk f ps 1)) = cc f ps m := rfl
    refine S_nk (S_pre ?_)
    (with_reducible refine' X_asg ?_ ?a544q; (case a544q => with_unfolding_all rfl)); (with_reducible refine UnaryOp_ ?_); walk_at "n"; ((rename St _ _ _ _ _ _ _ _ _ _ _ => Z0); with_reducible refine O_neg Z0 ?_; clear Z0; intro tX sX SX)
    rw [hcc]
    walk_at "w"
    rename St _ _ _ _ _ _ _ _ _ _ _ => S
    refine S_nk ?_
    show wpS _ _ (execs (_ :: _) _) _ _ _
    refine S_ifS (S_of (isTrue_or ?_))
    (with_reducible refine isTrue_not ?_)
    refine isTrue_chain ?_
    ((rename St _ _ _ _ _ _ _ _ _ _ _ => Z0); with_reducible refine E_int Z0 ?_; clear Z0; intro tX sX SX)
    refine test_link ?_
    walk_at "n"; (with_reducible refine PyProof.Rows.le_int ?_); (with_reducible refine wpAny_truthy_bool ?_)
    rw [show decide (0 ≤ ρ) = true from decide_eq_true cf2, if_pos rfl]
    refine test_last ?_
    rename St _ _ _ _ _ _ _ _ _ _ _ => S
    refine EvI.run (.atc (c := 1) (by walk_at "m_at") (by walk_at "m_mem") hr1 (by decide)) S fun t3 s S => ?_
    (with_reducible refine PyProof.Rows.lt_int ?_); (with_reducible refine wpAny_truthy_bool ?_)
    rw [show decide (ρ < rk f ps 1) = true from decide_eq_true cf3]
    show wpAny _ _ _ _ _ _
    refine isTrue_or ?_
    have bc := cc_bits P hm0 hm6
    (with_reducible refine' wpAny_isTrue_Compare1 ?_ ?a553q; (case a553q => with_unfolding_all rfl)); walk_at "n"
    refine EvI.run (.sub (.mul (.name (by walk_at "m_at")) (.atc (c := 1) (by walk_at "m_at") (by walk_at "m_mem") hr1 (by decide)) (PySem.IntMulOk.of_le bc b1 (by decide))) (.mul (.cell hk1 rfl (by walk_at "m_mem")) (.atc (c := 0) (by walk_at "m_at") (by walk_at "m_mem") hr0 (by decide)) (PySem.IntMulOk.of_le bm b0 (by decide)))) S fun t2 s S => ?_
    (with_reducible refine PyProof.Rows.ne_int ?_); (with_reducible refine wpAny_truthy_bool ?_)
    rename St _ _ _ _ _ _ _ _ _ _ _ => S
    rw [show (ρ != cc f ps m * rk f ps 1 - m * rk f ps 0) = false by rw [cf1]; simp]
    show wpAny _ _ _ _ _ _
    refine isTrue_or_nil ⟨fun q => Bool.noConfusion q, fun _ => S_nil ?_⟩
    show wpS _ _ (execs (_ :: _) _) _ _ _
    obtain ⟨tq, S⟩ : ∃ tq, St w mg mb sB L cs lTE gL [some lv, none, none, some (.int (cc f ps m) tq), none, some (.ref lt), some (.int f tf), some (.ref d), some (.ref lr), some (.ref le)]
        ((it, .obj (rgO (1 + ((i + 1 : Nat) : Int)) (6 - ((i + 1 : Nat) : Int)))) :: (lt, .lst tv) :: (c1, .cell (some (.int m tm))) :: (d, .tup [.str lead tl, .str sign ts, .str word tw]) :: (lr, .lst rv) :: (le, .lst ev) :: (Rt ++ Re)) _ := ⟨_, S.le (by walk_at "m_le")⟩
    have hfb : Builtin.Int.intBits f ≤ 5201 := bits_le (by have := P.pos; walk_at "om") (by have := B13_lt; have := P.fle; walk_at "om")
    have hd58 : 58 < d := (S.N (d, .tup _) (by walk_at "m_mem")).2.2.1
    have hkd := K.d
    refine S_asg (S_Call ?_ (by with_unfolding_all rfl)) (by with_unfolding_all rfl)
    (with_reducible refine' rdG ?S556q ?k556q ?_; (case S556q => assumption); (case k556q => walk_at "m_mem"))
    refine S_callD ?_ (by with_unfolding_all rfl) (by with_unfolding_all rfl)
    walk_at "ac"; (with_reducible refine' Call_ ?_ ?a557q; (case a557q => with_unfolding_all rfl)); (with_reducible refine' rdG ?S558q ?k558q ?_; (case S558q => assumption); (case k558q => walk_at "m_mem")); (with_reducible refine' C_def ?S559q ?f559q ?_ ?a559q ?b559q; (case S559q => assumption); (case f559q => decide); (case a559q => with_unfolding_all rfl); (case b559q => with_unfolding_all rfl)); walk_at "ac"; (with_reducible refine' Call_ ?_ ?a560q; (case a560q => with_unfolding_all rfl)); (with_reducible refine' rdG ?S561q ?k561q ?_; (case S561q => assumption); (case k561q => walk_at "m_mem")); (with_reducible refine' C_def ?S562q ?f562q ?_ ?a562q ?b562q; (case S562q => assumption); (case f562q => decide); (case a562q => with_unfolding_all rfl); (case b562q => with_unfolding_all rfl)); walk_at "ac"; (with_reducible refine wpAny_BinOp ?_); walk_at "n"; walk_at "n"
    refine O_mul S (PySem.IntMulOk.of_le bc hfb (by decide)) fun t2 s S => ?_
    walk_at "ac"; (with_reducible refine wpAny_BinOp ?_); (with_reducible refine' rdC ?S565q ?hk565q ?hc565q ?k565q ?_; (case S565q => assumption); (case hk565q => assumption); (case hc565q => with_unfolding_all rfl); (case k565q => walk_at "m_mem")); walk_at "n"
    refine O_mul S (PySem.IntMulOk.of_le bm hfb (by decide)) fun t2 s S => ?_
    (with_reducible refine args_nil ?_); (with_reducible refine' And.intro (St.cur ?S567q) ?_; (case S567q => assumption))
    refine runS S P.pos (by walk_at "om") hm6 (Nat.le_trans (bits_mul bc hfb) (by decide)) (Nat.le_trans (bits_mul (j := 3) (by decide) hfb) (by decide)) K.h (by walk_at "om") fun l1 qv qs s S h1 h2 hI hH => ?_
    refine byc fun hno => ?_
    obtain ⟨ns, rfl, hns, hnl, hgood⟩ := foot_run P hm0 hm6 hH
    refine hno ?_
    clear hno
    walk_at "ac"; walk_at "n"; (with_reducible refine args_nil ?_); (with_reducible refine' And.intro (St.cur ?S569q) ?_; (case S569q => assumption))
    refine versS S D hns hnl hI (S.get (k := .lst qv) (.head _)) (by walk_at "om") (S.get (k := .tup _) (by walk_at "m_mem")) hd58 K.h (by walk_at "om") fun t2 s S => ?_
    (with_reducible refine args_nil ?_)
    have S := S.drop
    refine ⟨fnAt S.cur (by decide), compVers S D hns hnl K.f rfl (by show cs.kind ≠ _; rw [S.nm.kf]; decide) K.h (by walk_at "om") fun l2 v2 s S h3 h4 hV => ?_⟩
    have hl2it : it < l2 := h4.1
    walk_at "w"
    rename St _ _ _ _ _ _ _ _ _ _ _ => S
    show wpS _ _ (execs (_ :: _) _) _ _ _
    refine S_pre (X_expr S.nm.kf ?_)
    (with_reducible refine' MethodCall_ ?_ ?a571q; (case a571q => with_unfolding_all rfl)); walk_at "n"
    refine methL S (S.get (k := .lst tv) (by walk_at "m_mem")) PySem.F.slot_list_append PySem.F.type_list_append ?_
    (with_reducible refine' callWith_method1 ?_ ?a572q ?b572q; (case a572q => with_unfolding_all rfl); (case b572q => with_unfolding_all rfl)); walk_at "ac"; (with_reducible refine Tuple_ ?_); walk_at "ac"; walk_at "n"; walk_at "ac"; (with_reducible refine' rdC ?S574q ?hk574q ?hc574q ?k574q ?_; (case S574q => assumption); (case hk574q => assumption); (case hc574q => with_unfolding_all rfl); (case k574q => walk_at "m_mem")); walk_at "ac"; walk_at "n"; (with_reducible refine args_nil ?_)
    refine newTup S (by size_fits) fun p3 s S h5 h6 => ?_
    have hp3 : l2 < p3 := h6.1
    (with_reducible refine args_nil ?_)
    refine appL S (.tail (show p3 ≠ lt by walk_at "om") (.tail (show l2 ≠ lt by walk_at "om") (.tail (show it ≠ lt by walk_at "om") (.head (ne_lt _))))) (by rw [sizeLine_eq]; have := hT.len; have := hTd.len; walk_at "om") fun s S => ⟨(fun a q => nomatch q), S_nk ?_⟩
    have hT2 := hT.snoc (p := p3) (q := l2) (a := cc f ps m) (b := m) (t := tq) (u := tm) hV
    have S := S.sub (news' := (it, .obj (rgO (1 + ((i + 1 : Nat) : Int)) (6 - ((i + 1 : Nat) : Int)))) :: (lt, .lst (tv ++ [.ref p3])) :: (c1, .cell (some (.int m tm))) :: (d, .tup [.str lead tl, .str sign ts, .str word tw]) :: (lr, .lst rv) :: (le, .lst ev) :: (((p3, .tup [.int (cc f ps m) tq, .int m tm, .ref l2]) :: (l2, .lst v2) :: Rt) ++ Re))
      (by walk_at "m_sub")
    show wpS _ _ (execs (_ :: _) _) _ _ _
    have hTd2 : Told f ps (i + 1) (td ++ [(cc f ps m, m, ns)]) := by
      refine ⟨by rw [List.length_append, hTd.len]; rfl, fun j x e => ?_, fun x hx => ?_⟩
      · rcases Nat.lt_or_ge j td.length with h | h
        · rw [List.getElem?_append_left h] at e; exact hTd.val j x e
        · have hj : j = td.length := by
            have := (List.getElem?_eq_some_iff.mp e).1
            rw [List.length_append, List.length_singleton] at this; walk_at "om"
          subst hj
          rw [List.getElem?_append_right (Nat.le_refl _), Nat.sub_self] at e
          cases e
          rw [hTd.len, hm]
          exact ⟨rfl, rfl⟩
      · rcases List.mem_append.mp hx with h | h
        · exact hTd.good x h
        · cases List.mem_singleton.mp h; exact hgood
    have hlen1 : td.length = i := hTd.len
    generalize hRt2 : (p3, Knd.tup [.int (cc f ps m) tq, .int m tm, .ref l2]) :: (l2, Knd.lst v2) :: Rt = Rt2 at *
    have hmem2 : (l2, Knd.lst v2) ∈ Rt2 := by rw [← hRt2]; exact .tail _ (.head _)
    have hsub2 : ∀ p ∈ Rt, p ∈ Rt2 := fun p hp => by rw [← hRt2]; exact .tail _ (.tail _ hp)
    have hlt2 : ∀ p ∈ Rt2, it < p.1 := by
      rw [← hRt2]
      exact List.forall_mem_cons.mpr ⟨show it < p3 by walk_at "om", List.forall_mem_cons.mpr ⟨hl2it, hRt⟩⟩
    generalize htv2 : tv ++ [Value.ref p3] = tv2 at *
    generalize htd2 : td ++ [(cc f ps m, m, ns)] = td2 at *
    have hmt2 : (cc f ps m, m, ns) ∈ td2 := by rw [← htd2]; simp
    have hgoodm : ∀ x ∈ td2, 0 < x.2.1 := fun x hx => (hTd2.good x hx).pos
    have hu := K.u
    refine S_ifJ (fun s' => ∃ lv', Least word Rt2 td2 lv' ∧ St w mg mb sB L cs lTE gL [some lv', none, none, some (.int (cc f ps m) tq), some (.ref l2), some (.ref lt), some (.int f tf), some (.ref d), some (.ref lr), some (.ref le)]
        ((it, .obj (rgO (1 + ((i + 1 : Nat) : Int)) (6 - ((i + 1 : Nat) : Int)))) :: (lt, .lst tv2) :: (c1, .cell (some (.int m tm))) :: (d, .tup [.str lead tl, .str sign ts, .str word tw]) :: (lr, .lst rv) :: (le, .lst ev) :: (Rt2 ++ Re)) s') ?_ ?_
    · refine isTrue_or ?_
      cases hLe with
      | none htd0 =>
        (with_reducible refine' wpAny_isTrue_Compare1 ?_ ?a577q; (case a577q => with_unfolding_all rfl)); walk_at "n"
        refine wpAny_Constant_none (is_none_none ?_)
        (with_reducible refine wpAny_truthy_bool ?_)
        rw [if_pos rfl]
        refine ⟨fun _ => ?_, fun q => Bool.noConfusion q⟩
        show wpAny _ _ (execs (_ :: _) _) _ _ _
        (with_reducible refine' X_asg ?_ ?a579q; (case a579q => with_unfolding_all rfl)); walk_at "n"; walk_at "w"
        rename St _ _ _ _ _ _ _ _ _ _ _ => S
        refine X_nil ⟨rfl, _, .some hmem2 hV hmt2 ?_, S⟩
        rw [← htd2, htd0]
        intro x hx
        cases List.mem_singleton.mp hx
        exact Int.le_refl _
      | @some q vs ms a b hq hVq hab hmin =>
        have hqm := hsub2 _ hq
        have gab := hTd.good _ hab
        have hc := hj_cmp hgood.hj gab.hj (fun q => absurd hgood.pos (by show ¬ 0 < m; have : m = 0 := q; walk_at "om")) (fun q => absurd gab.pos (by show ¬ 0 < b; have : b = 0 := q; walk_at "om"))
        have v1 : (vlt (ns.map Int.ofNat) (ms.map Int.ofNat)) = decide (cc f ps m * b < a * m) := by
          rw [Bool.eq_iff_iff, decide_eq_true_eq]; exact hc.1
        (with_reducible refine' wpAny_isTrue_Compare1 ?_ ?a580q; (case a580q => with_unfolding_all rfl)); walk_at "n"
        refine wpAny_Constant_none (is_ref_none ?_)
        (with_reducible refine wpAny_truthy_bool ?_)
        show wpAny _ _ _ _ _ _
        refine isTrue_or ?_
        (with_reducible refine' wpAny_isTrue_Compare1 ?_ ?a582q; (case a582q => with_unfolding_all rfl)); walk_at "n"; walk_at "n"
        refine lt_listAt (S.get (a := l2) (k := .lst v2) (by exact .tail _ (.tail _ (.tail _ (.tail _ (.tail _ (.tail _ (List.mem_append_left _ hmem2)))))))).lst (S.get (a := q) (k := .lst vs) (by exact .tail _ (.tail _ (.tail _ (.tail _ (.tail _ (.tail _ (List.mem_append_left _ hqm)))))))).lst (by walk_at "om") (hV.ltR0 hVq) ?_
        (with_reducible refine wpAny_truthy_bool ?_)
        rw [v1]
        by_cases hlt : cc f ps m * b < a * m
        · rw [decide_eq_true hlt]
          rw [if_pos rfl]
          refine ⟨fun _ => ?_, fun q => Bool.noConfusion q⟩
          show wpAny _ _ (execs (_ :: _) _) _ _ _
          (with_reducible refine' X_asg ?_ ?a584q; (case a584q => with_unfolding_all rfl)); walk_at "n"; walk_at "w"
          rename St _ _ _ _ _ _ _ _ _ _ _ => S
          refine X_nil ⟨rfl, _, .some hmem2 hV hmt2 ?_, S⟩
          rw [← htd2]
          intro x hx
          rcases List.mem_append.mp hx with h | h
          · exact frac_trans gab.pos (Int.le_of_lt hlt) (hmin x h) hm0 (hTd.good x h).pos
          · cases List.mem_singleton.mp h; exact Int.le_refl _
        · rw [decide_eq_false hlt]
          refine isTrue_or_nil ⟨fun q => Bool.noConfusion q, fun _ => ?_⟩
          refine X_nil ⟨rfl, _, .some hqm hVq (by rw [← htd2]; exact List.mem_append_left _ hab) ?_, S⟩
          rw [← htd2]
          intro x hx
          rcases List.mem_append.mp hx with h | h
          · exact hmin x h
          · cases List.mem_singleton.mp h
            show a * m ≤ cc f ps m * b
            walk_at "om"
    intro sN hI9
    refine byc fun hno => ?_
    obtain ⟨lv', hLe2, S⟩ := hI9
    refine hno ?_
    clear hno
    show wpS _ _ (execs (_ :: _) _) _ _ _
    have hbig := S.big
    have hmi : m = ((i + 1 : Nat) : Int) := by walk_at "om"
    refine S_ifS (S_of ?_)
    (with_reducible refine' wpAny_isTrue_Compare1 ?_ ?a585q; (case a585q => with_unfolding_all rfl)); walk_at "n"; (with_reducible refine Subscript_ ?_)
    have inS : ∀ p ∈ Re, p ∈ (it, Knd.obj (rgO (1 + ((i + 1 : Nat) : Int)) (6 - ((i + 1 : Nat) : Int)))) :: (lt, Knd.lst tv2) :: (c1, Knd.cell (some (.int m tm))) :: (d, Knd.tup [.str lead tl, .str sign ts, .str word tw]) :: (lr, Knd.lst rv) :: (le, Knd.lst ev) :: (Rt2 ++ Re) :=
      fun p hp => .tail _ (.tail _ (.tail _ (.tail _ (.tail _ (.tail _ (List.mem_append_right _ hp))))))
    refine L_compL (w := w) (mg := mg) (mb := mb) (cl := [("foot", c1)]) ["end"] [] [none] (fun c => Ck .cell c "foot")
      (fun cs' s₁ C D it n s' => ∃ i vq, s₁ = sN ∧ n + i = ev.length ∧ sN.heap.objs.size ≤ it ∧ it < D ∧ D < C ∧ St w mg mb s₁ C cs' ["end"] [] [none] [(D, .lst vq), (it, .it le i), (le, .old (.lst ev))] s' ∧ Pick ps m Re word en i vq)
      ?_ ?_ ?_ ?_ ?_ ?_ ?_ ?_ ?_ ?_ ?_
    · rw [hcs]; rfl
    · decide
    · rfl
    · decide
    · exact ⟨rfl, by decide +kernel, kl_of (by rw [hcs]; rfl), kg_nil⟩
    · exact HasAll.skip trivial
    · exact ⟨by rw [hcs]; rfl, rfl, rfl⟩
    · walk_at "n"
      exact ⟨le, ev, rfl, S.cur, S.tb, S.get (k := .lst ev) (by walk_at "m_mem"), (S.N (le, .lst ev) (by walk_at "m_mem")).2.2.1, fun cs' C D it s₃ hR h1 h2 h3 S3 => ⟨ev.length, 0, [], rfl, rfl, h1, h2, h3, S3, .none⟩⟩
    · intro cs' s₁ C D it n s' hI9
      refine byc fun hno => ?_
      obtain ⟨i, vq, _, _, _, _, _, S3, _⟩ := hI9
      refine hno ?_
      clear hno
      exact ⟨le, i, S3.get (by walk_at "m_mem")⟩
    · intro cs' s₁' C D it2 n' s' hR hI9
      refine byc fun hno => ?_
      obtain ⟨j, vq, hsN, hn2, h1, h2, h3, S3, hPk⟩ := hI9
      refine hno ?_
      clear hno
      subst s₁'
      have hlel : le < sN.heap.objs.size := S.lt (k := .lst ev) (by walk_at "m_mem")
      cases n' with
      | zero =>
        have S4 := S3.sub (news' := [(it2, .it le j), (D, .lst vq), (le, .old (.lst ev))]) (by walk_at "m_sub")
        refine endLst S4 K.h (S4.get (k := .old (.lst ev)) (by walk_at "m_mem")).unold (by walk_at "om") (by walk_at "m_all") fun s' S5 => ⟨_, _, S5, fun s'' e k t hN => ?_⟩
        have S6 := S.got e k t (a := D) (kd := .lst vq) (by unfold Fresh; walk_at "om") (hN _ (by walk_at "m_mem"))
        have hj : j = ps.length := by walk_at "om"
        clear S S3 S4 S5
        cases hPk with
        | none => exfalso; walk_at "om"
        | @some _ k q vq vs ms g1 g2 g3 g4 g5 g6 g7 =>
          have hg := hge _ (List.mem_of_getElem? g4)
          cases hLe2 with
          | none e => rw [e] at hTd2; exact absurd hTd2.len (by simp)
          | @some q2 vs2 ns2 a2 b2 hq2 hV2 hab2 hmin2 =>
            have hkl : k < ps.length := by walk_at "om"
            have heq : ns2 = ms := least_eq P hTd2 hab2 hmin2 hkl (by walk_at "om") (fun h => by have := g3 (by walk_at "om"); walk_at "om") hg
            subst heq
            (with_reducible refine UnaryOp_ ?_); ((rename St _ _ _ _ _ _ _ _ _ _ _ => Z0); with_reducible refine E_int Z0 ?_; clear Z0; intro tX sX SX); ((rename St _ _ _ _ _ _ _ _ _ _ _ => Z0); with_reducible refine O_neg Z0 ?_; clear Z0; intro tX sX SX)
            rename St _ _ _ _ _ _ _ _ _ _ _ => S
            refine itemLN (S.get (a := D) (k := .lst (vq ++ [.ref q])) (by walk_at "m_mem")) (by decide) (by rw [List.length_append, List.length_singleton]; walk_at "om") (by decide) (v := .ref q) (by rw [List.length_append, List.length_singleton, show ((-1 : Int) + ((vq.length + 1 : Nat) : Int)).toNat = vq.length by walk_at "om"]; simp) ?_
            refine rcne_lists (S.get (a := q2) (k := .lst vs2) (by exact .tail _ (.tail _ (.tail _ (.tail _ (.tail _ (.tail _ (.tail _ (List.mem_append_left _ hq2))))))))).lst (S.get (a := q) (k := .lst vs) (by exact .tail _ (inS _ g5))).lst (by walk_at "om") hV2.isIS g6.isIS PR w _ _ ?_
            rw [hV2.veqs g6, decide_eq_true rfl]
            (with_reducible refine wpAny_truthy_bool ?_)
            refine ⟨fun q => Bool.noConfusion q, fun _ => S_nil (S_nil (hQb .next _ ⟨n, by walk_at "om", it, i + 1, tv2, Rt2, td2, .ref q2, some (.int m tm), rfl, by walk_at "om", by walk_at "om", hlt2, hT2, hTd2, .some hq2 hV2 hab2 hmin2, ?_⟩))⟩
            exact (S.drop).le (by walk_at "m_le")
      | succ n' =>
        refine byc fun hno => ?_
        obtain ⟨p, q, a, b, ms, t', u', vs', e1, e2, e3, e4, e5⟩ := hE.get j (by walk_at "om")
        refine hno ?_
        clear hno
        have hej : en[j]? = some (tn ps (j + 2), fn' ps (j + 2), (ps.take (j + 1)).map Int.toNat) := by
          rw [hen, List.getElem?_map, List.getElem?_range (by walk_at "om")]; rfl
        have hab := e2.symm.trans hej
        cases hab
        refine nextLst S3 (by walk_at "m_upd") (S3.get (k := .old (.lst ev)) (by walk_at "m_mem")).unold e1 fun s' S3 => letGoName (assign_Name ?_)
        have hcl := S.get (a := c1) (k := .cell (some (.int m tm))) (by walk_at "m_mem")
        have htp := S.get (inS _ e3)
        have hcs2 : c1 < sN.heap.objs.size := S.lt (a := c1) (k := .cell (some (.int m tm))) (by walk_at "m_mem")
        have hps2 : p < sN.heap.objs.size := S.lt (inS _ e3)
        have hp58 : 58 < p := (S.N _ (inS _ e3)).2.2.1
        have hc58 : 58 < c1 := (S.N (c1, .cell (some (.int m tm))) (by walk_at "m_mem")).2.2.1
        have hvl := hPk.len
        clear S
        ((rename St _ _ _ _ _ _ _ _ _ _ _ => Z0); with_reducible refine' wrLc Z0 ?k591q ?_; (case k591q => walk_at "m_put"); clear Z0; intro sX SX)
        rename St _ _ _ _ _ _ _ _ _ _ _ => S3
        refine compIfs_one ?_
        (with_reducible refine' wpAny_isTrue_Compare1 ?_ ?a592q; (case a592q => with_unfolding_all rfl)); (with_reducible refine Subscript_ ?_); (with_reducible refine' rdLc ?S594q ?k594q ?_; (case S594q => assumption); (case k594q => walk_at "m_at")); ((rename St _ _ _ _ _ _ _ _ _ _ _ => Z0); with_reducible refine E_int Z0 ?_; clear Z0; intro tX sX SX)
        rename St _ _ _ _ _ _ _ _ _ _ _ => S3
        refine itemT (htp.keep fun o => S3.keep p o (by walk_at "om") (by walk_at "om")) (by decide) (by decide) (j := 1) (by rfl) rfl ?_
        refine rdCc S3 hR rfl (hcl.keep fun o => S3.keep c1 o (by walk_at "om") (by walk_at "om")) ?_
        (with_reducible refine PyProof.Rows.le_int ?_); (with_reducible refine wpAny_truthy_bool ?_)
        by_cases hle : fn' ps (j + 2) ≤ m
        · rw [decide_eq_true hle]
          refine ⟨fun _ => ?_, fun q => Bool.noConfusion q⟩
          (with_reducible refine Subscript_ ?_); (with_reducible refine' rdLc ?S599q ?k599q ?_; (case S599q => assumption); (case k599q => walk_at "m_at")); ((rename St _ _ _ _ _ _ _ _ _ _ _ => Z0); with_reducible refine E_int Z0 ?_; clear Z0; intro tX sX SX)
          rename St _ _ _ _ _ _ _ _ _ _ _ => S3
          refine itemT (htp.keep fun o => S3.keep p o (by walk_at "om") (by walk_at "om")) (by decide) (by decide) (j := 2) (by rfl) rfl ?_
          refine appL S3 (by walk_at "m_upd") (by rw [sizeLine_eq]; walk_at "om") fun s' S3 => ?_
          exact ⟨n', by walk_at "om", j + 1, _, rfl, by walk_at "om", h1, h2, h3, S3.le (by walk_at "m_le"), .some (by walk_at "om") hle (fun h => absurd h (by walk_at "om")) e2 e4 e5 (by walk_at "om")⟩
        · rw [decide_eq_false hle]
          refine ⟨fun q => Bool.noConfusion q, fun _ => ⟨n', by walk_at "om", j + 1, _, rfl, by walk_at "om", h1, h2, h3, S3.le (by walk_at "m_le"), hPk.skip (by rw [fn2]; walk_at "om") (by walk_at "om")⟩⟩
    · intro _; rfl
end
end
section
noncomputable abbrev tx (lead : Str) (p : Int) : Str := lead ++ Str.ofString (toString p)
theorem Dress.leadLen {z : Nat} {lead sign word : Str} (D : Dress z lead sign word) : lead.length ≤ 2 := by
  have := congrArg List.length D.l
  rw [Array.length_toList, List.length_replicate] at this
  have := D.z
  show lead.cps.size ≤ 2; walk_at "om"
theorem tx_list {z : Nat} {lead sign word : Str} (D : Dress z lead sign word) {p : Int} (h0 : 0 ≤ p) : (tx lead p).cps.toList = tok z p.toNat := by
  obtain ⟨n, rfl⟩ := Int.eq_ofNat_of_zero_le h0
  rw [tx, str_append_list, D.l, dig_text]; rfl
theorem tx_facts {z : Nat} {lead sign word : Str} (D : Dress z lead sign word) {p : Int} (h0 : 0 ≤ p) (hs : p.toNat < 10 ^ 1320) :
    PySem.intText? (tx lead p) = some p ∧ (tx lead p).length ≤ 1330 ∧ 0 < (tx lead p).length ∧ 46 ∉ (tx lead p).cps.toList ∧ p.natAbs < 10 ^ 4300 ∧ (Str.ofString (toString p)).length ≤ 1321 := by
  have e := tx_list D h0
  have hz := D.z
  have hl : (tx lead p).length = (tok z p.toNat).length := by rw [← e, Array.length_toList]; rfl
  have h1 := tok_len (z := z) hs
  have h2 := tok_ne z p.toNat
  have h3 : 0 < (tok z p.toNat).length := List.length_pos_iff.mpr h2
  obtain ⟨n, rfl⟩ := Int.eq_ofNat_of_zero_le h0
  have hn := num_len (n := n) hs
  refine ⟨?_, by walk_at "om", by walk_at "om", ?_, hn.1, hn.2⟩
  · have := PySem.intText_digits (x := tx lead n) (by rw [e]; exact tok_all _ _) (by rw [e]; exact h2) (by walk_at "om")
    rw [this, e, tok_val]
    rfl
  · rw [e]
    intro h
    have := tok_all _ _ 46 h
    walk_at "om"
theorem parts_nums {lead : Str} : ∀ {vs : List Value} {ps : List Int}, StrsAre vs (ps.map (tx lead)) → (∀ p ∈ ps, PySem.intText? (tx lead p) = some p ∧ (tx lead p).length ≤ 1330 ∧ p.natAbs < 10 ^ 4300) → Nums vs ps
  | _, [], h, _ => by cases h; exact .nil
  | _, p :: ps, h, hp => by
    cases h with
    | cons y t r =>
      have := hp p (.head _)
      exact .cons this.1 (by rw [sizeLine_eq]; walk_at "om") this.2.2 (parts_nums r fun q hq => hp q (.tail _ hq))
theorem map_toNat {l : List Int} (h : ∀ p ∈ l, 0 ≤ p) : (l.map Int.toNat).map Int.ofNat = l := by
  rw [List.map_map]
  have : l.map (Int.ofNat ∘ Int.toNat) = l.map id := List.map_congr_left fun q hq => Int.toNat_of_nonneg (h q hq)
  simpa using this
noncomputable def lawK : List Stmt := match lawB.drop 8 with | .For _ _ b _ _ :: _ => b | _ => []
noncomputable abbrev plainT (ps : List Int) (k : Nat) : Str := Txt.join (Str.ofString ".") (((ps.take (k + 1)).take 3).map fun n => Str.ofString (toString n))
theorem join_dot (ts : List Str) : Txt.join (Str.ofString ".") ts = Str.join ⟨#[46]⟩ ts := by
  rw [show Txt.join (Str.ofString ".") ts = Str.join (Str.ofString ".") ts from StrLaws.glued_eq_join _ _, show Str.ofString "." = ⟨#[46]⟩ from by decide +kernel]
theorem split_dot {ts : List Str} (h0 : ts ≠ []) (h : ∀ t ∈ ts, 46 ∉ t.cps.toList) : Txt.split (Txt.join (Str.ofString ".") ts) (Str.ofString ".") = ts := by
  rw [join_dot, show Str.ofString "." = ⟨#[46]⟩ from by decide +kernel]
  exact split_join 46 h0 h
theorem join_len {ts : List Str} {B : Nat} (h : ∀ t ∈ ts, t.length ≤ B) : (Txt.join (Str.ofString ".") ts).length ≤ ts.length * B + ts.length := by
  have e : (Txt.join (Str.ofString ".") ts).length = _ := size_glued _ _
  have hdl : (Str.ofString ".").length = 1 := by decide +kernel
  have := sum_len h
  rw [e, hdl, Nat.mul_one]; exact Nat.add_le_add this (Nat.sub_le ..)
theorem norm2_data {z : Nat} {lead sign word : Str} {ps : List Int} {f : Int} (D : Dress z lead sign word) (P : PartsOk ps f) {k : Nat} (hk : k < ps.length) :
    ∃ us R, (us = if (tx lead (ps.getD k 0)).length = 0 then Txt.split (Txt.join (Str.ofString ".") ((ps.take k).map (tx lead))) (Str.ofString ".") else Txt.split (Txt.join (Str.ofString ".") ((ps.take k).map (tx lead))) (Str.ofString ".") ++ [tx lead (ps.getD k 0)]) ∧ us.length ≤ 100
      ∧ (∀ vs, StrsAre vs us → NormV vs R) ∧ (R.map (·.length)).sum ≤ 100000 ∧ R.length ≤ 100 ∧ Txt.join (Str.ofString ".") (R.take 3) = (if 0 < k then plainT ps k else Str.ofString "." ++ tx lead (ps.getD 0 0)) := by
  have ht : ∀ p ∈ ps, _ := fun p hp' => tx_facts D (P.nn p hp') (part_small P hp')
  have hhi := P.hi
  have eg : ps.getD k 0 = ps[k] := by simp [List.getD, hk]
  have hm : ps.getD k 0 ∈ ps := by rw [eg]; exact List.getElem_mem _
  have hb := (ht _ hm).2.2.1
  have etake : ps.take (k + 1) = ps.take k ++ [ps.getD k 0] := by
    rw [List.take_add_one, eg]; simp [hk]
  rcases Nat.eq_zero_or_pos k with rfl | hk0
  · refine ⟨[⟨#[]⟩, tx lead (ps.getD 0 0)], [⟨#[]⟩, tx lead (ps.getD 0 0)], ?_, by simp, fun vs h => ?_, ?_, by simp, ?_⟩
    · rw [if_neg (by walk_at "om")]
      show _ = Txt.split (Txt.join (Str.ofString ".") []) (Str.ofString ".") ++ _
      rw [show Txt.split (Txt.join (Str.ofString ".") []) (Str.ofString ".") = [⟨#[]⟩] from by decide +kernel]; rfl
    · have h' := h
      cases h
      exact .none h' rfl rfl
    · have := (ht _ hm).2.1
      simp only [List.map_cons, List.map_nil, List.sum_cons, List.sum_nil]
      show (⟨#[]⟩ : Str).length + _ ≤ _
      have e : (⟨#[]⟩ : Str).length = 0 := rfl
      walk_at "om"
    · rw [if_neg (by decide), join_dot]
      refine str_ext ?_
      show ((⟨#[]⟩ : Str) ++ ⟨#[46]⟩ ++ tx lead (ps.getD 0 0)).cps.toList = (Str.ofString "." ++ tx lead (ps.getD 0 0)).cps.toList
      rw [show Str.ofString "." = ⟨#[46]⟩ from by decide +kernel]
      simp only [str_append_list]
      rfl
  · refine ⟨(ps.take (k + 1)).map (tx lead), (ps.take (k + 1)).map fun n => Str.ofString (toString n), ?_, by simp; walk_at "om", fun vs h => .nums (parts_nums h fun p hp => ?_), ?_, by simp; walk_at "om", ?_⟩
    · rw [if_neg (by walk_at "om"), split_dot (by
        intro e
        have := congrArg List.length e
        rw [List.length_map, List.length_take] at this
        replace this : min k ps.length = 0 := this
        walk_at "om") (fun t h => by
        obtain ⟨p, hp, rfl⟩ := List.mem_map.mp h
        exact (ht p (List.mem_of_mem_take hp)).2.2.2.1), etake, List.map_append]
      rfl
    · have := ht p (List.mem_of_mem_take hp)
      exact ⟨this.1, this.2.1, this.2.2.2.2.1⟩
    · have := sum_len (B := 1321) (ys := (ps.take (k + 1)).map fun n => Str.ofString (toString n)) fun y hy => by
        obtain ⟨p, hp, rfl⟩ := List.mem_map.mp hy
        exact (ht p (List.mem_of_mem_take hp)).2.2.2.2.2
      rw [List.length_map, List.length_take] at this
      walk_at "om"
    · rw [if_pos hk0, ← List.map_take]
section
variable {w : World} {mg mb : Str → Option Value} {sB s s₀ : Shared} {L c1 : Nat} {cs : Scope} {A : Around} {E : Value → Shared → Prop}
variable {z : Nat} {lead sign word : Str} {tl tl2 ts tw tf tk : Tok} {f : Int} {ps : List Int} {d lr le lp lT lF lfl lX it : Nat} {pv xv rv : List Value} {pl0 : Option Value}
theorem kJ {Qf : Flow → Shared → Prop} {news : List (Nat × Knd)} {tpl : Tok} (K : AOk A (envL cs L c1)) (D : Dress z lead sign word) (P : PartsOk ps f) {k : Nat} (hk : k < ps.length) (hxv : StrsAre xv ((ps.take (k + 1)).map (tx lead)))
    (hx : (lX, Knd.lst xv) ∈ news) (S : St w mg mb sB L cs lL gL [none, some (.ref lp), some (.int f tf), some (.str lead tl2), none, some (.ref d), some (.ref lr), none, some (.ref lT), some (.ref lF), some (.ref lfl), some (.ref lX), some (.ref le), some (.int (k : Int) tk), some (.str (plainT ps k) tpl), none, none, none, none, none, none, none, none, none, none, none, none] news s)
    (hQ : ∀ s', St w mg mb sB L cs lL gL [none, some (.ref lp), some (.int f tf), some (.str lead tl2), none, some (.ref d), some (.ref lr), none, some (.ref lT), some (.ref lF), some (.ref lfl), some (.ref lX), some (.ref le), some (.int (k : Int) tk), some (.str (plainT ps k) tpl), none, none, none, none, none, none, none, none, none, none, none, none] news s' → Qf .next s') : wpS (model PR w) A (execs (lawK.drop 10) (envL cs L c1)) Qf E s := by
  have hhi := P.hi
  have hxl := hxv.length
  rw [List.length_map, List.length_take, Nat.min_eq_left hk] at hxl
  have hk0' := Nat.le_of_lt hk
  have hps := Nat.lt_of_le_of_lt (Nat.zero_le k) hk
  have ht : ∀ p ∈ ps, _ := fun p hp' => tx_facts D (P.nn p hp') (part_small P hp')
  have hdl : (Str.ofString ".").length = 1 := by decide +kernel
  show wpS _ _ (execs (_ :: _) _) _ _ _
  obtain ⟨us, R, n1, n2, n3, n4, n5, n6⟩ := norm2_data D P hk
  refine S_ifS (S_cmpT (S_Call ?_ (by with_unfolding_all rfl)) (by with_unfolding_all rfl))
  (with_reducible refine' rdG ?S601q ?k601q ?_; (case S601q => assumption); (case k601q => walk_at "m_mem"))
  refine S_callD ?_ (by with_unfolding_all rfl) (by with_unfolding_all rfl)
  walk_at "ac"; (with_reducible refine' MethodCall_ ?_ ?a602q; (case a602q => with_unfolding_all rfl))
  refine E_str S fun t' s' S => GM.join ?_
  (with_reducible refine' callWith_method1 ?_ ?a603q ?b603q; (case a603q => with_unfolding_all rfl); (case b603q => with_unfolding_all rfl)); walk_at "ac"; (with_reducible refine Subscript_ ?_); walk_at "n"; (with_reducible refine wpAny_Slice ?_); (with_reducible refine P_none ?_); (with_reducible refine P_some ?_); (with_reducible refine UnaryOp_ ?_); ((rename St _ _ _ _ _ _ _ _ _ _ _ => Z0); with_reducible refine E_int Z0 ?_; clear Z0; intro tX sX SX); ((rename St _ _ _ _ _ _ _ _ _ _ _ => Z0); with_reducible refine O_neg Z0 ?_; clear Z0; intro tX sX SX); (with_reducible refine P_none ?_)
  rename St _ _ _ _ _ _ _ _ _ _ _ => S
  refine sliceL S (S.get hx) .none (.int (-1) _) .none (by decide) (by rw [sizeLine_eq]; walk_at "om") (ws := xv.take k) (by
    rw [show (-1 : Int) = -((1 : Nat) : Int) from rfl, slicePick_butLast xv.toArray 1 (by decide)]
    rw [show xv.toArray.size - 1 = k by rw [List.size_toArray, hxl]; rfl]) fun d1 s S h1 h2 => ?_
  have hx2 : StrsAre (xv.take k) ((ps.take k).map (tx lead)) := by
    have := StrsAre.take hxv k
    rwa [← List.map_take, List.take_take, Nat.min_eq_left (Nat.le_succ k)] at this
  have htl2 : ∀ t ∈ (ps.take k).map (tx lead), t.length ≤ 1330 := fun t h => by
    obtain ⟨p, hp, rfl⟩ := List.mem_map.mp h
    exact (ht p (List.mem_of_mem_take hp)).2.1
  have hjl2 := join_len htl2
  have hsl2 := sum_len htl2
  rw [List.length_map, List.length_take, Nat.min_eq_left hk0'] at hjl2 hsl2
  (with_reducible refine args_nil ?_)
  refine join_list (S.get (.head _)).toLst.lst hx2 (by rw [hdl, List.length_map, List.length_take, Nat.min_eq_left hk0']; walk_at "om") fun t1 k1 => ?_
  have S := (S.tok k1).drop
  walk_at "ac"; (with_reducible refine Subscript_ ?_); walk_at "n"; (with_reducible refine UnaryOp_ ?_); ((rename St _ _ _ _ _ _ _ _ _ _ _ => Z0); with_reducible refine E_int Z0 ?_; clear Z0; intro tX sX SX); ((rename St _ _ _ _ _ _ _ _ _ _ _ => Z0); with_reducible refine O_neg Z0 ?_; clear Z0; intro tX sX SX)
  rename St _ _ _ _ _ _ _ _ _ _ _ => S
  have eg : ps.getD k 0 = ps[k] := by simp [List.getD, hk]
  have hmk : ps.getD k 0 ∈ ps := by rw [eg]; exact List.getElem_mem _
  obtain ⟨tq, htq⟩ := strs_get hxv k (tx lead (ps.getD k 0)) [] (by
    rw [show ps.take (k + 1) = ps.take k ++ [ps.getD k 0] by rw [List.take_add_one, eg]; simp [hk], List.map_append, List.drop_left' (by rw [List.length_map, List.length_take]; exact Nat.min_eq_left hk0')]; rfl)
  refine itemLN (S.get hx) (by decide) (by rw [hxl]; exact Int.neg_le_neg (Int.ofNat_le.mpr (Nat.succ_le_succ (Nat.zero_le k)))) (by decide) (v := .str (tx lead (ps.getD k 0)) tq) (by rw [show ((-1 : Int) + (xv.length : Int)).toNat = k by rw [hxl]; exact m1_toNat k]; exact htq) ?_
  (with_reducible refine args_nil ?_)
  refine ⟨fnAt S.cur (by decide), normS S (b := tx lead (ps.getD k 0)) (u := tq) (us := us) (R := R) (.inr rfl) (by walk_at "om") (by have := (ht _ hmk).2.1; walk_at "om") n1 n2 n3 n4 n5 K.f rfl (by show cs.kind ≠ _; rw [S.nm.kf]; decide) K.h (by have := K.d; walk_at "om") fun t2 s S => ?_⟩
  rw [n6]
  obtain ⟨t0, ht0⟩ := strs_get hxv 0 (tx lead (ps.getD 0 0)) (((ps.take (k + 1)).map (tx lead)).drop 1) (by
    have : ps.getD 0 0 = ps[0] := by simp [List.getD, hps]
    cases ps with
    | nil => simp at hk
    | cons a r => simp)
  (with_reducible refine E_if ?_); (with_reducible refine' wpAny_isTrue_Compare1 ?_ ?a619q; (case a619q => with_unfolding_all rfl)); walk_at "n"; ((rename St _ _ _ _ _ _ _ _ _ _ _ => Z0); with_reducible refine E_int Z0 ?_; clear Z0; intro tX sX SX); (with_reducible refine PyProof.Rows.gt_int ?_); (with_reducible refine wpAny_truthy_bool ?_)
  rename St _ _ _ _ _ _ _ _ _ _ _ => S
  refine ⟨fun q => ?_, fun q => ?_⟩
  · have hk0 : 0 < k := by simpa using q
    rw [if_pos hk0]
    walk_at "n"
    refine PyProof.Rows.ne_str ?_
    rw [show (plainT ps k != plainT ps k) = false by simp]
    (with_reducible refine wpAny_truthy_bool ?_)
    exact ⟨fun q => Bool.noConfusion q, fun _ => S_nil (S_nil (hQ _ S))⟩
  · have hk0 : ¬ 0 < k := by simpa using q
    rw [if_neg hk0]
    (with_reducible refine wpAny_BinOp ?_)
    refine E_str (x := Str.ofString ".") S fun t' s' S => ?_
    generalize hdt : Str.ofString "." = dt at *
    (with_reducible refine Subscript_ ?_); walk_at "n"; ((rename St _ _ _ _ _ _ _ _ _ _ _ => Z0); with_reducible refine E_int Z0 ?_; clear Z0; intro tX sX SX)
    rename St _ _ _ _ _ _ _ _ _ _ _ => S
    refine itemLR (S.get hx) (by decide) (by decide) ht0 ?_
    generalize hy : tx lead (ps.getD 0 0) = y at *
    refine PyProof.Rows.add_str (fun t3 k3 => ?_) ?_
    · have S := S.tok k3
      refine PyProof.Rows.ne_str ?_
      rw [show ((dt ++ y) != (dt ++ y)) = false by simp]
      (with_reducible refine wpAny_truthy_bool ?_)
      exact ⟨fun q => Bool.noConfusion q, fun _ => S_nil (S_nil (hQ _ S))⟩
    · rw [sizeLine_eq]
      have h0 : ps.getD 0 0 ∈ ps := by
        have : ps.getD 0 0 = ps[0] := by simp [List.getD, hps]
        rw [this]; exact List.getElem_mem _
      have := (ht _ h0).2.1
      rw [hy] at this
      show dt.length + y.length ≤ _
      walk_at "om"
theorem kI {Qf : Flow → Shared → Prop} {news : List (Nat × Knd)} (K : AOk A (envL cs L c1)) (hcs : cs = lawSc) (D : Dress z lead sign word) (P : PartsOk ps f) {k : Nat} (hk : k < ps.length) (hpv : IntsAre pv ps) (hxv : StrsAre xv ((ps.take (k + 1)).map (tx lead)))
    (hp : (lp, Knd.lst pv) ∈ news) (hx : (lX, Knd.lst xv) ∈ news) (S : St w mg mb sB L cs lL gL [none, some (.ref lp), some (.int f tf), some (.str lead tl2), none, some (.ref d), some (.ref lr), none, some (.ref lT), some (.ref lF), some (.ref lfl), some (.ref lX), some (.ref le), some (.int (k : Int) tk), pl0, none, none, none, none, none, none, none, none, none, none, none, none] news s)
    (hQ : ∀ pl s', St w mg mb sB L cs lL gL [none, some (.ref lp), some (.int f tf), some (.str lead tl2), none, some (.ref d), some (.ref lr), none, some (.ref lT), some (.ref lF), some (.ref lfl), some (.ref lX), some (.ref le), some (.int (k : Int) tk), pl, none, none, none, none, none, none, none, none, none, none, none, none] news s' → Qf .next s') : wpS (model PR w) A (execs (lawK.drop 8) (envL cs L c1)) Qf E s := by
  have W : Wd w mg mb sB.heap := S.wd
  have hb := S.big
  have hhi := P.hi
  have hpl := hpv.length
  have hxl := hxv.length
  rw [List.length_map, List.length_take, Nat.min_eq_left hk] at hxl
  have hpl58 : 58 < lp := (S.N _ hp).2.2.1
  have ht : ∀ p ∈ ps, _ := fun p hp' => tx_facts D (P.nn p hp') (part_small P hp')
  have hdl : (Str.ofString ".").length = 1 := by decide +kernel
  show wpS _ _ (execs (_ :: _) _) _ _ _
  refine S_pre ?_
  (with_reducible refine' X_asg ?_ ?a628q; (case a628q => with_unfolding_all rfl)); (with_reducible refine' MethodCall_ ?_ ?a629q; (case a629q => with_unfolding_all rfl))
  refine E_str S fun t' s' S => GM.join ?_
  (with_reducible refine' callWith_method1 ?_ ?a630q ?b630q; (case a630q => with_unfolding_all rfl); (case b630q => with_unfolding_all rfl)); walk_at "ac"
  refine L_mapF (w := w) (mg := mg) (mb := mb) (s₀ := sB) (locs := lL) (globs := gL) (vals := [none, some (.ref lp), some (.int f tf), some (.str lead tl2), none, some (.ref d), some (.ref lr), none, some (.ref lT), some (.ref lF), some (.ref lfl), some (.ref lX), some (.ref le), some (.int (k : Int) tk), pl0, none, none, none, none, none, none, none, none, none, none, none, none]) (cl := []) (fun n v => ∃ t, v = .str (Str.ofString (toString n)) t) [("str", .type "str")] (fun _ => True) ((ps.take (k + 1)).take 3) (Nat.le_trans (List.length_take_le ..) (by decide)) K.h (by rw [hcs]; rfl) (by decide) rfl (by decide)
    ⟨rfl, by decide +kernel, kl_of (by rw [hcs]; rfl), kg_B W (by rw [hcs]; rfl) rfl (by k_is) (by boot_fast) (by decide) kg_nil⟩ trivial ?_ (by intro _; rfl)
  (with_reducible refine Subscript_ ?_); (with_reducible refine Subscript_ ?_); walk_at "n"; (with_reducible refine wpAny_Slice ?_); (with_reducible refine P_none ?_); (with_reducible refine P_some ?_); (with_reducible refine wpAny_BinOp ?_); walk_at "n"; ((rename St _ _ _ _ _ _ _ _ _ _ _ => Z0); with_reducible refine E_int Z0 ?_; clear Z0; intro tX sX SX); ((rename St _ _ _ _ _ _ _ _ _ _ _ => Z0); with_reducible refine O_add Z0 ?_; clear Z0; intro tX sX SX); (with_reducible refine P_none ?_)
  rename St _ _ _ _ _ _ _ _ _ _ _ => S
  refine sliceL S (S.get hp) .none (.int _ _) .none (by decide) (by rw [sizeLine_eq]; walk_at "om") (ws := pv.take (k + 1)) (slicePick_upto' pv.toArray (k + 1)) fun d1 s S h1 h2 => ?_
  (with_reducible refine wpAny_Slice ?_); (with_reducible refine P_none ?_); (with_reducible refine P_some ?_); ((rename St _ _ _ _ _ _ _ _ _ _ _ => Z0); with_reducible refine E_int Z0 ?_; clear Z0; intro tX sX SX); (with_reducible refine P_none ?_)
  rename St _ _ _ _ _ _ _ _ _ _ _ => S
  refine sliceL S (S.get (.head _)).toLst .none (.int 3 _) .none (by decide) (by rw [sizeLine_eq, List.length_take]; walk_at "om") (ws := (pv.take (k + 1)).take 3) (slicePick_upto' (pv.take (k + 1)).toArray 3) fun d2 s S h3 h4 => ?_
  refine ⟨d2, _, _, rfl, S, (S.get (.head _)).toLst, by walk_at "om", (hpv.take (k + 1)).take 3, fun cs' C s₂ news x t _ hxm S3 => ?_, fun D' vq s₂ S hD1 hD2 hM => ?_⟩
  · have hxp : x ∈ ps := List.mem_of_mem_take (List.mem_of_mem_take hxm)
    (with_reducible refine' Call_ ?_ ?a645q; (case a645q => with_unfolding_all rfl)); (with_reducible refine' rdGc ?S646q ?k646q ?_; (case S646q => assumption); (case k646q => walk_at "m_mem")); (with_reducible refine' callWith_type1 ?_ ?a647q ?b647q; (case a647q => with_unfolding_all rfl); (case b647q => with_unfolding_all rfl)); walk_at "ac"; (with_reducible refine' rdLc ?S648q ?k648q ?_; (case S648q => assumption); (case k648q => walk_at "m_at")); (with_reducible refine args_nil ?_)
    exact str_of_int_or K.h S3.cur.nodigits (fun _ => ⟨⟨_, rfl⟩, S3.tok _⟩) (fun h => absurd (ht x hxp).2.2.2.2.1 (Nat.not_lt.mpr h))
  clear h1 h2 h3 h4 hD2
  have hMl := hM.len
  have hS3 : StrsAre vq _ := hM.strs (g := fun n => Str.ofString (toString n))
  have hl3 : ((ps.take (k + 1)).take 3).length ≤ 3 := List.length_take_le ..
  (with_reducible refine args_nil ?_)
  refine join_list (S.get (.head _)).lst hS3 (by
    have := sum_len (B := 1321) (ys := ((ps.take (k + 1)).take 3).map fun n => Str.ofString (toString n)) fun y hy => by
      obtain ⟨p, hp, rfl⟩ := List.mem_map.mp hy
      exact (ht p (List.mem_of_mem_take (List.mem_of_mem_take hp))).2.2.2.2.2
    rw [List.length_map] at this
    rw [hdl, List.length_map]; walk_at "om") fun t1 k1 => ?_
  have S := ((S.tok k1).drop).drop.drop
  walk_at "w"
  rename St _ _ _ _ _ _ _ _ _ _ _ => S
  refine S_nk ?_
  show wpS _ _ (execs (_ :: _) _) _ _ _
  have htl : ∀ t ∈ (ps.take (k + 1)).map (tx lead), t.length ≤ 1330 := fun t h => by
    obtain ⟨p, hp, rfl⟩ := List.mem_map.mp h
    exact (ht p (List.mem_of_mem_take hp)).2.1
  have hjl := join_len htl
  have hsl := sum_len htl
  rw [List.length_map, List.length_take, Nat.min_eq_left hk] at hjl hsl
  refine S_ifS (S_cmpT (S_Call ?_ (by with_unfolding_all rfl)) (by with_unfolding_all rfl))
  (with_reducible refine' rdG ?S651q ?k651q ?_; (case S651q => assumption); (case k651q => walk_at "m_mem"))
  refine S_callD ?_ (by with_unfolding_all rfl) (by with_unfolding_all rfl)
  walk_at "ac"; (with_reducible refine' MethodCall_ ?_ ?a652q; (case a652q => with_unfolding_all rfl))
  refine E_str S fun t' s' S => GM.join ?_
  (with_reducible refine' callWith_method1 ?_ ?a653q ?b653q; (case a653q => with_unfolding_all rfl); (case b653q => with_unfolding_all rfl)); walk_at "ac"; walk_at "n"; (with_reducible refine args_nil ?_)
  rename St _ _ _ _ _ _ _ _ _ _ _ => S
  refine join_list (S.get hx).lst hxv (by rw [hdl, List.length_map, List.length_take]; walk_at "om") fun t1 k1 => ?_
  have S := S.tok k1
  (with_reducible refine args_nil ?_)
  refine ⟨fnAt S.cur (by decide), normS S (b := Str.ofString "") (u := 455) (us := (ps.take (k + 1)).map (tx lead)) (R := (ps.take (k + 1)).map fun n => Str.ofString (toString n)) (.inl ⟨rfl, rfl, rfl⟩) (by walk_at "om") (by decide +kernel) ?_ (by rw [List.length_map, List.length_take]; walk_at "om") (fun vs h => .nums (parts_nums h fun p hp => ?_)) ?_ (by rw [List.length_map, List.length_take]; walk_at "om") K.f rfl (by show cs.kind ≠ _; rw [S.nm.kf]; decide) K.h (by have := K.d; walk_at "om") fun t2 s S => ?_⟩
  · rw [if_pos (by decide +kernel), split_dot (by
      intro e
      have := congrArg List.length e
      rw [List.length_map, List.length_take] at this
      replace this : min (k + 1) ps.length = 0 := this
      walk_at "om") (fun t h => by
      obtain ⟨p, hp, rfl⟩ := List.mem_map.mp h
      exact (ht p (List.mem_of_mem_take hp)).2.2.2.1)]
  · have := ht p (List.mem_of_mem_take hp)
    exact ⟨this.1, this.2.1, this.2.2.2.2.1⟩
  · have := sum_len (B := 1321) (ys := (ps.take (k + 1)).map fun n => Str.ofString (toString n)) fun y hy => by
      obtain ⟨p, hp, rfl⟩ := List.mem_map.mp hy
      exact (ht p (List.mem_of_mem_take hp)).2.2.2.2.2
    rw [List.length_map, List.length_take] at this
    walk_at "om"
  walk_at "n"
  rename St _ _ _ _ _ _ _ _ _ _ _ => S
  refine PyProof.Rows.ne_str ?_
  have ep : Txt.join (Str.ofString ".") (((ps.take (k + 1)).map fun n => Str.ofString (toString n)).take 3) = plainT ps k := by rw [← List.map_take]
  rw [ep, show (plainT ps k != plainT ps k) = false by simp]
  (with_reducible refine wpAny_truthy_bool ?_)
  exact ⟨fun q => Bool.noConfusion q, fun _ => S_nil (kJ K D P hk hxv hx S fun s' S => hQ _ s' S)⟩
end
end
section
theorem part_get {pv : List Value} {ps : List Int} (h : IntsAre pv ps) {k : Nat} (hk : k < ps.length) : ∃ t, pv[k]? = some (.int (ps.getD k 0) t) := by
  obtain ⟨x, t, e1, e2⟩ := ints_get h k hk
  refine ⟨t, ?_⟩
  have : ps.getD k 0 = x := by simp [List.getD, e1]
  rw [this]; exact e2
theorem tn_succ (ps : List Int) (k : Nat) : tn ps (k + 2) = ps.getD k 0 * tn ps (k + 1) - tn ps k := rfl
theorem fn_succ (ps : List Int) (k : Nat) : fn' ps (k + 2) = ps.getD k 0 * fn' ps (k + 1) - fn' ps k := rfl
section
variable {w : World} {mg mb : Str → Option Value} {sB s s₀ : Shared} {L c1 : Nat} {cs : Scope} {A : Around} {E : Value → Shared → Prop}
variable {z : Nat} {lead sign word : Str} {tl tl2 ts tw tf tk : Tok} {f : Int} {ps : List Int} {d lr le lp lT lF lfl lX it : Nat} {pv xv rv tv fv ve ev0 : List Value} {pl0 : Option Value}
theorem kH {Qf : Flow → Shared → Prop} {news : List (Nat × Knd)} {p q : Nat} {a b : Int} {t u : Tok} (K : AOk A (envL cs L c1)) (hcs : cs = lawSc) (D : Dress z lead sign word) (P : PartsOk ps f) {k : Nat} (hk : k < ps.length) (hpv : IntsAre pv ps) (hxv : StrsAre xv ((ps.take (k + 1)).map (tx lead)))
    (hp : (lp, Knd.lst pv) ∈ news) (hx : (lX, Knd.lst xv) ∈ news) (hd : (d, Knd.tup [.str lead tl, .str sign ts, .str word tw]) ∈ news) (he : (le, Knd.lst (ev0 ++ [.ref p])) ∈ news) (hep : (p, Knd.tup [.int a t, .int b u, .ref q]) ∈ news) (heq : (q, Knd.lst ve) ∈ news)
    (hV : VerV word ve ((ps.take (k + 1)).map Int.toNat)) (hel : ev0.length ≤ 10) (S : St w mg mb sB L cs lL gL [none, some (.ref lp), some (.int f tf), some (.str lead tl2), none, some (.ref d), some (.ref lr), none, some (.ref lT), some (.ref lF), some (.ref lfl), some (.ref lX), some (.ref le), some (.int (k : Int) tk), pl0, none, none, none, none, none, none, none, none, none, none, none, none] news s)
    (hQ : ∀ pl s', St w mg mb sB L cs lL gL [none, some (.ref lp), some (.int f tf), some (.str lead tl2), none, some (.ref d), some (.ref lr), none, some (.ref lT), some (.ref lF), some (.ref lfl), some (.ref lX), some (.ref le), some (.int (k : Int) tk), pl, none, none, none, none, none, none, none, none, none, none, none, none] news s' → Qf .next s') : wpS (model PR w) A (execs (lawK.drop 7) (envL cs L c1)) Qf E s := by
  have hhi := P.hi
  have hkd := K.d
  have hu := K.u
  have hpl := hpv.length
  have hb := S.big
  have hd58 : 58 < d := (S.N _ hd).2.2.1
  have hnn : ∀ x ∈ ps.take (k + 1), 0 ≤ x := fun x hx' => P.nn x (List.mem_of_mem_take hx')
  show wpS _ _ (execs (_ :: _) _) _ _ _
  refine S_ifS (S_cmpT (S_Call ?_ (by with_unfolding_all rfl)) (by with_unfolding_all rfl))
  (with_reducible refine' rdG ?S657q ?k657q ?_; (case S657q => assumption); (case k657q => walk_at "m_mem"))
  refine S_callD ?_ (by with_unfolding_all rfl) (by with_unfolding_all rfl)
  walk_at "ac"; (with_reducible refine' Call_ ?_ ?a658q; (case a658q => with_unfolding_all rfl)); (with_reducible refine' rdG ?S659q ?k659q ?_; (case S659q => assumption); (case k659q => walk_at "m_mem")); (with_reducible refine' C_def ?S660q ?f660q ?_ ?a660q ?b660q; (case S660q => assumption); (case f660q => decide); (case a660q => with_unfolding_all rfl); (case b660q => with_unfolding_all rfl)); walk_at "ac"; (with_reducible refine Subscript_ ?_); walk_at "n"; (with_reducible refine wpAny_Slice ?_); (with_reducible refine P_none ?_); (with_reducible refine P_some ?_); (with_reducible refine wpAny_BinOp ?_); walk_at "n"; ((rename St _ _ _ _ _ _ _ _ _ _ _ => Z0); with_reducible refine E_int Z0 ?_; clear Z0; intro tX sX SX); ((rename St _ _ _ _ _ _ _ _ _ _ _ => Z0); with_reducible refine O_add Z0 ?_; clear Z0; intro tX sX SX); (with_reducible refine P_none ?_)
  rename St _ _ _ _ _ _ _ _ _ _ _ => S
  refine sliceL S (S.get hp) .none (.int _ _) .none (by decide) (by rw [sizeLine_eq]; walk_at "om") (ws := pv.take (k + 1)) (slicePick_upto' pv.toArray (k + 1)) fun d1 s S h1 h2 => ?_
  walk_at "ac"; walk_at "n"; (with_reducible refine args_nil ?_); (with_reducible refine' And.intro (St.cur ?S670q) ?_; (case S670q => assumption))
  rename St _ _ _ _ _ _ _ _ _ _ _ => S
  have hns : ∀ n ∈ (ps.take (k + 1)).map Int.toNat, n < 10 ^ 1320 := fun n hn => by
    obtain ⟨x, hx', rfl⟩ := List.mem_map.mp hn
    exact part_small P (List.mem_of_mem_take hx')
  have hnl : ((ps.take (k + 1)).map Int.toNat).length ≤ 10 := by rw [List.length_map, List.length_take]; walk_at "om"
  refine versS S D hns hnl (by rw [map_toNat hnn]; exact hpv.take (k + 1)) (S.get (.head _)).toLst (by walk_at "om") (S.get (.tail _ hd)) hd58 K.h (by walk_at "om") fun t2 s S => ?_
  have S := S.drop
  (with_reducible refine args_nil ?_)
  refine ⟨fnAt S.cur (by decide), compVers S D hns hnl K.f rfl (by show cs.kind ≠ _; rw [S.nm.kf]; decide) K.h (by walk_at "om") fun l2 v2 s S h3 h4 hV2 => ?_⟩
  (with_reducible refine Subscript_ ?_); (with_reducible refine Subscript_ ?_); walk_at "n"; (with_reducible refine UnaryOp_ ?_); ((rename St _ _ _ _ _ _ _ _ _ _ _ => Z0); with_reducible refine E_int Z0 ?_; clear Z0; intro tX sX SX); ((rename St _ _ _ _ _ _ _ _ _ _ _ => Z0); with_reducible refine O_neg Z0 ?_; clear Z0; intro tX sX SX)
  rename St _ _ _ _ _ _ _ _ _ _ _ => S
  refine itemLN (S.get (.tail _ he)) (by decide) (by rw [List.length_append, List.length_singleton]; walk_at "om") (by decide) (v := .ref p) (by rw [List.length_append, List.length_singleton, show ((-1 : Int) + ((ev0.length + 1 : Nat) : Int)).toNat = ev0.length by walk_at "om"]; simp) ?_
  ((rename St _ _ _ _ _ _ _ _ _ _ _ => Z0); with_reducible refine E_int Z0 ?_; clear Z0; intro tX sX SX)
  rename St _ _ _ _ _ _ _ _ _ _ _ => S
  refine itemT (S.get (.tail _ hep)) (by decide) (by decide) (j := 2) (by rfl) rfl ?_
  refine rcne_lists (S.get (.head _)).lst (S.get (.tail _ heq)).lst (by walk_at "om") hV2.isIS hV.isIS PR w _ _ ?_
  rw [hV2.veqs hV, decide_eq_true rfl]
  (with_reducible refine wpAny_truthy_bool ?_)
  exact ⟨fun q => Bool.noConfusion q, fun _ => S_nil (kI K hcs D P hk hpv hxv hp hx S.drop hQ)⟩
theorem kF {Qf : Flow → Shared → Prop} {news : List (Nat × Knd)} {p q : Nat} {a b : Int} {t u : Tok} (K : AOk A (envL cs L c1)) (hcs : cs = lawSc) (D : Dress z lead sign word) (P : PartsOk ps f) {k : Nat} (hk : k < ps.length) (hpv : IntsAre pv ps) (hrv : IntsAre rv (rs f ps)) (hxv : StrsAre xv ((ps.take (k + 1)).map (tx lead)))
    (htv : IntsAre tv ((List.range (k + 3)).map (tn ps))) (hfv : IntsAre fv ((List.range (k + 3)).map (fn' ps))) (hT : (lT, Knd.lst tv) ∈ news) (hF : (lF, Knd.lst fv) ∈ news) (hr : (lr, Knd.lst rv) ∈ news)
    (hp : (lp, Knd.lst pv) ∈ news) (hx : (lX, Knd.lst xv) ∈ news) (hd : (d, Knd.tup [.str lead tl, .str sign ts, .str word tw]) ∈ news) (he : (le, Knd.lst (ev0 ++ [.ref p])) ∈ news) (hep : (p, Knd.tup [.int a t, .int b u, .ref q]) ∈ news) (heq : (q, Knd.lst ve) ∈ news)
    (hV : VerV word ve ((ps.take (k + 1)).map Int.toNat)) (hel : ev0.length ≤ 10) (S : St w mg mb sB L cs lL gL [none, some (.ref lp), some (.int f tf), some (.str lead tl2), none, some (.ref d), some (.ref lr), none, some (.ref lT), some (.ref lF), some (.ref lfl), some (.ref lX), some (.ref le), some (.int (k : Int) tk), pl0, none, none, none, none, none, none, none, none, none, none, none, none] news s)
    (hQ : ∀ pl s', St w mg mb sB L cs lL gL [none, some (.ref lp), some (.int f tf), some (.str lead tl2), none, some (.ref d), some (.ref lr), none, some (.ref lT), some (.ref lF), some (.ref lfl), some (.ref lX), some (.ref le), some (.int (k : Int) tk), pl, none, none, none, none, none, none, none, none, none, none, none, none] news s' → Qf .next s') : wpS (model PR w) A (execs (lawK.drop 5) (envL cs L c1)) Qf E s := by
  have hhi := P.hi
  have hkd := K.d
  have hu := K.u
  have hpl := hpv.length
  have htl := htv.length
  have hfl := hfv.length
  rw [List.length_map, List.length_range] at htl hfl
  obtain ⟨t0, r0⟩ := rv_get hrv (k := 0) (Nat.succ_pos _)
  obtain ⟨t1, r1⟩ := rv_get hrv (k := 1) (Nat.succ_lt_succ (Nat.succ_pos _))
  obtain ⟨ta, ra⟩ := rv_get hrv (k := k) (Nat.lt_of_lt_of_le hk (Nat.le_add_right _ 2))
  obtain ⟨tb, rb⟩ := rv_get hrv (k := k + 1) (Nat.lt_succ_of_lt (Nat.succ_lt_succ hk))
  obtain ⟨tc, rc⟩ := rv_get hrv (k := k + 2) (Nat.add_lt_add_right hk 2)
  obtain ⟨tp, gp⟩ := part_get hpv hk
  obtain ⟨x1, tT, e1, e2⟩ := ints_get htv (k + 2) (by simp)
  obtain ⟨x2, tF, e3, e4⟩ := ints_get hfv (k + 2) (by simp)
  have e1 : tn ps (k + 2) = x1 := by simpa [List.getElem?_range] using e1
  have e3 : fn' ps (k + 2) = x2 := by simpa [List.getElem?_range] using e3
  subst e1 e3
  have r1p := r1_pos P
  have hdec := rk_dec P.pos P.two k hk
  have b0 := rk_bits P (k := 0) (Nat.zero_le _)
  have b1 := rk_bits P (k := 1) (Nat.succ_le_succ (Nat.zero_le _))
  have ba := rk_bits P (k := k) (Nat.le_succ_of_le (Nat.le_of_lt hk))
  have bb := rk_bits P (k := k + 1) (Nat.le_succ_of_le hk)
  have bc := rk_bits P (k := k + 2) (Nat.succ_le_succ hk)
  have bF : Builtin.Int.intBits (-(fn' ps (k + 2))) ≤ 40000 := by rw [show Builtin.Int.intBits (-(fn' ps (k + 2))) = Builtin.Int.intBits (fn' ps (k + 2)) by simp [Builtin.Int.intBits]]; exact cvn_bits P (by decide) (by decide) (Nat.succ_le_succ hk)
  show wpS _ _ (execs (_ :: _) _) _ _ _
  refine S_ifS (S_of ?_)
  (with_reducible refine isTrue_not ?_); (with_reducible refine' isTrue_plain ?_ ?a680q; (case a680q => with_unfolding_all rfl)); (with_reducible refine' Call_ ?_ ?a681q; (case a681q => with_unfolding_all rfl)); (with_reducible refine' rdG ?S682q ?k682q ?_; (case S682q => assumption); (case k682q => walk_at "m_mem")); (with_reducible refine' C_def ?S683q ?f683q ?_ ?a683q ?b683q; (case S683q => assumption); (case f683q => decide); (case a683q => with_unfolding_all rfl); (case b683q => with_unfolding_all rfl)); walk_at "ac"
  refine EvI.run (.atn (by walk_at "m_at") hr (by walk_at "m_at") ra (k1000 (c := 0) hk P.hi (by decide))) S fun t0 s S => ?_
  walk_at "ac"
  refine EvI.run (.atp (c := 1) (by walk_at "m_at") hr (by walk_at "m_at") rb (k1000 hk P.hi (by decide))) S fun t0 s S => ?_
  walk_at "ac"
  refine EvI.run (.atn (by walk_at "m_at") hp (by walk_at "m_at") gp (k1000 (c := 0) hk P.hi (by decide))) S fun t0 s S => ?_
  walk_at "ac"
  refine EvI.run (.atp (c := 2) (by walk_at "m_at") hr (by walk_at "m_at") rc (k1000 hk P.hi (by decide))) S fun t0 s S => ?_
  (with_reducible refine args_nil ?_); (with_reducible refine' And.intro (St.cur ?S685q) ?_; (case S685q => assumption))
  refine fourS S (Nat.le_trans ba (by decide)) (Nat.le_trans bb (by decide)) (Nat.le_trans bc (by decide)) (by walk_at "om") hdec.1 hdec.2 (rk_step f ps k hk) K.h (by walk_at "om") (by walk_at "om") fun s S => ?_
  (with_reducible refine wpAny_truthy_bool ?_)
  refine ⟨fun q => Bool.noConfusion q, fun _ => S_nil ?_⟩
  show wpS _ _ (execs (_ :: _) _) _ _ _
  refine S_ifS (S_of ?_)
  (with_reducible refine' wpAny_isTrue_Compare1 ?_ ?a687q; (case a687q => with_unfolding_all rfl)); (with_reducible refine' Call_ ?_ ?a688q; (case a688q => with_unfolding_all rfl)); (with_reducible refine' rdG ?S689q ?k689q ?_; (case S689q => assumption); (case k689q => walk_at "m_mem")); (with_reducible refine' C_def ?S690q ?f690q ?_ ?a690q ?b690q; (case S690q => assumption); (case f690q => decide); (case a690q => with_unfolding_all rfl); (case b690q => with_unfolding_all rfl)); walk_at "ac"
  refine EvI.run (.mul (.neg (.atl (c := 1) (k := k + 2) (by walk_at "m_at") hF (by decide) hfl e4 (by decide))) (.atc (c := 0) (by walk_at "m_at") hr r0 (by decide)) (PySem.IntMulOk.of_le bF b0 (by decide))) S fun t2 s S => ?_
  walk_at "ac"
  refine EvI.run (.atc (c := 1) (by walk_at "m_at") hr r1 (by decide)) S fun t3 s S => ?_
  (with_reducible refine args_nil ?_); (with_reducible refine' And.intro (St.cur ?S692q) ?_; (case S692q => assumption))
  have bmr : Builtin.Int.intBits (-(fn' ps (k + 2)) * rk f ps 0) ≤ 900000 := Nat.le_trans (bits_mul bF b0) (by decide)
  obtain ⟨c1', c2'⟩ := cc_end P hk
  have c1' : (-(fn' ps (k + 2)) * rk f ps 0).fdiv (rk f ps 1) = -(tn ps (k + 2)) := by rw [← c1']; exact (Int.neg_neg _).symm
  refine (int_dm (Int.ne_of_gt r1p) bmr (Nat.le_trans b1 (by decide))).use S K.h (by walk_at "om") fun p' u1 u2 s S _ _ => ?_
  rw [c1', c2'] at S
  (with_reducible refine Tuple_ ?_); walk_at "ac"
  refine EvI.run (.neg (.atl (c := 1) (k := k + 2) (by walk_at "m_at") (.tail _ hT) (by decide) htl e2 (by decide))) S fun t4 s S => ?_
  walk_at "ac"
  refine EvI.run (.atp (c := 2) (by walk_at "m_at") (.tail _ hr) (by walk_at "m_at") rc (k1000 hk P.hi (by decide))) S fun t5 s S => ?_
  (with_reducible refine args_nil ?_)
  refine newTup S (by size_fits) fun p2 s S h5 h6 => ?_
  refine rcne_tuples (S.get (k := .tup _) (.tail _ (.head _))).tup (S.get (k := .tup _) (.head _)).tup (by walk_at "om") rfl (by simp [IsIS]) (by simp [IsIS]) PR w _ _ ?_
  rw [show veqs _ _ = true by simp [veqs, veq]]
  (with_reducible refine wpAny_truthy_bool ?_)
  exact ⟨fun q => Bool.noConfusion q, fun _ => S_nil (kH K hcs D P hk hpv hxv hp hx hd he hep heq hV hel S.drop.drop hQ)⟩
end
end
section
/- the flat beginning of a version -/
structure Fl (word : Str) (vs : List Value) (ns : List Nat) : Prop where
  len : vs.length = 2 * ns.length
  app : ∀ us ms, VerV word us ms → VerV word (vs ++ us) (ns ++ ms)
theorem Fl.snoc {word : Str} {vs : List Value} {ns : List Nat} {n : Int} {t u : Tok} (h : Fl word vs ns) (h0 : 0 ≤ n) : Fl word (vs ++ [.int 100 t, .int n u]) (ns ++ [n.toNat]) := by
  refine ⟨by simp [h.len]; walk_at "om", fun us ms hu => ?_⟩
  have := h.app (.int 100 t :: .int ((n.toNat : Nat) : Int) u :: us) (n.toNat :: ms) (.num hu)
  rw [Int.toNat_of_nonneg h0] at this
  simpa using this
noncomputable abbrev ends (ps : List Int) (k : Nat) : List (Int × Int × List Nat) := (List.range k).map fun k => (tn ps (k + 2), fn' ps (k + 2), (ps.take (k + 1)).map Int.toNat)
theorem ends_succ (ps : List Int) (k : Nat) : ends ps (k + 1) = ends ps k ++ [(tn ps (k + 2), fn' ps (k + 2), (ps.take (k + 1)).map Int.toNat)] := by
  unfold ends; rw [List.range_succ, List.map_append]; rfl
theorem map_take_snoc {α : Type} {g : Int → α} {ps : List Int} {k : Nat} {x : Int} (h : ps.take (k + 1) = ps.take k ++ [x]) : (ps.take (k + 1)).map g = (ps.take k).map g ++ [g x] := by rw [h, List.map_append]; rfl
/- the order of the lists' addresses -/
structure Ord (c1 lp d lr lT lF lX le it : Nat) : Prop where
  a : c1 < lT
  b : lp < lT
  c : d < lT
  e : lr < lT
  f : lT < lF
  g : lF < lX
  h : lX < le
  i : le < it
noncomputable def InvK (w : World) (mg mb : Str → Option Value) (sB : Shared) (L c1 : Nat) (cs : Scope) (word lead : Str) (ps : List Int) (f : Int) (tf tl2 : Tok) (d lr lp lT lF lX le it : Nat) (dv pv rv : List Value) (k : Nat) (s : Shared) : Prop :=
  ∃ (lfl : Nat) (tv fv flv xv ev : List Value) (Re : List (Nat × Knd)) (kv pl : Option Value), (lF < lfl ∧ lfl ≠ lX ∧ lfl ≠ le ∧ lfl ≠ it) ∧ (∀ p ∈ Re, it < p.1) ∧ IntsAre tv ((List.range (k + 2)).map (tn ps)) ∧ IntsAre fv ((List.range (k + 2)).map (fn' ps)) ∧
    Fl word flv ((ps.take k).map Int.toNat) ∧ StrsAre xv ((ps.take k).map (tx lead)) ∧ EndsR word Re ev (ends ps k) ∧
    St w mg mb sB L cs lL gL [none, some (.ref lp), some (.int f tf), some (.str lead tl2), none, some (.ref d), some (.ref lr), none, some (.ref lT), some (.ref lF), some (.ref lfl), some (.ref lX), some (.ref le), kv, pl, none, none, none, none, none, none, none, none, none, none, none, none]
      ((it, .obj (rgO (k : Int) ((ps.length : Int) - (k : Int)))) :: (lT, .lst tv) :: (lF, .lst fv) :: (lX, .lst xv) :: (le, .lst ev) :: (lfl, .lst flv) :: (lp, .lst pv) :: (c1, .cell none) :: (d, .tup dv) :: (lr, .lst rv) :: Re) s
theorem vals_last {g : Nat → Int} {k : Nat} {vs : List Value} (h : IntsAre vs ((List.range (k + 1)).map g)) {j : Nat} (hj : j ≤ k) : ∃ t, vs[j]? = some (.int (g j) t) := by
  obtain ⟨x, t, e1, e2⟩ := ints_get h j (by rw [List.length_map, List.length_range]; exact Nat.lt_succ_of_le hj)
  have : g j = x := by simpa [List.getElem?_range (Nat.lt_succ_of_le hj)] using e1
  exact ⟨t, by rw [this]; exact e2⟩
theorem ints_next {g : Nat → Int} {k : Nat} {vs : List Value} (h : IntsAre vs ((List.range k).map g)) (t : Tok) {x : Int} (hx : x = g k) : IntsAre (vs ++ [.int x t]) ((List.range (k + 1)).map g) := by
  rw [List.range_succ, List.map_append, hx]
  exact ints_snoc h _ _
section
variable {w : World} {mg mb : Str → Option Value} {sB s s₀ : Shared} {L c1 : Nat} {cs : Scope} {A : Around} {E : Value → Shared → Prop}
variable {z : Nat} {lead sign word : Str} {tl tl2 ts tw tf tk : Tok} {f : Int} {ps : List Int} {d lr le lp lT lF lfl lX it : Nat} {pv xv rv tv fv flv ev : List Value} {pl0 : Option Value} {Re : List (Nat × Knd)}
theorem kB {Qf : Flow → Shared → Prop} (K : AOk A (envL cs L c1)) (hcs : cs = lawSc) (D : Dress z lead sign word) (P : PartsOk ps f) {k : Nat} (hk : k < ps.length) (hpv : IntsAre pv ps) (hrv : IntsAre rv (rs f ps)) (O : Ord c1 lp d lr lT lF lX le it)
    (hfl : it < lfl) (hRe : ∀ p ∈ Re, it < p.1) (htv : IntsAre tv ((List.range (k + 3)).map (tn ps))) (hfv : IntsAre fv ((List.range (k + 3)).map (fn' ps)))
    (hFl : Fl word flv ((ps.take (k + 1)).map Int.toNat)) (hxv : StrsAre xv ((ps.take k).map (tx lead))) (hE : EndsR word Re ev (ends ps k))
    (S : St w mg mb sB L cs lL gL [none, some (.ref lp), some (.int f tf), some (.str lead tl2), none, some (.ref d), some (.ref lr), none, some (.ref lT), some (.ref lF), some (.ref lfl), some (.ref lX), some (.ref le), some (.int (k : Int) tk), pl0, none, none, none, none, none, none, none, none, none, none, none, none] ((it, .obj (rgO ((k + 1 : Nat) : Int) ((ps.length : Int) - ((k + 1 : Nat) : Int)))) :: (lT, .lst tv) :: (lF, .lst fv) :: (lX, .lst xv) :: (le, .lst ev) :: (lfl, .lst flv) :: (lp, .lst pv) :: (c1, .cell none) :: (d, .tup [.str lead tl, .str sign ts, .str word tw]) :: (lr, .lst rv) :: Re) s)
    (hQ : ∀ s', InvK w mg mb sB L c1 cs word lead ps f tf tl2 d lr lp lT lF lX le it [.str lead tl, .str sign ts, .str word tw] pv rv (k + 1) s' → Qf .next s') : wpS (model PR w) A (execs (lawK.drop 3) (envL cs L c1)) Qf E s := by
  obtain ⟨o1, o2, o3, o4, o5, o6, o7, o8⟩ := O
  have nX : ∀ p ∈ Re, p.1 ≠ lX := fun p hp => by have := hRe p hp; walk_at "om"
  have nE : ∀ p ∈ Re, p.1 ≠ le := fun p hp => by have := hRe p hp; walk_at "om"
  have hhi := P.hi
  have hpl := hpv.length
  have htl := htv.length
  have hfl' := hfv.length
  have hxl := hxv.length
  have hel := hE.len
  have hFll := hFl.len
  rw [List.length_map, List.length_range] at htl hfl'
  rw [List.length_map, List.length_take] at hxl hFll
  rw [show (ends ps k).length = k by simp] at hel
  obtain ⟨tp, gp⟩ := part_get hpv hk
  obtain ⟨ta, ra⟩ := vals_last htv (j := k + 2) (Nat.le_refl _)
  obtain ⟨tc, rc⟩ := vals_last hfv (j := k + 2) (Nat.le_refl _)
  have eg : ps.getD k 0 = ps[k] := by simp [List.getD, hk]
  have hmk : ps.getD k 0 ∈ ps := by rw [eg]; exact List.getElem_mem _
  have etake : ps.take (k + 1) = ps.take k ++ [ps.getD k 0] := by rw [List.take_add_one, eg]; simp [hk]
  have ht := tx_facts D (P.nn _ hmk) (part_small P hmk)
  have hll := D.leadLen
  show wpS _ _ (execs (_ :: _) _) _ _ _
  refine S_pre (X_expr S.nm.kf ?_)
  (with_reducible refine' MethodCall_ ?_ ?a696q; (case a696q => with_unfolding_all rfl)); walk_at "n"
  refine methL S (S.get (k := .lst xv) (by walk_at "m_mem")) PySem.F.slot_list_append PySem.F.type_list_append ?_
  (with_reducible refine' callWith_method1 ?_ ?a697q ?b697q; (case a697q => with_unfolding_all rfl); (case b697q => with_unfolding_all rfl)); walk_at "ac"; (with_reducible refine wpAny_BinOp ?_); walk_at "n"; (with_reducible refine' Call_ ?_ ?a699q; (case a699q => with_unfolding_all rfl)); (with_reducible refine' rdG ?S700q ?k700q ?_; (case S700q => assumption); (case k700q => walk_at "m_mem")); (with_reducible refine' callWith_type1 ?_ ?a701q ?b701q; (case a701q => with_unfolding_all rfl); (case b701q => with_unfolding_all rfl)); walk_at "ac"; (with_reducible refine Subscript_ ?_); walk_at "n"; walk_at "n"
  refine itemLR (S.get (k := .lst pv) (by walk_at "m_mem")) (Int.natCast_nonneg k) (k63 hk P.hi) gp ?_
  (with_reducible refine args_nil ?_)
  refine str_of_int_or K.h S.cur.nodigits (fun _ => ?_) (fun h => absurd ht.2.2.2.2.1 (Nat.not_lt.mpr h))
  refine PyProof.Rows.add_str (fun t2 k2 => ?_) (by rw [sizeLine_eq]; have := ht.2.2.2.2.2; show lead.length + (Str.ofString (toString (ps.getD k 0))).length ≤ _; walk_at "om")
  have S := S.tok k2
  (with_reducible refine args_nil ?_)
  refine appL S (by walk_at "m_upd") (by rw [sizeLine_eq]; walk_at "om") fun s S => ⟨(fun a q => nomatch q), S_nk ?_⟩
  have hxv2 := strs_snoc hxv (tx lead (ps.getD k 0)) t2
  rw [← map_take_snoc etake] at hxv2
  show wpS _ _ (execs (_ :: _) _) _ _ _
  refine S_pre (X_expr S.nm.kf ?_)
  (with_reducible refine' MethodCall_ ?_ ?a705q; (case a705q => with_unfolding_all rfl)); walk_at "n"
  refine methL S (S.get (k := .lst ev) (by walk_at "m_mem")) PySem.F.slot_list_append PySem.F.type_list_append ?_
  (with_reducible refine' callWith_method1 ?_ ?a706q ?b706q; (case a706q => with_unfolding_all rfl); (case b706q => with_unfolding_all rfl)); walk_at "ac"; (with_reducible refine Tuple_ ?_); walk_at "ac"
  refine EvI.run (.atl (c := 1) (k := k + 2) (by walk_at "m_at") (by walk_at "m_mem") (by decide) htl ra (by decide)) S fun ta s S => ?_
  walk_at "ac"
  refine EvI.run (.atl (c := 1) (k := k + 2) (by walk_at "m_at") (by walk_at "m_mem") (by decide) hfl' rc (by decide)) S fun tc s S => ?_
  walk_at "ac"; (with_reducible refine wpAny_BinOp ?_); walk_at "n"; (with_reducible refine List_ ?_); walk_at "ac"; ((rename St _ _ _ _ _ _ _ _ _ _ _ => Z0); with_reducible refine E_int Z0 ?_; clear Z0; intro tX sX SX); walk_at "ac"; (with_reducible refine Subscript_ ?_); walk_at "n"; ((rename St _ _ _ _ _ _ _ _ _ _ _ => Z0); with_reducible refine E_int Z0 ?_; clear Z0; intro tX sX SX)
  rename St _ _ _ _ _ _ _ _ _ _ _ => S
  refine itemT (S.get (a := d) (k := .tup _) (by walk_at "m_mem")) (by decide) (by decide) (j := 2) (by rfl) rfl ?_
  (with_reducible refine args_nil ?_)
  refine newLst S (by size_fits) fun m1 s S h1 h2 => ?_
  have S := S.weakL
  refine addL S (S.get (k := .lst flv) (by walk_at "m_mem")) (S.get (.head _)) (by rw [sizeLine_eq]; show flv.length + 2 ≤ _; walk_at "om") fun q s S h3 h4 => ?_
  have hq : it < q := h4.2.1
  have S := S.weakL
  (with_reducible refine args_nil ?_)
  refine newTup S (by size_fits) fun p s S h5 h6 => ?_
  have hp : it < p := h6.2.2.1
  (with_reducible refine args_nil ?_)
  obtain ⟨u1, u2, S⟩ : ∃ u1 u2, St w mg mb sB L cs lL gL [none, some (.ref lp), some (.int f tf), some (.str lead tl2), none, some (.ref d), some (.ref lr), none, some (.ref lT), some (.ref lF), some (.ref lfl), some (.ref lX), some (.ref le), some (.int (k : Int) tk), pl0, none, none, none, none, none, none, none, none, none, none, none, none] ((it, .obj (rgO ((k + 1 : Nat) : Int) ((ps.length : Int) - ((k + 1 : Nat) : Int)))) :: (lT, .lst tv) :: (lF, .lst fv) :: (lX, .lst (xv ++ [.str (tx lead (ps.getD k 0)) t2])) :: (le, .lst ev) :: (lfl, .lst flv) :: (lp, .lst pv) :: (c1, .cell none) :: (d, .tup [.str lead tl, .str sign ts, .str word tw]) :: (lr, .lst rv) :: (p, .tup [.int (tn ps (k + 2)) ta, .int (fn' ps (k + 2)) tc, .ref q]) :: (q, .lst (flv ++ [.int 200 u1, .str word u2])) :: Re) _ := ⟨_, _, S.sub (by walk_at "m_sub")⟩
  clear h1 h2 h3 h4 h5 h6
  refine appL S (by walk_at "m_upd") (by rw [sizeLine_eq]; walk_at "om") fun s S => ⟨(fun a q => nomatch q), S_nk ?_⟩
  have hV : VerV word (flv ++ [.int 200 u1, .str word u2]) ((ps.take (k + 1)).map Int.toNat) := by
    have := hFl.app _ _ (VerV.last (wd := word) (t := u1) (u := u2))
    rwa [List.append_nil] at this
  have hE2 := hE.snoc (p := p) (q := q) (a := tn ps (k + 2)) (b := fn' ps (k + 2)) (t := ta) (u := tc) hV
  rw [← ends_succ] at hE2
  refine kF K hcs D P hk hpv hrv hxv2 htv hfv (news := _) (by walk_at "m_mem") (by walk_at "m_mem") (by walk_at "m_mem") (by walk_at "m_mem") (by walk_at "m_mem") (by walk_at "m_mem") (by walk_at "m_mem") (by walk_at "m_mem") (by walk_at "m_mem") hV (by walk_at "om") S fun pl s' S => hQ s' ?_
  exact ⟨lfl, tv, fv, flv, _, _, _, _, _, ⟨by walk_at "om", by walk_at "om", by walk_at "om", by walk_at "om"⟩, List.forall_mem_cons.mpr ⟨hp, List.forall_mem_cons.mpr ⟨hq, hRe⟩⟩, htv, hfv, hFl, hxv2, hE2, S⟩
theorem kA {Qf : Flow → Shared → Prop} (K : AOk A (envL cs L c1)) (hcs : cs = lawSc) (D : Dress z lead sign word) (P : PartsOk ps f) {k : Nat} (hk : k < ps.length) (hpv : IntsAre pv ps) (hrv : IntsAre rv (rs f ps)) (O : Ord c1 lp d lr lT lF lX le it)
    (hfl : lF < lfl ∧ lfl ≠ lX ∧ lfl ≠ le ∧ lfl ≠ it) (hRe : ∀ p ∈ Re, it < p.1) (htv : IntsAre tv ((List.range (k + 2)).map (tn ps))) (hfv : IntsAre fv ((List.range (k + 2)).map (fn' ps)))
    (hFl : Fl word flv ((ps.take k).map Int.toNat)) (hxv : StrsAre xv ((ps.take k).map (tx lead))) (hE : EndsR word Re ev (ends ps k))
    (S : St w mg mb sB L cs lL gL [none, some (.ref lp), some (.int f tf), some (.str lead tl2), none, some (.ref d), some (.ref lr), none, some (.ref lT), some (.ref lF), some (.ref lfl), some (.ref lX), some (.ref le), some (.int (k : Int) tk), pl0, none, none, none, none, none, none, none, none, none, none, none, none] ((it, .obj (rgO ((k + 1 : Nat) : Int) ((ps.length : Int) - ((k + 1 : Nat) : Int)))) :: (lT, .lst tv) :: (lF, .lst fv) :: (lX, .lst xv) :: (le, .lst ev) :: (lfl, .lst flv) :: (lp, .lst pv) :: (c1, .cell none) :: (d, .tup [.str lead tl, .str sign ts, .str word tw]) :: (lr, .lst rv) :: Re) s)
    (hQ : ∀ s', InvK w mg mb sB L c1 cs word lead ps f tf tl2 d lr lp lT lF lX le it [.str lead tl, .str sign ts, .str word tw] pv rv (k + 1) s' → Qf .next s') : wpS (model PR w) A (execs lawK (envL cs L c1)) Qf E s := by
  obtain ⟨o1, o2, o3, o4, o5, o6, o7, o8⟩ := O
  obtain ⟨f1, f2, f3, f4⟩ := hfl
  have nT : ∀ p ∈ Re, p.1 ≠ lT := fun p hp => by have := hRe p hp; walk_at "om"
  have nF : ∀ p ∈ Re, p.1 ≠ lF := fun p hp => by have := hRe p hp; walk_at "om"
  have nX : ∀ p ∈ Re, p.1 ≠ lX := fun p hp => by have := hRe p hp; walk_at "om"
  have nE : ∀ p ∈ Re, p.1 ≠ le := fun p hp => by have := hRe p hp; walk_at "om"
  have hhi := P.hi
  have hpl := hpv.length
  have htl := htv.length
  have hfl := hfv.length
  have hxl := hxv.length
  have hel := hE.len
  have hFll := hFl.len
  rw [List.length_map, List.length_range] at htl hfl
  rw [List.length_map, List.length_take] at hxl hFll
  rw [show (ends ps k).length = k by simp] at hel
  obtain ⟨tp, gp⟩ := part_get hpv hk
  obtain ⟨ta, ra⟩ := vals_last htv (j := k + 1) (Nat.le_refl _)
  obtain ⟨tb, rb⟩ := vals_last htv (j := k) (Nat.le_succ k)
  obtain ⟨tc, rc⟩ := vals_last hfv (j := k + 1) (Nat.le_refl _)
  obtain ⟨td, rd⟩ := vals_last hfv (j := k) (Nat.le_succ k)
  have bp : Builtin.Int.intBits (ps.getD k 0) ≤ 5301 := nat_bits (part_abs P hk).2
  have ba : Builtin.Int.intBits (tn ps (k + 1)) ≤ 40000 := cvn_bits P (by decide) (by decide) (Nat.le_succ_of_le hk)
  have bc : Builtin.Int.intBits (fn' ps (k + 1)) ≤ 40000 := cvn_bits P (by decide) (by decide) (Nat.le_succ_of_le hk)
  have hp0 := (part_abs P hk).1
  have eg : ps.getD k 0 = ps[k] := by simp [List.getD, hk]
  have hmk : ps.getD k 0 ∈ ps := by rw [eg]; exact List.getElem_mem _
  have etake : ps.take (k + 1) = ps.take k ++ [ps.getD k 0] := by rw [List.take_add_one, eg]; simp [hk]
  show wpS _ _ (execs (_ :: _) _) _ _ _
  refine S_pre (X_expr S.nm.kf ?_)
  (with_reducible refine' MethodCall_ ?_ ?a716q; (case a716q => with_unfolding_all rfl)); walk_at "n"
  refine methL S (S.get (k := .lst tv) (by walk_at "m_mem")) PySem.F.slot_list_append PySem.F.type_list_append ?_
  (with_reducible refine' callWith_method1 ?_ ?a717q ?b717q; (case a717q => with_unfolding_all rfl); (case b717q => with_unfolding_all rfl)); walk_at "ac"
  refine EvI.run (.sub (.mul (.atn (by walk_at "m_at") (by walk_at "m_mem") (by walk_at "m_at") gp (k1000 (c := 0) hk P.hi (by decide))) (.atl (c := 1) (k := k + 1) (by walk_at "m_at") (by walk_at "m_mem") (by decide) htl ra (by decide)) (PySem.IntMulOk.of_le bp ba (by decide))) (.atl (c := 2) (k := k) (by walk_at "m_at") (by walk_at "m_mem") (by decide) htl rb (by decide))) S fun t2 s S => ?_
  (with_reducible refine args_nil ?_)
  refine appL S (by walk_at "m_upd") (by rw [sizeLine_eq]; walk_at "om") fun s S => ⟨(fun a q => nomatch q), S_nk ?_⟩
  show wpS _ _ (execs (_ :: _) _) _ _ _
  refine S_pre (X_expr S.nm.kf ?_)
  (with_reducible refine' MethodCall_ ?_ ?a719q; (case a719q => with_unfolding_all rfl)); walk_at "n"
  refine methL S (S.get (k := .lst fv) (by walk_at "m_mem")) PySem.F.slot_list_append PySem.F.type_list_append ?_
  (with_reducible refine' callWith_method1 ?_ ?a720q ?b720q; (case a720q => with_unfolding_all rfl); (case b720q => with_unfolding_all rfl)); walk_at "ac"
  refine EvI.run (.sub (.mul (.atn (by walk_at "m_at") (by walk_at "m_mem") (by walk_at "m_at") gp (k1000 (c := 0) hk P.hi (by decide))) (.atl (c := 1) (k := k + 1) (by walk_at "m_at") (by walk_at "m_mem") (by decide) hfl rc (by decide)) (PySem.IntMulOk.of_le bp bc (by decide))) (.atl (c := 2) (k := k) (by walk_at "m_at") (by walk_at "m_mem") (by decide) hfl rd (by decide))) S fun t2 s S => ?_
  (with_reducible refine args_nil ?_)
  refine appL S (by walk_at "m_upd") (by rw [sizeLine_eq]; walk_at "om") fun s S => ⟨(fun a q => nomatch q), S_nk ?_⟩
  show wpS _ _ (execs (_ :: _) _) _ _ _
  refine S_pre ?_
  (with_reducible refine' X_asg ?_ ?a722q; (case a722q => with_unfolding_all rfl)); (with_reducible refine wpAny_BinOp ?_); walk_at "n"; (with_reducible refine List_ ?_); walk_at "ac"; ((rename St _ _ _ _ _ _ _ _ _ _ _ => Z0); with_reducible refine E_int Z0 ?_; clear Z0; intro tX sX SX); walk_at "ac"; (with_reducible refine Subscript_ ?_); walk_at "n"; walk_at "n"
  rename St _ _ _ _ _ _ _ _ _ _ _ => S
  refine itemLR (S.get (k := .lst pv) (by walk_at "m_mem")) (Int.natCast_nonneg k) (k63 hk P.hi) gp ?_
  (with_reducible refine args_nil ?_)
  refine newLst S (by size_fits) fun m1 s S h1 h2 => ?_
  have S := S.weakL
  refine addL S (S.get (k := .lst flv) (by walk_at "m_mem")) (S.get (.head _)) (by rw [sizeLine_eq]; show flv.length + 2 ≤ _; walk_at "om") fun m2 s S h3 h4 => ?_
  have hm2 : it < m2 := h4.2.1
  have S := S.weakL
  walk_at "w"
  rename St _ _ _ _ _ _ _ _ _ _ _ => S
  refine S_nk ?_
  obtain ⟨u1, u2, u3, u4, S⟩ : ∃ u1 u2 u3 u4, St w mg mb sB L cs lL gL [none, some (.ref lp), some (.int f tf), some (.str lead tl2), none, some (.ref d), some (.ref lr), none, some (.ref lT), some (.ref lF), some (.ref m2), some (.ref lX), some (.ref le), some (.int (k : Int) tk), pl0, none, none, none, none, none, none, none, none, none, none, none, none] ((it, .obj (rgO ((k + 1 : Nat) : Int) ((ps.length : Int) - ((k + 1 : Nat) : Int)))) :: (lT, .lst (tv ++ [Value.int (ps.getD k 0 * tn ps (k + 1) - tn ps k) u1])) :: (lF, .lst (fv ++ [Value.int (ps.getD k 0 * fn' ps (k + 1) - fn' ps k) u2])) :: (lX, .lst xv) :: (le, .lst ev) :: (m2, .lst (flv ++ [Value.int 100 u3, Value.int (ps.getD k 0) u4])) :: (lp, .lst pv) :: (c1, .cell none) :: (d, .tup [.str lead tl, .str sign ts, .str word tw]) :: (lr, .lst rv) :: Re) _ := ⟨_, _, _, _, S.sub (by walk_at "m_sub")⟩
  have htv2 := ints_next htv u1 (x := ps.getD k 0 * tn ps (k + 1) - tn ps k) rfl
  have hfv2 := ints_next hfv u2 (x := ps.getD k 0 * fn' ps (k + 1) - fn' ps k) rfl
  have hFl2 := hFl.snoc (t := u3) (u := u4) hp0
  generalize tv ++ [Value.int (ps.getD k 0 * tn ps (k + 1) - tn ps k) u1] = tv2 at *
  generalize fv ++ [Value.int (ps.getD k 0 * fn' ps (k + 1) - fn' ps k) u2] = fv2 at *
  generalize flv ++ [Value.int 100 u3, Value.int (ps.getD k 0) u4] = flv2 at *
  rw [← map_take_snoc etake] at hFl2
  clear h1 h2 h3 h4 htl hfl hFll
  exact kB K hcs D P hk hpv hrv ⟨o1, o2, o3, o4, o5, o6, o7, o8⟩ hm2 hRe htv2 hfv2 hFl2 hxv hE S hQ
end
end
section
theorem ends_good {ps : List Int} {f : Int} (P : PartsOk ps f) : ∀ x ∈ ends ps ps.length, Good x := by
  intro x hx
  obtain ⟨k, hk, rfl⟩ := List.mem_map.mp hx
  have hk := List.mem_range.mp hk
  have h := cv_inc P.two k hk
  refine ⟨by show 0 < fn' ps (k + 2); walk_at "om", ?_, ?_, ?_⟩
  · show HJ (tn ps (k + 2)) (fn' ps (k + 2)) (((ps.take (k + 1)).map Int.toNat).map Int.ofNat)
    rw [map_toNat fun p hp => P.nn p (List.mem_of_mem_take hp)]
    exact hj_take P.two hk
  · exact Nat.le_trans (cvn_bits P (by decide) (by decide) (by walk_at "om")) (by decide)
  · exact Nat.le_trans (cvn_bits P (by decide) (by decide) (by walk_at "om")) (by decide)
section
variable {w : World} {mg mb : Str → Option Value} {sB s s₀ : Shared} {L c1 : Nat} {cs : Scope} {A : Around} {E : Value → Shared → Prop}
variable {z : Nat} {lead sign word : Str} {tl tl2 ts tw tf tk : Tok} {f : Int} {ps : List Int} {d lr lp : Nat} {pv rv : List Value}
theorem tailD {Qf : Flow → Shared → Prop} (K : AOk A (envL cs L c1)) (hcs : cs = lawSc) (D : Dress z lead sign word) (P : PartsOk ps f) (hpv : IntsAre pv ps) (hrv : IntsAre rv (rs f ps)) (hc1 : c1 < d ∧ c1 < lr)
    (S : St w mg mb sB L cs lL gL [none, some (.ref lp), some (.int f tf), some (.str lead tl2), none, some (.ref d), some (.ref lr), none, none, none, none, none, none, none, none, none, none, none, none, none, none, none, none, none, none, none, none]
      [(lp, .lst pv), (c1, .cell none), (d, .tup [.str lead tl, .str sign ts, .str word tw]), (lr, .lst rv)] s)
    (hQ : ∀ s', Same sB s' → Keep sB.heap s'.heap → Tb s'.heap → Qf (.ret (.bool true)) s') : wpS (model PR w) A (execs (lawB.drop 7) (envL cs L c1)) Qf E s := by
  have hhi := P.hi
  have hlo := P.lo
  have hpl := hpv.length
  show wpS _ _ (execs (_ :: _) _) _ _ _
  refine S_pre ?_
  (with_reducible refine' X_tup ?_ ?a728q ?b728q; (case a728q => with_unfolding_all rfl); (case b728q => with_unfolding_all rfl)); (with_reducible refine Tuple_ ?_); walk_at "ac"; (with_reducible refine List_ ?_); walk_at "ac"; ((rename St _ _ _ _ _ _ _ _ _ _ _ => Z0); with_reducible refine E_int Z0 ?_; clear Z0; intro tX sX SX); walk_at "ac"; ((rename St _ _ _ _ _ _ _ _ _ _ _ => Z0); with_reducible refine E_int Z0 ?_; clear Z0; intro tX sX SX); (with_reducible refine args_nil ?_)
  rename St _ _ _ _ _ _ _ _ _ _ _ => S
  refine newLst S (by size_fits) fun lT s S a1 b1 => ?_
  have S := S.weakL
  walk_at "ac"; (with_reducible refine List_ ?_); walk_at "ac"; (with_reducible refine UnaryOp_ ?_); ((rename St _ _ _ _ _ _ _ _ _ _ _ => Z0); with_reducible refine E_int Z0 ?_; clear Z0; intro tX sX SX); ((rename St _ _ _ _ _ _ _ _ _ _ _ => Z0); with_reducible refine O_neg Z0 ?_; clear Z0; intro tX sX SX); walk_at "ac"; ((rename St _ _ _ _ _ _ _ _ _ _ _ => Z0); with_reducible refine E_int Z0 ?_; clear Z0; intro tX sX SX); (with_reducible refine args_nil ?_)
  rename St _ _ _ _ _ _ _ _ _ _ _ => S
  refine newLst S (by size_fits) fun lF s S a2 b2 => ?_
  have S := S.weakL
  walk_at "ac"; (with_reducible refine List_ ?_); (with_reducible refine args_nil ?_)
  refine newLst S (by size_fits) fun lfl s S a3 b3 => ?_
  have S := S.weakL
  walk_at "ac"; (with_reducible refine List_ ?_); (with_reducible refine args_nil ?_)
  refine newLst S (by size_fits) fun lX s S a4 b4 => ?_
  have S := S.weakL
  walk_at "ac"; (with_reducible refine List_ ?_); (with_reducible refine args_nil ?_)
  refine newLst S (by size_fits) fun le s S a5 b5 => ?_
  have S := S.weakL
  (with_reducible refine args_nil ?_)
  refine newTup S (by size_fits) fun p0 s S a6 b6 => ?_
  have q1 : lp < lT := b1.1
  have q2 : c1 < lT := b1.2.1
  have q3 : d < lT := b1.2.2.1
  have q4 : lr < lT := b1.2.2.2.1
  have q5 : lT < lF := b2.1
  have q6 : lF < lfl := b3.1
  have q7 : lfl < lX := b4.1
  have q8 : lX < le := b5.1
  clear b1 b2 b3 b4 b5 b6
  refine assign_Tuple_tuple (items := #[.ref lT, .ref lF, .ref lfl, .ref lX, .ref le]) K.h (S.get (.head _)).tup rfl rfl fun h' he => ?_
  have S := S.call (s' := { s with heap := h' }) ⟨_, _, rfl⟩ (fun b o _ _ e => he b o (Nat.ne_of_lt (Heap.lt_size e)) e) (S.tb.keeps fun b o e => he b o (Nat.ne_of_lt (Heap.lt_size e)) e)
  show wpAny _ A (assignInOrder [assign (.Name "tops" _) _, assign (.Name "feet" _) _, assign (.Name "flat" _) _, assign (.Name "texts" _) _, assign (.Name "ends" _) _] [.ref lT, .ref lF, .ref lfl, .ref lX, .ref le]) _ _ _
  refine assignInOrder_cons (assign_Name ?_)
  walk_at "w"
  refine assignInOrder_cons (assign_Name ?_)
  walk_at "w"
  refine assignInOrder_cons (assign_Name ?_)
  walk_at "w"
  refine assignInOrder_cons (assign_Name ?_)
  walk_at "w"
  refine assignInOrder_cons (assign_Name ?_)
  walk_at "w"
  refine assignInOrder_nil ?_
  rename St _ _ _ _ _ _ _ _ _ _ _ => S
  have S := S.drop
  refine S_nk ?_
  show wpS _ _ (execs (_ :: _) _) _ _ _
  refine S_for (fun itv n s' => ∃ (it k : Nat), itv = .ref it ∧ n + k = ps.length ∧ Ord c1 lp d lr lT lF lX le it ∧ InvK w mg mb sB L c1 cs word lead ps f tf tl2 d lr lp lT lF lX le it [.str lead tl, .str sign ts, .str word tw] pv rv k s') ?_ ?_
  · (with_reducible refine' Call_ ?_ ?a747q; (case a747q => with_unfolding_all rfl)); (with_reducible refine' rdG ?S748q ?k748q ?_; (case S748q => assumption); (case k748q => walk_at "m_mem")); (with_reducible refine' callWith_type1 ?_ ?a749q ?b749q; (case a749q => with_unfolding_all rfl); (case b749q => with_unfolding_all rfl)); walk_at "ac"; (with_reducible refine' Call_ ?_ ?a750q; (case a750q => with_unfolding_all rfl)); (with_reducible refine' rdG ?S751q ?k751q ?_; (case S751q => assumption); (case k751q => walk_at "m_mem")); (with_reducible refine' callWith_builtin1 ?_ ?a752q ?b752q; (case a752q => with_unfolding_all rfl); (case b752q => with_unfolding_all rfl)); walk_at "ac"; walk_at "n"; (with_reducible refine args_nil ?_)
    refine lenL S (S.get (k := .lst pv) (by walk_at "m_mem")) (by walk_at "om") fun t s S => ?_
    (with_reducible refine args_nil ?_)
    have hrs : Builtin.Range.rangeSize 0 (pv.length : Int) 1 = (ps.length : Int) - ((0 : Nat) : Int) ∧ Builtin.Range.small 0 (pv.length : Int) 1 = true := by
      rw [hpl]
      have : ps.length = 3 ∨ ps.length = 4 ∨ ps.length = 5 := by walk_at "om"
      rcases this with h | h | h <;> rw [h] <;> exact ⟨by decide, by decide⟩
    refine range1S S hrs.2 fun r s' S hit => hit _ fun it s'' S a7 b7 => ?_
    rw [hrs.1] at S
    have q9 : le < it := b7.1
    clear b7
    have S := S.sub (news' := [(it, .obj (rgO 0 ((ps.length : Int) - ((0 : Nat) : Int)))), (lT, .lst [.int 0 _, .int 1 _]), (lF, .lst [.int (-1) _, .int 0 _]), (lX, .lst []), (le, .lst []), (lfl, .lst []), (lp, .lst pv), (c1, .cell none), (d, .tup [.str lead tl, .str sign ts, .str word tw]), (lr, .lst rv)]) (by walk_at "m_sub")
    exact ⟨ps.length, it, 0, rfl, rfl, ⟨by walk_at "om", by walk_at "om", by walk_at "om", by walk_at "om", by walk_at "om", by walk_at "om", by walk_at "om", by walk_at "om"⟩, lfl, _, _, [], [], [], [], none, none, ⟨by walk_at "om", by walk_at "om", by walk_at "om", by walk_at "om"⟩, List.forall_mem_nil _, .cons 0 _ (.cons 1 _ .nil), .cons (-1) _ (.cons 0 _ .nil), ⟨rfl, fun us ms h => h⟩, .nil, .nil, S⟩
  intro itv n s' hI9
  refine byc fun hno => ?_
  obtain ⟨it, k, rfl, hn, O, lfl, tv, fv, flv, xv, ev, Re, kv, pl, hfl, hRe, htv, hfv, hFl, hxv, hE, S⟩ := hI9
  refine hno ?_
  clear hno
  have O' := O
  refine byc fun hno => ?_
  obtain ⟨o1, o2, o3, o4, o5, o6, o7, o8⟩ := O'
  refine hno ?_
  clear hno
  refine byc fun hno => ?_
  obtain ⟨f1, f2, f3, f4⟩ := hfl
  refine hno ?_
  clear hno
  have nI : ∀ p ∈ Re, p.1 ≠ it := fun p hp => by have := hRe p hp; walk_at "om"
  cases n with
  | zero =>
    have hk : k = ps.length := by walk_at "om"
    subst hk
    refine endRg S K.h (by walk_at "om") (by walk_at "m_all") fun s' S => ?_
    have S := S.sub (news' := (c1, .cell none) :: (d, .tup [.str lead tl, .str sign ts, .str word tw]) :: (lr, .lst rv) :: (le, .lst ev) :: Re) (by walk_at "m_sub")
    exact tailE K hcs (S.le (by walk_at "m_le")) (List.forall_mem_cons.mpr ⟨hc1.1, List.forall_mem_cons.mpr ⟨hc1.2, List.forall_mem_cons.mpr ⟨show c1 < le by walk_at "om", fun p hp => by have := hRe p hp; walk_at "om"⟩⟩⟩) D P hrv hE rfl (ends_good P) hQ
  | succ n =>
    refine nextRg S (.head (by walk_at "m_all")) (by walk_at "om") fun tm s' S => letGoName (assign_Name ?_)
    rw [show ((k : Int) + 1) = ((k + 1 : Nat) : Int) by walk_at "om", show ((ps.length : Int) - (k : Int) - 1) = (ps.length : Int) - ((k + 1 : Nat) : Int) by walk_at "om"] at S
    walk_at "w"
    rename St _ _ _ _ _ _ _ _ _ _ _ => S
    exact kA K hcs D P (by walk_at "om") hpv hrv O ⟨f1, f2, f3, f4⟩ hRe htv hfv hFl hxv hE S fun s' hI => ⟨n, by walk_at "om", it, k + 1, rfl, by walk_at "om", O, hI⟩
end
end
section
section
variable {w : World} {mg mb : Str → Option Value} {sB s s₀ : Shared} {L c1 : Nat} {cs : Scope} {A : Around} {E : Value → Shared → Prop}
variable {z : Nat} {lead sign word : Str} {tl tl2 ts tw tf tk : Tok} {f : Int} {ps : List Int} {d lr lp : Nat} {pv rv : List Value}
theorem rs_at {ps : List Int} {f : Int} {rv : List Value} {k : Nat} (hk : k ≤ ps.length) (h : IntsAre rv (rs f (ps.drop k))) {j : Nat} (hj : j < 2) : ∃ t, rv[j]? = some (.int (rk f ps (k + j)) t) := by
  obtain ⟨x, t, e1, e2⟩ := ints_get h j (by rw [rs_length]; exact Nat.lt_of_lt_of_le hj (Nat.le_add_left 2 _))
  refine ⟨t, ?_⟩
  have : rk f ps (k + j) = x := by rw [rk_drop f ps k j hk]; unfold rk; simp [List.getD, e1]
  rw [this]; exact e2
theorem tailC {Qf : Flow → Shared → Prop} (K : AOk A (envL cs L c1)) (hcs : cs = lawSc) (D : Dress z lead sign word) (P : PartsOk ps f) (hpv : IntsAre pv ps) (hc1 : c1 < d ∧ c1 < lp)
    (S : St w mg mb sB L cs lL gL [none, some (.ref lp), some (.int f tf), some (.str lead tl2), none, some (.ref d), none, none, none, none, none, none, none, none, none, none, none, none, none, none, none, none, none, none, none, none, none]
      [(lp, .lst pv), (c1, .cell none), (d, .tup [.str lead tl, .str sign ts, .str word tw])] s)
    (hQ : ∀ s', Same sB s' → Keep sB.heap s'.heap → Tb s'.heap → Qf (.ret (.bool true)) s') : wpS (model PR w) A (execs (lawB.drop 4) (envL cs L c1)) Qf E s := by
  have hhi := P.hi
  have hlo := P.lo
  have hpl := hpv.length
  have hkd := K.d
  show wpS _ _ (execs (_ :: _) _) _ _ _
  refine S_pre ?_
  (with_reducible refine' X_asg ?_ ?a755q; (case a755q => with_unfolding_all rfl)); (with_reducible refine List_ ?_); walk_at "ac"; walk_at "n"; walk_at "ac"; ((rename St _ _ _ _ _ _ _ _ _ _ _ => Z0); with_reducible refine E_int Z0 ?_; clear Z0; intro tX sX SX); (with_reducible refine args_nil ?_)
  rename St _ _ _ _ _ _ _ _ _ _ _ => S
  refine newLst S (by size_fits) fun lr0 s S a1 b1 => ?_
  have S := S.weakL
  walk_at "w"
  rename St _ _ _ _ _ _ _ _ _ _ _ => S
  refine S_nk ?_
  show wpS _ _ (execs (_ :: _) _) _ _ _
  have q1 : lp < lr0 := b1.1
  have q2 : c1 < lr0 := b1.2.1
  have q3 : d < lr0 := b1.2.2.1
  clear b1
  refine S_for (fun itv n s' => ∃ (it l2 j lr : Nat) (rv : List Value) (pt : Option Value), itv = .ref it ∧ n + j = ps.length ∧ lp < it ∧ c1 < it ∧ d < it ∧ l2 < it ∧ lr ≠ it ∧ c1 < lr ∧ IntsAre rv (rs f (ps.drop (ps.length - j))) ∧
      St w mg mb sB L cs lL gL [none, some (.ref lp), some (.int f tf), some (.str lead tl2), none, some (.ref d), some (.ref lr), pt, none, none, none, none, none, none, none, none, none, none, none, none, none, none, none, none, none, none, none]
        [(it, .it l2 j), (lr, .lst rv), (l2, .lst pv.reverse), (lp, .lst pv), (c1, .cell none), (d, .tup [.str lead tl, .str sign ts, .str word tw])] s') ?_ ?_
  · (with_reducible refine Subscript_ ?_); walk_at "n"; (with_reducible refine wpAny_Slice ?_); (with_reducible refine P_none ?_); (with_reducible refine P_none ?_); (with_reducible refine P_some ?_); (with_reducible refine UnaryOp_ ?_); ((rename St _ _ _ _ _ _ _ _ _ _ _ => Z0); with_reducible refine E_int Z0 ?_; clear Z0; intro tX sX SX); ((rename St _ _ _ _ _ _ _ _ _ _ _ => Z0); with_reducible refine O_neg Z0 ?_; clear Z0; intro tX sX SX)
    rename St _ _ _ _ _ _ _ _ _ _ _ => S
    refine sliceL S (S.get (k := .lst pv) (by walk_at "m_mem")) .none .none (.int (-1) _) (by decide) (by rw [sizeLine_eq]; walk_at "om") (ws := pv.reverse) (PySem.W.krv_pick pv.toArray) fun l2 s S a2 b2 => ?_
    have S := S.weakL
    have q4 : lr0 < l2 := b2.1
    refine iterLst S (S.get (.head _)) fun it s' S a3 b3 => ?_
    have q5 : l2 < it := b3.1
    refine ⟨ps.length, it, l2, 0, lr0, [.int f tf, .int 0 _], none, rfl, rfl, by walk_at "om", by walk_at "om", by walk_at "om", by walk_at "om", by walk_at "om", by walk_at "om", ?_, S.sub (by walk_at "m_sub")⟩
    rw [Nat.sub_zero, List.drop_length]
    exact .cons f tf (.cons 0 _ .nil)
  intro itv n s' hI9
  refine byc fun hno => ?_
  obtain ⟨it, l2, j, lr, rv, pt, rfl, hn, o1, o2, o3, o4, o5, o6, hrv, S⟩ := hI9
  refine hno ?_
  clear hno
  cases n with
  | zero =>
    have hj : j = ps.length := by walk_at "om"
    subst hj
    rw [Nat.sub_self, List.drop_zero] at hrv
    refine endLst S K.h (S.get (k := .lst pv.reverse) (by walk_at "m_mem")) (by rw [List.length_reverse]; walk_at "om") (by walk_at "m_all") fun s' S => ?_
    obtain ⟨t0, r0⟩ := rv_get hrv (k := 0) (by walk_at "om")
    show wpS _ _ (execs (_ :: _) _) _ _ _
    refine S_ifS (S_of (isTrue_or ?_))
    (with_reducible refine isTrue_not ?_); (with_reducible refine' isTrue_plain ?_ ?a768q; (case a768q => with_unfolding_all rfl)); (with_reducible refine' Call_ ?_ ?a769q; (case a769q => with_unfolding_all rfl)); (with_reducible refine' rdG ?S770q ?k770q ?_; (case S770q => assumption); (case k770q => walk_at "m_mem")); (with_reducible refine' C_def ?S771q ?f771q ?_ ?a771q ?b771q; (case S771q => assumption); (case f771q => decide); (case a771q => with_unfolding_all rfl); (case b771q => with_unfolding_all rfl)); walk_at "ac"
    refine EvI.run (.atc (c := 0) (by walk_at "m_at") (by walk_at "m_mem") r0 (by decide)) S fun t2 s S => ?_
    (with_reducible refine args_nil ?_); (with_reducible refine' And.intro (St.cur ?S773q) ?_; (case S773q => assumption))
    refine refS S K.f rfl (by show cs.kind ≠ _; rw [S.nm.kf]; decide) K.h (by walk_at "om") fun s S => ?_
    (with_reducible refine wpAny_truthy_bool ?_)
    show wpAny _ _ _ _ _ _
    refine isTrue_or ?_
    (with_reducible refine isTrue_not ?_); (with_reducible refine' isTrue_plain ?_ ?a776q; (case a776q => with_unfolding_all rfl)); (with_reducible refine' Call_ ?_ ?a777q; (case a777q => with_unfolding_all rfl)); (with_reducible refine' rdG ?S778q ?k778q ?_; (case S778q => assumption); (case k778q => walk_at "m_mem")); (with_reducible refine' C_def ?S779q ?f779q ?_ ?a779q ?b779q; (case S779q => assumption); (case f779q => decide); (case a779q => with_unfolding_all rfl); (case b779q => with_unfolding_all rfl)); walk_at "ac"; ((rename St _ _ _ _ _ _ _ _ _ _ _ => Z0); with_reducible refine E_int Z0 ?_; clear Z0; intro tX sX SX); (with_reducible refine args_nil ?_); (with_reducible refine' And.intro (St.cur ?S782q) ?_; (case S782q => assumption))
    rename St _ _ _ _ _ _ _ _ _ _ _ => S
    refine refS S K.f rfl (by show cs.kind ≠ _; rw [S.nm.kf]; decide) K.h (by walk_at "om") fun s S => ?_
    (with_reducible refine wpAny_truthy_bool ?_)
    show wpAny _ _ _ _ _ _
    refine isTrue_or_nil ⟨fun q => Bool.noConfusion q, fun _ => S_nil ?_⟩
    exact tailD K hcs D P hpv hrv ⟨hc1.1, o6⟩ ((S.sub (news' := [(lp, .lst pv), (c1, .cell none), (d, .tup [.str lead tl, .str sign ts, .str word tw]), (lr, .lst rv)]) (by walk_at "m_sub")).le (by walk_at "m_le")) hQ
  | succ n =>
    have hj : ps.length - (j + 1) < ps.length := Nat.sub_lt (Nat.lt_of_lt_of_le (by decide) hlo) (Nat.succ_pos j)
    have hj1 : j + 1 ≤ ps.length := by rw [← hn, Nat.add_right_comm]; exact Nat.succ_le_succ (Nat.le_add_left ..)
    obtain ⟨tp, gp⟩ := part_get hpv hj
    have gr : pv.reverse[j]? = some (.int (ps.getD (ps.length - (j + 1)) 0) tp) := by
      rw [List.getElem?_reverse (by rw [hpl]; exact hj1), hpl, Nat.sub_sub, Nat.add_comm 1 j]; exact gp
    refine nextLst S (.head (by walk_at "m_all")) (S.get (k := .lst pv.reverse) (by walk_at "m_mem")) gr fun s' S => letGoName (assign_Name ?_)
    walk_at "w"
    obtain ⟨t0, r0⟩ := rs_at (Nat.sub_le ..) hrv (j := 0) (by decide)
    obtain ⟨t1, r1⟩ := rs_at (Nat.sub_le ..) hrv (j := 1) (by decide)
    have bp : Builtin.Int.intBits (ps.getD (ps.length - (j + 1)) 0) ≤ 5301 := nat_bits (part_abs P hj).2
    have b0 := rk_bits P (k := ps.length - j + 0) (Nat.le_succ_of_le (Nat.sub_le ..))
    have hrl := hrv.length
    rw [rs_length, List.length_drop] at hrl
    have hstep : rs f (ps.drop (ps.length - (j + 1))) = (ps.getD (ps.length - (j + 1)) 0 * rk f ps (ps.length - j + 0) - rk f ps (ps.length - j + 1)) :: rs f (ps.drop (ps.length - j)) := by
      rw [List.drop_eq_getElem_cons hj, rs, subs1 hj1, rk_drop f ps _ 0 (Nat.sub_le ..), rk_drop f ps _ 1 (Nat.sub_le ..)]
      have : ps.getD (ps.length - (j + 1)) 0 = ps[ps.length - (j + 1)] := by simp [List.getD, hj]
      rw [this]; rfl
    show wpS _ _ (execs (_ :: _) _) _ _ _
    refine S_pre ?_
    (with_reducible refine' X_asg ?_ ?a784q; (case a784q => with_unfolding_all rfl)); (with_reducible refine wpAny_BinOp ?_); (with_reducible refine List_ ?_); walk_at "ac"
    rename St _ _ _ _ _ _ _ _ _ _ _ => S
    refine EvI.run (.sub (.mul (.name (by walk_at "m_at")) (.atc (c := 0) (by walk_at "m_at") (by walk_at "m_mem") r0 (by decide)) (PySem.IntMulOk.of_le bp b0 (by decide))) (.atc (c := 1) (by walk_at "m_at") (by walk_at "m_mem") r1 (by decide))) S fun t2 s S => ?_
    (with_reducible refine args_nil ?_)
    rename St _ _ _ _ _ _ _ _ _ _ _ => S
    refine newLst S (by size_fits) fun m1 s S a4 b4 => ?_
    have S := S.weakL
    walk_at "n"
    refine addL S (S.get (.head _)) (S.get (k := .lst rv) (by walk_at "m_mem")) (by rw [sizeLine_eq]; show 1 + rv.length ≤ _; exact Nat.le_trans (Nat.add_le_add_left (hrl ▸ Nat.add_le_add_right (Nat.le_trans (Nat.sub_le ..) hhi) 2 : rv.length ≤ 5 + 2) 1) (by decide)) fun m2 s S a5 b5 => ?_
    have S := S.weakL
    walk_at "w"
    rename St _ _ _ _ _ _ _ _ _ _ _ => S
    have q6 : it < m2 := b5.2.1
    refine S_nk (S_nil ⟨n, by walk_at "om", it, l2, j + 1, m2, _, _, rfl, by walk_at "om", o1, o2, o3, o4, by walk_at "om", by walk_at "om", ?_, S.sub (by walk_at "m_sub")⟩)
    rw [hstep]
    exact .cons _ _ hrv
end
end
section
noncomputable abbrev leadT (n : Nat) : Str := Txt.mul (Str.ofString "0") ((n % 3 : Nat) : Int)
noncomputable abbrev signT (n : Nat) : Str := Txt.mul (Txt.item (Str.ofString "._+-") ((n % 4 : Nat) : Int)) (1 + ((n / 4 % 2 : Nat) : Int))
noncomputable abbrev wordT (n : Nat) : Str := if n % 2 = 0 then Str.ofString "pl" else Str.ofString "p"
theorem lead_ok : ∀ z, z < 3 → MulOk (Str.ofString "0") ((z : Nat) : Int) ∧ (Txt.mul (Str.ofString "0") ((z : Nat) : Int)).cps.toList = List.replicate z 48 := by
  intro z hz
  have : z = 0 ∨ z = 1 ∨ z = 2 := by walk_at "om"
  rcases this with rfl | rfl | rfl <;> exact ⟨by unfold MulOk; decide +kernel, by decide +kernel⟩
theorem sign_ok : ∀ i, i < 4 → ∀ r, r < 2 → MulOk (Txt.item (Str.ofString "._+-") ((i : Nat) : Int)) (1 + ((r : Nat) : Int)) ∧ (Txt.mul (Txt.item (Str.ofString "._+-") ((i : Nat) : Int)) (1 + ((r : Nat) : Int))).cps.toList ≠ [] ∧
    (∀ c ∈ (Txt.mul (Txt.item (Str.ofString "._+-") ((i : Nat) : Int)) (1 + ((r : Nat) : Int))).cps.toList, c = 46 ∨ c = 95 ∨ c = 43 ∨ c = 45) ∧ (Txt.mul (Txt.item (Str.ofString "._+-") ((i : Nat) : Int)) (1 + ((r : Nat) : Int))).length ≤ 2 := by
  intro i hi r hr
  have h1 : i = 0 ∨ i = 1 ∨ i = 2 ∨ i = 3 := by walk_at "om"
  have h2 : r = 0 ∨ r = 1 := by walk_at "om"
  rcases h1 with rfl | rfl | rfl | rfl <;> rcases h2 with rfl | rfl <;> exact ⟨by unfold MulOk; decide +kernel, by decide +kernel, by decide +kernel, by decide +kernel⟩
theorem dress_ok (n : Nat) : Dress (n % 3) (leadT n) (signT n) (wordT n) := by
  have h1 := lead_ok (n % 3) (Nat.mod_lt _ (by decide))
  have h2 := sign_ok (n % 4) (Nat.mod_lt _ (by decide)) (n / 4 % 2) (Nat.mod_lt _ (by decide))
  refine ⟨h1.2, by have := Nat.mod_lt n (show 0 < 3 by decide); walk_at "om", h2.2.1, h2.2.2.1, h2.2.2.2, ?_⟩
  unfold wordT
  split
  · exact .inl (by decide +kernel)
  · exact .inr (by decide +kernel)
theorem fmod_nat (n m : Nat) : (n : Int).fmod (m : Int) = ((n % m : Nat) : Int) := by
  rw [Int.fmod_eq_emod_of_nonneg _ (by walk_at "om")]; rfl
theorem fdiv_nat (n m : Nat) : (n : Int).fdiv (m : Int) = ((n / m : Nat) : Int) := by
  rw [Int.fdiv_eq_ediv_of_nonneg _ (by walk_at "om")]; rfl
section
variable {w : World} {mg mb : Str → Option Value} {sB s s₀ : Shared} {L c1 : Nat} {cs : Scope} {A : Around} {E : Value → Shared → Prop}
theorem O_fdiv {locs : List Str} {globs : List (Str × Value)} {vals : List (Option Value)} {news : List (Nat × Knd)} {Q : Value → Shared → Prop} {a b : Int} {t u : Tok} (S : St w mg mb sB L cs locs globs vals news s) (hb : b ≠ 0) (hp : Builtin.divisionGoesByPylong a b = false)
    (h : ∀ t s', St w mg mb sB L cs locs globs vals news s' → Q (.int (a.fdiv b) t) s') : wpAny (model PR w) A (binaryOp .FloorDiv (.int a t) (.int b u)) Q E s := PyProof.Rows.floordiv_int hb (h _ _ (S.tok _)) (.inl hp)
theorem bodyL {Qf : Flow → Shared → Prop} {l : Nat} {vs : List Value} {ns : List Int} (K : AOk A (envL cs L c1)) (hcs : cs = lawSc) (hI : IntsAre vs ns) (hlen : ns.length ≤ 63) (hl58 : 58 < l) (hc : c1 = L + 1)
    (S : St w mg mb sB L cs lL gL [some (.ref l), none, none, none, none, none, none, none, none, none, none, none, none, none, none, none, none, none, none, none, none, none, none, none, none, none, none] [(l, .old (.lst vs)), (c1, .cell none)] s)
    (hQ : ∀ s', Same sB s' → Keep sB.heap s'.heap → Tb s'.heap → Qf (.ret (.bool true)) s') : wpS (model PR w) A (execs lawB (envL cs L c1)) Qf E s := by
  have hkd := K.d
  have hnl := hI.length
  have hl1 := lead_ok (vs.length % 3) (Nat.mod_lt _ (by decide))
  have hs1 := sign_ok (vs.length % 4) (Nat.mod_lt _ (by decide)) (vs.length / 4 % 2) (Nat.mod_lt _ (by decide))
  show wpS _ _ (execs (_ :: _) _) _ _ _
  refine S_pre ?_
  (with_reducible refine' X_tup ?_ ?a788q ?b788q; (case a788q => with_unfolding_all rfl); (case b788q => with_unfolding_all rfl)); (with_reducible refine' Call_ ?_ ?a789q; (case a789q => with_unfolding_all rfl)); (with_reducible refine' rdG ?S790q ?k790q ?_; (case S790q => assumption); (case k790q => walk_at "m_mem")); (with_reducible refine' C_def ?S791q ?f791q ?_ ?a791q ?b791q; (case S791q => assumption); (case f791q => decide); (case a791q => with_unfolding_all rfl); (case b791q => with_unfolding_all rfl)); walk_at "ac"; walk_at "n"; (with_reducible refine args_nil ?_); (with_reducible refine' And.intro (St.cur ?S793q) ?_; (case S793q => assumption))
  refine law_parts (S.get (k := .old (.lst vs)) (by walk_at "m_mem")).unold hl58 hI hlen S.cur S.tb K.h (by walk_at "om") fun p lp vq ps f t s' e k tb hfp hip hfl hil hlt hIq P => ?_
  have hlp := (S.freshOf hfl).2
  simp only [LtAll, and_true] at hlp
  have hlp1 : c1 < lp := hlp.2
  have S := (S.got e k tb hfl hil).add hip (S.freshOf hfp).1
  refine asgT2 S K.h (.head _) (by walk_at "m_put") (by walk_at "m_put") fun s S => ?_
  have S := S.drop
  clear hip hil hfp hfl e k tb
  refine S_nk ?_
  show wpS _ _ (execs (_ :: _) _) _ _ _
  refine S_pre ?_
  (with_reducible refine' X_asg ?_ ?a794q; (case a794q => with_unfolding_all rfl)); (with_reducible refine wpAny_BinOp ?_)
  refine E_str (x := Str.ofString "0") S fun t1 s S => ?_
  (with_reducible refine wpAny_BinOp ?_); (with_reducible refine' Call_ ?_ ?a797q; (case a797q => with_unfolding_all rfl)); (with_reducible refine' rdG ?S798q ?k798q ?_; (case S798q => assumption); (case k798q => walk_at "m_mem")); (with_reducible refine' callWith_builtin1 ?_ ?a799q ?b799q; (case a799q => with_unfolding_all rfl); (case b799q => with_unfolding_all rfl)); walk_at "ac"; walk_at "n"; (with_reducible refine args_nil ?_)
  rename St _ _ _ _ _ _ _ _ _ _ _ => S
  refine lenL S (S.get (k := .old (.lst vs)) (by walk_at "m_mem")).unold (by walk_at "om") fun t2 s S => ?_
  ((rename St _ _ _ _ _ _ _ _ _ _ _ => Z0); with_reducible refine E_int Z0 ?_; clear Z0; intro tX sX SX)
  rename St _ _ _ _ _ _ _ _ _ _ _ => S
  refine O_mod S (by decide) fun t3 s S => ?_
  rw [show ((vs.length : Int).fmod 3) = ((vs.length % 3 : Nat) : Int) from fmod_nat _ 3]
  refine SB.mul hl1.1 fun t4 k4 => ?_
  have S := S.tok k4
  walk_at "w"
  rename St _ _ _ _ _ _ _ _ _ _ _ => S
  refine S_nk ?_
  show wpS _ _ (execs (_ :: _) _) _ _ _
  refine S_pre ?_
  (with_reducible refine' X_asg ?_ ?a802q; (case a802q => with_unfolding_all rfl)); (with_reducible refine wpAny_BinOp ?_); (with_reducible refine Subscript_ ?_)
  refine E_str (x := Str.ofString "._+-") S fun t1 s S => ?_
  (with_reducible refine wpAny_BinOp ?_); (with_reducible refine' Call_ ?_ ?a806q; (case a806q => with_unfolding_all rfl)); (with_reducible refine' rdG ?S807q ?k807q ?_; (case S807q => assumption); (case k807q => walk_at "m_mem")); (with_reducible refine' callWith_builtin1 ?_ ?a808q ?b808q; (case a808q => with_unfolding_all rfl); (case b808q => with_unfolding_all rfl)); walk_at "ac"; walk_at "n"; (with_reducible refine args_nil ?_)
  rename St _ _ _ _ _ _ _ _ _ _ _ => S
  refine lenL S (S.get (k := .old (.lst vs)) (by walk_at "m_mem")).unold (by walk_at "om") fun t2 s S => ?_
  ((rename St _ _ _ _ _ _ _ _ _ _ _ => Z0); with_reducible refine E_int Z0 ?_; clear Z0; intro tX sX SX)
  rename St _ _ _ _ _ _ _ _ _ _ _ => S
  refine O_mod S (by decide) fun t3 s S => ?_
  rw [show ((vs.length : Int).fmod 4) = ((vs.length % 4 : Nat) : Int) from fmod_nat _ 4]
  have h4 : vs.length % 4 < 4 := Nat.mod_lt _ (by decide)
  have hsl : (Str.ofString "._+-").length = 4 := by decide +kernel
  refine item_str (by unfold fitsSsize; simp; walk_at "om") (by rw [hsl]; walk_at "om") (by rw [hsl]; walk_at "om") fun _ => ?_
  have S := S.tok (s.toks + 1)
  (with_reducible refine wpAny_BinOp ?_); ((rename St _ _ _ _ _ _ _ _ _ _ _ => Z0); with_reducible refine E_int Z0 ?_; clear Z0; intro tX sX SX); (with_reducible refine wpAny_BinOp ?_); (with_reducible refine wpAny_BinOp ?_); (with_reducible refine' Call_ ?_ ?a815q; (case a815q => with_unfolding_all rfl)); (with_reducible refine' rdG ?S816q ?k816q ?_; (case S816q => assumption); (case k816q => walk_at "m_mem")); (with_reducible refine' callWith_builtin1 ?_ ?a817q ?b817q; (case a817q => with_unfolding_all rfl); (case b817q => with_unfolding_all rfl)); walk_at "ac"; walk_at "n"; (with_reducible refine args_nil ?_)
  rename St _ _ _ _ _ _ _ _ _ _ _ => S
  refine lenL S (S.get (k := .old (.lst vs)) (by walk_at "m_mem")).unold (by walk_at "om") fun t2 s S => ?_
  ((rename St _ _ _ _ _ _ _ _ _ _ _ => Z0); with_reducible refine E_int Z0 ?_; clear Z0; intro tX sX SX)
  rename St _ _ _ _ _ _ _ _ _ _ _ => S
  refine O_fdiv S (by decide) (PyProof.noPylong_small (by walk_at "om")) fun t5 s S => ?_
  rw [show ((vs.length : Int).fdiv 4) = ((vs.length / 4 : Nat) : Int) from fdiv_nat _ 4]
  ((rename St _ _ _ _ _ _ _ _ _ _ _ => Z0); with_reducible refine E_int Z0 ?_; clear Z0; intro tX sX SX)
  rename St _ _ _ _ _ _ _ _ _ _ _ => S
  refine O_mod S (by decide) fun t3 s S => ?_
  rw [show (((vs.length / 4 : Nat) : Int).fmod 2) = ((vs.length / 4 % 2 : Nat) : Int) from fmod_nat _ 2]
  ((rename St _ _ _ _ _ _ _ _ _ _ _ => Z0); with_reducible refine O_add Z0 ?_; clear Z0; intro tX sX SX)
  rename St _ _ _ _ _ _ _ _ _ _ _ => S
  refine SB.mul hs1.1 fun t4 k4 => ?_
  have S := S.tok k4
  walk_at "w"
  rename St _ _ _ _ _ _ _ _ _ _ _ => S
  refine S_nk ?_
  show wpS _ _ (execs (_ :: _) _) _ _ _
  refine S_pre ?_
  (with_reducible refine' X_asg ?_ ?a822q; (case a822q => with_unfolding_all rfl)); (with_reducible refine Tuple_ ?_); walk_at "ac"; walk_at "n"; walk_at "ac"; walk_at "n"; walk_at "ac"; (with_reducible refine Subscript_ ?_); (with_reducible refine List_ ?_); walk_at "ac"
  refine E_str (x := Str.ofString "pl") S fun ta s S => ?_
  walk_at "ac"
  refine E_str (x := Str.ofString "p") S fun tb s S => ?_
  (with_reducible refine args_nil ?_)
  refine newLst S (by size_fits) fun m1 s S a1 b1 => ?_
  have S := S.weakL
  (with_reducible refine wpAny_BinOp ?_); (with_reducible refine' Call_ ?_ ?a828q; (case a828q => with_unfolding_all rfl)); (with_reducible refine' rdG ?S829q ?k829q ?_; (case S829q => assumption); (case k829q => walk_at "m_mem")); (with_reducible refine' callWith_builtin1 ?_ ?a830q ?b830q; (case a830q => with_unfolding_all rfl); (case b830q => with_unfolding_all rfl)); walk_at "ac"; walk_at "n"; (with_reducible refine args_nil ?_)
  rename St _ _ _ _ _ _ _ _ _ _ _ => S
  refine lenL S (S.get (k := .old (.lst vs)) (by walk_at "m_mem")).unold (by walk_at "om") fun t2 s S => ?_
  ((rename St _ _ _ _ _ _ _ _ _ _ _ => Z0); with_reducible refine E_int Z0 ?_; clear Z0; intro tX sX SX)
  rename St _ _ _ _ _ _ _ _ _ _ _ => S
  refine O_mod S (by decide) fun t3 s S => ?_
  rw [show ((vs.length : Int).fmod 2) = ((vs.length % 2 : Nat) : Int) from fmod_nat _ 2]
  obtain ⟨tw, hw⟩ : ∃ tw, [Value.str (Str.ofString "pl") ta, .str (Str.ofString "p") tb][vs.length % 2]? = some (.str (wordT vs.length) tw) := by
    unfold wordT
    have : vs.length % 2 = 0 ∨ vs.length % 2 = 1 := by walk_at "om"
    rcases this with h | h <;> rw [h]
    · exact ⟨ta, rfl⟩
    · exact ⟨tb, rfl⟩
  refine itemLR (S.get (.head _)) (by walk_at "om") (by walk_at "om") hw ?_
  (with_reducible refine args_nil ?_)
  refine newTup S (by size_fits) fun d s S a2 b2 => ?_
  simp only [LtAll, and_true] at b2
  walk_at "w"
  rename St _ _ _ _ _ _ _ _ _ _ _ => S
  refine S_nk ?_
  exact tailC K hcs (dress_ok vs.length) P hIq ⟨by walk_at "om", hlp1⟩ ((S.sub (news' := [(lp, .lst vq), (c1, .cell none), (d, .tup [.str (leadT vs.length) _, .str (signT vs.length) _, .str (wordT vs.length) tw])]) (by walk_at "m_sub")).le (by walk_at "m_le")) hQ
theorem law_ok : LawOk := by
  intro w mg mb l vs ns s Q E W T hl hI hlen hl58 hQ
  refine enterCS (A := callerA) (locs := lL) (globs := gL) (binds := [("script", .ref l)]) (vals := [some (.ref l), none, none, none, none, none, none, none, none, none, none, none, none, none, none, none, none, none, none, none, none, none, none, none, none, none, none])
    (fun n => [("foot", n)]) (fun L => [(L + 1, .cell none)]) W T (by decide) (by k_is) (by k_is) (BindsTo.of_eq rfl) (fun n => rfl) rfl
    (fun L => List.forall_mem_cons.mpr ⟨⟨"foot", rfl, rfl⟩, List.forall_mem_nil _⟩)
    ⟨rfl, by decide +kernel, kl_of rfl, kg_K W rfl rfl (by k_is) <| kg_B W rfl rfl (by k_is) (by boot_fast) (by decide) <| kg_K W rfl rfl (by k_is) <| kg_B W rfl rfl (by k_is) (by boot_fast) (by decide) <| kg_B W rfl rfl (by k_is) (by boot_fast) (by decide) <|
      kg_K W rfl rfl (by k_is) <| kg_K W rfl rfl (by k_is) <| kg_K W rfl rfl (by k_is) <| kg_K W rfl rfl (by k_is) <| kg_K W rfl rfl (by k_is) <| kg_K W rfl rfl (by k_is) kg_nil⟩
    (fun L => HasAll.cons rfl (by repeat (first | exact trivial | apply HasAll.skip))) rfl rfl (R := fun c => c = lawSc) rfl
    fun cs L s₁ hcs S => ?_
  have S := S.base hl hl58
  refine S_mono (bodyL (Qf := fun fl s' => Q (match fl with | .ret v => v | _ => .none) s') (L := L) (c1 := L + 1) (A := callerA.deeper _) ⟨rfl, ?_, ?_, rfl⟩ hcs hI hlen hl58 rfl S fun s' k1 k2 k3 => ?_) (fun _ _ x => x) fun _ _ x => x
  · show callerA.depth + 1 + 100 < recursionLimit; decide
  · show callerA.units + 3 + 40 < cLine; decide
  · exact hQ s' s'.toks k1 k2 k3
end
theorem the_end : PySem.Challenge.rw_ph0118_01.Holds := holds_of law_ok
end
end
end
end Mine
theorem PySem.Challenge.cw_ph0118_01_holds : PySem.Challenge.rw_ph0118_01.Holds := by
  exact Mine.the_end

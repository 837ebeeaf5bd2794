import PyProof.Rows.All
import Wide.All
import OpenK.AllK
import Wide.FinOn
import PySem.Challenge.RW_bh0016_01
set_option Elab.async false

section
open PySem PySem.W PyProof.Rows PySem.Calls
namespace Mine

/-! ## The state: a ghost base of fixed objects, a list of known changing objects -/
abbrev Hp := Addr → Option Obj
abbrev Mo := List (Addr × (Obj → Prop))
abbrev PP : Program := PySem.Challenge.pw_bh0016_01

def Le (B B' : Hp) : Prop := ∀ b o, B b = some o → B' b = some o
theorem Le.refl (B : Hp) : Le B B := fun _ _ e => e
theorem Le.trans {B B' B'' : Hp} (x : Le B B') (y : Le B' B'') : Le B B'' := fun b o e => y b o (x b o e)

structure Cfg where
  w : World
  d : Drawn
  os : OsState

structure St (c : Cfg) (B : Hp) (mu : Mo) (G : Array GenState) (s : Shared) : Prop where
  base : ∀ b o, B b = some o → s.heap.get? b = some o
  at_ : ∀ p ∈ mu, ∃ o, s.heap.get? p.1 = some o ∧ p.2 o
  nd : (mu.map (·.1)).Nodup
  sep : ∀ p ∈ mu, B p.1 = none
  gens : s.gens = G
  drawn : s.drawn = c.d
  os : s.os = c.os

def insB (B : Hp) (a : Addr) (o : Obj) : Hp := fun b => if b = a then some o else B b
theorem insB_self (B : Hp) (a : Addr) (o : Obj) : insB B a o a = some o := by simp [insB]
theorem le_insB {B : Hp} {a : Addr} {o : Obj} (h : B a = none) : Le B (insB B a o) := fun b o' e => by
  unfold insB
  by_cases hb : b = a
  · subst hb; rw [h] at e; cases e
  · rw [if_neg hb]; exact e

section
variable {c : Cfg} {B B' : Hp} {mu mu' : Mo} {G : Array GenState} {s : Shared}

theorem St.lt (S : St c B mu G s) {p : Addr × (Obj → Prop)} (h : p ∈ mu) : p.1 < s.heap.objs.size :=
  let ⟨_, e, _⟩ := S.at_ p h; Heap.lt_size e
theorem St.ltB (S : St c B mu G s) {b : Addr} {o : Obj} (h : B b = some o) : b < s.heap.objs.size := Heap.lt_size (S.base b o h)
theorem St.freshB (S : St c B mu G s) : B s.heap.objs.size = none := by
  cases e : B s.heap.objs.size with
  | none => rfl
  | some o => exact absurd (S.ltB e) (Nat.lt_irrefl _)
theorem St.fresh (S : St c B mu G s) : s.heap.objs.size ∉ mu.map (·.1) := fun h => by
  obtain ⟨p, hp, e⟩ := List.mem_map.mp h
  have := S.lt hp
  rw [e] at this
  exact Nat.lt_irrefl _ this

theorem St.toks (S : St c B mu G s) (t : Nat) : St c B mu G { s with toks := t } := ⟨S.base, S.at_, S.nd, S.sep, S.gens, S.drawn, S.os⟩

theorem St.keep (S : St c B mu G s) {h' : Heap} (k : ∀ b o, s.heap.get? b = some o → h'.get? b = some o) (t : Nat) : St c B mu G { s with heap := h', toks := t } :=
  ⟨fun b o e => k b o (S.base b o e), fun p hp => let ⟨o, e, q⟩ := S.at_ p hp; ⟨o, k _ _ e, q⟩, S.nd, S.sep, S.gens, S.drawn, S.os⟩
theorem St.keep0 (S : St c B mu G s) {h' : Heap} (k : ∀ b o, s.heap.get? b = some o → h'.get? b = some o) : St c B mu G { s with heap := h' } := S.keep k s.toks

theorem St.sub (S : St c B mu G s) {mu' : Mo} (h : List.Sublist mu' mu) : St c B mu' G s :=
  ⟨S.base, fun p hp => S.at_ p (h.subset hp), (h.map _).nodup S.nd, fun p hp => S.sep p (h.subset hp), S.gens, S.drawn, S.os⟩
theorem St.drop {p : Addr × (Obj → Prop)} (S : St c B (p :: mu) G s) : St c B mu G s := S.sub (List.sublist_cons_self _ _)
theorem St.drop2 {p q : Addr × (Obj → Prop)} (S : St c B (p :: q :: mu) G s) : St c B (p :: mu) G s := S.sub ((List.sublist_cons_self _ _).cons₂ p)

/-- an object that is never changed, laid anew -/
theorem St.imm (S : St c B mu G s) (o : Obj) (hf : o.isFreed = false := by rfl) : St c (insB B s.heap.objs.size o) mu G { s with heap := s.heap.push o } :=
  ⟨fun b o' e => by
      unfold insB at e
      by_cases hb : b = s.heap.objs.size
      · subst hb; rw [if_pos rfl] at e; cases e; exact Heap.get?_push_size _ hf
      · rw [if_neg hb] at e; exact Heap.get?_push_of_some _ (S.base b o' e),
    fun p hp => let ⟨o', e, q⟩ := S.at_ p hp; ⟨o', Heap.get?_push_of_some _ e, q⟩, S.nd,
    fun p hp => by
      unfold insB
      rw [if_neg (Nat.ne_of_lt (S.lt hp))]
      exact S.sep p hp, S.gens, S.drawn, S.os⟩
/-- an object that may change, laid anew -/
theorem St.mut (S : St c B mu G s) (o : Obj) {P : Obj → Prop} (hP : P o) (hf : o.isFreed = false := by rfl) : St c B ((s.heap.objs.size, P) :: mu) G { s with heap := s.heap.push o } :=
  ⟨fun b o' e => Heap.get?_push_of_some _ (S.base b o' e),
    fun p hp => by
      rcases List.mem_cons.mp hp with rfl | hp
      · exact ⟨o, Heap.get?_push_size _ hf, hP⟩
      · obtain ⟨o', e, q⟩ := S.at_ p hp; exact ⟨o', Heap.get?_push_of_some _ e, q⟩,
    by rw [List.map_cons, List.nodup_cons]; exact ⟨S.fresh, S.nd⟩,
    fun p hp => by
      rcases List.mem_cons.mp hp with rfl | hp
      · exact S.freshB
      · exact S.sep p hp, S.gens, S.drawn, S.os⟩

theorem St.mut1 {f : Addr × (Obj → Prop)} (S : St c B (f :: mu) G s) (o : Obj) {P : Obj → Prop} (hP : P o) (hf : o.isFreed = false := by rfl) : St c B (f :: (s.heap.objs.size, P) :: mu) G { s with heap := s.heap.push o } := by
  have S1 := S.mut o hP hf
  have hp : (f :: (s.heap.objs.size, P) :: mu).Perm ((s.heap.objs.size, P) :: f :: mu) := List.Perm.swap ..
  exact ⟨S1.base, fun p h => S1.at_ p (hp.subset h), (hp.map _).nodup_iff.mpr S1.nd, fun p h => S1.sep p (hp.subset h), S1.gens, S1.drawn, S1.os⟩

theorem mem_set_of {α : Type} {l : List α} {i : Nat} {a x : α} (h : x ∈ l.set i a) : x = a ∨ ∃ j, j ≠ i ∧ l[j]? = some x := by
  obtain ⟨j, hj⟩ := List.mem_iff_getElem?.mp h
  rw [List.getElem?_set] at hj
  by_cases e : i = j
  · rw [if_pos e] at hj
    split at hj
    · left; exact (Option.some.inj hj).symm
    · cases hj
  · rw [if_neg e] at hj
    exact .inr ⟨j, fun q => e q.symm, hj⟩
theorem set_map_fst {l : Mo} {i : Nat} {a : Addr} {k k' : Obj → Prop} (h : l[i]? = some (a, k)) : (l.set i (a, k')).map (·.1) = l.map (·.1) := by
  rw [List.map_set]
  apply List.ext_getElem?
  intro j
  rw [List.getElem?_set]
  by_cases e : i = j
  · subst e
    rw [if_pos rfl, List.getElem?_map, h]
    split
    · rfl
    · rename_i q
      exfalso
      apply q
      obtain ⟨q', _⟩ := List.getElem?_eq_some_iff.mp h
      simpa using q'
  · rw [if_neg e]

/-- the object at place i changes -/
theorem St.upd (S : St c B mu G s) (i : Nat) {a : Addr} {k k' : Obj → Prop} (hi : mu[i]? = some (a, k)) {h' : Heap} (hs : Heap.SameBut a s.heap h') {o : Obj} (ho : h'.get? a = some o) (hk : k' o) (t : Nat) :
    St c B (mu.set i (a, k')) G { s with heap := h', toks := t } := by
  have hmem : (a, k) ∈ mu := List.mem_of_getElem? hi
  refine ⟨fun b o' e => (hs.2 b fun q => ?_).trans (S.base b o' e), fun p hp => ?_, by rw [set_map_fst hi]; exact S.nd, fun p hp => ?_, S.gens, S.drawn, S.os⟩
  · subst q; have := S.sep _ hmem; rw [this] at e; cases e
  · rcases mem_set_of hp with rfl | ⟨j, hj, hpj⟩
    · exact ⟨o, ho, hk⟩
    · obtain ⟨o', e, q⟩ := S.at_ p (List.mem_of_getElem? hpj)
      refine ⟨o', (hs.2 p.1 fun q => hj ?_).trans e, q⟩
      have h1 : (mu.map (·.1))[j]? = some p.1 := by rw [List.getElem?_map, hpj]; rfl
      have h2 : (mu.map (·.1))[i]? = some a := by rw [List.getElem?_map, hi]; rfl
      rw [q] at h1
      exact (List.getElem?_inj (List.getElem?_eq_some_iff.mp h1).1 S.nd).mp (h1.trans h2.symm)
  · have : p.1 ∈ (mu.set i (a, k')).map (·.1) := List.mem_map.mpr ⟨p, hp, rfl⟩
    rw [set_map_fst hi] at this
    obtain ⟨q, hq, e⟩ := List.mem_map.mp this
    rw [← e]; exact S.sep q hq
theorem St.upd0 {a : Addr} {k : Obj → Prop} (S : St c B ((a, k) :: mu) G s) {k' : Obj → Prop} {h' : Heap} (hs : Heap.SameBut a s.heap h') {o : Obj} (ho : h'.get? a = some o) (hk : k' o) (t : Nat) :
    St c B ((a, k') :: mu) G { s with heap := h', toks := t } := S.upd 0 rfl hs ho hk t

/-- what is known of the object at place i is said more weakly -/
theorem St.weak (S : St c B mu G s) (i : Nat) {a : Addr} {k k' : Obj → Prop} (hi : mu[i]? = some (a, k)) (hk : ∀ o, k o → k' o) : St c B (mu.set i (a, k')) G s := by
  obtain ⟨o, e, q⟩ := S.at_ _ (List.mem_of_getElem? hi)
  exact S.upd i hi (Heap.SameBut.refl ..) e (hk o q) s.toks
theorem St.get (S : St c B mu G s) (i : Nat) {a : Addr} {k : Obj → Prop} (hi : mu[i]? = some (a, k)) : ∃ o, s.heap.get? a = some o ∧ k o := S.at_ _ (List.mem_of_getElem? hi)
theorem St.perm (S : St c B mu G s) {mu' : Mo} (h : mu'.Perm mu) : St c B mu' G s :=
  ⟨S.base, fun p hp => S.at_ p (h.subset hp), (h.map _).nodup_iff.mpr S.nd, fun p hp => S.sep p (h.subset hp), S.gens, S.drawn, S.os⟩
/-- an object that changed till now is fixed from here on -/
theorem St.freeze {a : Addr} {k : Obj → Prop} (S : St c B ((a, k) :: mu) G s) : ∃ o, k o ∧ St c (insB B a o) mu G s := by
  obtain ⟨o, e, q⟩ := S.at_ _ (List.mem_cons_self ..)
  refine ⟨o, q, fun b o' e' => ?_, fun p hp => S.at_ p (List.mem_cons_of_mem _ hp), (List.nodup_cons.mp S.nd).2, fun p hp => ?_, S.gens, S.drawn, S.os⟩
  · unfold insB at e'
    by_cases hb : b = a
    · subst hb; rw [if_pos rfl] at e'; cases e'; exact e
    · rw [if_neg hb] at e'; exact S.base b o' e'
  · unfold insB
    have : p.1 ≠ a := fun q => (List.nodup_cons.mp S.nd).1 (List.mem_map.mpr ⟨p, hp, q⟩)
    rw [if_neg this]; exact S.sep p (List.mem_cons_of_mem _ hp)
theorem St.sepA {a : Addr} {k : Obj → Prop} (S : St c B ((a, k) :: mu) G s) : B a = none := S.sep _ (List.mem_cons_self ..)
end

/-! ## What is known of an object -/
def nsP (l : List (Str × Value)) (o : Obj) : Prop := ∃ es ep, o.data = .dict es ep ∧ StrKeys es ∧ ∀ x v, l.lookup x = some v → nsFind es x = some v
def lstP (vs : List Value) (o : Obj) : Prop := ∃ n, o = { cls := .type "list", data := .seq vs.toArray n }
def celP (v : Option Value) (o : Obj) : Prop := o.data = .cell v
def litP (l : Addr) (i : Nat) (o : Obj) : Prop := o.cls = .type "list_iterator" ∧ o.data = .fields #[.ref l, .int i 0]
def titP (l : Addr) (i : Nat) (o : Obj) : Prop := o.cls = .type "tuple_iterator" ∧ o.data = .fields #[.ref l, .int i 0]
def ritP (x left step : Int) (o : Obj) : Prop := o = { cls := .type "range_iterator", dict := none, data := .fields #[rawInt x, rawInt left, rawInt step], slots := #[] }

def tupO (vs : List Value) : Obj := { cls := .type "tuple", data := .seq vs.toArray }
def Tup (B : Hp) (v : Value) (vs : List Value) : Prop := ∃ a, v = .ref a ∧ B a = some (tupO vs)
/-- v is a tuple of the ints p -/
def Pm (B : Hp) (v : Value) (p : List Int) : Prop := ∃ vs, Tup B v vs ∧ IntsAre vs p
theorem Tup.mono {B B' : Hp} {v : Value} {vs : List Value} (h : Tup B v vs) (l : Le B B') : Tup B' v vs := let ⟨a, e, q⟩ := h; ⟨a, e, l _ _ q⟩
theorem Pm.mono {B B' : Hp} {v : Value} {p : List Int} (h : Pm B v p) (l : Le B B') : Pm B' v p := let ⟨vs, t, i⟩ := h; ⟨vs, t.mono l, i⟩

structure Fit (n : Nat) (A : Around) : Prop where
  hd : A.handled = none
  dp : A.depth + n < 600
  un : A.units + 20 * n < 4000
theorem Fit.room {n : Nat} {A : Around} (F : Fit n A) : A.depth < recursionLimit := by
  have := F.dp; unfold recursionLimit; omega
theorem Fit.line {n : Nat} {A : Around} (F : Fit n A) : A.units < cLine := by have := F.un; unfold cLine; omega
theorem Fit.line1 {n : Nat} {A : Around} (F : Fit n A) : A.units + 1 < cLine := by have := F.un; unfold cLine; omega
theorem Fit.line64 {n : Nat} {A : Around} (F : Fit n A) : A.units + 70 < cLine := by have := F.un; unfold cLine; omega
theorem Fit.deeper {n : Nat} {A : Around} (F : Fit (n + 1) A) (env : Env) : Fit n (A.deeper env) := ⟨F.hd, by have := F.dp; show A.depth + 1 + n < 600; omega, by have := F.un; show A.units + 3 + 20 * n < 4000; omega⟩
theorem Fit.in1 {n : Nat} {A : Around} (F : Fit (n + 1) A) : Fit n A.in1 := ⟨F.hd, by have := F.dp; show A.depth + n < 600; omega, by have := F.un; show A.units + 1 + 20 * n < 4000; omega⟩
theorem Fit.le {n m : Nat} {A : Around} (F : Fit n A) (h : m ≤ n) : Fit m A := ⟨F.hd, by have := F.dp; omega, by have := F.un; omega⟩
end Mine
end

section
open PySem PySem.W PyProof.Rows PySem.Calls
namespace Mine

def GlobAt (B : Hp) (x : Str) (v : Value) : Prop := ∃ o es ep, B mainGlobals = some o ∧ o.data = .dict es ep ∧ StrKeys es ∧ nsFind es x = some v
def NoGlob (B : Hp) (x : Str) : Prop := ∃ o es ep, B mainGlobals = some o ∧ o.data = .dict es ep ∧ StrKeys es ∧ nsFind es x = none
def BuiltAt (B : Hp) (x : Str) (v : Value) : Prop := ∃ o es ep, B builtinsNs = some o ∧ o.data = .dict es ep ∧ StrKeys es ∧ nsFind es x = some v
theorem GlobAt.mono {B B' : Hp} {x : Str} {v : Value} (h : GlobAt B x v) (l : Le B B') : GlobAt B' x v := let ⟨o, es, ep, e, r⟩ := h; ⟨o, es, ep, l _ _ e, r⟩
theorem NoGlob.mono {B B' : Hp} {x : Str} (h : NoGlob B x) (l : Le B B') : NoGlob B' x := let ⟨o, es, ep, e, r⟩ := h; ⟨o, es, ep, l _ _ e, r⟩
theorem BuiltAt.mono {B B' : Hp} {x : Str} {v : Value} (h : BuiltAt B x v) (l : Le B B') : BuiltAt B' x v := let ⟨o, es, ep, e, r⟩ := h; ⟨o, es, ep, l _ _ e, r⟩

theorem ns_of {es : Array DictEntry} {h : Heap} {a : Addr} {o : Obj} {ep : Nat} (e : h.get? a = some o) (hd : o.data = .dict es ep) (hk : StrKeys es) : h.Ns a (nsFind es) := ⟨o, es, ep, e, hd, hk, fun _ => rfl⟩

section
variable {c : Cfg} {B B' : Hp} {mu mu' : Mo} {G : Array GenState} {s : Shared} {A : Around} {E : Value → Shared → Prop} {env : Env} {L : Addr} {l : List (Str × Value)} {x : Str} {pos : Pos} {v : Value}

theorem St.locals (S : St c B ((L, nsP l) :: mu) G s) : ∃ m, s.heap.Ns L m ∧ ∀ x v, l.lookup x = some v → m x = some v := by
  obtain ⟨o, e, es, ep, hd, hk, hl⟩ := S.at_ _ (List.mem_cons_self ..)
  exact ⟨nsFind es, ns_of e hd hk, hl⟩

theorem ldL (S : St c B ((L, nsP l) :: mu) G s) {Q : Value → Shared → Prop} (hv : l.lookup x = some v) (h : Q v s)
    (hL : env.locals = L := by rfl) (hk : env.scope.kind = .function := by rfl) (hl : env.kindOf x = some .local := by rfl) (hd : (x == ("__debug__" : Str)) = false := by decide) :
    wpAny (model PP c.w) A (eval (.Name x pos) env) Q E s := by
  obtain ⟨m, hn, hm⟩ := S.locals
  exact wpAny_Name (wpAny_loadName_local hk hl (hL ▸ hn) (hm x v hv) h) hd
theorem ldLn (S : St c B ((L, nsP l) :: mu) G s) {Q : Value → Shared → Prop} (hv : l.lookup x = some v) (h : Q v s)
    (hL : env.locals = L := by rfl) (hk : env.scope.kind = .function := by rfl) (hl : env.kindOf x = some .local := by rfl) :
    wpAny (model PP c.w) A (loadName env x) Q E s := by
  obtain ⟨m, hn, hm⟩ := S.locals
  exact wpAny_loadName_local hk hl (hL ▸ hn) (hm x v hv) h

theorem lookup_cons_eq {x y : Str} {v : Value} {l : List (Str × Value)} : List.lookup y ((x, v) :: l) = if y = x then some v else l.lookup y := by
  rw [List.lookup_cons]
  by_cases h : y = x
  · subst h; simp
  · have : (y == x) = false := by simpa using h
    rw [this, if_neg h]

theorem stLn (S : St c B ((L, nsP l) :: mu) G s) {Q : Unit → Shared → Prop} (h : ∀ s', St c B ((L, nsP ((x, v) :: l)) :: mu) G s' → Q () s')
    (hL : env.locals = L := by rfl) (hk : env.scope.kind = .function := by rfl) (hl : env.kindOf x = some .local := by rfl) :
    wpAny (model PP c.w) A (storeName env x v) Q E s := by
  obtain ⟨m, hn, hm⟩ := S.locals
  refine wpAny_storeName_local hl (hL ▸ hn) (fun h' hn' hs' => ?_) (by rw [hk]; rfl)
  rw [hL] at hn' hs'
  obtain ⟨o, es, ep, e, hd, hk', hf⟩ := hn'
  refine h _ (S.upd0 hs' e ⟨es, ep, hd, hk', fun y u hy => ?_⟩ _)
  rw [hf]
  show (if y = x then some v else m y) = some u
  rw [lookup_cons_eq] at hy
  by_cases q : y = x
  · rw [if_pos q] at hy ⊢; exact hy
  · rw [if_neg q] at hy ⊢; exact hm y u hy
theorem stL (S : St c B ((L, nsP l) :: mu) G s) {Q : Unit → Shared → Prop} (h : ∀ s', St c B ((L, nsP ((x, v) :: l)) :: mu) G s' → Q () s')
    (hL : env.locals = L := by rfl) (hk : env.scope.kind = .function := by rfl) (hl : env.kindOf x = some .local := by rfl) :
    wpAny (model PP c.w) A (assign (.Name x pos) env v) Q E s := by
  rw [PySem.assign_Name]
  exact wpAny_bind (wpAny_standAt (wpAny_bindName (stLn S h hL hk hl)))

theorem ldG (S : St c B mu G s) {Q : Value → Shared → Prop} (hg : GlobAt B x v) (h : Q v s)
    (hG : env.globals = mainGlobals := by rfl) (hk : env.scope.kind = .function := by rfl) (hl : env.kindOf x = some .globalImplicit := by rfl) (hd : (x == ("__debug__" : Str)) = false := by decide) :
    wpAny (model PP c.w) A (eval (.Name x pos) env) Q E s := by
  obtain ⟨o, es, ep, e, hdd, hkk, hf⟩ := hg
  exact Name_function_global hk hl (loadGlobal_global (hG ▸ ns_of (S.base _ _ e) hdd hkk) hf h) hd
theorem ldB (S : St c B mu G s) {Q : Value → Shared → Prop} (hn : NoGlob B x) (hb : BuiltAt B x v) (h : Q v s)
    (hG : env.globals = mainGlobals := by rfl) (hB : env.builtins = builtinsNs := by rfl) (hk : env.scope.kind = .function := by rfl) (hl : env.kindOf x = some .globalImplicit := by rfl) (hd : (x == ("__debug__" : Str)) = false := by decide) :
    wpAny (model PP c.w) A (eval (.Name x pos) env) Q E s := by
  obtain ⟨o, es, ep, e, hdd, hkk, hf⟩ := hn
  obtain ⟨o2, es2, ep2, e2, hdd2, hkk2, hf2⟩ := hb
  exact Name_function_global hk hl (loadGlobal_builtin (hG ▸ ns_of (S.base _ _ e) hdd hkk) hf (hB ▸ ns_of (S.base _ _ e2) hdd2 hkk2) hf2 h) hd

theorem celP_get {a : Addr} {v : Option Value} {i : Nat} (S : St c B mu G s) (hi : mu[i]? = some (a, celP v)) : s.heap.IsCell a v := S.get i hi
/-- a cell of the function's own -/
theorem ldC (S : St c B mu G s) {Q : Value → Shared → Prop} (i : Nat) {a : Addr} (hi : mu[i]? = some (a, celP (some v))) (h : Q v s)
    (hc : env.cells.lookup x = some a := by rfl) (hk : env.scope.kind = .function := by rfl) (hl : env.kindOf x = some .cell := by rfl) (hd : (x == ("__debug__" : Str)) = false := by decide) :
    wpAny (model PP c.w) A (eval (.Name x pos) env) Q E s := wpAny_Name (wpAny_loadName_cell hk hl hc (celP_get S hi) h) hd
/-- a cell of a function around -/
theorem ldF (S : St c B mu G s) {Q : Value → Shared → Prop} (i : Nat) {a : Addr} (hi : mu[i]? = some (a, celP (some v))) (h : Q v s)
    (hc : env.cells.lookup x = some a := by rfl) (hk : env.scope.kind = .function := by rfl) (hl : env.kindOf x = some .free := by rfl) (hd : (x == ("__debug__" : Str)) = false := by decide)
    (hn : (x == ("__classdict__" : Str)) = false := by decide) :
    wpAny (model PP c.w) A (eval (.Name x pos) env) Q E s := wpAny_Name (wpAny_loadName_free hk hl hc (celP_get S hi) h hn) hd
theorem stC (S : St c B mu G s) {Q : Unit → Shared → Prop} (i : Nat) {a : Addr} {v₀ : Option Value} (hi : mu[i]? = some (a, celP v₀)) (h : ∀ s', St c B (mu.set i (a, celP (some v))) G s' → Q () s')
    (hc : env.cells.lookup x = some a := by rfl) (hk : env.scope.kind = .function := by rfl) (hl : env.kindOf x = some .cell := by rfl) :
    wpAny (model PP c.w) A (storeName env x v) Q E s :=
  wpAny_storeName_cell hk hl hc (celP_get S hi) fun h' hc' hs' => by
    obtain ⟨o, e, hd⟩ := hc'
    exact h _ (S.upd i hi hs' e hd s.toks)

theorem cInt {i : Int} {k : Nat} (S : St c B mu G s) {Q : Value → Shared → Prop} (h : ∀ t s', St c B mu G s' → Q (.int i t) s') : wpAny (model PP c.w) A (eval (.Constant (.int i) k pos) env) Q E s :=
  wpAny_Constant_int (h _ _ (S.toks _))
variable {a b : Int} {t u : Tok}
theorem iAdd (S : St c B mu G s) {Q : Value → Shared → Prop} (h : ∀ t s', St c B mu G s' → Q (.int (a + b) t) s') : wpAny (model PP c.w) A (binaryOp .Add (.int a t) (.int b u)) Q E s := add_int (h _ _ (S.toks _))
theorem iMod (S : St c B mu G s) {Q : Value → Shared → Prop} (hb : b ≠ 0) (h : ∀ t s', St c B mu G s' → Q (.int (a.fmod b) t) s') : wpAny (model PP c.w) A (binaryOp .Mod (.int a t) (.int b u)) Q E s := mod_int' hb (h _ _ (S.toks _))
theorem iAnd (S : St c B mu G s) {Q : Value → Shared → Prop} (h : ∀ t s', St c B mu G s' → Q (.int (Builtin.bitAnd a b) t) s') : wpAny (model PP c.w) A (binaryOp .BitAnd (.int a t) (.int b u)) Q E s := and_int (h _ _ (S.toks _))
theorem iOr (S : St c B mu G s) {Q : Value → Shared → Prop} (h : ∀ t s', St c B mu G s' → Q (.int (Builtin.bitOr a b) t) s') : wpAny (model PP c.w) A (binaryOp .BitOr (.int a t) (.int b u)) Q E s := or_int (h _ _ (S.toks _))
theorem iNeg (S : St c B mu G s) {Q : Value → Shared → Prop} (h : ∀ t s', St c B mu G s' → Q (.int (-a) t) s') : wpAny (model PP c.w) A (unaryOp .USub (.int a t)) Q E s := P.neg_int (h _ _ (S.toks _))

theorem evTuple {elts : List Expr} {k : Nat} {Q : Value → Shared → Prop}
    (h : wpAny (model PP c.w) A (spliced (backTo pos (starEach elts env)))
      (fun vs s₁ => vs.length ≤ sizeLine ∧ ∃ B mu G, St c B mu G s₁ ∧ ∀ a B' s', Le B B' → Tup B' (.ref a) vs → St c B' mu G s' → Q (.ref a) s') E s) : wpAny (model PP c.w) A (eval (.Tuple elts k pos) env) Q E s :=
  wpAny_Tuple (wpAny_mono h (fun vs s₁ h₁ => by
    obtain ⟨hl, B, mu, G, S, h₁⟩ := h₁
    exact ⟨hl, h₁ _ _ _ (le_insB S.freshB) ⟨_, rfl, insB_self ..⟩ (S.imm _)⟩) fun _ _ x => x)
theorem evList {elts : List Expr} {Q : Value → Shared → Prop}
    (h : wpAny (model PP c.w) A (spliced (backTo pos (starEach elts env)))
      (fun vs s₁ => vs.length ≤ sizeLine ∧ ∃ B f mu G, St c B (f :: mu) G s₁ ∧ ∀ a s', St c B (f :: (a, lstP vs) :: mu) G s' → Q (.ref a) s') E s) : wpAny (model PP c.w) A (eval (.List elts pos) env) Q E s :=
  wpAny_List (wpAny_mono h (fun vs s₁ h₁ => by
    obtain ⟨hl, B, f, mu, G, S, h₁⟩ := h₁
    exact ⟨hl, h₁ _ _ (S.mut1 _ ⟨0, rfl⟩)⟩) fun _ _ x => x)
end
end Mine
end

section
open PySem PySem.W PyProof.Rows PySem.Calls
namespace Mine

def NoLim (B : Hp) : Prop := ∃ o es ep, B cStatics = some o ∧ o.data = .dict es ep ∧ StrKeys es ∧ nsFind es "sys.recursionlimit" = none
def CodeAt (B : Hp) (cd : Value) (q : Str) : Prop := ∃ c o vs t, cd = .ref c ∧ B c = some o ∧ o.data = .fields vs ∧ vs[1]? = some (.str q t)
theorem NoLim.mono {B B' : Hp} (h : NoLim B) (l : Le B B') : NoLim B' := let ⟨o, es, ep, e, r⟩ := h; ⟨o, es, ep, l _ _ e, r⟩
theorem CodeAt.mono {B B' : Hp} {cd q} (h : CodeAt B cd q) (l : Le B B') : CodeAt B' cd q := let ⟨o, es, ep, t, e, g, r⟩ := h; ⟨o, es, ep, t, e, l _ _ g, r⟩
def FnAt (B : Hp) (fa : Addr) (fd : FuncData) : Prop := (∃ o, B fa = some o ∧ o.data = .func fd) ∧ CodeAt B fd.code fd.qualname
theorem FnAt.mono {B B' : Hp} {fa fd} (h : FnAt B fa fd) (l : Le B B') : FnAt B' fa fd := let ⟨⟨o, e, d⟩, r⟩ := h; ⟨⟨o, l _ _ e, d⟩, r.mono l⟩

section
variable {c : Cfg} {B B' : Hp} {mu mu' : Mo} {G : Array GenState} {s : Shared} {A : Around} {E : Value → Shared → Prop} {env : Env} {L : Addr} {l : List (Str × Value)} {x : Str} {pos : Pos} {v : Value}

theorem St.nolimit (S : St c B mu G s) (h : NoLim B) : s.heap.NoLimit := let ⟨_, _, _, e, d, k, f⟩ := h; ⟨_, ns_of (S.base _ _ e) d k, f⟩
theorem St.codeRec (S : St c B mu G s) {cd q} (h : CodeAt B cd q) : s.heap.CodeRec cd q := let ⟨a, o, vs, t, e, g, r⟩ := h; ⟨a, o, vs, t, e, S.base _ _ g, r⟩

def envF (fd : FuncData) (L fa : Addr) : Env := newEnv fd.scope L fd.globals fd.closure (fd.qualname ++ ".<locals>.") (some fa) fd.code none fd.builtins

/-- a call of a plain def without cells of its own -/
theorem callFn {fa : Addr} {fd : FuncData} {body : List Stmt} {args : Args} {binds : List (Str × Value)} {R : Result → Shared → Prop} {n : Nat}
    (S : St c B mu G s) (hF : FnAt B fa fd) (hL : NoLim B) (fit : Fit (n + 1) A)
    (hbody : fd.body = .stmts body) (hbind : bindArgs fd args = pure binds) (hloc : (binds.all fun x => decide (fd.scope.names.lookup x.1 = some .local)) = true)
    (h : ∀ L s' A', Fit n A' → St c B ((L, nsP binds.reverse) :: mu) G s' →
      wpAny (model PP c.w) A' (execs body (envF fd L fa)) (fun f s'' => R (.ok (.ret (match f with | .ret v => v | _ => .none))) s'') (fun _ _ => False) s')
    (hco : fd.scope.isCoroutine = false := by rfl) (hgen : fd.scope.isGenerator = false := by rfl) (hk : fd.scope.kind = .function := by rfl)
    (hcell : ∀ x ∈ fd.scope.names, x.2 ≠ .cell := by decide) :
    codeAny (model PP c.w) A (.call (.ref fa) args) R s := by
  obtain ⟨⟨o, ho, hd⟩, hcd⟩ := hF
  refine codeAny_call_function fit.room (S.base _ _ ho) hd hco hgen hbody (S.codeRec hcd) ?_
  rw [hbind]
  refine wpAny_pure (wpAny_newFunctionEnv hcell (locs hloc) (fun h₁ hns hsb => ?_) hk)
  have S1 := S.mut ({ cls := .type "frame", data := .dict #[] } : Obj) (P := fun _ => True) trivial
  obtain ⟨o', es, ep, e', hd', hk', hf'⟩ := hns
  have S2 := S1.upd0 (k' := nsP binds.reverse) hsb e' ⟨es, ep, hd', hk', fun x v hx => (hf' x).trans hx⟩ (s.toks + binds.length)
  refine ⟨S2.nolimit hL, codeAny_func (wpAny_mono (h _ _ _ (fit.deeper _) S2) (fun _ _ x => x) fun _ _ x => x.elim)⟩

/-- a call that starts with cells -/
theorem St.ofCells {s' : Shared} {m cm : Str → Option Value} {cs : List (Str × Addr)} (S : St c B mu G s) (x : InCallC s L m cs cm s') (hn : (cs.map (·.1)).Nodup) (hl : ∀ x v, l.lookup x = some v → m x = some v) :
    St c B ((L, nsP l) :: (cs.map (fun p => (p.2, celP (cm p.1))) ++ mu)) G s' := by
  have hlook : ∀ p ∈ cs, cs.lookup p.1 = some p.2 := by
    clear x S
    induction cs with
    | nil => intro p hp; cases hp
    | cons q r ih =>
      intro p hp
      obtain ⟨n, a⟩ := q
      rw [List.map_cons, List.nodup_cons] at hn
      rw [List.lookup_cons]
      rcases List.mem_cons.mp hp with rfl | hp
      · simp
      · have : p.1 ≠ n := fun e => hn.1 (e ▸ List.mem_map.mpr ⟨p, hp, rfl⟩)
        have : (p.1 == n) = false := by simpa using this
        rw [this]
        exact ih hn.2 p hp
  obtain ⟨h', tk, rfl⟩ := x.toInCall.same
  have hge : ∀ p ∈ mu, p.1 < L := fun p hp => Nat.lt_of_lt_of_le (S.lt hp) x.toInCall.fresh
  refine ⟨fun b o e => x.toInCall.keep b o (S.base b o e), fun p hp => ?_, ?_, fun p hp => ?_, S.gens, S.drawn, S.os⟩
  · rcases List.mem_cons.mp hp with rfl | hp
    · obtain ⟨o, es, ep, e, hd, hk, hf⟩ := x.toInCall.ns
      exact ⟨o, e, es, ep, hd, hk, fun y v hy => (hf y).trans (hl y v hy)⟩
    · rcases List.mem_append.mp hp with hp | hp
      · obtain ⟨q, hq, rfl⟩ := List.mem_map.mp hp
        exact x.cell q.1 q.2 (hlook q hq)
      · obtain ⟨o, e, q⟩ := S.at_ p hp
        exact ⟨o, x.toInCall.keep _ _ e, q⟩
  · rw [List.map_cons, List.map_append, List.map_map, List.nodup_cons, List.nodup_append]
    refine ⟨fun hm => ?_, ?_, S.nd, fun a ha b hb e => ?_⟩
    · rcases List.mem_append.mp hm with hm | hm
      · obtain ⟨q, hq, e⟩ := List.mem_map.mp hm
        have := x.above q.1 q.2 hq
        have e' : q.2 = L := e
        rw [e'] at this; exact Nat.lt_irrefl _ this
      · obtain ⟨q, hq, e⟩ := List.mem_map.mp hm
        have := hge q hq
        rw [e] at this; exact Nat.lt_irrefl _ this
    · have : cs.Pairwise fun x y => x.2 ≠ y.2 := x.apart
      exact List.pairwise_map.mpr this
    · obtain ⟨q, hq, e1⟩ := List.mem_map.mp ha
      obtain ⟨r, hr, e2⟩ := List.mem_map.mp hb
      have h1 := x.above q.1 q.2 hq
      have h2 := hge r hr
      have e1' : q.2 = a := e1
      subst e
      rw [e1'] at h1
      rw [e2] at h2
      exact absurd (Nat.lt_trans h1 h2) (Nat.lt_irrefl _)
  · have key : ∀ a, s.heap.objs.size ≤ a → B a = none := fun a ha => by
      cases e : B a with
      | none => rfl
      | some o => exact absurd (S.ltB e) (Nat.not_lt.mpr ha)
    rcases List.mem_cons.mp hp with rfl | hp
    · exact key _ x.toInCall.fresh
    · rcases List.mem_append.mp hp with hp | hp
      · obtain ⟨q, hq, rfl⟩ := List.mem_map.mp hp
        exact key _ (Nat.le_of_lt (Nat.lt_of_le_of_lt x.toInCall.fresh (x.above q.1 q.2 hq)))
      · exact S.sep p hp

def envC (fd : FuncData) (L fa : Addr) : Env := newEnv fd.scope L fd.globals (cellsFrom (L + 1) fd.scope.names []) (fd.qualname ++ ".<locals>.") (some fa) fd.code none fd.builtins

/-- a call of a plain def with cells of its own, and none of a function around it -/
theorem callFnC' {fa : Addr} {fd : FuncData} {body : List Stmt} {args : Args} {binds : List (Str × Value)} {R : Result → Shared → Prop} {n : Nat}
    (S : St c B mu G s) (hF : FnAt B fa fd) (hL : NoLim B) (fit : Fit (n + 1) A)
    (hbody : fd.body = .stmts body) (hbind : ∀ {Q : List (Str × Value) → Shared → Prop} {E : Value → Shared → Prop}, Q binds s → wpAny (model PP c.w) A.in1 (bindArgs fd args) Q E s) (hclos : fd.closure = [])
    (hkind : (binds.all fun y => fd.scope.names.lookup y.1 == some .local || fd.scope.names.lookup y.1 == some .cell) = true)
    (hnd : ((cellsFrom 0 fd.scope.names []).map (·.1)).Nodup)
    (l : List (Str × Value)) (hl : ∀ L x v, l.lookup x = some v → bindL (envC fd L fa).kindOf binds (fun _ => none) x = some v)
    (h : ∀ L s' A', Fit n A' → St c B ((L, nsP l) :: ((cellsFrom (L + 1) fd.scope.names []).map (fun p => (p.2, celP (bindC (envC fd L fa).kindOf binds (fun _ => none) p.1))) ++ mu)) G s' →
      wpAny (model PP c.w) A' (execs body (envC fd L fa)) (fun f s'' => R (.ok (.ret (match f with | .ret v => v | _ => .none))) s'') (fun _ _ => False) s')
    (hco : fd.scope.isCoroutine = false := by rfl) (hgen : fd.scope.isGenerator = false := by rfl) (hk : fd.scope.kind = .function := by rfl) :
    codeAny (model PP c.w) A (.call (.ref fa) args) R s := by
  obtain ⟨⟨o, ho, hd⟩, hcd⟩ := hF
  refine codeAny_call_function fit.room (S.base _ _ ho) hd hco hgen hbody (S.codeRec hcd) ?_
  rw [hclos]
  refine hbind (wpAny_newFunctionEnv_cells hk (kindsX hkind _) fun env he s' x => ?_)
  have he' : env = envC fd s.heap.objs.size fa := he
  subst he'
  have hnames : ∀ (names : List (Str × NameKind)) (n m : Nat) (acc acc' : List (Str × Addr)), acc.map (·.1) = acc'.map (·.1) → (cellsFrom n names acc).map (·.1) = (cellsFrom m names acc').map (·.1) := by
    intro names
    induction names with
    | nil => intro n m acc acc' e; exact e
    | cons q r ih =>
      intro n m acc acc' e
      obtain ⟨y, k⟩ := q
      unfold cellsFrom
      split
      · exact ih _ _ _ _ (by rw [List.map_cons, List.map_cons, e])
      · exact ih _ _ _ _ e
  have S2 := S.ofCells (l := l) x (by
    show ((cellsFrom (s.heap.objs.size + 1) fd.scope.names []).map (·.1)).Nodup
    rw [hnames _ _ 0 _ [] rfl]; exact hnd) (hl _)
  exact ⟨S2.nolimit hL, codeAny_func (wpAny_mono (h _ _ _ (fit.deeper _) S2) (fun _ _ x => x) fun _ _ x => x.elim)⟩

/-- a call of a plain def with cells of its own, and none of a function around it -/
theorem callFnC {fa : Addr} {fd : FuncData} {body : List Stmt} {args : Args} {binds : List (Str × Value)} {R : Result → Shared → Prop} {n : Nat}
    (S : St c B mu G s) (hF : FnAt B fa fd) (hL : NoLim B) (fit : Fit (n + 1) A)
    (hbody : fd.body = .stmts body) (hbind : bindArgs fd args = pure binds) (hclos : fd.closure = [])
    (hkind : (binds.all fun y => fd.scope.names.lookup y.1 == some .local || fd.scope.names.lookup y.1 == some .cell) = true)
    (hnd : ((cellsFrom 0 fd.scope.names []).map (·.1)).Nodup)
    (l : List (Str × Value)) (hl : ∀ L x v, l.lookup x = some v → bindL (envC fd L fa).kindOf binds (fun _ => none) x = some v)
    (h : ∀ L s' A', Fit n A' → St c B ((L, nsP l) :: ((cellsFrom (L + 1) fd.scope.names []).map (fun p => (p.2, celP (bindC (envC fd L fa).kindOf binds (fun _ => none) p.1))) ++ mu)) G s' →
      wpAny (model PP c.w) A' (execs body (envC fd L fa)) (fun f s'' => R (.ok (.ret (match f with | .ret v => v | _ => .none))) s'') (fun _ _ => False) s')
    (hco : fd.scope.isCoroutine = false := by rfl) (hgen : fd.scope.isGenerator = false := by rfl) (hk : fd.scope.kind = .function := by rfl) :
    codeAny (model PP c.w) A (.call (.ref fa) args) R s := by
  exact callFnC' S hF hL fit hbody (fun h => by rw [hbind]; exact wpAny_pure h) hclos hkind hnd l hl h hco hgen hk

def AllM (m : Str → Option Value) : List (Str × Value) → Prop
  | [] => True
  | p :: r => m p.1 = some p.2 ∧ AllM m r
theorem AllM.look {m : Str → Option Value} : ∀ {l : List (Str × Value)}, AllM m l → ∀ x v, l.lookup x = some v → m x = some v
  | [], _, x, v, h => by cases h
  | p :: r, ⟨h1, h2⟩, x, v, h => by
    obtain ⟨y, u⟩ := p
    rw [lookup_cons_eq] at h
    by_cases e : x = y
    · rw [if_pos e] at h; cases h; subst e; exact h1
    · rw [if_neg e] at h; exact h2.look x v h

/-! ## Calls by name -/
theorem evCallF {f : Str} {p : Pos} {a : Expr} {args : List Expr} {Q : Value → Shared → Prop}
    (h : wpAny (model PP c.w) A (eval (.Name f p) env) (fun v s₁ => ∃ fa o fd, v = .ref fa ∧ o.data = .func fd ∧ wpAny (model PP c.w) A (spliced (backTo pos (starEach (a :: args) env))) (fun vs s₂ =>
      s₂.heap.get? fa = some o ∧ wpAny (model PP c.w) A (call (.ref fa) vs []) Q E s₂) E s₁) E s)
    (he : starEach (a :: args) env = (false, eval a env) :: starEach args env := by rfl) :
    wpAny (model PP c.w) A (eval (.Call (.Name f p) (a :: args) [] pos) env) Q E s := by
  rw [arm_eval_Call_Name']
  refine wpAny_bind (wpAny_mono h (fun v s₁ h₁ => ?_) fun _ _ x => x)
  obtain ⟨fa, o, fd, rfl, hd, h₁⟩ := h₁
  refine callWith_function (o := o) (fd := fd) ?_
  rw [he] at h₁ ⊢
  exact evalArgs_plain (wpAny_mono h₁ (fun vs s₂ h₂ => ⟨⟨h₂.1, hd⟩, h₂.2⟩) fun _ _ x => x)

theorem evCallB {f : Str} {p : Pos} {a : Expr} {args : List Expr} {Q : Value → Shared → Prop}
    (h : wpAny (model PP c.w) A (eval (.Name f p) env) (fun v s₁ => ∃ id, v = .builtin id ∧ wpAny (model PP c.w) A (spliced (backTo pos (starEach (a :: args) env))) (fun vs s₂ =>
      wpAny (model PP c.w) A (call (.builtin id) vs []) Q E s₂) E s₁) E s)
    (he : starEach (a :: args) env = (false, eval a env) :: starEach args env := by rfl) (hpl : (backTo pos (starEach (a :: args) env)).any (·.1) = false := by rfl) :
    wpAny (model PP c.w) A (eval (.Call (.Name f p) (a :: args) [] pos) env) Q E s := by
  rw [arm_eval_Call_Name']
  refine wpAny_bind (wpAny_mono h (fun v s₁ h₁ => ?_) fun _ _ x => x)
  obtain ⟨id, rfl, h₁⟩ := h₁
  refine callWith_builtin hpl ?_
  rw [he] at h₁ ⊢
  exact evalArgs_plain h₁
end
end Mine
end

section
open PySem PySem.W PyProof.Rows PySem.Calls
namespace Mine

section
variable {c : Cfg} {B B' : Hp} {mu mu' : Mo} {G : Array GenState} {s : Shared} {A : Around} {E : Value → Shared → Prop} {env : Env} {L a : Addr} {l : List (Str × Value)} {x : Str} {pos : Pos} {v : Value} {vs ws : List Value}

/-- a list that is not changed -/
def LstB (B : Hp) (a : Addr) (vs : List Value) : Prop := ∃ o, B a = some o ∧ o.cls = .type "list" ∧ ∃ n, o.data = .seq vs.toArray n
theorem LstB.mono {B B' : Hp} {a : Addr} {vs : List Value} (h : LstB B a vs) (l : Le B B') : LstB B' a vs := let ⟨o, e, r⟩ := h; ⟨o, l _ _ e, r⟩
theorem St.tupH (S : St c B mu G s) {a : Addr} (h : B a = some (tupO vs)) : IsT s.heap a vs.toArray 0 := S.base _ _ h
theorem St.isTup (S : St c B mu G s) {a : Addr} (h : B a = some (tupO vs)) : IsTup s.heap a vs.toArray := ⟨_, S.base _ _ h, rfl, 0, rfl⟩
theorem St.isTuple (S : St c B mu G s) {a : Addr} (h : B a = some (tupO vs)) : s.heap.IsTuple a vs.toArray := ⟨_, S.base _ _ h, rfl, 0, rfl⟩
theorem St.lstH (S : St c B mu G s) (i : Nat) (hi : mu[i]? = some (a, lstP vs)) : ∃ n, s.heap.get? a = some { cls := .type "list", data := .seq vs.toArray n } := by
  obtain ⟨o, e, n, rfl⟩ := S.get i hi; exact ⟨n, e⟩
theorem St.isList (S : St c B mu G s) (i : Nat) (hi : mu[i]? = some (a, lstP vs)) : s.heap.IsList a vs.toArray := by
  obtain ⟨n, e⟩ := S.lstH i hi; exact ⟨_, e, rfl, n, rfl⟩
theorem St.isListB (S : St c B mu G s) (h : LstB B a vs) : s.heap.IsList a vs.toArray := let ⟨o, e, r⟩ := h; ⟨o, S.base _ _ e, r⟩

theorem subT {value slice : Expr} {k : Int} {u : Tok} {j : Nat} {y : Value} {Q : Value → Shared → Prop} (S : St c B mu G s) (ht : Tup B v vs) (hj : seqIndex? k vs.length = some j) (hy : vs[j]? = some y) (h : Q y s)
    (hlo : -(2 ^ 63) ≤ k := by decide) (hhi : k < 2 ^ 63 := by decide)
    (hs : ∀ t, subscripted slice false (.ref t) (.int k u) = operate [.ref t, .int k u] (getItem (.ref t) (.int k u)) := by intro _; with_unfolding_all rfl)
    (hg : ∀ t r, letTemporaryGo value (.ref t) r = pure () := by intro _ _; with_unfolding_all rfl) :
    wpAny (model PP c.w) A (subscriptTail value slice v (.int k u)) Q E s := by
  obtain ⟨t, rfl, e⟩ := ht
  exact item_tuple (S.isTup e) hlo hhi (by simpa using hj) (by simpa using hy) h (hs t) (hg t)
theorem subLs {value slice : Expr} {k : Int} {u : Tok} {y : Value} {Q : Value → Shared → Prop} (hl : s.heap.IsList a vs.toArray) (h0 : 0 ≤ k) (hy : vs[k.toNat]? = some y) (h : Q y s)
    (hhi : k < 2 ^ 63 := by decide)
    (hs : ∀ t, subscripted slice false (.ref t) (.int k u) = operate [.ref t, .int k u] (getItem (.ref t) (.int k u)) := by intro _; with_unfolding_all rfl)
    (hg : ∀ t r, letTemporaryGo value (.ref t) r = pure () := by intro _ _; with_unfolding_all rfl) :
    wpAny (model PP c.w) A (subscriptTail value slice (.ref a) (.int k u)) Q E s :=
  subscriptTail_builtin hl.typeIs slot_list_getitem.lookup (wpAny_getItem_list hl h0 hhi (by simpa using hy) h) (hs a) (hg a)

theorem lenLs {Q : Value → Shared → Prop} (S : St c B mu G s) (hl : s.heap.IsList a vs.toArray) (h : ∀ t s', St c B mu G s' → Q (.int vs.length t) s') (hf : (vs.length : Int) < 2 ^ 63) :
    wpAny (model PP c.w) A (call (.builtin "len") [.ref a] []) Q E s :=
  PySem.Calls.call_len_list hl (by simpa using hf) (by
    have := h (s.toks + 1) { s with toks := s.toks + 1 + 1 } (S.toks _)
    rw [List.size_toArray]; exact this)
theorem lenT {Q : Value → Shared → Prop} (S : St c B mu G s) (ht : Tup B v vs) (h : ∀ t s', St c B mu G s' → Q (.int vs.length t) s') (hf : (vs.length : Int) < 2 ^ 63) :
    wpAny (model PP c.w) A (call (.builtin "len") [v] []) Q E s := by
  obtain ⟨t, rfl, e⟩ := ht
  refine P.len_tuple (S.tupH e) (by rw [List.size_toArray]; omega) ?_
  have := h (s.toks + 1) { s with toks := s.toks + 1 + 1 } (S.toks _)
  rw [List.size_toArray]; exact this

theorem append {Q : Value → Shared → Prop} (S : St c B mu G s) (i : Nat) (hi : mu[i]? = some (a, lstP vs)) (h : ∀ s', St c B (mu.set i (a, lstP (vs ++ [v]))) G s' → Q .none s') (hf : vs.length ≤ sizeLine) :
    wpAny (model PP c.w) A (call (.builtin "list.append") [.ref a, v] []) Q E s := by
  obtain ⟨n, e⟩ := S.lstH i hi
  have hl := S.isList i hi
  refine wpAny_call_entry slot_list_append hl.typeIs entry_list_append ?_ (args_list_append _ _)
  show wpAny _ _ (updateSeq a (·.push v) >>= fun _ => ret .none) _ _ s
  refine wpAny_bind ?_
  have hsz : vs.toArray.size ≤ sizeLine := by rw [List.size_toArray]; exact hf
  have S' := S.upd i hi (Heap.SameBut.update s.heap a (Obj.mapSeq (·.push v))) (Heap.get?_update_self _ e rfl) (k' := lstP (vs ++ [v])) ⟨_, by
    show ({ cls := .type "list", data := .seq (vs.toArray.push v) _ } : Obj) = _
    rw [List.push_toArray]⟩ s.toks
  exact wpAny_updateSeq e rfl (wpAny_pure ⟨.none, rfl, h _ S'⟩)

/-- xs[lo:hi] of a list, laid anew -/
theorem sliceLs {value : Expr} {lower upper : Option Expr} {p : Pos} {Q : Value → Shared → Prop}
    (h : wpAny (model PP c.w) A (eval value env) (fun o s₁ => wpAny (model PP c.w) A (evalPart lower env) (fun vl s₂ => wpAny (model PP c.w) A (evalPart upper env) (fun vu s₃ =>
      ∃ (B : Hp) (f : Addr × (Obj → Prop)) (mu : Mo) (G : Array GenState) (l : Addr) (vs : List Value) (lo hi : Option Int), o = .ref l ∧ St c B (f :: mu) G s₃ ∧ s₃.heap.IsList l vs.toArray ∧ vs.length ≤ sizeLine ∧ IsPart vl lo ∧ IsPart vu hi ∧
        ∀ a s', St c B (f :: (a, lstP (slicePick vs.toArray lo hi none).toList) :: mu) G s' → Q (.ref a) s') E s₂) E s₁) E s)
    (ht : ∀ o r, letTemporaryGo value o r = pure () := by intro _ _; rfl) :
    wpAny (model PP c.w) A (eval (.Subscript value (.Slice lower upper none p) pos) env) Q E s :=
  wpAny_Subscript_list_slice (wpAny_mono h (fun o s₁ h₁ => wpAny_mono h₁ (fun vl s₂ h₂ => wpAny_mono h₂ (fun vu s₃ h₃ => by
    obtain ⟨B, f, mu, G, l, vs, lo, hi, rfl, S, hl, hsz, p1, p2, h₃⟩ := h₃
    refine ⟨l, vs.toArray, lo, hi, rfl, hl, by rw [List.size_toArray]; exact hsz, p1, p2, ?_⟩
    have S1 := S.keep0 (h' := s₃.heap.push { cls := .type "slice", data := .fields #[vl, vu, .none] }) (fun _ _ e => Heap.get?_push_of_some _ e)
    have S2 := S1.mut1 ({ cls := .type "list", data := .seq (slicePick vs.toArray lo hi none) } : Obj) (P := lstP (slicePick vs.toArray lo hi none).toList) ⟨0, rfl⟩
    have := h₃ _ _ S2
    rw [show ({ s₃ with heap := s₃.heap.push { cls := .type "slice", data := .fields #[vl, vu, .none] } } : Shared).heap.objs.size = s₃.heap.objs.size + 1 from Heap.size_push ..] at this
    exact this) fun _ _ x => x) fun _ _ x => x) fun _ _ x => x) ht

theorem addLs {b : Addr} {f : Addr × (Obj → Prop)} {Q : Value → Shared → Prop} (S : St c B (f :: mu) G s) (i : Nat) (hi : (f :: mu)[i]? = some (a, lstP vs)) (j : Nat) (hj : (f :: mu)[j]? = some (b, lstP ws)) (h : ∀ r s', St c B (f :: (r, lstP (vs ++ ws)) :: mu) G s' → Q (.ref r) s')
    (hf : vs.length + ws.length ≤ sizeLine) : wpAny (model PP c.w) A (binaryOp .Add (.ref a) (.ref b)) Q E s := by
  obtain ⟨n, e⟩ := S.lstH i hi
  obtain ⟨m, e'⟩ := S.lstH j hj
  refine P.add_list e e' ?_ (by rw [List.size_toArray, List.size_toArray]; exact hf)
  rw [List.append_toArray]
  exact h _ _ (S.mut1 _ ⟨0, rfl⟩)

theorem addT {w' : Value} {Q : Value → Shared → Prop} (S : St c B mu G s) (h1 : Tup B v vs) (h2 : Tup B w' ws) (h : ∀ r B' s', Le B B' → Tup B' r (vs ++ ws) → St c B' mu G s' → Q r s')
    (hf : vs.length + ws.length ≤ sizeLine) : wpAny (model PP c.w) A (binaryOp .Add v w') Q E s := by
  obtain ⟨a, rfl, e⟩ := h1
  obtain ⟨b, rfl, e'⟩ := h2
  cases vs with
  | nil =>
    refine concat_meets ⟨_, S.tupH e, rfl⟩ ⟨_, S.tupH e', rfl⟩ noFill_tuple_add seq_tuple_add F.slot_tuple_add F.entry_tuple_add (F.args_tuple_add_2 _ _) (AutoSeq1.tuple___add___tuple_tuple_0 _ _ _ _ _ _ rfl) ⟨S.tupH e, S.tupH e', ?_⟩
    exact h _ B s (Le.refl B) ⟨b, rfl, e'⟩ S
  | cons y r =>
    cases ws with
    | nil =>
      refine concat_meets ⟨_, S.tupH e, rfl⟩ ⟨_, S.tupH e', rfl⟩ noFill_tuple_add seq_tuple_add F.slot_tuple_add F.entry_tuple_add (F.args_tuple_add_2 _ _) (AutoSeq1.tuple___add___tuple_tuple_1 _ _ _ _ _ _ (by simp) rfl) ⟨S.tupH e, S.tupH e', ?_⟩
      exact h _ B s (Le.refl B) ⟨a, rfl, by rw [List.append_nil]; exact e⟩ S
    | cons z r' =>
      refine P.add_tuple (S.tupH e) (S.tupH e') (by simp) (by simp) ?_ (by rw [List.size_toArray, List.size_toArray]; exact hf)
      rw [List.append_toArray]
      exact h _ _ _ (le_insB S.freshB) ⟨_, rfl, insB_self ..⟩ (S.imm _)
end
end Mine
end

section
open PySem PySem.W PyProof.Rows PySem.Calls
namespace Mine

def stN : List Stmt → Nat → Stmt
  | s :: _, 0 => s
  | _ :: r, i + 1 => stN r i
  | [], _ => .Pass default
def dName : Stmt → Str
  | .FunctionDef n .. => n
  | _ => Str.empty
def dPar : Stmt → Arguments
  | .FunctionDef _ a .. => a
  | _ => default
def dBody : Stmt → List Stmt
  | .FunctionDef _ _ b .. => b
  | .ClassDef _ _ _ b .. => b
  | _ => []
def dScope : Stmt → Scope
  | .FunctionDef _ _ _ _ _ _ s .. => s
  | _ => default
def topS (i : Nat) : Stmt := stN PP.main.body i
def mkFd (st : Stmt) (qual : Str) (md dV : Value) (cd : Addr) : FuncData :=
  { name := dName st, qualname := qual, params := dPar st, body := .stmts (dBody st), scope := dScope st, globals := mainGlobals, closure := [], defaults := dV, kwdefaults := .none, pyModule := md, code := .ref cd, builtins := builtinsNs }
def mdG : Value := .str (Str.ofString "dulwich.graph") 322
def mdL : Value := .str (Str.ofString "law_bh0016_01") 414
def fdLawAt : FuncData := mkFd (topS 7) "_law_at" mdL .none 110

def fdLawOrder : FuncData := mkFd (topS 8) "_law_order" mdL .none 117
def fdLawWrong : FuncData := mkFd (topS 9) "_law_wrong" mdL .none 122
def fdLaw : FuncData := mkFd (topS 10) "law" mdL .none 127
def fdLcas : FuncData := mkFd (topS 3) "_find_lcas" mdG (.ref 85) 89
def fdMerge : FuncData := mkFd (topS 4) "find_merge_base" mdG .none 96
def fdFast : FuncData := mkFd (topS 5) "can_fast_forward" mdG .none 103
def wlS (i : Nat) : Stmt := stN (dBody (topS 2)) i
def fdInit : FuncData := mkFd (wlS 0) "WorkList.__init__" mdG .none 55
def fdAdd : FuncData := mkFd (wlS 1) "WorkList.add" mdG .none 62
def fdGet : FuncData := mkFd (wlS 2) "WorkList.get" mdG .none 69
def fdIter : FuncData := mkFd (wlS 3) "WorkList.iter" mdG .none 76

/-- what the class WorkList is -/
structure KF (K : Frag) (B : Hp) : Prop where
  inK : ∀ a o, K.lookup a = some o → B a = some o
  makes : makesIn K 80 = true
  keep : keepIn K (.ref 80) = true
  init : findIn K (.ref 80) "__init__" = some (some (.ref 56))
  tInit : typeIn K (.ref 56) = some (.type "function")
  seta : findIn K (.ref 80) "__setattr__" = some (some (.builtin "object.__setattr__"))
  over : plainOver K 80 = true
  taker : takerIn K 80 "pq" = some none
  hasD : hasDictIn K 80 = true
  gatt : findIn K (.ref 80) "__getattribute__" = some (some (.builtin "object.__getattribute__"))
  gat : findIn K (.ref 80) "__getattr__" = some none
  pq : findIn K (.ref 80) "pq" = some none
  add : findIn K (.ref 80) "add" = some (some (.ref 63))
  tAdd : typeIn K (.ref 63) = some (.type "function")
  get : findIn K (.ref 80) "get" = some (some (.ref 70))
  tGet : typeIn K (.ref 70) = some (.type "function")
  iter : findIn K (.ref 80) "iter" = some (some (.ref 77))
  tIter : typeIn K (.ref 77) = some (.type "function")
theorem KF.mono {K : Frag} {B B' : Hp} (h : KF K B) (l : Le B B') : KF K B' := { h with inK := fun a o e => l _ _ (h.inK a o e) }

/-- what the top has left -/
structure Bas (B : Hp) : Prop where
  lim : NoLim B
  lawAt : FnAt B 111 fdLawAt
  lawOrder : FnAt B 118 fdLawOrder
  lawWrong : FnAt B 123 fdLawWrong
  lcas : FnAt B 90 fdLcas
  merge : FnAt B 97 fdMerge
  fast : FnAt B 104 fdFast
  add : FnAt B 63 fdAdd
  get : FnAt B 70 fdGet
  iter : FnAt B 77 fdIter
  init : FnAt B 56 fdInit
  nLen : NoGlob B "len"
  bLen : BuiltAt B "len" (.builtin "len")
  nTuple : NoGlob B "tuple"
  bTuple : BuiltAt B "tuple" (.type "tuple")
  nRange : NoGlob B "range"
  bRange : BuiltAt B "range" (.type "range")
  nList : NoGlob B "list"
  bList : BuiltAt B "list" (.type "list")
  nSorted : NoGlob B "sorted"
  bSorted : BuiltAt B "sorted" (.builtin "sorted")
  gWrong : GlobAt B "_law_wrong" (.ref 123)
  gOrder : GlobAt B "_law_order" (.ref 118)
  gAt : GlobAt B "_law_at" (.ref 111)
  gMerge : GlobAt B "find_merge_base" (.ref 97)
  gFast : GlobAt B "can_fast_forward" (.ref 104)
  gLcas : GlobAt B "_find_lcas" (.ref 90)
  gWork : GlobAt B "WorkList" (.ref 80)
  gPush : GlobAt B "heappush" (.builtin "_heapq.heappush")
  gPop : GlobAt B "heappop" (.builtin "_heapq.heappop")
  kf : ∃ K, KF K B
  dflt : ∃ o n, B 85 = some o ∧ o.data = .seq #[.int 0 381, .none] n
theorem Bas.mono {B B' : Hp} (h : Bas B) (l : Le B B') : Bas B' :=
  ⟨h.lim.mono l, h.lawAt.mono l, h.lawOrder.mono l, h.lawWrong.mono l, h.lcas.mono l, h.merge.mono l, h.fast.mono l, h.add.mono l, h.get.mono l, h.iter.mono l, h.init.mono l,
    h.nLen.mono l, h.bLen.mono l, h.nTuple.mono l, h.bTuple.mono l, h.nRange.mono l, h.bRange.mono l, h.nList.mono l, h.bList.mono l, h.nSorted.mono l, h.bSorted.mono l,
    h.gWrong.mono l, h.gOrder.mono l, h.gAt.mono l, h.gMerge.mono l, h.gFast.mono l, h.gLcas.mono l, h.gWork.mono l, h.gPush.mono l, h.gPop.mono l, h.kf.imp fun _ k => k.mono l, h.dflt.imp fun _ x => x.imp fun _ x => ⟨l _ _ x.1, x.2⟩⟩

section
variable {c : Cfg} {B B' : Hp} {mu mu' : Mo} {G : Array GenState} {s : Shared} {A : Around} {E : Value → Shared → Prop} {n : Nat}

theorem lawAt_spec {sa : Addr} {vs : List Value} {k : Nat} {i j : Int} {t u : Tok} {Q : Value → Shared → Prop} (S : St c B mu G s) (hB : Bas B) (fit : Fit (n + 1) A) (hsa : LstB B sa vs) (hlen : vs.length ≤ sizeLine)
    (hk : k ≤ 1) 
    (h : ∀ v s', St c B mu G s' → (vs[k]? = some v ∨ vs[k]? = none ∧ v = .int j u) → Q v s') :
    wpAny (model PP c.w) A (call (.ref 111) [.ref sa, .int k t, .int j u] []) Q E s := by
  refine wpAny_call (callFn S hB.lawAt hB.lim fit rfl (binds := [("script", .ref sa), ("k", .int k t), ("other", .int j u)]) rfl rfl fun L s A' fit S => ?_)
  refine wpAny_execs_cons (wpAny_Return_some (wpAny_IfExp ?_))
  refine wpAny_isTrue_Compare1 (ldL S rfl ?_)
  refine evCallB (ldB S hB.nLen hB.bLen ⟨_, rfl, ?_⟩)
  refine wpAny_items_cons (ldL S rfl (wpAny_items_nil ?_))
  refine lenLs S (S.isListB hsa) (fun t s S => ?_) (by have := sizeLine_eq; omega)
  refine P.lt_int (wpAny_truthy_bool ?_)
  by_cases hkl : (k : Int) < vs.length
  · rw [if_pos (by simpa using hkl)]
    refine Subscript_ (ldL S rfl (ldL S rfl ?_))
    have hkv : k < vs.length := by omega
    refine subLs (S.isListB hsa) (by omega) (y := vs[k]) (by simp [hkv]) ?_ (by omega)
    exact h _ _ S.drop (.inl (by simp [hkv]))
  · rw [if_neg (by simpa using hkl)]
    refine ldL S rfl ?_
    exact h _ _ S.drop (.inr ⟨List.getElem?_eq_none (by omega), rfl⟩)
end
end Mine
end

section
open PySem PySem.W PyProof.Rows PySem.Calls
namespace Mine

section
variable {c : Cfg} {B B' : Hp} {mu mu' : Mo} {G : Array GenState} {s : Shared} {A : Around} {E : Value → Shared → Prop} {env : Env} {L a it t : Addr} {l : List (Str × Value)} {x : Str} {pos : Pos} {v : Value} {vs ws : List Value} {j k : Nat}

theorem St.extBut (S : St c B mu G s) (j : Nat) {q : Obj → Prop} (hj : mu[j]? = some (it, q)) {h' : Heap} (hx : Heap.ExtBut it s.heap h') : St c B (mu.eraseIdx j) G { s with heap := h' } := by
  have hsub : List.Sublist (mu.eraseIdx j) mu := List.eraseIdx_sublist _ _
  have hmem : (it, q) ∈ mu := List.mem_of_getElem? hj
  have hne : ∀ p ∈ mu.eraseIdx j, p.1 ≠ it := fun p hp e => by
    obtain ⟨i, hi⟩ := List.mem_iff_getElem?.mp hp
    rw [List.getElem?_eraseIdx] at hi
    have key : ∀ m, m ≠ j → mu[m]? = some p → False := fun m hm h => by
      have h1 : (mu.map (·.1))[m]? = some p.1 := by rw [List.getElem?_map, h]; rfl
      have h2 : (mu.map (·.1))[j]? = some it := by rw [List.getElem?_map, hj]; rfl
      rw [e] at h1
      exact hm ((List.getElem?_inj (List.getElem?_eq_some_iff.mp h1).1 S.nd).mp (h1.trans h2.symm))
    split at hi
    · exact key i (by omega) hi
    · exact key (i + 1) (by omega) hi
  refine ⟨fun b o e => hx b o (fun q => ?_) (S.base b o e), fun p hp => ?_, (hsub.map _).nodup S.nd, fun p hp => S.sep p (hsub.subset hp), S.gens, S.drawn, S.os⟩
  · subst q; have := S.sep _ hmem; rw [this] at e; cases e
  · obtain ⟨o, e, q⟩ := S.at_ p (hsub.subset hp)
    exact ⟨o, hx _ _ (hne p hp) e, q⟩

theorem nextT_item {Q : Option Value → Shared → Prop} (S : St c B mu G s) (hj : mu[j]? = some (it, titP t k)) (ht : s.heap.IsTuple t ws.toArray) (hx : ws[k]? = some v) (h : ∀ s', St c B (mu.set j (it, titP t (k + 1))) G s' → Q (some v) s') :
    wpAny (model PP c.w) A (pyNext (.ref it)) Q E s := by
  obtain ⟨o, e, hc, hd⟩ := S.get j hj
  refine wpAny_pyNext_tuple_item ⟨o, e, hc, hd⟩ ht (by simpa using hx) fun h' hit hs => ?_
  obtain ⟨o', e', hc', hd'⟩ := hit
  exact h _ (S.upd j hj hs e' ⟨hc', hd'⟩ s.toks)
theorem nextT_end {Q : Option Value → Shared → Prop} (S : St c B mu G s) (hj : mu[j]? = some (it, titP t k)) (ht : s.heap.IsTuple t ws.toArray) (hx : ws[k]? = none) (hh : A.handled = none) (h : ∀ s', St c B (mu.eraseIdx j) G s' → Q none s') :
    wpAny (model PP c.w) A (pyNext (.ref it)) Q E s := by
  obtain ⟨o, e, hc, hd⟩ := S.get j hj
  exact wpAny_pyNext_tuple_end hh ⟨o, e, hc, hd⟩ ht (by simpa using hx) fun h' hx => h _ (S.extBut j hj hx)
theorem nextLs_item {Q : Option Value → Shared → Prop} (S : St c B mu G s) (hj : mu[j]? = some (it, litP t k)) (ht : s.heap.IsList t ws.toArray) (hx : ws[k]? = some v) (h : ∀ s', St c B (mu.set j (it, litP t (k + 1))) G s' → Q (some v) s') :
    wpAny (model PP c.w) A (pyNext (.ref it)) Q E s := by
  obtain ⟨o, e, hc, hd⟩ := S.get j hj
  refine wpAny_pyNext_list_item ⟨o, e, hc, hd⟩ ht (by simpa using hx) fun h' hit hs => ?_
  obtain ⟨o', e', hc', hd'⟩ := hit
  exact h _ (S.upd j hj hs e' ⟨hc', hd'⟩ s.toks)
theorem nextLs_end {Q : Option Value → Shared → Prop} (S : St c B mu G s) (hj : mu[j]? = some (it, litP t k)) (ht : s.heap.IsList t ws.toArray) (hx : ws[k]? = none) (hh : A.handled = none) (h : ∀ s', St c B (mu.eraseIdx j) G s' → Q none s') :
    wpAny (model PP c.w) A (pyNext (.ref it)) Q E s := by
  obtain ⟨o, e, hc, hd⟩ := S.get j hj
  exact wpAny_pyNext_list_end hh ⟨o, e, hc, hd⟩ ht (by simpa using hx) fun h' hx => h _ (S.extBut j hj hx)
theorem nextR_item {i left : Int} {Q : Option Value → Shared → Prop} (S : St c B mu G s) (hj : mu[j]? = some (it, ritP i left 1)) (hl : 0 < left) (h : ∀ t s', St c B (mu.set j (it, ritP (i + 1) (left - 1) 1)) G s' → Q (some (.int i t)) s') :
    wpAny (model PP c.w) A (pyNext (.ref it)) Q E s := by
  obtain ⟨o, e, rfl⟩ := S.get j hj
  refine wpAny_pyNext_range_item e hl fun h' hit hs => ?_
  exact h _ _ (S.upd j hj hs hit (k' := ritP (i + 1) (left - 1) 1) rfl _)
theorem nextR_end {i left : Int} {Q : Option Value → Shared → Prop} (S : St c B mu G s) (hj : mu[j]? = some (it, ritP i left 1)) (hl : left ≤ 0) (hh : A.handled = none) (h : ∀ s', St c B (mu.eraseIdx j) G s' → Q none s') :
    wpAny (model PP c.w) A (pyNext (.ref it)) Q E s := by
  obtain ⟨o, e, rfl⟩ := S.get j hj
  exact wpAny_pyNext_range_end hh e hl fun h' hx => h _ (S.extBut j hj hx)

theorem iterT {f : Addr × (Obj → Prop)} {Q : Value → Shared → Prop} (S : St c B (f :: mu) G s) (ht : Tup B v vs) (h : ∀ it t s', v = .ref t → St c B (f :: (it, titP t 0) :: mu) G s' → Q (.ref it) s') : wpAny (model PP c.w) A (pyIter v) Q E s := by
  obtain ⟨t, rfl, e⟩ := ht
  exact wpAny_pyIter_tuple (S.isTuple e) (h _ _ _ rfl (S.mut1 _ ⟨rfl, rfl⟩))
theorem iterLs {f : Addr × (Obj → Prop)} {Q : Value → Shared → Prop} (S : St c B (f :: mu) G s) (ht : s.heap.IsList t vs.toArray) (h : ∀ it s', St c B (f :: (it, litP t 0) :: mu) G s' → Q (.ref it) s') : wpAny (model PP c.w) A (pyIter (.ref t)) Q E s :=
  wpAny_pyIter_list ht (h _ _ (S.mut1 _ ⟨rfl, rfl⟩))

theorem letOwned_cls {target : Expr} {o : Obj} {n : String} {Q : Unit → Shared → Prop} (ho : s.heap.get? it = some o) (hc : o.cls = .type n)
    (hn : ["enumerate", "zip", "dict_itemiterator", "dict_reverseitemiterator", "odict_iterator", "itertools.zip_longest", "itertools.pairwise"].contains n = false) (h : Q () s) :
    wpAny (model PP c.w) A (letOwnedTupleGo target (.ref it) v) Q E s := by
  have key : ∀ (r : Addr), wpAny (model PP c.w) A (do
      let o ← load it
      match o.cls, o.data with
      | .type n, .fields vs =>
        if ["enumerate", "zip", "dict_itemiterator", "dict_reverseitemiterator", "odict_iterator", "itertools.zip_longest", "itertools.pairwise"].contains n && vs[0]? == some (rawInt r) then
          rule "for.unpacks-the-owned-tuple"
          updateField it 0 .none
      | _, _ => pure () : Sem Unit) Q E s := fun r => by
    refine wpAny_bind (wpAny_load ho ?_)
    rw [hc]
    split
    · rename_i n' vs e1 e2
      injection e1 with e1
      subst e1
      rw [hn, Bool.false_and, if_neg Bool.false_ne_true]
      exact wpAny_pure h
    · exact wpAny_pure h
  cases target <;> first
    | exact wpAny_pure h
    | (cases v <;> first | exact key _ | exact wpAny_pure h)

/-- for over a tuple, the loop's frame first, then the tuple's iterator -/
theorem forTup {target : Expr} {body orelse : List Stmt} {R : Result → Shared → Prop} (hh : A.handled = none) (J : Nat → Hp → List (Str × Value) → Mo → Array GenState → Prop)
    (hl : ∀ i B l rest G, J i B l rest G → B t = some (tupO ws))
    (turn : ∀ i v B l rest G s, ws[i]? = some v → J i B l rest G → St c B ((L, nsP l) :: (it, titP t (i + 1)) :: rest) G s →
      wpAny (model PP c.w) A (assign target env v) (fun _ s₂ => wpAny (model PP c.w) A (execs body env) (fun f s₃ => match f with
        | .next | .cont => ∃ B l rest G, J (i + 1) B l rest G ∧ St c B ((L, nsP l) :: (it, titP t (i + 1)) :: rest) G s₃
        | .brk => R (.ok .next) s₃
        | .ret v => R (.ok (.ret v)) s₃) (fun _ _ => False) s₂) (fun _ _ => False) s)
    (fin : ∀ B l rest G s, J ws.length B l rest G → St c B ((L, nsP l) :: rest) G s → wpAny (model PP c.w) A (execs orelse env) (fun f s₃ => R (.ok f) s₃) (fun _ _ => False) s)
    {l : List (Str × Value)} {rest : Mo} (h0 : J 0 B l rest G) (S : St c B ((L, nsP l) :: (it, titP t 0) :: rest) G s) :
    codeAny (model PP c.w) A (.forLoop target (.ref it) body orelse env) R s := by
  refine codeAny_forLoop_any (fun n s => ∃ i B l rest G, n = ws.length - i ∧ i ≤ ws.length ∧ J i B l rest G ∧ St c B ((L, nsP l) :: (it, titP t i) :: rest) G s) ?_ ws.length ⟨0, B, l, rest, G, rfl, Nat.zero_le _, h0, S⟩
  rintro n s ⟨i, B, l, rest, G, rfl, hi, hJ, S⟩
  have hT := S.isTuple (hl _ _ _ _ _ hJ)
  rcases Nat.lt_or_ge i ws.length with h | h
  · refine nextT_item S (j := 1) rfl hT (List.getElem?_eq_getElem h) fun s' S' => ?_
    have S2 : St c B ((L, nsP l) :: (it, titP t (i + 1)) :: rest) G s' := S'
    obtain ⟨o, e, hc, _⟩ := S2.get 1 rfl
    refine letOwned_cls e hc (by decide) ?_
    refine wpAny_mono (turn i _ B l rest G s' (List.getElem?_eq_getElem h) hJ S2) (fun _ s₂ h₂ => wpAny_mono h₂ (fun f s₃ h₃ => ?_) fun _ _ x => x.elim) fun _ _ x => x.elim
    cases f with
    | next => obtain ⟨B, l, rest, G, a, b⟩ := h₃; exact ⟨ws.length - (i + 1), by omega, i + 1, B, l, rest, G, rfl, h, a, b⟩
    | cont => obtain ⟨B, l, rest, G, a, b⟩ := h₃; exact ⟨ws.length - (i + 1), by omega, i + 1, B, l, rest, G, rfl, h, a, b⟩
    | brk => exact h₃
    | ret v => exact h₃
  · have hi' : i = ws.length := by omega
    subst hi'
    refine nextT_end S (j := 1) rfl hT (List.getElem?_eq_none (Nat.le_refl _)) hh fun s' S' => ?_
    exact wpAny_mono (fin _ _ _ _ _ hJ S') (fun _ _ x => x) fun _ _ x => x.elim
/-- for over a list -/
theorem forLs {target : Expr} {body orelse : List Stmt} {R : Result → Shared → Prop} (hh : A.handled = none) (J : Nat → Hp → List (Str × Value) → Mo → Array GenState → Prop)
    (hl : ∀ i B l rest G s, J i B l rest G → St c B ((L, nsP l) :: (it, litP t i) :: rest) G s → s.heap.IsList t ws.toArray)
    (turn : ∀ i v B l rest G s, ws[i]? = some v → J i B l rest G → St c B ((L, nsP l) :: (it, litP t (i + 1)) :: rest) G s →
      wpAny (model PP c.w) A (assign target env v) (fun _ s₂ => wpAny (model PP c.w) A (execs body env) (fun f s₃ => match f with
        | .next | .cont => ∃ B l rest G, J (i + 1) B l rest G ∧ St c B ((L, nsP l) :: (it, litP t (i + 1)) :: rest) G s₃
        | .brk => R (.ok .next) s₃
        | .ret v => R (.ok (.ret v)) s₃) (fun _ _ => False) s₂) (fun _ _ => False) s)
    (fin : ∀ B l rest G s, J ws.length B l rest G → St c B ((L, nsP l) :: rest) G s → wpAny (model PP c.w) A (execs orelse env) (fun f s₃ => R (.ok f) s₃) (fun _ _ => False) s)
    {l : List (Str × Value)} {rest : Mo} (h0 : J 0 B l rest G) (S : St c B ((L, nsP l) :: (it, litP t 0) :: rest) G s) :
    codeAny (model PP c.w) A (.forLoop target (.ref it) body orelse env) R s := by
  refine codeAny_forLoop_any (fun n s => ∃ i B l rest G, n = ws.length - i ∧ i ≤ ws.length ∧ J i B l rest G ∧ St c B ((L, nsP l) :: (it, litP t i) :: rest) G s) ?_ ws.length ⟨0, B, l, rest, G, rfl, Nat.zero_le _, h0, S⟩
  rintro n s ⟨i, B, l, rest, G, rfl, hi, hJ, S⟩
  have hT := hl _ _ _ _ _ _ hJ S
  rcases Nat.lt_or_ge i ws.length with h | h
  · refine nextLs_item S (j := 1) rfl hT (List.getElem?_eq_getElem h) fun s' S' => ?_
    have S2 : St c B ((L, nsP l) :: (it, litP t (i + 1)) :: rest) G s' := S'
    obtain ⟨o, e, hc, _⟩ := S2.get 1 rfl
    refine letOwned_cls e hc (by decide) ?_
    refine wpAny_mono (turn i _ B l rest G s' (List.getElem?_eq_getElem h) hJ S2) (fun _ s₂ h₂ => wpAny_mono h₂ (fun f s₃ h₃ => ?_) fun _ _ x => x.elim) fun _ _ x => x.elim
    cases f with
    | next => obtain ⟨B, l, rest, G, a, b⟩ := h₃; exact ⟨ws.length - (i + 1), by omega, i + 1, B, l, rest, G, rfl, h, a, b⟩
    | cont => obtain ⟨B, l, rest, G, a, b⟩ := h₃; exact ⟨ws.length - (i + 1), by omega, i + 1, B, l, rest, G, rfl, h, a, b⟩
    | brk => exact h₃
    | ret v => exact h₃
  · have hi' : i = ws.length := by omega
    subst hi'
    refine nextLs_end S (j := 1) rfl hT (List.getElem?_eq_none (Nat.le_refl _)) hh fun s' S' => ?_
    exact wpAny_mono (fin _ _ _ _ _ hJ S') (fun _ _ x => x) fun _ _ x => x.elim
/-- for over a range by ones -/
theorem forRng {target : Expr} {body orelse : List Stmt} {R : Result → Shared → Prop} {i₀ : Int} {m : Nat} (hh : A.handled = none) (J : Nat → Hp → List (Str × Value) → Mo → Array GenState → Prop)
    (turn : ∀ i t B l rest G s, i < m → J i B l rest G → St c B ((L, nsP l) :: (it, ritP (i₀ + (i + 1 : Nat)) (m - (i + 1 : Nat)) 1) :: rest) G s →
      wpAny (model PP c.w) A (assign target env (.int (i₀ + i) t)) (fun _ s₂ => wpAny (model PP c.w) A (execs body env) (fun f s₃ => match f with
        | .next | .cont => ∃ B l rest G, J (i + 1) B l rest G ∧ St c B ((L, nsP l) :: (it, ritP (i₀ + (i + 1 : Nat)) (m - (i + 1 : Nat)) 1) :: rest) G s₃
        | .brk => R (.ok .next) s₃
        | .ret v => R (.ok (.ret v)) s₃) (fun _ _ => False) s₂) (fun _ _ => False) s)
    (fin : ∀ B l rest G s, J m B l rest G → St c B ((L, nsP l) :: rest) G s → wpAny (model PP c.w) A (execs orelse env) (fun f s₃ => R (.ok f) s₃) (fun _ _ => False) s)
    {l : List (Str × Value)} {rest : Mo} (h0 : J 0 B l rest G) (S : St c B ((L, nsP l) :: (it, ritP i₀ m 1) :: rest) G s) :
    codeAny (model PP c.w) A (.forLoop target (.ref it) body orelse env) R s := by
  refine codeAny_forLoop_any (fun n s => ∃ i B l rest G, n = m - i ∧ i ≤ m ∧ J i B l rest G ∧ St c B ((L, nsP l) :: (it, ritP (i₀ + (i : Nat)) (m - (i : Nat)) 1) :: rest) G s) ?_ m ⟨0, B, l, rest, G, rfl, Nat.zero_le _, h0, by simpa using S⟩
  rintro n s ⟨i, B, l, rest, G, rfl, hi, hJ, S⟩
  rcases Nat.lt_or_ge i m with h | h
  · refine nextR_item S (j := 1) rfl (by omega) fun t s' S' => ?_
    have S2 : St c B ((L, nsP l) :: (it, ritP (i₀ + (i + 1 : Nat)) (m - (i + 1 : Nat)) 1) :: rest) G s' := by
      have e1 : i₀ + ((i + 1 : Nat) : Int) = i₀ + i + 1 := by omega
      have e2 : (m : Int) - ((i + 1 : Nat) : Int) = m - i - 1 := by omega
      rw [e1, e2]; exact S'
    obtain ⟨o, e, rfl⟩ := S2.get 1 rfl
    refine letOwned_cls e rfl (by decide) ?_
    refine wpAny_mono (turn i t B l rest G s' h hJ S2) (fun _ s₂ h₂ => wpAny_mono h₂ (fun f s₃ h₃ => ?_) fun _ _ x => x.elim) fun _ _ x => x.elim
    cases f with
    | next => obtain ⟨B, l, rest, G, a, b⟩ := h₃; exact ⟨m - (i + 1), by omega, i + 1, B, l, rest, G, rfl, h, a, b⟩
    | cont => obtain ⟨B, l, rest, G, a, b⟩ := h₃; exact ⟨m - (i + 1), by omega, i + 1, B, l, rest, G, rfl, h, a, b⟩
    | brk => exact h₃
    | ret v => exact h₃
  · have hi' : i = m := by omega
    subst hi'
    refine nextR_end S (j := 1) rfl (by omega) hh fun s' S' => ?_
    exact wpAny_mono (fin _ _ _ _ _ hJ S') (fun _ _ x => x) fun _ _ x => x.elim
theorem evMethB {o a : Expr} {args : List Expr} {name : Str} {apos : Pos} {T id : String} {Q : Value → Shared → Prop} (pa : PlainAttrs T) (slot : Slot T name id) (hty : typeOf (.builtin id) = pure (.type "method_descriptor"))
    (h : wpAny (model PP c.w) A (eval o env) (fun ov s₁ => s₁.TypeIs ov T ∧ (∀ a, ov = .ref a → ∃ ob, s₁.heap.get? a = some ob ∧ ob.dict = none) ∧
      wpAny (model PP c.w) A (spliced (backTo pos (starEach (a :: args) env))) (fun vs s₂ => wpAny (model PP c.w) A (call (.builtin id) (ov :: vs) []) Q E s₂) E s₁) E s)
    (hbase : attributeBase o name env (eval o env) = eval o env := by rfl)
    (hfew : ((backTo pos (starEach (a :: args) env)).all (fun x => !x.1) && (backToKw pos (keywordEach [] env)).all (fun x => x.1.isSome)
      && decide ((a :: args).length + ([] : List Keyword).length + (if ([] : List Keyword).isEmpty then 0 else 1) < 30)) = true := by rfl)
    (hline : (apos.endLine == pos.line) = true := by rfl)
    (he : starEach (a :: args) env = (false, eval a env) :: starEach args env := by rfl) (hpl : (backTo pos (starEach (a :: args) env)).any (·.1) = false := by rfl) :
    wpAny (model PP c.w) A (eval (.Call (.Attribute o name apos) (a :: args) [] pos) env) Q E s := by
  refine wpAny_Call_method hbase hfew hline pa slot hty (wpAny_mono h (fun ov s₁ h₁ => ⟨h₁.1, h₁.2.1, callWith_builtin hpl ?_⟩) fun _ _ x => x)
  have h₂ := h₁.2.2
  rw [he] at h₂ ⊢
  exact evalArgs_plain h₂
theorem exAppend {o e : Expr} {apos pos' : Pos} {Q : Flow → Shared → Prop}
    (h : wpAny (model PP c.w) A (eval o env) (fun ov s₁ => ∃ a vs, ov = .ref a ∧ (∃ n, s₁.heap.get? a = some { cls := .type "list", data := .seq vs n }) ∧ wpAny (model PP c.w) A (eval e env) (fun v s₂ =>
      ∃ (B : Hp) (mu : Mo) (G : Array GenState) (i : Nat) (ws : List Value), St c B mu G s₂ ∧ mu[i]? = some (a, lstP ws) ∧ ws.length ≤ sizeLine ∧ ∀ s', St c B (mu.set i (a, lstP (ws ++ [v]))) G s' → Q .next s') E s₁) E s)
    (hbase : attributeBase o (Str.ofString "append") env (eval o env) = eval o env := by rfl) (hi : interactive env = false := by rfl)
    (hline : (apos.endLine == pos'.line) = true := by rfl)
    (he : starEach [e] env = [(false, eval e env)] := by rfl) :
    wpAny (model PP c.w) A (exec (.Expr (.Call (.Attribute o (Str.ofString "append") apos) [e] [] pos') pos) env) Q E s := by
  refine wpAny_Expr ?_ hi rfl
  refine evMethB F.plainAttrs_list F.slot_list_append F.type_list_append (wpAny_mono h (fun ov s₁ h₁ => ?_) fun _ _ x => x) hbase (by rw [he]; rfl) hline he (by rw [he]; rfl)
  obtain ⟨a, vs, rfl, ⟨n, ho⟩, h₁⟩ := h₁
  refine ⟨⟨_, ho, rfl⟩, fun b e => ⟨_, by cases e; exact ho, rfl⟩, wpAny_items_cons (he := he) (wpAny_mono h₁ (fun v s₂ h₂ => wpAny_items_nil ?_) fun _ _ x => x)⟩
  obtain ⟨B, mu, G, i, ws, S, hi, hf, h₂⟩ := h₂
  exact append S i hi h₂ hf
end
end Mine
end

section
open PySem PySem.W PyProof.Rows PySem.Calls
namespace Mine

def AllLk (l : List (Str × Value)) : List (Str × Value) → Prop
  | [] => True
  | p :: r => l.lookup p.1 = some p.2 ∧ AllLk l r
theorem AllLk.look {l : List (Str × Value)} : ∀ {l' : List (Str × Value)}, AllLk l l' → ∀ x v, l'.lookup x = some v → l.lookup x = some v
  | [], _, x, v, h => by cases h
  | p :: r, ⟨h1, h2⟩, x, v, h => by
    obtain ⟨y, u⟩ := p
    rw [lookup_cons_eq] at h
    by_cases e : x = y
    · rw [if_pos e] at h; cases h; subst e; exact h1
    · rw [if_neg e] at h; exact h2.look x v h

section
variable {c : Cfg} {B B' : Hp} {mu mu' : Mo} {G : Array GenState} {s : Shared} {A : Around} {E : Value → Shared → Prop} {env : Env} {L a it t : Addr} {l l' : List (Str × Value)} {x : Str} {pos : Pos} {v : Value} {vs ws : List Value} {j k n : Nat}

theorem St.relk (S : St c B ((L, nsP l) :: mu) G s) (h : AllLk l l') : St c B ((L, nsP l') :: mu) G s :=
  S.weak 0 rfl fun _ ⟨es, ep, hd, hk, hf⟩ => ⟨es, ep, hd, hk, fun x v e => hf x v (h.look x v e)⟩

def pickL (mu : Mo) : List Nat → Mo
  | [] => []
  | i :: r => match mu[i]? with
    | some p => p :: pickL mu r
    | none => pickL mu r
theorem mem_pickL {mu : Mo} {p : Addr × (Obj → Prop)} : ∀ {is : List Nat}, p ∈ pickL mu is → ∃ i ∈ is, mu[i]? = some p
  | [], h => by cases h
  | i :: r, h => by
    unfold pickL at h
    split at h
    · rename_i q e
      rcases List.mem_cons.mp h with rfl | h
      · exact ⟨i, List.mem_cons_self .., e⟩
      · obtain ⟨j, hj, q⟩ := mem_pickL h; exact ⟨j, List.mem_cons_of_mem _ hj, q⟩
    · obtain ⟨j, hj, q⟩ := mem_pickL h; exact ⟨j, List.mem_cons_of_mem _ hj, q⟩
theorem St.idx (S : St c B mu G s) {i j : Nat} {p q : Addr × (Obj → Prop)} (hi : mu[i]? = some p) (hj : mu[j]? = some q) (h : p.1 = q.1) : i = j := by
  have h1 : (mu.map (·.1))[i]? = some p.1 := by rw [List.getElem?_map, hi]; rfl
  have h2 : (mu.map (·.1))[j]? = some q.1 := by rw [List.getElem?_map, hj]; rfl
  exact (List.getElem?_inj (List.getElem?_eq_some_iff.mp h1).1 S.nd).mp (h1.trans (h ▸ h2.symm))
/-- some of the objects known, in another order; what lies behind place k stays -/
theorem St.pick (S : St c B mu G s) (is : List Nat) (k : Nat) (h : (decide is.Nodup && is.all (decide <| · < k)) = true := by decide) : St c B (pickL mu is ++ mu.drop k) G s := by
  obtain ⟨hn, hk⟩ : is.Nodup ∧ ∀ i ∈ is, i < k := by simpa using h
  have hmem : ∀ p ∈ pickL mu is ++ mu.drop k, p ∈ mu := fun p hp => by
    rcases List.mem_append.mp hp with hp | hp
    · obtain ⟨i, _, e⟩ := mem_pickL hp; exact List.mem_of_getElem? e
    · exact List.mem_of_mem_drop hp
  refine ⟨S.base, fun p hp => S.at_ p (hmem p hp), ?_, fun p hp => S.sep p (hmem p hp), S.gens, S.drawn, S.os⟩
  rw [List.map_append, List.nodup_append]
  refine ⟨?_, ((List.drop_sublist k mu).map _).nodup S.nd, fun a ha b hb e => ?_⟩
  · clear hmem hk h
    induction is with
    | nil => exact List.nodup_nil
    | cons i r ih =>
      have hr := ih (List.nodup_cons.mp hn).2
      unfold pickL
      split
      · rename_i p e
        rw [List.map_cons, List.nodup_cons]
        refine ⟨fun hm => ?_, hr⟩
        obtain ⟨q, hq, e2⟩ := List.mem_map.mp hm
        obtain ⟨j, hj, e3⟩ := mem_pickL hq
        have := S.idx e3 e e2
        subst this
        exact (List.nodup_cons.mp hn).1 hj
      · exact hr
  · obtain ⟨p, hp, rfl⟩ := List.mem_map.mp ha
    obtain ⟨q, hq, e2⟩ := List.mem_map.mp hb
    obtain ⟨i, hi, e3⟩ := mem_pickL hp
    obtain ⟨j, hj⟩ := List.mem_iff_getElem?.mp hq
    rw [List.getElem?_drop] at hj
    have := S.idx e3 hj (e.trans e2.symm)
    have := hk i hi
    omega
/-- the frame's names said anew, and the objects picked -/
theorem St.norm (S : St c B ((L, nsP l) :: mu) G s) (is : List Nat) (k : Nat) (hl : AllLk l l') (h : (decide is.Nodup && is.all (decide <| · < k)) = true := by decide) : St c B ((L, nsP l') :: (pickL mu is ++ mu.drop k)) G s := by
  have h1 : (decide (0 :: is.map (· + 1)).Nodup && (0 :: is.map (· + 1)).all (decide <| · < k + 1)) = true := by
    obtain ⟨hn, hk⟩ : is.Nodup ∧ ∀ i ∈ is, i < k := by simpa using h
    have : (is.map (· + 1)).Nodup := List.pairwise_map.mpr (hn.imp fun h => by omega)
    simp only [Bool.and_eq_true, decide_eq_true_eq, List.all_eq_true, List.nodup_cons]
    refine ⟨⟨by simp, this⟩, fun x hx => ?_⟩
    rcases List.mem_cons.mp hx with rfl | hx
    · omega
    · obtain ⟨i, hi, rfl⟩ := List.mem_map.mp hx; have := hk i hi; omega
  have S1 := S.relk hl
  have S2 := S1.pick _ (k + 1) h1
  have e : pickL ((L, nsP l') :: mu) (0 :: is.map (· + 1)) = (L, nsP l') :: pickL mu is := by
    have : ∀ js : List Nat, pickL ((L, nsP l') :: mu) (js.map (· + 1)) = pickL mu js := by
      intro js
      induction js with
      | nil => rfl
      | cons j r ih => show (match mu[j]? with | some p => p :: pickL _ (r.map (· + 1)) | none => pickL _ (r.map (· + 1))) = _; rw [ih]; rfl
    show (L, nsP l') :: pickL ((L, nsP l') :: mu) (is.map (· + 1)) = _
    rw [this]
  rw [e] at S2
  exact S2

theorem evCallT {f : Str} {p : Pos} {a : Expr} {args : List Expr} {Q : Value → Shared → Prop}
    (h : wpAny (model PP c.w) A (eval (.Name f p) env) (fun v s₁ => ∃ T, v = .type T ∧ wpAny (model PP c.w) A (spliced (backTo pos (starEach (a :: args) env))) (fun vs s₂ =>
      wpAny (model PP c.w) A (call (.type T) vs []) Q E s₂) E s₁) E s)
    (he : starEach (a :: args) env = (false, eval a env) :: starEach args env := by rfl) (hpl : (backTo pos (starEach (a :: args) env)).any (·.1) = false := by rfl) :
    wpAny (model PP c.w) A (eval (.Call (.Name f p) (a :: args) [] pos) env) Q E s := by
  rw [arm_eval_Call_Name']
  refine wpAny_bind (wpAny_mono h (fun v s₁ h₁ => ?_) fun _ _ x => x)
  obtain ⟨id, rfl, h₁⟩ := h₁
  refine PySem.callWith_type hpl ?_
  rw [he] at h₁ ⊢
  exact evalArgs_plain h₁

theorem tupleOf {Q : Value → Shared → Prop} (S : St c B mu G s) (hl : s.heap.IsList a vs.toArray) (hf : vs.length ≤ sizeLine) (h : ∀ r B' s', Le B B' → Tup B' r vs → St c B' mu G s' → Q r s') :
    wpAny (model PP c.w) A (call (.type "tuple") [.ref a] []) Q E s :=
  call_tuple_list hl (fun h' k => by
    have S1 := S.keep0 k
    exact h _ _ _ (le_insB S1.freshB) ⟨_, rfl, insB_self ..⟩ (S1.imm _)) (by rw [List.size_toArray]; exact hf)
theorem listOfL {f : Addr × (Obj → Prop)} {Q : Value → Shared → Prop} (S : St c B (f :: mu) G s) (i : Nat) (hi : (f :: mu)[i]? = some (a, lstP vs)) (hf : vs.length ≤ sizeLine) (h : ∀ r s', St c B (f :: (r, lstP vs) :: mu) G s' → Q (.ref r) s') :
    wpAny (model PP c.w) A (call (.type "list") [.ref a] []) Q E s := by
  obtain ⟨m, e⟩ := S.lstH i hi
  refine call_list_seq a (.inl rfl) e rfl rfl (fun h' c' k e' => ?_) (by rw [List.size_toArray]; exact hf)
  refine h _ _ (St.perm (s := { s with heap := h' }) (mu := (s.heap.objs.size, lstP vs) :: f :: mu) ⟨fun b o q => k b o (S.base b o q), fun p hp => ?_, by rw [List.map_cons, List.nodup_cons]; exact ⟨S.fresh, S.nd⟩, fun p hp => ?_, S.gens, S.drawn, S.os⟩ (List.Perm.swap ..))
  · rcases List.mem_cons.mp hp with rfl | hp
    · exact ⟨_, e', _, rfl⟩
    · obtain ⟨o, q, r⟩ := S.at_ p hp; exact ⟨o, k _ _ q, r⟩
  · rcases List.mem_cons.mp hp with rfl | hp
    · exact S.freshB
    · exact S.sep p hp

def rngP (n : Int) (o : Obj) : Prop := ∃ t u v, o = { cls := .type "range", data := .fields #[.int 0 t, .int n u, .int 1 v] }
theorem rangeOf {f : Addr × (Obj → Prop)} {n : Int} {t : Tok} {Q : Value → Shared → Prop} (S : St c B (f :: mu) G s) (h : ∀ r s', St c B (f :: (r, rngP n) :: mu) G s' → Q (.ref r) s') :
    wpAny (model PP c.w) A (call (.type "range") [.int n t] []) Q E s :=
  call_range_1 (h _ _ ((S.mut1 _ ⟨_, _, _, rfl⟩).toks _))
theorem iterR {f : Addr × (Obj → Prop)} {r : Addr} {n : Int} {Q : Value → Shared → Prop} (S : St c B (f :: (r, rngP n) :: mu) G s) (h0 : 0 ≤ n) (hn : n < 2 ^ 60) (h : ∀ it s', St c B (f :: (it, ritP 0 n 1) :: mu) G s' → Q (.ref it) s') :
    wpAny (model PP c.w) A (pyIter (.ref r)) Q E s := by
  obtain ⟨o, e, t, u, v, rfl⟩ := S.get 1 rfl
  refine wpAny_pyIter_range e (small_one (by omega) (by omega) (by omega) (by omega)) ?_
  have : Builtin.Range.rangeSize 0 n 1 = n := by rw [rangeSize_one]; split <;> omega
  rw [this]
  exact h _ _ (S.drop2.mut1 ({ cls := .type "range_iterator", data := .fields #[rawInt 0, rawInt n, rawInt 1] } : Obj) (P := ritP 0 n 1) rfl)
end

/-! ## _law_order -/
def ordGo : List Int → List Int → List Int → Int → List Int
  | [], _, row, _ => row
  | k :: ks, left, row, n => ordGo ks (left.eraseIdx (n.fmod k).toNat) (row ++ [left.getD (n.fmod k).toNat 0]) (n.fdiv k)
def ordP (n : Int) : List Int := ordGo [4, 3, 2, 1] [0, 1, 2, 3] [] n

theorem ints_getD {vs : List Value} {ns : List Int} (h : IntsAre vs ns) : ∀ {i : Nat}, i < vs.length → ∃ t, vs[i]? = some (.int (ns.getD i 0) t) := by
  induction h with
  | nil => intro i hi; simp at hi
  | cons n t r ih =>
    intro i hi
    cases i with
    | zero => exact ⟨t, rfl⟩
    | succ i =>
      have := ih (i := i) (by simpa using hi)
      simpa using this
theorem ints_snoc {vs : List Value} {ns : List Int} (h : IntsAre vs ns) (i : Int) (t : Tok) : IntsAre (vs ++ [.int i t]) (ns ++ [i]) := by
  induction h with
  | nil => exact .cons i t .nil
  | cons n u r ih => exact .cons n u ih
theorem ints_erase {vs : List Value} {ns : List Int} (h : IntsAre vs ns) : ∀ i : Nat, IntsAre (vs.eraseIdx i) (ns.eraseIdx i) := by
  induction h with
  | nil => intro i; exact .nil
  | cons n u r ih =>
    intro i
    cases i with
    | zero => exact r
    | succ i => exact .cons n u (ih i)

def ordJ (S₀ : Hp) (n₀ : Int) (t : Addr) (ts : List Value) (mu : Mo) (G₀ : Array GenState) (i : Nat) (B : Hp) (l : List (Str × Value)) (rest : Mo) (G : Array GenState) : Prop :=
  Le S₀ B ∧ B t = some (tupO ts) ∧ G = G₀ ∧ ∃ (la ra : Addr) (lvs rvs : List Value) (left row : List Int) (n : Int) (tk : Tok), l = [(Str.ofString "number", .int n tk), (Str.ofString "left", .ref la), (Str.ofString "row", .ref ra)] ∧ rest = (la, lstP lvs) :: (ra, lstP rvs) :: mu ∧ IntsAre lvs left ∧ IntsAre rvs row ∧
    left.length + i = 4 ∧ row.length = i ∧ ordGo (([4, 3, 2, 1] : List Int).drop i) left row n = ordP n₀

section
variable {c : Cfg} {B B' : Hp} {mu mu' : Mo} {G : Array GenState} {s : Shared} {A : Around} {E : Value → Shared → Prop} {n : Nat}

theorem szl (n : Nat) (h : n ≤ 100) : n ≤ sizeLine := Nat.le_trans h (by decide +kernel)
theorem erase_eq {α : Type} (xs : List α) (i : Nat) (h : i < xs.length) : xs.take i ++ xs.drop (i + 1) = xs.eraseIdx i := (List.eraseIdx_eq_take_drop_succ xs i).symm

theorem ordK {u0 u1 u2 u3 : Tok} {j : Nat} {v : Value} (h : ([.int 4 u0, .int 3 u1, .int 2 u2, .int 1 u3] : List Value)[j]? = some v) :
    ∃ k u, v = .int k u ∧ k = 4 - (j : Int) ∧ j < 4 ∧ ([4, 3, 2, 1] : List Int).drop j = k :: ([4, 3, 2, 1] : List Int).drop (j + 1) := by
  match j, h with
  | 0, h => cases h; exact ⟨_, _, rfl, rfl, by omega, rfl⟩
  | 1, h => cases h; exact ⟨_, _, rfl, rfl, by omega, rfl⟩
  | 2, h => cases h; exact ⟨_, _, rfl, rfl, by omega, rfl⟩
  | 3, h => cases h; exact ⟨_, _, rfl, rfl, by omega, rfl⟩
  | n + 4, h => cases h

theorem lawOrder_spec {i : Int} {t : Tok} {Q : Value → Shared → Prop} (S : St c B mu G s) (hB : Bas B) (fit : Fit (n + 1) A)
    (h : ∀ v B' s', Le B B' → Pm B' v (ordP i) → St c B' mu G s' → Q v s') :
    wpAny (model PP c.w) A (call (.ref 118) [.int i t] []) Q E s := by
  refine wpAny_call (callFn S hB.lawOrder hB.lim fit rfl (binds := [("number", .int i t)]) rfl rfl fun L s A fit S => ?_)
  -- left = [0, 1, 2, 3]
  refine wpAny_execs_cons (wpAny_Assign_Name (evList ?_))
  refine wpAny_items_cons (cInt S fun t0 s S => wpAny_items_cons (cInt S fun t1 s S => wpAny_items_cons (cInt S fun t2 s S => wpAny_items_cons (cInt S fun t3 s S => wpAny_items_nil ⟨szl _ (by simp), _, _, _, _, S, fun la s S => ?_⟩))))
  refine stLn S fun s S => ?_
  -- row = []
  refine wpAny_execs_cons (wpAny_Assign_Name (evList (wpAny_items_nil ⟨szl _ (by simp), _, _, _, _, S, fun ra s S => ?_⟩)))
  refine stLn S fun s S => ?_
  -- for k in (4, 3, 2, 1)
  refine wpAny_execs_cons (wpAny_For (evTuple ?_))
  refine wpAny_items_cons (cInt S fun u0 s S => wpAny_items_cons (cInt S fun u1 s S => wpAny_items_cons (cInt S fun u2 s S => wpAny_items_cons (cInt S fun u3 s S => wpAny_items_nil ⟨szl _ (by simp), _, _, _, S, fun ta B₁ s l₁ hT S => ?_⟩))))
  refine iterT S hT fun it ta' s e S => ?_
  cases e
  obtain ⟨ta', e', hta⟩ := hT
  cases e'
  have S0 : St c B₁ ((L, nsP [(Str.ofString "number", .int i t), (Str.ofString "left", .ref la), (Str.ofString "row", .ref ra)]) :: (it, titP ta 0) :: (la, lstP [.int 0 t0, .int 1 t1, .int 2 t2, .int 3 t3]) :: (ra, lstP []) :: mu) G s := by
    refine (St.relk (l := (Str.ofString "row", .ref ra) :: (Str.ofString "left", .ref la) :: [(Str.ofString "number", .int i t)]) ?_ ⟨rfl, rfl, rfl, trivial⟩)
    refine S.perm ?_
    exact (.cons _ (.cons _ (List.Perm.swap _ _ _)))
  refine forTup fit.hd (ws := [.int 4 u0, .int 3 u1, .int 2 u2, .int 1 u3]) (ordJ B i ta [.int 4 u0, .int 3 u1, .int 2 u2, .int 1 u3] mu G) (fun i B l rest G h => h.2.1) (fun j v B₂ l rest G s hv hJ S => ?_) (fun B l rest G s hJ S => ?_)
    ⟨l₁, hta, rfl, la, ra, _, _, [0, 1, 2, 3], [], i, t, rfl, rfl, .cons _ _ (.cons _ _ (.cons _ _ (.cons _ _ .nil))), .nil, rfl, rfl, rfl⟩ S0
  · obtain ⟨hle, hts, rfl, la, ra, lvs, rvs, left, row, m, tk, rfl, rfl, hl, hr, hlen, hrow, hgo⟩ := hJ
    obtain ⟨k, u, rfl, hk, hj, hd⟩ := ordK hv
    have hk0 : k ≠ 0 := by omega
    have hm0 : 0 ≤ m.fmod k := Int.fmod_nonneg_of_pos _ (by omega)
    have hm1 : m.fmod k < k := Int.fmod_lt_of_pos _ (by omega)
    have hlv : lvs.length = left.length := hl.length
    have hrv : rvs.length = row.length := hr.length
    have hmi : (m.fmod k).toNat < lvs.length := by omega
    obtain ⟨y, hy⟩ := ints_getD hl hmi
    refine stL S fun s S => ?_
    -- row.append(left[number % k])
    refine wpAny_execs_cons (exAppend (ldL S rfl ⟨_, _, rfl, S.lstH 3 rfl, ?_⟩))
    refine Subscript_ (ldL S rfl (wpAny_BinOp (ldL S rfl (ldL S rfl (iMod S hk0 fun t s S => subLs (S.isList 2 rfl) hm0 hy ?_ (by omega))))))
    refine ⟨_, _, _, 3, _, S, rfl, szl _ (by omega), fun s S => ?_⟩
    -- left = left[:number % k] + left[number % k + 1:]
    refine wpAny_execs_cons (wpAny_Assign_Name (wpAny_BinOp (sliceLs (ldL S rfl (wpAny_pure ?_)))))
    show wpAny _ _ (eval _ _) _ _ _
    refine wpAny_BinOp (ldL S rfl (ldL S rfl (iMod S hk0 fun t s S => ?_)))
    refine ⟨_, _, _, _, _, _, _, _, rfl, S, S.isList 2 rfl, szl _ (by omega), .none, .int _ _, fun x1 s S => ?_⟩
    refine sliceLs (ldL S rfl ?_)
    show wpAny _ _ (eval _ _) _ _ _
    refine wpAny_BinOp (wpAny_BinOp (ldL S rfl (ldL S rfl (iMod S hk0 fun t s S => cInt S fun t s S => iAdd S fun t s S => wpAny_pure ?_))))
    refine ⟨_, _, _, _, _, _, _, _, rfl, S, S.isList 3 rfl, szl _ (by omega), .int _ _, .none, fun x2 s S => ?_⟩
    have hmn : m.fmod k = ((m.fmod k).toNat : Int) := by omega
    have hmn1 : m.fmod k + 1 = (((m.fmod k).toNat + 1 : Nat) : Int) := by omega
    refine addLs S 2 rfl 1 rfl (fun x3 s S => ?_) (szl _ ?_)
    · refine stLn S fun s S => ?_
      -- number //= k
      refine wpAny_execs_cons (wpAny_AugAssign_Name (ldLn S rfl (ldL S rfl ?_)))
      refine ifloordiv_int hk0 ?_ (.inl (PyProof.noPylong_small (by omega)))
      refine stLn (S.toks _) fun s S => ?_
      refine wpAny_execs_nil ?_
      obtain ⟨q, hq⟩ : ∃ q : Nat, m.fmod k = q := ⟨(m.fmod k).toNat, by omega⟩
      have hqt : (m.fmod k).toNat = q := by omega
      have hpick : (slicePick lvs.toArray none (some (m.fmod k)) none).toList ++ (slicePick lvs.toArray (some (m.fmod k + 1)) none none).toList = lvs.eraseIdx (m.fmod k).toNat := by
        rw [hqt, hq, slicePick_upto']
        rw [show ((q : Int) + 1) = ((q + 1 : Nat) : Int) by omega, slicePick_from']
        simpa using erase_eq lvs q (by omega)
      rw [hpick] at S
      refine ⟨B₂, [(Str.ofString "number", .int (m.fdiv k) _), (Str.ofString "left", .ref x3), (Str.ofString "row", .ref ra)], _, _, ⟨hle, hts, rfl, x3, ra, _, _, left.eraseIdx (m.fmod k).toNat, row ++ [left.getD (m.fmod k).toNat 0], m.fdiv k, _, rfl, rfl, ints_erase hl _, ints_snoc hr _ _, ?_, ?_, ?_⟩, S.norm [3, 0, 5] 6 ⟨rfl, rfl, rfl, trivial⟩⟩
      · rw [List.length_eraseIdx]; split <;> omega
      · simp; omega
      · rw [← hgo, hd]; rfl
    · have h1 := slicePick_size_le lvs.toArray none (some (m.fmod k)) none
      have h2 := slicePick_size_le lvs.toArray (some (m.fmod k + 1)) none none
      simp only [Array.length_toList, List.size_toArray] at h1 h2 ⊢
      omega
  · obtain ⟨hle, hts, rfl, la, ra, lvs, rvs, left, row, m, tk, rfl, rfl, hl, hr, hlen, hrow, hgo⟩ := hJ
    refine wpAny_execs_nil ?_
    refine wpAny_execs_cons (wpAny_Return_some (evCallT (ldB S ((hB.mono hle).nTuple) ((hB.mono hle).bTuple) ⟨_, rfl, ?_⟩)))
    refine wpAny_items_cons (ldL S rfl (wpAny_items_nil ?_))
    refine tupleOf S (S.isList 2 rfl) (szl _ ?_) fun r B' s hB' hT S => ?_
    · have := hr.length; omega
    refine h _ _ _ (hle.trans hB') ⟨_, hT, ?_⟩ (S.sub ?_)
    · rw [← hgo] ; exact hr
    · exact .cons _ (.cons _ (.cons _ (List.Sublist.refl _)))
end
end Mine
end

section
open PySem PySem.W PyProof.Rows PySem.Calls
namespace Mine

section
variable {c : Cfg} {B B' : Hp} {mu mu' : Mo} {G : Array GenState} {s : Shared} {A : Around} {E : Value → Shared → Prop} {env : Env} {L C D a it t : Addr} {l l' : List (Str × Value)} {x : Str} {pos : Pos} {v : Value} {vs ws : List Value} {j k n : Nat}

/-- the loop of a list comprehension, its frame first -/
theorem compRng {elt : Expr} {gens : List Comprehension} {scope : Scope} {d m : Nat} {acc : Value} {T : Expr} {p : Pos} {bk : Sem Fin} {R : Result → Shared → Prop}
    (heq : compTurn (.ListComp elt gens scope pos) d (.ref it) acc env = (standAt p >>= fun _ => pyNext (.ref it) >>= fun r => match r with
      | none => pure (.done .next)
      | some v => letOwnedTupleGo T (.ref it) v >>= fun _ => assign T env v >>= fun _ => bk))
    (hh : A.handled = none) (J : Nat → Hp → List (Str × Value) → Mo → Array GenState → Prop)
    (turn : ∀ i t B l rest G s, i < m → J i B l rest G → St c B ((C, nsP l) :: (it, ritP ((i + 1 : Nat)) (m - (i + 1 : Nat)) 1) :: rest) G s →
      wpAny (model PP c.w) A (assign T env (.int (i : Int) t)) (fun _ s₂ => wpAny (model PP c.w) A bk (fun fin s₃ => fin = .again (.compLoop (.ListComp elt gens scope pos) d (.ref it) acc env) ∧
        ∃ B l rest G, J (i + 1) B l rest G ∧ St c B ((C, nsP l) :: (it, ritP ((i + 1 : Nat)) (m - (i + 1 : Nat)) 1) :: rest) G s₃) (fun _ _ => False) s₂) (fun _ _ => False) s)
    (fin : ∀ B l rest G s, J m B l rest G → St c B ((C, nsP l) :: rest) G s → R (.ok .next) s)
    {rest : Mo} (h0 : J 0 B l rest G) (S : St c B ((C, nsP l) :: (it, ritP 0 m 1) :: rest) G s) :
    codeAny (model PP c.w) A (.compLoop (.ListComp elt gens scope pos) d (.ref it) acc env) R s := by
  refine codeAny_loop rfl (fun n s => ∃ i B l rest G, n = m - i ∧ i ≤ m ∧ J i B l rest G ∧ St c B ((C, nsP l) :: (it, ritP ((i : Nat)) (m - (i : Nat)) 1) :: rest) G s) ?_ m ⟨0, B, l, rest, G, rfl, Nat.zero_le _, h0, by simpa using S⟩
  rintro n s ⟨i, B, l, rest, G, rfl, hi, hJ, S⟩
  show wpAny _ A ((compTurn (.ListComp elt gens scope pos) d (.ref it) acc env).onRaise (fun x => do noteFrame x env; theTreesLotGoes x)) _ _ s
  refine wpAny_noted ?_
  rw [heq]
  refine wpAny_bind (wpAny_standAt (wpAny_bind ?_))
  rcases Nat.lt_or_ge i m with h | h
  · refine nextR_item S (j := 1) rfl (by omega) fun t s' S' => ?_
    have S2 : St c B ((C, nsP l) :: (it, ritP ((i + 1 : Nat)) (m - (i + 1 : Nat)) 1) :: rest) G s' := by
      have e1 : ((i + 1 : Nat) : Int) = i + 1 := by omega
      have e2 : (m : Int) - ((i + 1 : Nat) : Int) = m - i - 1 := by omega
      rw [e2, e1]; exact S'
    obtain ⟨o, e, rfl⟩ := S2.get 1 rfl
    refine wpAny_bind (letOwned_cls e rfl (by decide) ?_)
    refine wpAny_bind (wpAny_mono (turn i t B l rest G s' h hJ S2) (fun _ s₂ h₂ => wpAny_mono h₂ (fun fin s₃ h₃ => ?_) fun _ _ x => x.elim) fun _ _ x => x.elim)
    obtain ⟨rfl, B, l, rest, G, a, b⟩ := h₃
    exact ⟨rfl, m - (i + 1), by omega, i + 1, B, l, rest, G, rfl, h, a, b⟩
  · have hi' : i = m := by omega
    subst hi'
    refine nextR_end S (j := 1) rfl (by omega) hh fun s' S' => ?_
    exact wpAny_pure (fin _ _ _ _ _ hJ S')
theorem compLs {elt : Expr} {gens : List Comprehension} {scope : Scope} {d : Nat} {acc : Value} {T : Expr} {p : Pos} {bk : Sem Fin} {R : Result → Shared → Prop}
    (heq : compTurn (.ListComp elt gens scope pos) d (.ref it) acc env = (standAt p >>= fun _ => pyNext (.ref it) >>= fun r => match r with
      | none => pure (.done .next)
      | some v => letOwnedTupleGo T (.ref it) v >>= fun _ => assign T env v >>= fun _ => bk))
    (hh : A.handled = none) (J : Nat → Hp → List (Str × Value) → Mo → Array GenState → Prop)
    (hl : ∀ i B l rest G s, J i B l rest G → St c B ((C, nsP l) :: (it, litP t i) :: rest) G s → s.heap.IsList t ws.toArray)
    (turn : ∀ i v B l rest G s, ws[i]? = some v → J i B l rest G → St c B ((C, nsP l) :: (it, litP t (i + 1)) :: rest) G s →
      wpAny (model PP c.w) A (assign T env v) (fun _ s₂ => wpAny (model PP c.w) A bk (fun fin s₃ => fin = .again (.compLoop (.ListComp elt gens scope pos) d (.ref it) acc env) ∧
        ∃ B l rest G, J (i + 1) B l rest G ∧ St c B ((C, nsP l) :: (it, litP t (i + 1)) :: rest) G s₃) (fun _ _ => False) s₂) (fun _ _ => False) s)
    (fin : ∀ B l rest G s, J ws.length B l rest G → St c B ((C, nsP l) :: rest) G s → R (.ok .next) s)
    {rest : Mo} (h0 : J 0 B l rest G) (S : St c B ((C, nsP l) :: (it, litP t 0) :: rest) G s) :
    codeAny (model PP c.w) A (.compLoop (.ListComp elt gens scope pos) d (.ref it) acc env) R s := by
  refine codeAny_loop rfl (fun n s => ∃ i B l rest G, n = ws.length - i ∧ i ≤ ws.length ∧ J i B l rest G ∧ St c B ((C, nsP l) :: (it, litP t i) :: rest) G s) ?_ ws.length ⟨0, B, l, rest, G, rfl, Nat.zero_le _, h0, by simpa using S⟩
  rintro n s ⟨i, B, l, rest, G, rfl, hi, hJ, S⟩
  show wpAny _ A ((compTurn (.ListComp elt gens scope pos) d (.ref it) acc env).onRaise (fun x => do noteFrame x env; theTreesLotGoes x)) _ _ s
  refine wpAny_noted ?_
  rw [heq]
  refine wpAny_bind (wpAny_standAt (wpAny_bind ?_))
  have hT := hl _ _ _ _ _ _ hJ S
  rcases Nat.lt_or_ge i ws.length with h | h
  · refine nextLs_item S (j := 1) rfl hT (List.getElem?_eq_getElem h) fun s' S' => ?_
    have S2 : St c B ((C, nsP l) :: (it, litP t (i + 1)) :: rest) G s' := S'
    obtain ⟨o, e, hc, _⟩ := S2.get 1 rfl
    refine wpAny_bind (letOwned_cls e hc (by decide) ?_)
    refine wpAny_bind (wpAny_mono (turn i _ B l rest G s' (List.getElem?_eq_getElem h) hJ S2) (fun _ s₂ h₂ => wpAny_mono h₂ (fun fin s₃ h₃ => ?_) fun _ _ x => x.elim) fun _ _ x => x.elim)
    obtain ⟨rfl, B, l, rest, G, a, b⟩ := h₃
    exact ⟨rfl, ws.length - (i + 1), by omega, i + 1, B, l, rest, G, rfl, h, a, b⟩
  · have hi' : i = ws.length := by omega
    subst hi'
    refine nextLs_end S (j := 1) rfl hT (List.getElem?_eq_none (Nat.le_refl _)) hh fun s' S' => ?_
    exact wpAny_pure (fin _ _ _ _ _ hJ S')

theorem NsD_of {m : Str → Option Value} {h : Heap} (x : h.Ns C m) : ∃ o, h.get? C = some o ∧ nsP [] o := by
  obtain ⟨o, es, ep, e, hd, hk, hf⟩ := x
  exact ⟨o, e, es, ep, hd, hk, fun _ _ h => by cases h⟩

/-- a list comprehension; its own frame C is laid before all else, then its list D -/
theorem evComp {elt target iter : Expr} {ifs : List Expr} {rest : List Comprehension} {scope : Scope} {cl : List (Str × Addr)} {Q : Value → Shared → Prop}
    (h : wpAny (model PP c.w) A (eval iter env) (fun x s₁ => wpAny (model PP c.w) A (pyIter x) (fun iv s₂ => ∃ B mu G I, iv = .ref I ∧ St c B mu G s₂ ∧
        (∀ s Q E, St c B mu G s → Q (.ref I) s → wpAny (model PP c.w) A (pyIter (.ref I)) Q E s) ∧
        ∀ C D s₃, St c B ((C, nsP []) :: (D, lstP []) :: mu) G s₃ →
          codeAny (model PP c.w) A (.compLoop (.ListComp elt (⟨target, iter, ifs, 0⟩ :: rest) scope pos) 0 (.ref I) (.ref D) (compEnvC scope cl C env))
            (fun r s' => ∃ f, r = .ok f ∧ ∃ B' l p mu' G', St c B' ((C, nsP l) :: (D, p) :: mu') G' s' ∧ ∀ s'', St c B' ((D, p) :: mu') G' s'' → Q (.ref D) s'') s₃) E s₁) E s)
    (hclos : closureFor scope env = pure cl := by rfl) (hcell : ∀ y ∈ scope.names, y.2 ≠ .cell := by decide) (hkind : scope.kind = .function := by rfl)
    (hnames : ∀ y ∈ scope.names, y.2 = .local → scope.names.lookup y.1 = some .local := by decide)
    (hs : ∀ x, foldedSetIterable iter env x = pure x := by intro _; rfl) :
    wpAny (model PP c.w) A (eval (.ListComp elt (⟨target, iter, ifs, 0⟩ :: rest) scope pos) env) Q E s := by
  rw [eval_ListComp]
  refine wpAny_comprehension_free (use := none) rfl hs hclos hkind hnames (wpAny_mono h (fun xv s₁ h₁ => wpAny_mono h₁ (fun it s₂ h₂ => ?_) fun _ _ e => e) fun _ _ e => e)
  obtain ⟨B, mu, G, I, rfl, S, hself, h₂⟩ := h₂
  refine wpAny_newObj_type (wpAny_newFunctionEnv hcell (by intro y hy; simp at hy) (fun h₁ hns₁ hsb₁ => ?_) hkind)
  have S1 := S.mut ({ cls := .type "list", dict := none, data := .seq ([] : List Value).toArray } : Obj) (P := lstP []) ⟨0, rfl⟩
  have S2 := S1.mut ({ cls := .type "dict", data := .dict #[] } : Obj) (P := fun _ => True) trivial
  obtain ⟨o', es, ep, e', hd', hk', hf'⟩ := hns₁
  have S3 := S2.upd0 (k' := nsP []) hsb₁ e' ⟨es, ep, hd', hk', fun x v hx => by cases hx⟩ (s₂.toks + ([] : List (Str × Value)).length)
  refine codeAny_mono (codeAny_compStart_list (h₂ _ _ _ S3) (hself _ _ _ S3.drop.drop (h₂ _ _ _ S3))) fun r s' hr => ?_
  obtain ⟨f, rfl, B', l, p, mu', G', S', hQ⟩ := hr
  obtain ⟨o, e, es, ep, hd, hk, _⟩ := S'.at_ _ (List.mem_cons_self ..)
  exact ⟨nsFind es, ns_of e hd hk, fun h' hs => hQ _ (S'.extBut 0 rfl hs.extBut)⟩

theorem selfR {p : Obj → Prop} {i left : Int} (j : Nat) (hj : mu[j]? = some (it, ritP i left 1)) : ∀ s Q E, St c B mu G s → Q (.ref it) s → wpAny (model PP c.w) A (pyIter (.ref it)) Q E s := fun s Q E S h => by
  obtain ⟨o, e, rfl⟩ := S.get j hj
  exact wpAny_pyIter_rangeiter e h
theorem selfL {i : Nat} (j : Nat) (hj : mu[j]? = some (it, litP t i)) : ∀ s Q E, St c B mu G s → Q (.ref it) s → wpAny (model PP c.w) A (pyIter (.ref it)) Q E s := fun s Q E S h => by
  obtain ⟨o, e, hc, hd⟩ := S.get j hj
  exact wpAny_pyIter_listiter ⟨o, e, hc, hd⟩ h

/-- all of a list of values are of a list of things -/
inductive All2 {α β : Type} (F : α → β → Prop) : List α → List β → Prop
  | nil : All2 F [] []
  | cons {x y l m} : F x y → All2 F l m → All2 F (x :: l) (y :: m)
theorem All2.snoc {α β : Type} {F : α → β → Prop} {x y l m} (h : All2 F l m) (q : F x y) : All2 F (l ++ [x]) (m ++ [y]) := by
  induction h with
  | nil => exact .cons q .nil
  | cons a _ ih => exact .cons a ih
theorem All2.imp {α β : Type} {F F' : α → β → Prop} {l m} (h : All2 F l m) (q : ∀ x y, F x y → F' x y) : All2 F' l m := by
  induction h with
  | nil => exact .nil
  | cons a _ ih => exact .cons (q _ _ a) ih
theorem All2.length {α β : Type} {F : α → β → Prop} {l m} (h : All2 F l m) : l.length = m.length := by
  induction h with
  | nil => rfl
  | cons a _ ih => simp [ih]
theorem All2.get {α β : Type} {F : α → β → Prop} {l m} (h : All2 F l m) : ∀ {i : Nat} {x}, l[i]? = some x → ∃ y, m[i]? = some y ∧ F x y := by
  induction h with
  | nil => intro i x e; simp at e
  | cons a _ ih =>
    intro i x e
    cases i with
    | zero => simp only [List.getElem?_cons_zero, Option.some.injEq] at e ⊢; subst e; exact ⟨_, rfl, a⟩
    | succ i => simp only [List.getElem?_cons_succ] at e ⊢; exact ih e

def rangeUpto (p : Nat → Bool) (n : Nat) : List Nat := (List.range n).filter p
theorem rangeUpto_succ (p : Nat → Bool) (n : Nat) : rangeUpto p (n + 1) = rangeUpto p n ++ (if p n then [n] else []) := by
  unfold rangeUpto; rw [List.range_succ, List.filter_append]; congr 1
  by_cases h : p n <;> simp [h]
/-- pairs (b, a), a below b, b below n, those that pass -/
def pairsUpto (p : Nat → Nat → Bool) : Nat → List (Nat × Nat)
  | 0 => []
  | b + 1 => pairsUpto p b ++ (rangeUpto (p b) b).map (Prod.mk b)
end
end Mine
end

section
open PySem PySem.W PyProof.Rows PySem.Calls
namespace Mine

section
variable {c : Cfg} {B B' : Hp} {mu mu' : Mo} {G : Array GenState} {s : Shared} {A : Around} {E : Value → Shared → Prop} {env : Env} {L C D a it t : Addr} {l l' : List (Str × Value)} {x y : Str} {pos : Pos} {v : Value} {vs ws : List Value} {j k n : Nat}

theorem pairs_len (p : Nat → Nat → Bool) : ∀ n, (pairsUpto p n).length ≤ n * n
  | 0 => by simp [pairsUpto]
  | n + 1 => by
    have := pairs_len p n
    have h2 : (rangeUpto (p n) n).length ≤ n := by
      unfold rangeUpto; refine Nat.le_trans (List.length_filter_le _ _) (by simp)
    simp only [pairsUpto, List.length_append, List.length_map]
    have : (n + 1) * (n + 1) = n * n + n + n + 1 := by rw [Nat.add_mul, Nat.mul_add]; omega
    omega

theorem lk0 : List.lookup x ((x, v) :: l) = some v := by simp
theorem lk1 {w : Value} (h : (x == y) = false) (hl : List.lookup x l = some v) : List.lookup x ((y, w) :: l) = some v := by rw [List.lookup_cons, h]; exact hl
theorem emit {elt : Expr} {Q : Unit → Shared → Prop} {D : Addr}
    (h : wpAny (model PP c.w) A (eval elt env) (fun v s₂ => ∃ (B : Hp) (mu : Mo) (G : Array GenState) (i : Nat) (ws : List Value), St c B mu G s₂ ∧ mu[i]? = some (D, lstP ws) ∧ ws.length ≤ sizeLine ∧
      ∀ s', St c B (mu.set i (D, lstP (ws ++ [v]))) G s' → Q () s') E s) :
    wpAny (model PP c.w) A (do let _ ← call (.builtin "list.append") [.ref D, ← eval elt env]) Q E s := by
  refine wpAny_bind (wpAny_mono h (fun v s₂ h₂ => ?_) fun _ _ x => x)
  obtain ⟨B, mu, G, i, ws, S, hi, hf, h₂⟩ := h₂
  exact wpAny_bind (append S i hi (fun s' S' => wpAny_pure (h₂ s' S')) hf)

theorem compStart_l2' {elt t1 i1 t2 i2 : Expr} {f1 f2 : List Expr} {scope : Scope} {itv acc : Value} {R : Result → Shared → Prop}
    (h0 : codeAny (model PP c.w) A (.compLoop (.ListComp elt [⟨t1, i1, f1, 0⟩, ⟨t2, i2, f2, 0⟩] scope pos) 1 itv acc env) R s)
    (h : wpAny (model PP c.w) A (pyIter itv) (fun it' s' => codeAny (model PP c.w) A (.compLoop (.ListComp elt [⟨t1, i1, f1, 0⟩, ⟨t2, i2, f2, 0⟩] scope pos) 1 it' acc env) R s') (fun _ _ => False) s) :
    codeAny (model PP c.w) A (.compStart (.ListComp elt [⟨t1, i1, f1, 0⟩, ⟨t2, i2, f2, 0⟩] scope pos) 1 itv acc env) R s := by
  refine codeAny_of_tree ?_
  show wpAny _ _ ((compStart (.ListComp elt [⟨t1, i1, f1, 0⟩, ⟨t2, i2, f2, 0⟩] scope pos) 1 itv acc env).onRaise (fun x => do noteFrame x env; standAt theWindowsPlace)) _ _ s
  refine wpAny_notedAt ?_
  unfold compStart
  show wpAny _ _ (ask >>= _) _ _ s
  refine wpAny_bind (wpAny_askSetting (wpAny_ite ?_))
  split
  · first
      | exact wpAny_bind (wpAny_pure (wpAny_pure (And.intro rfl h0)))
      | exact wpAny_pure (And.intro rfl h0)
  · first
      | exact wpAny_bind (wpAny_rule (wpAny_bind (wpAny_standAt (wpAny_bind (wpAny_mono h (fun it' s' h' => wpAny_pure (And.intro rfl h')) fun _ _ x => x.elim)))))
      | (refine wpAny_bind (wpAny_rule ?_); show wpAny _ _ (standAt i2.pos >>= _) _ _ s; exact wpAny_bind (wpAny_standAt (wpAny_bind (wpAny_mono h (fun it' s' h' => wpAny_pure (And.intro rfl h')) fun _ _ x => x.elim))))

theorem compPairs {elt cnd i1 : Expr} {scope : Scope} {px py pr pr2 pr3 : Pos} {R : Result → Shared → Prop} {N n : Nat} (p : Nat → Nat → Bool) (Rel : Hp → Value → Nat × Nat → Prop)
    (hmono : ∀ B B' v q, Le B B' → Rel B v q → Rel B' v q) (fit : Fit n A) (hB : Bas B) (hN : N ≤ 4)
    (hc : ∀ (b a : Nat) tb ta B' l p1 p2 p3 s, b < N → a < b → Le B B' → l.lookup x = some (.int b tb) → l.lookup y = some (.int a ta) → St c B' ((C, nsP l) :: p1 :: p2 :: p3 :: mu) G s →
      wpAny (model PP c.w) A (isTrue cnd env (eval cnd env)) (fun ok s' => ok = p b a ∧ ∃ B'', Le B' B'' ∧ St c B'' ((C, nsP l) :: p1 :: p2 :: p3 :: mu) G s') (fun _ _ => False) s)
    (helt : ∀ (b a : Nat) tb ta B' l p1 p2 p3 s, b < N → a < b → Le B B' → l.lookup x = some (.int b tb) → l.lookup y = some (.int a ta) → St c B' ((C, nsP l) :: p1 :: p2 :: p3 :: mu) G s →
      wpAny (model PP c.w) A (eval elt env) (fun v s' => ∃ B'', Le B' B'' ∧ Rel B'' v (b, a) ∧ St c B'' ((C, nsP l) :: p1 :: p2 :: p3 :: mu) G s') (fun _ _ => False) s)
    (fin : ∀ B' l vs s, Le B B' → All2 (Rel B') vs (pairsUpto p N) → St c B' ((C, nsP l) :: (D, lstP vs) :: mu) G s → R (.ok .next) s)
    (S : St c B ((C, nsP []) :: (it, ritP 0 N 1) :: (D, lstP []) :: mu) G s)
    (hxy : (x == y) = false := by decide) (hdx : (x == ("__debug__" : Str)) = false := by decide) (hC : env.locals = C := by rfl) (hk : env.scope.kind = .function := by rfl) (hx : env.kindOf x = some .local := by rfl) (hy : env.kindOf y = some .local := by rfl)
    (hr : env.kindOf (Str.ofString "range") = some .globalImplicit := by rfl) (hG : env.globals = mainGlobals := by rfl) (hBn : env.builtins = builtinsNs := by rfl) :
    codeAny (model PP c.w) A (.compLoop (.ListComp elt [⟨.Name x px, i1, [], 0⟩, ⟨.Name y py, .Call (.Name (Str.ofString "range") pr) [.Name x pr2] [] pr3, [cnd], 0⟩] scope pos) 0 (.ref it) (.ref D) env) R s := by
  refine compRng (by rfl) fit.hd (fun i B' l rest G' => Le B B' ∧ G' = G ∧ ∃ vs, rest = (D, lstP vs) :: mu ∧ All2 (Rel B') vs (pairsUpto p i)) ?_ ?_ ⟨Le.refl _, rfl, [], rfl, .nil⟩ S
  · rintro b tb B₁ l rest G' s hb ⟨hle, rfl, vs, rfl, hvs⟩ S
    refine stL S (fun s S => ?_) hC hk hx
    refine wpAny_bind (wpAny_pure ?_)
    show wpAny _ _ (eval _ _ >>= _) _ _ _
    refine wpAny_bind (evCallT (ldB S (hB.mono hle).nRange (hB.mono hle).bRange ⟨_, rfl, ?_⟩ hG hBn hk hr))
    refine wpAny_items_cons (ldL S lk0 (wpAny_items_nil ?_) hC hk hx hdx)
    refine rangeOf S fun r s S => ?_
    refine wpAny_bind (wpAny_standAt (wpAny_bind (wpAny_pure (wpAny_bind (wpAny_holding ?_)))))
    refine iterR S (by omega) (by omega) fun it2 s S => ?_
    refine wpAny_bind (wpAny_runOwn ?_)
    have S0 : St c B₁ ((C, nsP ((x, .int (b : Int) tb) :: l)) :: (it2, ritP 0 (b : Int) 1) :: (it, ritP ((b + 1 : Nat)) (N - (b + 1 : Nat)) 1) :: (D, lstP vs) :: mu) G' s := S
    have hloop : ∀ s, St c B₁ ((C, nsP ((x, .int (b : Int) tb) :: l)) :: (it2, ritP 0 (b : Int) 1) :: (it, ritP ((b + 1 : Nat)) (N - (b + 1 : Nat)) 1) :: (D, lstP vs) :: mu) G' s →
        codeAny (model PP c.w) A (.compLoop (.ListComp elt [⟨.Name x px, i1, [], 0⟩, ⟨.Name y py, .Call (.Name (Str.ofString "range") pr) [.Name x pr2] [] pr3, [cnd], 0⟩] scope pos) 1 (.ref it2) (.ref D) env)
          (fun r s' => r = .ok .next ∧ ∃ B₂ l₂ vs₂, Le B₁ B₂ ∧ All2 (Rel B₂) vs₂ (pairsUpto p (b + 1)) ∧ St c B₂ ((C, nsP l₂) :: (it, ritP ((b + 1 : Nat)) (N - (b + 1 : Nat)) 1) :: (D, lstP vs₂) :: mu) G' s') s := by
      intro s S
      refine compRng (by rfl) fit.hd (fun i B₂ l₂ rest₂ G'' => Le B₁ B₂ ∧ G'' = G' ∧ l₂.lookup x = some (.int (b : Int) tb) ∧ ∃ vs₂, rest₂ = (it, ritP ((b + 1 : Nat)) (N - (b + 1 : Nat)) 1) :: (D, lstP vs₂) :: mu ∧
        All2 (Rel B₂) vs₂ (pairsUpto p b ++ (rangeUpto (p b) i).map (Prod.mk b))) ?_ ?_ ⟨Le.refl _, rfl, lk0, vs, rfl, by simpa [rangeUpto] using hvs⟩ S
      · rintro a ta B₂ l₂ rest₂ G'' s hab ⟨hle2, rfl, hlx, vs₂, rfl, hvs₂⟩ S
        have hlen := hvs₂.length
        have hl1 := pairs_len p b
        have hl2 : (rangeUpto (p b) a).length ≤ a := by unfold rangeUpto; refine Nat.le_trans (List.length_filter_le _ _) (by simp)
        simp only [List.length_append, List.length_map] at hlen
        have hsz : vs₂.length ≤ 100 := by
          have : b * b ≤ 4 * 4 := Nat.mul_le_mul (by omega) (by omega)
          omega
        refine stL S (fun s S => ?_) hC hk hy
        refine wpAny_bind (wpAny_tests_one (wpAny_mono (hc b a tb ta B₂ _ _ _ _ s hb hab (hle.trans hle2) (lk1 hxy hlx) lk0 S) (fun ok s h₁ => ?_) fun _ _ x => x))
        obtain ⟨rfl, B₃, hle3, S⟩ := h₁
        by_cases hp : p b a = true
        · rw [if_pos hp]
          refine wpAny_bind (emit (wpAny_mono (helt b a tb ta B₃ _ _ _ _ s hb hab (hle.trans (hle2.trans hle3)) (lk1 hxy hlx) lk0 S) (fun v s h₂ => ?_) fun _ _ x => x))
          obtain ⟨B₄, hle4, hR, S⟩ := h₂
          refine ⟨_, _, _, 3, vs₂, S, rfl, szl _ hsz, fun s S => wpAny_pure ⟨rfl, B₄, _, _, _, ⟨hle2.trans (hle3.trans hle4), rfl, lk1 hxy hlx, _, rfl, ?_⟩, S⟩⟩
          rw [rangeUpto_succ, if_pos hp, List.map_append, ← List.append_assoc]
          exact (hvs₂.imp fun _ _ => hmono _ _ _ _ (hle3.trans hle4)).snoc hR
        · rw [if_neg hp]
          refine wpAny_pure ⟨rfl, B₃, _, _, _, ⟨hle2.trans hle3, rfl, lk1 hxy hlx, _, rfl, ?_⟩, S⟩
          rw [rangeUpto_succ, if_neg hp, List.append_nil]
          exact hvs₂.imp fun _ _ => hmono _ _ _ _ hle3
      · rintro B₂ l₂ rest₂ G'' s ⟨hle2, rfl, hlx, vs₂, rfl, hvs₂⟩ S
        exact ⟨rfl, B₂, l₂, vs₂, hle2, hvs₂, S⟩
    refine codeAny_mono (?_ : codeAny _ _ _ (fun r s' => r = .ok .next ∧ ∃ B₂ l₂ vs₂, Le B₁ B₂ ∧ All2 (Rel B₂) vs₂ (pairsUpto p (b + 1)) ∧ St c B₂ ((C, nsP l₂) :: (it, ritP ((b + 1 : Nat)) (N - (b + 1 : Nat)) 1) :: (D, lstP vs₂) :: mu) G' s') _) fun r s' hr => ?_
    rotate_left
    · obtain ⟨rfl, B₂, l₂, vs₂, hle2, hvs₂, S⟩ := hr
      exact wpAny_pure ⟨rfl, B₂, l₂, _, _, ⟨hle.trans hle2, rfl, vs₂, rfl, hvs₂⟩, S⟩
    · exact compStart_l2' (hloop _ S0) (selfR (p := fun _ => True) 1 rfl _ _ _ S0 (hloop _ S0))
  · rintro B₁ l rest G' s ⟨hle, rfl, vs, rfl, hvs⟩ S
    exact fin _ _ _ _ hle hvs S
end
end Mine
end

section
open PySem PySem.W PyProof.Rows PySem.Calls
namespace Mine

def wrongT (p : List Int) (b a : Nat) : Bool := decide (p.getD a 0 > p.getD b 0)
def wrongP (p : List Int) : List (List Int) := (pairsUpto (wrongT p) p.length).map fun q => [p.getD q.1 0, p.getD q.2 0]

theorem All2.map {α β γ : Type} {F : α → γ → Prop} {f : β → γ} {l m} (h : All2 (fun x y => F x (f y)) l m) : All2 F l (m.map f) := by
  induction h with
  | nil => exact .nil
  | cons a _ ih => exact .cons a ih

section
variable {c : Cfg} {B B' : Hp} {mu mu' : Mo} {G : Array GenState} {s : Shared} {A : Around} {E : Value → Shared → Prop} {env : Env} {L C D a it t : Addr} {l l' : List (Str × Value)} {x y : Str} {pos : Pos} {v : Value} {vs ws : List Value} {j k n : Nat}

theorem seqIdx {a n : Nat} (h : a < n) : seqIndex? (a : Int) n = some a := by
  unfold seqIndex?
  first | (simp; omega) | skip
theorem subPm {value slice : Expr} {p : List Int} {u : Tok} {Q : Value → Shared → Prop} (S : St c B mu G s) (hT : Tup B v vs) (hI : IntsAre vs p) {k : Int} (a : Nat) (hk : k = a) (ha : a < p.length) (h100 : p.length ≤ 100) (h : ∀ t, Q (.int (p.getD a 0) t) s)
    (hs : ∀ t, subscripted slice false (.ref t) (.int k u) = operate [.ref t, .int k u] (getItem (.ref t) (.int k u)) := by intro _; with_unfolding_all rfl)
    (hg : ∀ t r, letTemporaryGo value (.ref t) r = pure () := by intro _ _; with_unfolding_all rfl) :
    wpAny (model PP c.w) A (subscriptTail value slice v (.int k u)) Q E s := by
  subst hk
  have := hI.length
  obtain ⟨t, e⟩ := ints_getD hI (i := a) (by omega)
  exact subT S hT (seqIdx (by omega)) e (h t) (by omega) (by omega) hs hg

theorem lawWrong_spec {p : List Int} {f : Addr × (Obj → Prop)} {Q : Value → Shared → Prop} (S : St c B (f :: mu) G s) (hB : Bas B) (fit : Fit (n + 1) A) (hv : Pm B v p) (hp : p.length ≤ 4)
    (h : ∀ D B' ws s', Le B B' → All2 (Pm B') ws (wrongP p) → St c B' (f :: (D, lstP ws) :: mu) G s' → Q (.ref D) s') :
    wpAny (model PP c.w) A (call (.ref 123) [v] []) Q E s := by
  obtain ⟨vs, hT, hI⟩ := hv
  have hlen : vs.length = p.length := hI.length
  refine wpAny_call (callFnC S hB.lawWrong hB.lim fit rfl (binds := [("row", v)]) rfl rfl rfl (by decide) [] (fun _ _ _ h => by cases h) fun L s A fit S => ?_)
  have S0 : St c B ((L, nsP []) :: (L + 1, celP (some v)) :: f :: mu) G s := S
  refine wpAny_execs_cons (wpAny_Return_some (evComp ?_))
  refine evCallT (ldB S0 hB.nRange hB.bRange ⟨_, rfl, wpAny_items_cons (evCallB (ldB S0 hB.nLen hB.bLen ⟨_, rfl, wpAny_items_cons (ldC S0 1 rfl (wpAny_items_nil ?_)) ⟩)) ⟩)
  refine lenT S0 hT (fun tk s S => wpAny_items_nil ?_) (by omega)
  refine rangeOf S fun r s S => iterR S (by omega) (by omega) fun it s S => ?_
  refine ⟨_, _, _, it, rfl, S, selfR (p := fun _ => True) 1 rfl, fun C D s S => ?_⟩
  have S1 : St c B ((C, nsP []) :: (it, ritP 0 (p.length : Nat) 1) :: (D, lstP []) :: (L, nsP []) :: (L + 1, celP (some v)) :: f :: mu) G s := by
    rw [← hlen]; exact S.pick [0, 3, 1, 2] 4
  refine compPairs (wrongT p) (fun B v q => Pm B v [p.getD q.1 0, p.getD q.2 0]) (fun _ _ _ _ hl h => h.mono hl) fit hB hp ?_ ?_ ?_ S1
  · intro b a tb ta B' l p1 p2 p3 s hb hab hle hx hy S
    refine wpAny_isTrue_Compare1 (Subscript_ (ldC S 5 rfl (ldL S hy (subPm S (hT.mono hle) hI a rfl (by omega) (by omega) fun t1 => ?_))))
    refine Subscript_ (ldC S 5 rfl (ldL S hx (subPm S (hT.mono hle) hI b rfl (by omega) (by omega) fun t2 => ?_)))
    refine P.gt_int (wpAny_truthy_bool ⟨rfl, B', Le.refl _, S⟩)
  · intro b a tb ta B' l p1 p2 p3 s hb hab hle hx hy S
    refine evTuple (wpAny_items_cons (Subscript_ (ldC S 5 rfl (ldL S hx (subPm S (hT.mono hle) hI b rfl (by omega) (by omega) fun t1 => ?_)))))
    refine wpAny_items_cons (Subscript_ (ldC S 5 rfl (ldL S hy (subPm S (hT.mono hle) hI a rfl (by omega) (by omega) fun t2 => wpAny_items_nil ?_))))
    exact ⟨szl _ (by simp), _, _, _, S, fun r B' s hle hT S => ⟨B', hle, ⟨_, hT, .cons _ _ (.cons _ _ .nil)⟩, S⟩⟩
  · intro B' l vs s hle hvs S
    refine ⟨_, rfl, B', l, _, _, _, S, fun s S => h _ _ _ _ hle hvs.map ?_⟩
    exact S.pick [3, 0] 4
end
end Mine
end

section
open PySem PySem.W PyProof.Rows PySem.Calls
namespace Mine

def wlO (dx : Addr) : Obj := ⟨.ref 80, some dx, .plain, #[]⟩
/-- a work list whose pq is the list at pq -/
def WlAt (B : Hp) (x pq : Addr) : Prop := ∃ dx hs t, B x = some (wlO dx) ∧ B dx = some (dictOf [⟨hs, .str (Str.ofString "pq") t, .ref pq⟩] 1)
theorem WlAt.mono {B B' : Hp} {x pq : Addr} (h : WlAt B x pq) (l : Le B B') : WlAt B' x pq := let ⟨dx, hs, t, a, b⟩ := h; ⟨dx, hs, t, l _ _ a, l _ _ b⟩

theorem w_tc (args : Args) : (Code.builtin "type.__call__" args).weight ≤ 2 := by
  have h1 : (Code.builtin "type.__call__" args).frames = 0 := rfl
  have h2 : (Code.builtin "type.__call__" args).isCaller = false := by simp [Code.isCaller]
  unfold Code.weight
  rw [h1, h2]
  split <;> split <;> simp
theorem u_tc (args : Args) : (Code.builtin "type.__call__" args).cUnits ≤ 3 := by
  have h1 : (Code.builtin "type.__call__" args).cUnits = 1 := rfl
  omega
theorem Fit.underB {n : Nat} {A : Around} (F : Fit (n + 2) A) (args : Args) : Fit n (A.under (.builtin "type.__call__" args)) :=
  ⟨F.hd, by have := F.dp; have := w_tc args; show A.depth + (Code.builtin "type.__call__" args).weight + n < 600; omega,
    by have := F.un; have := u_tc args; show A.units + (Code.builtin "type.__call__" args).cUnits + 20 * n < 4000; omega⟩

section
variable {c : Cfg} {B B' : Hp} {mu mu' : Mo} {G : Array GenState} {s : Shared} {A : Around} {E : Value → Shared → Prop} {env : Env} {L C D a it t : Addr} {l l' : List (Str × Value)} {x y : Str} {pos : Pos} {v : Value} {vs ws : List Value} {j k n : Nat}

theorem St.inK {K : Frag} (S : St c B mu G s) (k : KF K B) : K.In s.heap := fun a o e => S.base _ _ (k.inK a o e)
theorem St.inst {w pq : Addr} (S : St c B mu G s) (h : WlAt B w pq) : ∃ dx hs t, InstAt s.heap w (wlO dx) 80 (some (dictOf [⟨hs, .str (Str.ofString "pq") t, .ref pq⟩] 1)) := by
  obtain ⟨dx, hs, t, a, b⟩ := h
  exact ⟨dx, hs, t, S.base _ _ a, rfl, rfl, S.base _ _ b⟩

/-- self.pq -/
theorem evPq {o : Expr} {w pq : Addr} {Q : Value → Shared → Prop} {apos : Pos}
    (h : wpAny (model PP c.w) A (eval o env) (fun ov s₁ => ∃ (B : Hp) (mu : Mo) (G : Array GenState), ov = .ref w ∧ St c B mu G s₁ ∧ Bas B ∧ WlAt B w pq ∧ ∀ s', St c B mu G s' → Q (.ref pq) s') E s)
    (hbase : attributeBase o (Str.ofString "pq") env (eval o env) = eval o env := by rfl)
    (hg : ∀ t r, letTemporaryGo o (.ref t) r = pure () := by intro _ _; with_unfolding_all rfl) :
    wpAny (model PP c.w) A (eval (.Attribute o (Str.ofString "pq") apos) env) Q E s := by
  rw [arm_eval_Attribute, hbase]
  refine wpAny_bind (wpAny_mono h (fun ov s₁ h₁ => ?_) fun _ _ x => x)
  obtain ⟨B, mu, G, rfl, S, hB, hw, h₁⟩ := h₁
  obtain ⟨K, k⟩ := hB.kf
  obtain ⟨dx, hs, t, I⟩ := S.inst hw
  refine wpAny_bind (wpAny_standAt (wpAny_bind (wpAny_holding (get_value (S.inK k) I k.gatt (findObj_own k.hasD k.pq rfl (v := .ref pq) ?_) rfl ?_))))
  · rw [lookIn_dict]; unfold getL; simp [Value.isStr]
  · rw [hg]; exact wpAny_bind (wpAny_pure (wpAny_pure (h₁ _ (S.toks _))))

/-- a method of a work list -/
theorem methWl {w pq f : Addr} {name : Str} {pl : Sem Bool} {Q : Value × List Value → Shared → Prop} {K : Frag} (S : St c B mu G s) (k : KF K B) (hw : WlAt B w pq)
    (hf : findIn K (.ref 80) name = some (some (.ref f))) (ht : typeIn K (.ref f) = some (.type "function")) (hn : (Str.ofString "pq" == name) = false) (h : Q (.ref f, [.ref w]) s) :
    wpAny (model PP c.w) A (getMethod (.ref w) name pl) Q E s := by
  obtain ⟨dx, hs, t, I⟩ := S.inst hw
  refine method_fn (S.inK k) I k.gatt k.gat hf ht ?_ h
  show (lookIn name (dictOf _ _)).map _ = _
  rw [lookIn_dict]; unfold getL
  simp [Value.isStr, hn, DictEntry.refKey]

theorem newWl_spec {f : Addr × (Obj → Prop)} {R : Result → Shared → Prop} (S : St c B (f :: mu) G s) (hB : Bas B) (fit : Fit (n + 4) A)
    (h : ∀ x pq B' s', Le B B' → WlAt B' x pq → St c B' (f :: (pq, lstP []) :: mu) G s' → R (.ok (.ret (.ref x))) s') :
    codeAny (model PP c.w) A (.call (.ref 80) ⟨[], []⟩) R s := by
  obtain ⟨K, k⟩ := hB.kf
  obtain ⟨hh, g, d, t, os⟩ := s
  refine make_core (makes_of (S.inK k) k.makes) (looks_findIn (S.inK k) k.init) (fun self => bind_fn (S.inK k) self k.tInit) (.inl rfl) ?_
  have S1 := S.mut1 emptyDict (P := fun o => o = emptyDict) rfl
  have S2 := S1.mut1 (instObj 80 hh.objs.size) (P := fun o => o = instObj 80 hh.objs.size) rfl
  rw [show ({ heap := hh.push emptyDict, gens := g, drawn := d, toks := t, os := os } : Shared).heap.objs.size = hh.objs.size + 1 from Heap.size_push ..] at S2
  have S3 : St c B (f :: (hh.objs.size + 1, fun o => o = instObj 80 hh.objs.size) :: (hh.objs.size, fun o => o = emptyDict) :: mu) G ⟨(hh.push emptyDict).push (instObj 80 hh.objs.size), g, d, t, os⟩ := S2
  clear S1 S2 S
  generalize hh.objs.size + 1 = x at S3 ⊢
  generalize hh.objs.size = dx at S3 ⊢
  refine callFn S3 hB.init hB.lim (fit.underB _ |>.le (Nat.le_succ _)) rfl (binds := [("self", .ref x)]) rfl rfl fun L s A fit S => ?_
  refine wpAny_execs_cons (plainObj_wpAny_Assign_Attribute (evList (wpAny_items_nil ⟨szl _ (by simp), _, _, _, _, S, fun pq s S => ldL S rfl ?_⟩)))
  obtain ⟨ox, ex, rfl⟩ := S.get 3 rfl
  obtain ⟨od, ed, rfl⟩ := S.get 4 rfl
  have I : InstAt s.heap x (wlO dx) 80 (some emptyDict) := ⟨ex, rfl, rfl, ed⟩
  refine set_plain (S.inK k) I k.seta (osa_open (s := { s with toks := s.toks + 1 }) (S.inK k) I k.over k.taker fun b => ?_)
  obtain ⟨cd, hc, hd'⟩ := any_some (show (clsIn K 80).any (·.hasDict) = true from k.hasD)
  refine wpAny_bind (wpAny_pure (wpAny_bind (wpAny_bind (wpAny_loadPart ex (wpAny_bind ((looks_clsIn ((S.toks (s.toks + 1)).inK k) hc).here ?_))))))
  rw [hd']
  refine wpAny_pure (a := some dx) (wpAny_bind (wpAny_pure (wpAny_bind ?_)))
  unfold nsSet
  refine wpAny_bind (wpAny_bind (wpAny_askSetting (wpAny_pure (wpAny_bind (wpAny_mkText (wpAny_bind (wpAny_loadPart ed ?_)))))))
  have hget : (s.heap.update dx (Obj.putName (Str.ofString "pq") (PyData.keyHash c.w.params (Str.ofString "pq")) (.str (Str.ofString "pq") (s.toks + 1)) (.ref pq))).get? dx = some (dictOf [⟨PyData.keyHash c.w.params (Str.ofString "pq"), .str (Str.ofString "pq") (s.toks + 1), .ref pq⟩] 1) := by
    refine Heap.get?_update_self _ ed ?_
    rfl
  refine wpAny_updatePart ed ?_
  refine wpAny_bind (wpAny_lookBehind hget (by exact pastItsLine_dict (by rw [sizeLine_eq]; simp)) ?_)
  have S4 := S.upd 4 rfl (Heap.SameBut.update s.heap dx _) hget (k' := fun o => o = dictOf [⟨PyData.keyHash c.w.params (Str.ofString "pq"), .str (Str.ofString "pq") (s.toks + 1), .ref pq⟩] 1) rfl (s.toks + 1 + 1)
  refine wpAny_pure (wpAny_execs_nil ?_)
  have S5 := (S4.pick [3, 4, 2, 1] 5).freeze
  obtain ⟨o1, rfl, S5⟩ := S5
  obtain ⟨o2, rfl, S5'⟩ := S5.freeze
  have l1 := le_insB (o := instObj 80 dx) (S4.pick [3, 4, 2, 1] 5).sepA
  have l2 := le_insB (o := dictOf [⟨PyData.keyHash c.w.params (Str.ofString "pq"), .str (Str.ofString "pq") (s.toks + 1), .ref pq⟩] 1) S5.sepA
  refine ⟨rfl, h x pq _ _ (l1.trans l2) ⟨dx, _, _, l2 _ _ (insB_self ..), insB_self ..⟩ S5'⟩
end
end Mine
end

section
open PySem PySem.W PyProof.Rows PySem.Calls
namespace Mine

def ltP : List Int → List Int → Bool
  | [], [] => false
  | [], _ :: _ => true
  | _ :: _, [] => false
  | x :: xs, y :: ys => if x = y then ltP xs ys else decide (x < y)

section
variable {c : Cfg} {B B' : Hp} {mu mu' : Mo} {G : Array GenState} {s : Shared} {A : Around} {E : Value → Shared → Prop} {a b : Addr} {v u : Value} {vs ws : List Value} {p q : List Int}

/-- how two lists of items compare, in the state s -/
inductive LexR (w : World) (A : Around) (s : Shared) : List Value → List Value → Bool → Prop
  | nl {ys} : LexR w A s [] ys (decide (0 < ys.length))
  | nr {xs} : LexR w A s xs [] false
  | eq {x y xs ys b} : (∀ (Q : Bool → Shared → Prop) E, Q true s → wpAny (model PP w) A (eqBool x y) Q E s) → LexR w A s xs ys b → LexR w A s (x :: xs) (y :: ys) b
  | ne {x y xs ys b} : (∀ (Q : Bool → Shared → Prop) E, Q false s → wpAny (model PP w) A (eqBool x y) Q E s) → (∀ (Q : Value → Shared → Prop) E, Q (.bool b) s → wpAny (model PP w) A (richCompare .Lt x y) Q E s) → LexR w A s (x :: xs) (y :: ys) b

theorem lex_tree {bo : Bool} {w : World} {P : Fin → Shared → Prop} (ha : s.heap.get? a = some (tupO vs)) (hb : s.heap.get? b = some (tupO ws)) (hl : LexR w A s vs ws bo) (h : P (.done (.ret (.bool bo))) s) :
    wpAny (model PP w) A (Builtin.«tuple.__lt__» ⟨[.ref a, .ref b], []⟩) P E s := by
  have hTb : s.TypeIs (.ref b) "tuple" := ⟨_, hb, rfl⟩
  show wpAny _ _ (isInstance (.ref b) (.type "tuple") >>= _) _ _ s
  refine wpAny_bind (wpAny_isInstance hTb isSubtype_tuple_tuple ?_)
  simp only [Bool.not_true, Bool.false_eq_true, if_false]
  refine wpAny_bind (wpAny_tupleItemsOf ha rfl ?_)
  refine wpAny_bind (wpAny_tupleItemsOf hb rfl ?_)
  refine wpAny_bind ?_
  refine wpAny_forIn_list _
    (fun rest r s' => r.1 = none ∧ s' = s ∧ ∃ xs' ys', rest = List.zip xs' ys' ∧ LexR w A s xs' ys' bo ∧ (decide (xs'.length < ys'.length)) = decide (vs.length < ws.length))
    _ ?_ ?_ _ _ ⟨rfl, rfl, vs, ws, rfl, hl, rfl⟩
  · rintro ⟨x, y⟩ rest r s' ⟨hr, rfl, xs', ys', hz, hlx, hlen⟩
    cases hlx with
    | nl => simp at hz
    | nr => simp at hz
    | eq he hrest =>
      simp only [List.zip_cons_cons, List.cons.injEq, Prod.mk.injEq] at hz
      obtain ⟨⟨rfl, rfl⟩, rfl⟩ := hz
      refine wpAny_bind (he _ _ ?_)
      simp only [Bool.not_true, Bool.false_eq_true, if_false]
      exact wpAny_pure ⟨rfl, rfl, _, _, rfl, hrest, by simpa using hlen⟩
    | ne he hc =>
      simp only [List.zip_cons_cons, List.cons.injEq, Prod.mk.injEq] at hz
      obtain ⟨⟨rfl, rfl⟩, rfl⟩ := hz
      refine wpAny_bind (he _ _ ?_)
      simp only [Bool.not_false, if_true]
      exact wpAny_bind (wpAny_rule (wpAny_bind (hc _ _ (wpAny_bind (wpAny_pure (wpAny_pure (wpAny_pure h)))))))
  · rintro ⟨r1, r2⟩ s' ⟨hr, rfl, xs', ys', hz, hlx, hlen⟩
    simp only at hr
    subst hr
    refine wpAny_pure ?_
    have hfin : decide (vs.length < ws.length) = bo := by
      rw [← hlen]
      cases hlx with
      | nl => simp
      | nr => simp
      | eq _ _ => simp at hz
      | ne _ _ => simp at hz
    show P (.done (.ret (.bool (decide (vs.toArray.size < ws.toArray.size))))) s'
    rw [List.size_toArray, List.size_toArray, hfin]; exact h

theorem lt_of_lex {bo : Bool} {w : World} {Q : Value → Shared → Prop} (ha : s.heap.get? a = some (tupO vs)) (hb : s.heap.get? b = some (tupO ws)) (hl : LexR w A.in1 s vs ws bo) (hu : A.units < cLine) (h : Q (.bool bo) s) :
    wpAny (model PP w) A (richCompare .Lt (.ref a) (.ref b)) Q E s :=
  have ta : s.TypeIs (.ref a) "tuple" := ⟨_, ha, rfl⟩
  wpAny_richCompare_same_room (op := .Lt) ta ⟨_, hb, rfl⟩ F.slot_tuple_lt
    (wpAny_call_entry F.slot_tuple_lt ta F.entry_tuple_lt (lex_tree ha hb hl ⟨_, rfl, (fun e => nomatch e), h⟩) (F.args_tuple_lt_2 _ _)) hu

theorem lex_ints {w : World} (hp : IntsAre vs p) : ∀ {ws q}, IntsAre ws q → LexR w A s vs ws (ltP p q) := by
  induction hp with
  | nil =>
    intro ws q hq
    cases hq with
    | nil => exact .nl
    | cons n t r => exact .nl
  | cons n t r ih =>
    intro ws q hq
    cases hq with
    | nil => exact .nr
    | cons m u r' =>
      unfold ltP
      by_cases e : n = m
      · rw [if_pos e]
        exact .eq (fun Q E h => wpAny_eqBool_int (by rw [beq_iff_eq.mpr e]; exact h)) (ih r')
      · rw [if_neg e]
        exact .ne (fun Q E h => wpAny_eqBool_int (by rw [beq_eq_false_iff_ne.mpr e]; exact h)) fun Q E h => P.lt_int h

theorem items_of (w : World) (h : IntsAre vs p) : ItemsAre (intKind PP w) p vs := by
  induction h with
  | nil => exact .nil
  | cons n t r ih => exact .cons (by simp [intKind, Value.isInt]) ih
theorem St.tkey (S : St c B mu G s) (w : World) (h : Pm B v p) : ∃ a, v = .ref a ∧ IsTupleKey (intKind PP w) s.heap p a := by
  obtain ⟨vs, ⟨a, rfl, e⟩, i⟩ := h
  exact ⟨a, rfl, _, _, _, S.base _ _ e, rfl, rfl, items_of w i⟩
theorem eqB_pm {Q : Bool → Shared → Prop} (S : St c B mu G s) (hv : Pm B v p) (hw : Pm B u q) (hu : A.units < cLine) (h : Q (decide (p = q)) s) : wpAny (model PP c.w) A (eqBool v u) Q E s := by
  obtain ⟨a, rfl, ha⟩ := S.tkey c.w hv
  obtain ⟨b, rfl, hb⟩ := S.tkey c.w hw
  exact wpAny_eqBool_tuple hu ha hb h
theorem lt_pm {Q : Value → Shared → Prop} (S : St c B mu G s) (hv : Pm B v p) (hw : Pm B u q) (hu : A.units < cLine) (h : Q (.bool (ltP p q)) s) : wpAny (model PP c.w) A (richCompare .Lt v u) Q E s := by
  obtain ⟨vs, ⟨a, rfl, ea⟩, ia⟩ := hv
  obtain ⟨ws, ⟨b, rfl, eb⟩, ib⟩ := hw
  exact lt_of_lex (S.base _ _ ea) (S.base _ _ eb) (lex_ints ia ib) hu h

/-- v is a pair of an int and a tuple of ints -/
def En (B : Hp) (v : Value) (e : Int × List Int) : Prop := ∃ t w, Tup B v [.int e.1 t, w] ∧ Pm B w e.2
theorem En.mono {B B' : Hp} {e} (h : En B v e) (l : Le B B') : En B' v e := let ⟨t, w, a, b⟩ := h; ⟨t, w, a.mono l, b.mono l⟩
def ltE (x y : Int × List Int) : Bool := if x.1 = y.1 then (if x.2 = y.2 then false else ltP x.2 y.2) else decide (x.1 < y.1)
theorem lt_en {x y : Int × List Int} {Q : Value → Shared → Prop} (S : St c B mu G s) (hv : En B v x) (hw : En B u y) (hu : A.units + 1 < cLine) (h : Q (.bool (ltE x y)) s) : wpAny (model PP c.w) A (richCompare .Lt v u) Q E s := by
  obtain ⟨t1, w1, ⟨a, rfl, ea⟩, hp1⟩ := hv
  obtain ⟨t2, w2, ⟨b, rfl, eb⟩, hp2⟩ := hw
  have hu' : A.units < cLine := by omega
  refine lt_of_lex (S.base _ _ ea) (S.base _ _ eb) ?_ hu' h
  unfold ltE
  by_cases e : x.1 = y.1
  · rw [if_pos e]
    refine .eq (fun Q E h => wpAny_eqBool_int (by rw [beq_iff_eq.mpr e]; exact h)) ?_
    by_cases e2 : x.2 = y.2
    · rw [if_pos e2]
      exact .eq (fun Q E h => eqB_pm S hp1 hp2 hu (by rw [decide_eq_true e2]; exact h)) .nl
    · rw [if_neg e2]
      exact .ne (fun Q E h => eqB_pm S hp1 hp2 hu (by rw [decide_eq_false e2]; exact h)) fun Q E h => lt_pm S hp1 hp2 hu h
  · rw [if_neg e]
    exact .ne (fun Q E h => wpAny_eqBool_int (by rw [beq_eq_false_iff_ne.mpr e]; exact h)) fun Q E h => P.lt_int h
end
end Mine
end

section
open PySem PySem.W PyProof.Rows PySem.Calls
namespace Mine

theorem hq_kpush : builtinKind "_heapq.heappush" = none := by decide +kernel
theorem hq_kpop : builtinKind "_heapq.heappop" = none := by decide +kernel
theorem hq_ppush : plainId "_heapq.heappush" = true := by decide +kernel
theorem hq_ppop : plainId "_heapq.heappop" = true := by decide +kernel
theorem hq_psift : plainId "_heapq.heapify.sift" = true := by decide +kernel
theorem hq_epush : entryFor table "_heapq.heappush" = some Builtin.«_heapq.heappush» := entryFor_of_fast (by kernel_rfl)
theorem hq_epop : entryFor table "_heapq.heappop" = some Builtin.«_heapq.heappop» := entryFor_of_fast (by kernel_rfl)
theorem hq_esift : entryFor table "_heapq.heapify.sift" = some Builtin.«_heapq.heapify.sift» := entryFor_of_fast (by kernel_rfl)
theorem hq_apush (a b : Value) : argsOk "_heapq.heappush" ⟨[a, b], []⟩ := by unfold argsOk; kernel_rfl
theorem hq_apop (a : Value) : argsOk "_heapq.heappop" ⟨[a], []⟩ := by unfold argsOk; kernel_rfl

abbrev Ent := Int × List Int
def swapL {α : Type} (l : List α) (i j : Nat) (x y : α) : List α := (l.set i y).set j x
/-- towards the root, with fuel -/
def upF : Nat → List Ent → Nat → List Ent
  | 0, l, _ => l
  | f + 1, l, pos =>
    if 0 < pos then
      let x := l.getD pos (0, [])
      let p := l.getD ((pos - 1) / 2) (0, [])
      if ltE x p then upF f (swapL l ((pos - 1) / 2) pos p x) ((pos - 1) / 2) else l
    else l
def downF : Nat → List Ent → Nat → List Ent
  | 0, l, _ => l
  | f + 1, l, pos =>
    if pos < l.length / 2 then
      let ch := if 2 * pos + 2 < l.length ∧ ltE (l.getD (2 * pos + 1) (0, [])) (l.getD (2 * pos + 2) (0, [])) = false then 2 * pos + 2 else 2 * pos + 1
      downF f (swapL l ch pos (l.getD ch (0, [])) (l.getD pos (0, []))) ch
    else upF l.length l pos

section
variable {c : Cfg} {B B' : Hp} {mu mu' : Mo} {G : Array GenState} {s : Shared} {A : Around} {E : Value → Shared → Prop} {a b : Addr} {v u : Value} {vs ws : List Value} {es : List Ent} {R : Result → Shared → Prop} {n : Nat}

theorem All2.set {α β : Type} {F : α → β → Prop} {l m} {x y} (h : All2 F l m) (q : F x y) : ∀ i, All2 F (l.set i x) (m.set i y) := by
  induction h with
  | nil => intro i; exact .nil
  | cons a r ih =>
    intro i
    cases i with
    | zero => exact .cons q r
    | succ i => exact .cons a (ih i)
theorem set_same {i : Nat} {p : Addr × (Obj → Prop)} (hi : mu[i]? = some p) : mu.set i p = mu := by
  apply List.ext_getElem?
  intro j
  rw [List.getElem?_set]
  split
  · rename_i q; subst q; rw [hi]; split
    · rfl
    · rename_i q; exact absurd (List.getElem?_eq_some_iff.mp hi).1 q
  · rfl
theorem updSeq {f : Array Value → Array Value} {Q : Unit → Shared → Prop} (S : St c B mu G s) (i : Nat) (hi : mu[i]? = some (a, lstP vs)) (hz : vs.length ≤ sizeLine) (hf : (f vs.toArray).size ≤ sizeLine + 1) (h : ∀ s', St c B (mu.set i (a, lstP (f vs.toArray).toList)) G s' → Q () s') :
    wpAny (model PP c.w) A (updateSeq a f) Q E s := by
  obtain ⟨n, e⟩ := S.lstH i hi
  have S' := S.upd i hi (Heap.SameBut.update s.heap a (Obj.mapSeq f)) (Heap.get?_update_self _ e rfl) (k' := lstP (f vs.toArray).toList) ⟨_, by
    show ({ cls := .type "list", data := .seq (f vs.toArray) _ } : Obj) = _
    rw [Array.toArray_toList]⟩ s.toks
  exact wpAny_updateSeq e rfl (h _ S') (by rw [List.size_toArray]; exact hz) hf
theorem setL (l : List Value) (i j : Nat) (x y : Value) : ((l.toArray.setIfInBounds i y).setIfInBounds j x).toList = swapL l i j x y := by simp [swapL]
theorem getD_of {α : Type} {l : List α} {i : Nat} {x d : α} (h : l[i]? = some x) : l.getD i d = x := by simp [List.getD, h]

theorem up_walk {res : Value} {f : Nat} : ∀ {pos : Nat} {es : List Ent} {vs : List Value} {i : Nat} {mu : Mo} {s : Shared}, pos < f → St c B mu G s → mu[i]? = some (a, lstP vs) → All2 (En B) vs es → pos < vs.length → vs.length ≤ sizeLine → A.units + 3 < cLine →
    (∀ ws s', All2 (En B) ws (upF f es pos) → St c B (mu.set i (a, lstP ws)) G s' → R (.ok (.ret res)) s') →
    codeAny (model PP c.w) A (.builtin "_heapq.heapify.sift" ⟨[.ref a, .bool false, .bool false, rawInt pos, rawInt 0, res, rawInt (-1)], []⟩) R s := by
  induction f with
  | zero => intro pos es vs i mu s h; omega
  | succ f ih =>
    intro pos es vs i mu s hf S hi hv hpos hsz hu h
    refine codeAny_builtin hq_esift ?_
    rw [Around.under_plainId hq_psift]
    obtain ⟨m, e⟩ := S.lstH i hi
    unfold Builtin.«_heapq.heapify.sift»
    dsimp only [rawInt]
    simp only [Bool.false_eq_true, if_false, Int.toNat_natCast, List.size_toArray]
    refine wpAny_bind ?_
    show wpAny _ _ (seqItems? (.ref a) >>= _) _ _ _
    refine wpAny_bind (wpAny_seqItems e rfl (wpAny_pure ?_))
    have hlen := hv.length
    by_cases h0 : 0 < pos
    · rw [if_pos (show pos > (0 : Int).toNat from h0)]
      obtain ⟨x, hx⟩ : ∃ x, vs[pos]? = some x := ⟨_, List.getElem?_eq_getElem hpos⟩
      have hpp : (pos - 1) / 2 < vs.length := by omega
      obtain ⟨y, hy⟩ : ∃ y, vs[(pos - 1) / 2]? = some y := ⟨_, List.getElem?_eq_getElem hpp⟩
      obtain ⟨ex, hex, hxe⟩ := hv.get hx
      obtain ⟨ey, hey, hye⟩ := hv.get hy
      refine wpAny_bind ?_
      show wpAny _ _ (match vs.toArray[pos]? with | some v => pure v | none => _) _ _ _
      rw [List.getElem?_toArray, hx]
      refine wpAny_pure (wpAny_bind ?_)
      show wpAny _ _ (match vs.toArray[(pos - 1) / 2]? with | some v => pure v | none => _) _ _ _
      rw [List.getElem?_toArray, hy]
      refine wpAny_pure (wpAny_bind ?_)
      show wpAny _ _ (holding [x, y] _ >>= _) _ _ _
      refine wpAny_bind (wpAny_holding (wpAny_bind (lt_en S hxe hye (by show A.units + 1 + 1 < _; omega) ?_)))
      refine wpAny_truthy_bool ?_
      refine wpAny_bind ?_
      show wpAny _ _ (seqItems? (.ref a) >>= _) _ _ _
      refine wpAny_bind (wpAny_seqItems e rfl (wpAny_pure ?_))
      simp only [bne_self_eq_false, Bool.false_eq_true, if_false]
      refine wpAny_pure ?_
      have hxy : es.getD pos (0, []) = ex := getD_of hex
      have hyy : es.getD ((pos - 1) / 2) (0, []) = ey := getD_of hey
      cases hlt : ltE ex ey with
      | true =>
        rw [if_pos rfl]
        refine wpAny_bind ?_
        show wpAny _ _ ((seqItems? (.ref a) >>= _) >>= _) _ _ _
        refine wpAny_bind (wpAny_bind (wpAny_seqItems e rfl (wpAny_pure (wpAny_bind ?_))))
        show wpAny _ _ (match vs.toArray[(pos - 1) / 2]? with | some v => pure v | none => _) _ _ _
        rw [List.getElem?_toArray, hy]
        refine wpAny_pure (wpAny_bind ?_)
        show wpAny _ _ (match vs.toArray[pos]? with | some v => pure v | none => _) _ _ _
        rw [List.getElem?_toArray, hx]
        refine wpAny_pure (updSeq S i hi hsz (by simp; omega) fun s S => ?_)
        rw [setL] at S
        refine wpAny_pure ⟨plainId_quiet hq_psift _, ?_⟩
        have hl2 : (swapL vs ((pos - 1) / 2) pos y x).length = vs.length := by simp [swapL]
        have hil : i < mu.length := (List.getElem?_eq_some_iff.mp hi).1
        refine ih (pos := (pos - 1) / 2) (i := i) (vs := swapL vs ((pos - 1) / 2) pos y x) (by omega) S (by rw [List.getElem?_set_self hil]) ((hv.set hxe _).set hye _) (by show _ < (swapL vs ((pos - 1) / 2) pos y x).length; omega) (by show (swapL vs ((pos - 1) / 2) pos y x).length ≤ _; omega) hu fun ws s' hw S' => h ws s' ?_ (by rw [List.set_set] at S'; exact S')
        unfold upF
        rw [if_pos h0, hxy, hyy]
        dsimp only
        rw [if_pos hlt]
        exact hw
      | false =>
        rw [if_neg Bool.false_ne_true, if_pos (by decide)]
        refine wpAny_pure ?_
        refine h vs s ?_ (by rw [set_same hi]; exact S)
        unfold upF
        rw [if_pos h0, hxy, hyy]
        dsimp only
        rw [hlt, if_neg Bool.false_ne_true]
        exact hv
    · rw [if_neg (show ¬ pos > (0 : Int).toNat from h0), if_pos (by decide)]
      refine wpAny_pure ?_
      refine h vs s ?_ (by rw [set_same hi]; exact S)
      unfold upF
      rw [if_neg h0]
      exact hv

theorem up_len : ∀ (f : Nat) (l : List Ent) (pos : Nat), (upF f l pos).length = l.length
  | 0, l, pos => rfl
  | f + 1, l, pos => by
    unfold upF
    split
    · dsimp only
      split
      · rw [up_len f]; simp [swapL]
      · rfl
    · rfl

theorem down_walk {res : Value} {f : Nat} : ∀ {pos : Nat} {es : List Ent} {vs : List Value} {i : Nat} {mu : Mo} {s : Shared}, vs.length < f + pos → St c B mu G s → mu[i]? = some (a, lstP vs) → All2 (En B) vs es → pos < vs.length → vs.length ≤ sizeLine → A.units + 3 < cLine →
    (∀ ws s', All2 (En B) ws (downF f es pos) → St c B (mu.set i (a, lstP ws)) G s' → R (.ok (.ret res)) s') →
    codeAny (model PP c.w) A (.builtin "_heapq.heapify.sift" ⟨[.ref a, .bool false, .bool true, rawInt pos, rawInt 0, res, rawInt (-1)], []⟩) R s := by
  induction f with
  | zero => intro pos es vs i mu s h; omega
  | succ f ih =>
    intro pos es vs i mu s hf S hi hv hpos hsz hu h
    refine codeAny_builtin hq_esift ?_
    rw [Around.under_plainId hq_psift]
    obtain ⟨m, e⟩ := S.lstH i hi
    unfold Builtin.«_heapq.heapify.sift»
    dsimp only [rawInt]
    simp only [Bool.false_eq_true, if_false, if_true, Int.toNat_natCast]
    refine wpAny_bind ?_
    show wpAny _ _ (seqItems? (.ref a) >>= _) _ _ _
    refine wpAny_bind (wpAny_seqItems e rfl (wpAny_pure ?_))
    have hlen := hv.length
    have hil : i < mu.length := (List.getElem?_eq_some_iff.mp hi).1
    obtain ⟨y, hy⟩ : ∃ y, vs[pos]? = some y := ⟨_, List.getElem?_eq_getElem hpos⟩
    obtain ⟨ey, hey, hye⟩ := hv.get hy
    have hyy : es.getD pos (0, []) = ey := getD_of hey
    by_cases h0 : pos < vs.length / 2
    · rw [if_pos (show pos < vs.toArray.size / 2 by simpa using h0)]
      -- the swap with a child
      have hdn : downF (f + 1) es pos = downF f (swapL es (if 2 * pos + 2 < es.length ∧ ltE (es.getD (2 * pos + 1) (0, [])) (es.getD (2 * pos + 2) (0, [])) = false then 2 * pos + 2 else 2 * pos + 1) pos
          (es.getD (if 2 * pos + 2 < es.length ∧ ltE (es.getD (2 * pos + 1) (0, [])) (es.getD (2 * pos + 2) (0, [])) = false then 2 * pos + 2 else 2 * pos + 1) (0, [])) (es.getD pos (0, [])))
          (if 2 * pos + 2 < es.length ∧ ltE (es.getD (2 * pos + 1) (0, [])) (es.getD (2 * pos + 2) (0, [])) = false then 2 * pos + 2 else 2 * pos + 1) := by
        conv => lhs; unfold downF
        rw [if_pos (by omega)]
      by_cases h1 : 2 * pos + 2 < vs.length
      · rw [if_pos (show 2 * pos + 1 + 1 < vs.toArray.size by simpa using h1)]
        obtain ⟨l, hl⟩ : ∃ x, vs[2 * pos + 1]? = some x := ⟨_, List.getElem?_eq_getElem (by omega)⟩
        obtain ⟨r, hr⟩ : ∃ x, vs[2 * pos + 2]? = some x := ⟨_, List.getElem?_eq_getElem h1⟩
        obtain ⟨el, hel, hle⟩ := hv.get hl
        obtain ⟨er, her, hre⟩ := hv.get hr
        refine wpAny_bind ?_
        show wpAny _ _ (match vs.toArray[2 * pos + 1]? with | some v => pure v | none => _) _ _ _
        rw [List.getElem?_toArray, hl]
        refine wpAny_pure (wpAny_bind ?_)
        show wpAny _ _ (match vs.toArray[2 * pos + 2]? with | some v => pure v | none => _) _ _ _
        rw [List.getElem?_toArray, hr]
        refine wpAny_pure (wpAny_bind ?_)
        show wpAny _ _ (holding [l, r] _ >>= _) _ _ _
        refine wpAny_bind (wpAny_holding (wpAny_bind (lt_en S hle hre (by show A.units + 1 + 1 < _; omega) ?_)))
        refine wpAny_truthy_bool ?_
        refine wpAny_bind ?_
        show wpAny _ _ (seqItems? (.ref a) >>= _) _ _ _
        refine wpAny_bind (wpAny_seqItems e rfl (wpAny_pure ?_))
        simp only [bne_self_eq_false, Bool.false_eq_true, if_false]
        refine wpAny_pure ?_
        rw [getD_of hel, getD_of her] at hdn
        cases hlt : ltE el er with
        | true =>
          rw [hlt, if_neg (by simp)] at hdn
          simp only [Bool.not_true, Bool.false_eq_true, if_false]
          have hch : 2 * pos + 1 < vs.length := by omega
          have hpc : pos < 2 * pos + 1 := by omega
          generalize 2 * pos + 1 = ch at hdn hch hpc ⊢
          obtain ⟨x, hx⟩ : ∃ x, vs[ch]? = some x := ⟨_, List.getElem?_eq_getElem hch⟩
          obtain ⟨ex, hex, hxe⟩ := hv.get hx
          refine wpAny_bind ?_
          show wpAny _ _ ((seqItems? (.ref a) >>= _) >>= _) _ _ _
          refine wpAny_bind (wpAny_bind (wpAny_seqItems e rfl (wpAny_pure (wpAny_bind ?_))))
          show wpAny _ _ (match vs.toArray[ch]? with | some v => pure v | none => _) _ _ _
          rw [List.getElem?_toArray, hx]
          refine wpAny_pure (wpAny_bind ?_)
          show wpAny _ _ (match vs.toArray[pos]? with | some v => pure v | none => _) _ _ _
          rw [List.getElem?_toArray, hy]
          refine wpAny_pure (updSeq S i hi hsz (by simp; omega) fun s S => ?_)
          rw [setL] at S
          refine wpAny_pure ⟨plainId_quiet hq_psift _, ?_⟩
          have hl2 : (swapL vs ch pos x y).length = vs.length := by simp [swapL]
          refine ih (pos := ch) (i := i) (vs := swapL vs ch pos x y) (by omega) S (by rw [List.getElem?_set_self hil]) ((hv.set hye _).set hxe _) (by omega) (by omega) hu fun ws s' hw S' => h ws s' ?_ (by rw [List.set_set] at S'; exact S')
          rw [hdn, getD_of hex, hyy]
          exact hw
        | false =>
          rw [hlt, if_pos (by exact ⟨by omega, rfl⟩)] at hdn
          simp only [Bool.not_false, if_true]
          have hch : 2 * pos + 1 + 1 < vs.length := by omega
          have hpc : pos < 2 * pos + 1 + 1 := by omega
          rw [show 2 * pos + 2 = 2 * pos + 1 + 1 from rfl] at hdn
          generalize 2 * pos + 1 + 1 = ch at hdn hch hpc ⊢
          obtain ⟨x, hx⟩ : ∃ x, vs[ch]? = some x := ⟨_, List.getElem?_eq_getElem hch⟩
          obtain ⟨ex, hex, hxe⟩ := hv.get hx
          refine wpAny_bind ?_
          show wpAny _ _ ((seqItems? (.ref a) >>= _) >>= _) _ _ _
          refine wpAny_bind (wpAny_bind (wpAny_seqItems e rfl (wpAny_pure (wpAny_bind ?_))))
          show wpAny _ _ (match vs.toArray[ch]? with | some v => pure v | none => _) _ _ _
          rw [List.getElem?_toArray, hx]
          refine wpAny_pure (wpAny_bind ?_)
          show wpAny _ _ (match vs.toArray[pos]? with | some v => pure v | none => _) _ _ _
          rw [List.getElem?_toArray, hy]
          refine wpAny_pure (updSeq S i hi hsz (by simp; omega) fun s S => ?_)
          rw [setL] at S
          refine wpAny_pure ⟨plainId_quiet hq_psift _, ?_⟩
          have hl2 : (swapL vs ch pos x y).length = vs.length := by simp [swapL]
          refine ih (pos := ch) (i := i) (vs := swapL vs ch pos x y) (by omega) S (by rw [List.getElem?_set_self hil]) ((hv.set hye _).set hxe _) (by omega) (by omega) hu fun ws s' hw S' => h ws s' ?_ (by rw [List.set_set] at S'; exact S')
          rw [hdn, getD_of hex, hyy]
          exact hw
      · rw [if_neg (show ¬ 2 * pos + 1 + 1 < vs.toArray.size by simpa using h1)]
        rw [if_neg (by omega)] at hdn
        have hch : 2 * pos + 1 < vs.length := by omega
        have hpc : pos < 2 * pos + 1 := by omega
        generalize 2 * pos + 1 = ch at hdn hch hpc ⊢
        obtain ⟨x, hx⟩ : ∃ x, vs[ch]? = some x := ⟨_, List.getElem?_eq_getElem hch⟩
        obtain ⟨ex, hex, hxe⟩ := hv.get hx
        refine wpAny_bind ?_
        show wpAny _ _ ((seqItems? (.ref a) >>= _) >>= _) _ _ _
        refine wpAny_bind (wpAny_bind (wpAny_seqItems e rfl (wpAny_pure (wpAny_bind ?_))))
        show wpAny _ _ (match vs.toArray[ch]? with | some v => pure v | none => _) _ _ _
        rw [List.getElem?_toArray, hx]
        refine wpAny_pure (wpAny_bind ?_)
        show wpAny _ _ (match vs.toArray[pos]? with | some v => pure v | none => _) _ _ _
        rw [List.getElem?_toArray, hy]
        refine wpAny_pure (updSeq S i hi hsz (by simp; omega) fun s S => ?_)
        rw [setL] at S
        refine wpAny_pure ⟨plainId_quiet hq_psift _, ?_⟩
        have hl2 : (swapL vs ch pos x y).length = vs.length := by simp [swapL]
        refine ih (pos := ch) (i := i) (vs := swapL vs ch pos x y) (by omega) S (by rw [List.getElem?_set_self hil]) ((hv.set hye _).set hxe _) (by omega) (by omega) hu fun ws s' hw S' => h ws s' ?_ (by rw [List.set_set] at S'; exact S')
        rw [hdn, getD_of hex, hyy]
        exact hw
    · rw [if_neg (show ¬ pos < vs.toArray.size / 2 by simpa using h0)]
      refine wpAny_pure ⟨plainId_quiet hq_psift _, ?_⟩
      refine up_walk (f := es.length) (i := i) (by omega) S hi hv hpos hsz hu fun ws s' hw S' => h ws s' ?_ S'
      unfold downF
      rw [if_neg (by omega)]
      exact hw
theorem callHq {id : String} {b : Builtin} {args : List Value} {Q : Value → Shared → Prop} (hk : builtinKind id = none) (hp : plainId id = true) (hb : entryFor table id = some b) (ha : argsOk id ⟨args, []⟩)
    (hc : wpAny (model PP c.w) A.in1 (b ⟨args, []⟩) (fun fin s' => match fin with
      | .done f => (match (Except.ok f : Result) with | .ok (.ret v) => Q v s' | .ok _ => False | .error e => E e s')
      | .again c' => c'.quiet = true ∧ codeAny (model PP c.w) A c' (fun r s' => match r with | .ok (.ret v) => Q v s' | .ok _ => False | .error e => E e s') s') E s) :
    wpAny (model PP c.w) A (call (.builtin id) args []) Q E s := by
  refine wpAny_call (codeAny_call_builtin hp hb ?_)
  simp only [checkBuiltinCall, hk]
  cases hsig : Manifest.signature? id with
  | none => exact wpAny_pure hc
  | some sig =>
    have ha' : Bind.checkArgs id sig ⟨args, []⟩ = pure () := by simpa only [argsOk, hsig] using ha
    show wpAny _ _ (Bind.checkArgs id sig ⟨args, []⟩) _ _ _
    rw [ha']; exact wpAny_pure hc

theorem sub_list : isSubtype (.type "list") (.type "list") = pure true := by rw [isSubtype_type]; kernel_rfl
def pushP (l : List Ent) (e : Ent) : List Ent := upF (l.length + 1) (l ++ [e]) l.length
theorem heappush {e : Ent} {Q : Value → Shared → Prop} (S : St c B mu G s) (i : Nat) (hi : mu[i]? = some (a, lstP vs)) (hv : All2 (En B) vs es) (he : En B v e) (hsz : vs.length + 1 ≤ sizeLine) (hu : A.units + 3 < cLine)
    (h : ∀ ws s', All2 (En B) ws (pushP es e) → St c B (mu.set i (a, lstP ws)) G s' → Q .none s') :
    wpAny (model PP c.w) A (call (.builtin "_heapq.heappush") [.ref a, v] []) Q E s := by
  obtain ⟨m, eh⟩ := S.lstH i hi
  refine callHq hq_kpush hq_ppush hq_epush (hq_apush _ _) ?_
  unfold Builtin.«_heapq.heappush»
  refine wpAny_bind ?_
  show wpAny _ _ ((isInstance (.ref a) (.type "list") >>= _) >>= _) _ _ _
  refine wpAny_bind (wpAny_bind (wpAny_isInstance (T := "list") ⟨_, eh, rfl⟩ sub_list ?_))
  refine wpAny_pure (wpAny_pure ?_)
  refine wpAny_bind (updSeq S i hi (by omega) (by simp; omega) fun s S => ?_)
  have hl : (vs.toArray.push v).toList = vs ++ [v] := by simp
  rw [hl] at S
  have hil : i < mu.length := (List.getElem?_eq_some_iff.mp hi).1
  obtain ⟨m, eh⟩ := S.lstH i (vs := vs ++ [v]) (by rw [List.getElem?_set_self hil])
  refine wpAny_bind ?_
  show wpAny _ _ (seqItems? (.ref a) >>= _) _ _ _
  refine wpAny_bind (wpAny_seqItems eh rfl (wpAny_pure ?_))
  have hlen := hv.length
  refine wpAny_pure ⟨plainId_quiet hq_psift _, ?_⟩
  rw [show (vs ++ [v]).toArray.size - 1 = vs.length by simp]
  refine up_walk (f := vs.length + 1) (i := i) (vs := vs ++ [v]) (by omega) S (by rw [List.getElem?_set_self hil]) (hv.snoc he) (by simp) (by simp; omega) hu fun ws s' hw S' => h ws s' ?_ (by rw [List.set_set] at S'; exact S')
  unfold pushP
  rw [← hlen]; exact hw

def popP : List Ent → Ent × List Ent
  | [] => ((0, []), [])
  | [x] => (x, [])
  | x :: y :: r => (x, downF ((y :: r).length + 1) (((x :: y :: r).dropLast).set 0 ((y :: r).getLast (by simp))) 0)
theorem All2.dropLast {α β : Type} {F : α → β → Prop} {l m} (h : All2 F l m) : All2 F l.dropLast m.dropLast := by
  induction h with
  | nil => exact .nil
  | cons a r ih =>
    cases r with
    | nil => exact .nil
    | cons b r' => exact .cons a ih
theorem All2.last {α β : Type} {F : α → β → Prop} {l m} (h : All2 F l m) : ∀ {x}, l.getLast? = some x → ∃ y, m.getLast? = some y ∧ F x y := by
  intro x hx
  rw [List.getLast?_eq_getElem?] at hx ⊢
  rw [← h.length]
  exact h.get hx
theorem heappop {Q : Value → Shared → Prop} (S : St c B mu G s) (i : Nat) (hi : mu[i]? = some (a, lstP vs)) (hv : All2 (En B) vs es) (hne : es ≠ []) (hsz : vs.length + 1 ≤ sizeLine) (hu : A.units + 3 < cLine)
    (h : ∀ v ws s', En B v (popP es).1 → All2 (En B) ws (popP es).2 → St c B (mu.set i (a, lstP ws)) G s' → Q v s') :
    wpAny (model PP c.w) A (call (.builtin "_heapq.heappop") [.ref a] []) Q E s := by
  obtain ⟨m, eh⟩ := S.lstH i hi
  have hil : i < mu.length := (List.getElem?_eq_some_iff.mp hi).1
  refine callHq hq_kpop hq_ppop hq_epop (hq_apop _) ?_
  show wpAny _ _ ((oneArg _ _ >>= _) >>= _) _ _ _
  refine wpAny_bind (wpAny_bind (wpAny_pure (wpAny_bind ?_)))
  show wpAny _ _ (isInstance (.ref a) (.type "list") >>= _) _ _ _
  refine wpAny_bind (wpAny_isInstance (T := "list") ⟨_, eh, rfl⟩ sub_list ?_)
  refine wpAny_pure (wpAny_pure ?_)
  refine wpAny_bind ?_
  show wpAny _ _ (seqItems? (.ref a) >>= _) _ _ _
  refine wpAny_bind (wpAny_seqItems eh rfl (wpAny_pure ?_))
  cases hv with
  | nil => exact absurd rfl hne
  | @cons x e0 vs es hx hv =>
    cases hv with
    | nil =>
      show wpAny _ _ (updateSeq a _ >>= _) _ _ _
      refine wpAny_bind (updSeq S i hi (by omega) (by simp) fun s S => ?_)
      refine wpAny_ite ?_
      rw [if_pos (show ((#[x] : Array Value).size == 1) = true from rfl)]
      exact wpAny_pure (h _ _ _ hx .nil S)
    | @cons y e1 vs es hy hv =>
      obtain ⟨z, hz⟩ : ∃ z, (x :: y :: vs).toArray.back? = some z := by
        rw [List.back?_toArray]; exact ⟨_, List.getLast?_eq_some_getLast (by simp)⟩
      have hz' : (x :: y :: vs).getLast? = some z := by rw [← List.back?_toArray]; exact hz
      obtain ⟨ez, hez, hze⟩ := (All2.cons hx (.cons hy hv)).last hz'
      rw [hz]
      show wpAny _ _ (updateSeq a _ >>= _) _ _ _
      refine wpAny_bind (updSeq S i hi (by omega) (by simp at hsz ⊢; omega) fun s S => ?_)
      rw [if_neg (by simp)]
      refine wpAny_bind ?_
      show wpAny _ _ (pure x) _ _ _
      refine wpAny_pure (wpAny_bind (updSeq S i (by rw [List.getElem?_set_self hil]) (by simp at hsz ⊢; omega) (by simp at hsz ⊢; omega) fun s S => ?_))
      have hl : ((((x :: y :: vs).toArray.pop.toList).toArray.setIfInBounds 0 z).toList) = (x :: y :: vs).dropLast.set 0 z := by simp
      rw [hl, List.set_set] at S
      have hlen := hv.length
      refine wpAny_pure ⟨plainId_quiet hq_psift _, ?_⟩
      refine down_walk (f := (y :: vs).length + 1) (i := i) (pos := 0) (vs := (x :: y :: vs).dropLast.set 0 z) (by simp) S (by rw [List.getElem?_set_self hil]) (((All2.cons hx (.cons hy hv)).dropLast).set hze 0) (by simp) (by simp at hsz ⊢; omega) hu
        fun ws s' hw S' => h _ ws s' hx ?_ (by rw [List.set_set] at S'; exact S')
      have hge : (e1 :: es).getLast (by simp) = ez := by
        rw [List.getLast?_cons_cons, List.getLast?_eq_some_getLast (by simp)] at hez
        exact Option.some.inj hez
      show All2 _ _ (downF ((e1 :: es).length + 1) (((e0 :: e1 :: es).dropLast).set 0 ((e1 :: es).getLast (by simp))) 0)
      rw [hge, show (e1 :: es).length = (y :: vs).length by simp [hlen]]
      exact hw
end
end Mine
end

section
open PySem PySem.W PyProof.Rows PySem.Calls
namespace Mine

section
variable {c : Cfg} {B B' : Hp} {mu mu' : Mo} {G : Array GenState} {s : Shared} {A : Around} {E : Value → Shared → Prop} {env : Env} {L a b w pq : Addr} {l : List (Str × Value)} {x y : Str} {v u vx vy : Value} {vs ws : List Value} {es : List Ent} {n : Nat}

theorem stPair {px py pos : Pos} {k : Nat} {Q : Unit → Shared → Prop} (S : St c B ((L, nsP l) :: mu) G s) (hh : A.handled = none) (ht : Tup B v [vx, vy]) (h : ∀ s', St c B ((L, nsP ((y, vy) :: (x, vx) :: l)) :: mu) G s' → Q () s')
    (hL : env.locals = L := by rfl) (hk : env.scope.kind = .function := by rfl) (hx : env.kindOf x = some .local := by rfl) (hy : env.kindOf y = some .local := by rfl) :
    wpAny (model PP c.w) A (assign (.Tuple [.Name x px, .Name y py] k pos) env v) Q E s := by
  obtain ⟨t, rfl, e⟩ := ht
  refine wpAny_assign_Tuple hh (S.isTuple e) rfl rfl fun h' hx' => ?_
  have S1 := S.keep0 (h' := h') fun b o e => hx' b o (Nat.ne_of_lt (Heap.lt_size e)) e
  exact wpAny_assignInOrder_more (stL S1 (fun s S => wpAny_assignInOrder_more (stL S (fun s S => wpAny_assignInOrder_none (h _ S)) hL hk hy)) hL hk hx)

theorem add_spec {item cm : Value} {d : Int} {t : Tok} {p : List Int} {Q : Value → Shared → Prop} (S : St c B mu G s) (hB : Bas B) (fit : Fit (n + 1) A) (hw : WlAt B w pq) (i : Nat) (hi : mu[i]? = some (pq, lstP vs)) (hv : All2 (En B) vs es)
    (ht : Tup B item [.int d t, cm]) (hp : Pm B cm p) (hsz : vs.length ≤ 1000) 
    (h : ∀ B' ws s', Le B B' → All2 (En B') ws (pushP es (-d, p)) → St c B' (mu.set i (pq, lstP ws)) G s' → Q .none s') :
    wpAny (model PP c.w) A (call (.ref 63) [.ref w, item] []) Q E s := by
  refine wpAny_call (callFn S hB.add hB.lim fit rfl (binds := [("self", .ref w), ("item", item)]) rfl rfl fun L s A fit S => ?_)
  refine wpAny_execs_cons (Assign_Tuple (ldL S rfl (stPair S fit.hd ht fun s S => ?_)))
  refine wpAny_execs_cons (wpAny_Expr ?_ rfl rfl)
  refine evCallB (ldG S hB.gPush ⟨_, rfl, ?_⟩)
  refine wpAny_items_cons (evPq (w := w) (pq := pq) (ldL S rfl ⟨_, _, _, rfl, S, hB, hw, fun s S => ?_⟩))
  refine wpAny_items_cons (evTuple ?_)
  refine wpAny_items_cons (wpAny_UnaryOp (ldL S rfl (iNeg S fun t s S => wpAny_items_cons (ldL S rfl (wpAny_items_nil ⟨szl _ (by simp), _, _, _, S, fun r B' s hle hT S => wpAny_items_nil ?_⟩)))))
  have hsl : (1000 : Nat) + 1 ≤ sizeLine := by rw [sizeLine_eq]; decide
  refine heappush S (i + 1) (by simpa using hi) (hv.imp fun _ _ h => h.mono hle) (e := (-d, p)) ⟨_, _, hT, hp.mono hle⟩ (by omega) (by have := fit.line64; omega) fun ws s' hws S => ?_
  refine wpAny_execs_nil (h _ _ _ hle hws ?_)
  rw [List.set_cons_succ] at S
  exact S.drop

theorem get_spec {Q : Value → Shared → Prop} (S : St c B mu G s) (hB : Bas B) (fit : Fit (n + 1) A) (hw : WlAt B w pq) (i : Nat) (hi : mu[i]? = some (pq, lstP vs)) (hv : All2 (En B) vs es) (hne : es ≠ []) (hsz : vs.length ≤ 1000)
    (h : ∀ r B' ws s' t cm, Le B B' → Tup B' r [.int (-(popP es).1.1) t, cm] → Pm B' cm (popP es).1.2 → All2 (En B') ws (popP es).2 → St c B' (mu.set i (pq, lstP ws)) G s' → Q r s') :
    wpAny (model PP c.w) A (call (.ref 70) [.ref w] []) Q E s := by
  refine wpAny_call (callFn S hB.get hB.lim fit rfl (binds := [("self", .ref w)]) rfl rfl fun L s A fit S => ?_)
  have hsl : (1000 : Nat) + 1 ≤ sizeLine := by rw [sizeLine_eq]; decide
  refine wpAny_execs_cons (wpAny_Assign_Name (evCallB (ldG S hB.gPop ⟨_, rfl, ?_⟩)))
  refine wpAny_items_cons (evPq (w := w) (pq := pq) (ldL S rfl ⟨_, _, _, rfl, S, hB, hw, fun s S => wpAny_items_nil ?_⟩))
  refine heappop S (i + 1) (by simpa using hi) hv hne (by omega) (by have := fit.line64; omega) fun r ws s' hr hws S => ?_
  rw [List.set_cons_succ] at S
  refine stLn S fun s S => ?_
  obtain ⟨t, cm, ht, hp⟩ := hr
  have ht' := ht
  obtain ⟨ra, rfl, era⟩ := ht'
  refine wpAny_execs_cons (wpAny_If (isTrue_plain (ldL S rfl ?_)))
  refine truthy_tuple (S.isTup era) (by simp) ?_
  refine wpAny_execs_cons (Assign_Tuple (ldL (S.toks _) rfl (stPair (S.toks _) fit.hd ht fun s S => ?_)))
  refine wpAny_execs_cons (wpAny_Return_some (evTuple ?_))
  refine wpAny_items_cons (wpAny_UnaryOp (ldL S rfl (iNeg S fun t s S => wpAny_items_cons (ldL S rfl (wpAny_items_nil ⟨szl _ (by simp), _, _, _, S, fun r B' s hle hT S => ?_⟩)))))
  exact h _ _ _ _ _ _ hle hT (hp.mono hle) (hws.imp fun _ _ h => h.mono hle) S.drop
end
end Mine
end

section
open PySem PySem.W PyProof.Rows PySem.Calls
namespace Mine

section
variable {M : Model} {A : Around} {R : GenEnd} {Y : Protocol} {n : Nat} {s₀ : Shared} {c : Code} {fs : List Frame} {s : Shared} {env : Env}
  {K : Flow → Sem PySem.Fin} {H : Value → Sem PySem.Fin} {gd : Bool → Bool} {lv : List Value → List Value}
theorem seg_For {target iter : Expr} {body orelse : List Stmt} {pos : Pos} (hs : ∀ x, foldedSetIterable iter env x = pure x)
    (h : wpAny M (A.over c fs) (eval iter env) (fun x s₁ => wpAny M (A.over c fs) (pyIter x) (fun it s₂ => ∀ p, Seg M A R Y n s₀ (.forLoop target it body orelse env) (M.den (.forLoop target it body orelse env))
      (.ret (fun r => ((match r with | .ok f => (.pure f : Sem Flow) | .error e => .raise e).onRaise fun (x : Value) => do
        if (← field x 1) == Value.none then unsupported "frame.own-activation:exception-without-traceback"
        setFlight x env.frame).wrap K H gd lv) none (gd false) (lv []) c p [] :: fs) s₂) (fun _ _ => False) s₁) (fun _ _ => False) s) :
    Seg M A R Y n s₀ c ((exec (.For target iter body orelse pos) env).wrap K H gd lv) fs s := by
  rw [arm_exec_For]
  refine seg_bind_wrap (wpAny_standAt (seg_bind_wrap (wpAny_mono h (fun x s₁ h₁ => ?_) fun _ _ x => x.elim)))
  rw [hs]
  refine seg_bind_wrap (wpAny_pure (seg_bind_wrap (wpAny_standAt (seg_bind_wrap (wpAny_holding (wpAny_mono h₁ (fun it s₂ h₂ => ?_) fun _ _ x => x.elim))))))
  exact seg_call h₂
end

section
variable {M : Model} {A : Around} {R : GenEnd} {Y : Protocol} {n : Nat} {s₀ : Shared} {fs : List Frame} {s : Shared} {env : Env} {prog : Program} {w : World}
theorem seg_forLoop {target : Expr} {it : Value} {body : List Stmt} 
    (h : wpAny (model prog w) (A.over (.forLoop target it body [] env) fs) (pyNext it) (fun r s₁ => match r with
      | none => Seg (model prog w) A R Y n s₀ (.block [] env) (leafOf (.ok .next)) fs s₁
      | some v => wpAny (model prog w) (A.over (.forLoop target it body [] env) fs) (letOwnedTupleGo target it v) (fun _ s₁ => wpAny (model prog w) (A.over (.forLoop target it body [] env) fs) (assign target env v) (fun _ s₂ =>
          ∀ K H, K .next = pure (.again (.forLoop target it body [] env)) → Seg (model prog w) A R Y n s₀ (.forLoop target it body [] env) ((execs body env).wrap K H id id) fs s₂) (fun _ _ => False) s₁) (fun _ _ => False) s₁) (fun _ _ => False) s) :
    Seg (model prog w) A R Y n s₀ (.forLoop target it body [] env) ((model prog w).den (.forLoop target it body [] env)) fs s := by
  show Seg _ A R Y n s₀ _ ((forTurn target it body [] env).onRaise (fun x => do noteFrame x env; theTreesLotGoes x)) fs s
  rw [Sem.onRaise_eq_wrap]
  unfold forTurn
  refine seg_bind_wrap (wpAny_standAt (seg_bind_wrap (wpAny_onRaise (wpAny_mono h (fun r s₁ h₁ => ?_) fun _ _ x => x.elim))))
  cases r with
  | none => exact seg_again rfl h₁
  | some v =>
    refine seg_bind_wrap (wpAny_mono h₁ (fun _ s₁ h₁ => ?_) fun _ _ x => x.elim)
    refine seg_bind_wrap (wpAny_mono h₁ (fun _ s₂ h₂ => ?_) fun _ _ x => x.elim)
    rw [Sem.bind_eq_wrap', Sem.wrap_wrap]
    exact h₂ _ _ rfl
end

section
variable {c : Cfg} {A : Around} {E : Value → Shared → Prop} {s : Shared} {env : Env} {pos : Pos}
theorem evTupleF {elts : List Expr} {k : Nat} {Q : Value → Shared → Prop}
    (h : wpAny (model PP c.w) A (spliced (backTo pos (starEach elts env)))
      (fun vs s₁ => vs.length ≤ sizeLine ∧ ∃ B mu G, St c B mu G s₁ ∧ ∀ a B' s', Le B B' → B a = none → Tup B' (.ref a) vs → St c B' mu G s' → Q (.ref a) s') E s) : wpAny (model PP c.w) A (eval (.Tuple elts k pos) env) Q E s :=
  wpAny_Tuple (wpAny_mono h (fun vs s₁ h₁ => by
    obtain ⟨hl, B, mu, G, S, h₁⟩ := h₁
    exact ⟨hl, h₁ _ _ _ (le_insB S.freshB) S.freshB ⟨_, rfl, insB_self ..⟩ (S.imm _)⟩) fun _ _ x => x)
end

/-! ## WorkList.iter, as a generator -/
structure Pre (c : Cfg) (Lg N pq : Addr) (vs : List Value) (i : Nat) (s : Shared) : Prop where
  ns : ∃ o, s.heap.get? Lg = some o ∧ nsP [] o
  it : ∃ o, s.heap.get? N = some o ∧ litP pq i o
  ls : ∃ o, s.heap.get? pq = some o ∧ lstP vs o
  ne1 : Lg ≠ N
  ne2 : Lg ≠ pq
  ne3 : N ≠ pq
  tup : ∀ (j : Nat) x, vs[j]? = some x → ∃ pr t cm, Tup s.heap.get? x [.int pr t, cm]
  drawn : s.drawn = c.d
  os : s.os = c.os

def gB (s : Shared) (Lg N pq : Addr) : Hp := fun b => if b = Lg ∨ b = N ∨ b = pq then none else s.heap.get? b
section
variable {c : Cfg} {B B' : Hp} {mu mu' : Mo} {G : Array GenState} {s s₀ s₁ : Shared} {A : Around} {Lg N pq w a : Addr} {v x : Value} {vs ws : List Value} {i k n : Nat}

theorem Pre.st (X : Pre c Lg N pq vs i s) : St c (gB s Lg N pq) [(Lg, nsP []), (N, litP pq i), (pq, lstP vs)] s.gens s := by
  refine ⟨fun b o e => ?_, fun p hp => ?_, ?_, fun p hp => ?_, rfl, X.drawn, X.os⟩
  · unfold gB at e; split at e
    · cases e
    · exact e
  · rcases List.mem_cons.mp hp with rfl | hp
    · exact X.ns
    rcases List.mem_cons.mp hp with rfl | hp
    · exact X.it
    rcases List.mem_cons.mp hp with rfl | hp
    · exact X.ls
    · cases hp
  · have := X.ne1; have := X.ne2; have := X.ne3
    simp [*]
  · rcases List.mem_cons.mp hp with rfl | hp
    · simp [gB]
    rcases List.mem_cons.mp hp with rfl | hp
    · simp [gB]
    rcases List.mem_cons.mp hp with rfl | hp
    · simp [gB]
    · cases hp
theorem Pre.tupB (X : Pre c Lg N pq vs i s) {us : List Value} (h : Tup s.heap.get? x us) : Tup (gB s Lg N pq) x us := by
  obtain ⟨a, rfl, e⟩ := h
  refine ⟨a, rfl, ?_⟩
  unfold gB
  rw [if_neg]
  · exact e
  · rintro (rfl | rfl | rfl)
    · obtain ⟨o, e', es, ep, hd, _⟩ := X.ns
      rw [e] at e'; cases e'; simp [tupO] at hd
    · obtain ⟨o, e', hc, _⟩ := X.it
      rw [e] at e'; cases e'; simp [tupO] at hc
    · obtain ⟨o, e', m, rfl⟩ := X.ls
      rw [e] at e'; simp [tupO] at e'

/-- all of s but the three lies in B -/
def Cov (s : Shared) (Lg N pq : Addr) (B : Hp) : Prop := ∀ b o, b ≠ Lg → b ≠ N → b ≠ pq → s.heap.get? b = some o → B b = some o
theorem cov_gB (s : Shared) (Lg N pq : Addr) : Cov s Lg N pq (gB s Lg N pq) := fun b o h1 h2 h3 e => by
  unfold gB; rw [if_neg (by rintro (h | h | h) <;> contradiction)]; exact e
theorem Cov.le (h : Cov s Lg N pq B) (l : Le B B') : Cov s Lg N pq B' := fun b o h1 h2 h3 e => l _ _ (h b o h1 h2 h3 e)

def gY (c : Cfg) (Lg N pq : Addr) (vs : List Value) : Protocol := fun k s₀ v s₁ κ =>
  ∃ i x pr t cm a t2 B1, i + k + 1 = vs.length ∧ vs[i]? = some x ∧ Tup s₀.heap.get? x [.int pr t, cm] ∧ v = .ref a ∧ s₀.heap.get? a = none ∧ B1 a = some (tupO [.int (-pr) t2, cm]) ∧
    Cov s₀ Lg N pq B1 ∧ St c B1 [(Lg, nsP []), (N, litP pq (i + 1)), (pq, lstP vs)] s₀.gens s₁ ∧ ∀ s'', Pre c Lg N pq vs (i + 1) s'' → κ (.send .none) s''
def gP (c : Cfg) (Lg N pq : Addr) (vs : List Value) : Nat → Shared → Shared → Prop := fun n s₀ s₁ => n = 0 ∧ ∃ B1, Cov s₀ Lg N pq B1 ∧ St c B1 [(Lg, nsP []), (pq, lstP vs)] s₀.gens s₁
def gR (c : Cfg) (Lg N pq : Addr) (vs : List Value) : GenEnd := fun n s₀ r s₁ => r = .ok (.ret .none) ∧ gP c Lg N pq vs n s₀ s₁

def forS : Stmt := stN (dBody (wlS 3)) 0
def forT : Expr := match forS with | .For t .. => t | _ => default
def forB : List Stmt := match forS with | .For _ _ b .. => b | _ => []

theorem gen_loop (hh : A.handled = none) : ∀ (k i : Nat) (s₀ s : Shared) (fs : List Frame), i + k = vs.length → splitAtGen fs = none → fs.any Frame.guarded = false → (A.over (.forLoop forT (.ref N) forB [] (envF fdIter Lg 77)) fs).handled = none →
    (∀ n s₀ s₁, gP c Lg N pq vs n s₀ s₁ → Seg (model PP c.w) A (gR c Lg N pq vs) (gY c Lg N pq vs) n s₀ (.block [] (envF fdIter Lg 77)) (leafOf (.ok .next)) fs s₁) →
    ∀ B, Cov s₀ Lg N pq B → St c B [(Lg, nsP []), (N, litP pq i), (pq, lstP vs)] s₀.gens s → (∀ (j : Nat) x, vs[j]? = some x → ∃ pr t cm, Tup s₀.heap.get? x [.int pr t, cm] ∧ Tup B x [.int pr t, cm]) →
    Seg (model PP c.w) A (gR c Lg N pq vs) (gY c Lg N pq vs) k s₀ (.forLoop forT (.ref N) forB [] (envF fdIter Lg 77)) ((model PP c.w).den (.forLoop forT (.ref N) forB [] (envF fdIter Lg 77))) fs s := by
  intro k
  induction k with
  | zero =>
    intro i s₀ s fs hi hfs hfg hh' hend B hC S ht
    refine seg_forLoop (nextLs_end S (j := 1) rfl (S.isList 2 rfl) (List.getElem?_eq_none (by omega)) hh' fun s' S' => ?_)
    exact hend _ _ _ ⟨rfl, B, hC, S'⟩
  | succ k ih =>
    intro i s₀ s fs hi hfs hfg hh' hend B hC S ht
    have hlt : i < vs.length := by omega
    obtain ⟨pr, t, cm, ht0, htB⟩ := ht i _ (List.getElem?_eq_getElem hlt)
    refine seg_forLoop (nextLs_item S (j := 1) rfl (S.isList 2 rfl) (List.getElem?_eq_getElem hlt) fun s' S => ?_)
    have S2 : St c B [(Lg, nsP []), (N, litP pq (i + 1)), (pq, lstP vs)] s₀.gens s' := S
    obtain ⟨o, e, hc, _⟩ := S2.get 1 rfl
    refine letOwned_cls e hc (by decide) ?_
    refine stPair S2 hh' htB fun s S K H hK => ?_
    refine seg_execs_cons ?_
    refine seg_Expr_Yield hfs rfl hfg ?_
    refine evTupleF (wpAny_items_cons (wpAny_UnaryOp (ldL S rfl (iNeg S fun t2 s S => wpAny_items_cons (ldL S rfl (wpAny_items_nil ⟨szl _ (by simp), _, _, _, S, fun a B' s hle hBa hT S => ?_⟩))))))
    intro kap hkap
    have hS3 : St c B' [(Lg, nsP []), (N, litP pq (i + 1)), (pq, lstP vs)] s₀.gens s := S.relk trivial
    obtain ⟨a', ea, hTa⟩ := hT
    cases ea
    have hne : ∀ p ∈ ([(Lg, nsP []), (N, litP pq (i + 1)), (pq, lstP vs)] : Mo), a ≠ p.1 := fun p hp e => by
      have := hS3.sep p hp; rw [← e, hTa] at this; cases this
    have hfresh : s₀.heap.get? a = none := by
      cases e : s₀.heap.get? a with
      | none => rfl
      | some o =>
        have := hC a o (hne _ (.head _)) (hne _ (.tail _ (.head _))) (hne _ (.tail _ (.tail _ (.head _)))) e
        rw [hBa] at this; cases this
    refine ⟨i, _, pr, t, cm, a, t2, B', by omega, List.getElem?_eq_getElem hlt, ht0, rfl, hfresh, hTa, hC.le hle, hS3, fun s'' X => hkap .none s'' ?_⟩
    show Seg _ _ _ _ _ _ _ (K .next) _ _
    rw [hK]
    refine seg_again rfl (ih (i + 1) s'' s'' fs (by omega) hfs hfg hh' hend _ (cov_gB s'' Lg N pq) X.st fun j x hx => ?_)
    obtain ⟨pr, t, cm, h⟩ := X.tup j x hx
    exact ⟨pr, t, cm, h, X.tupB h⟩

/-- the state in which the generator is made, and up to its first waking -/
structure Pre0 (c : Cfg) (Lg N pq w : Addr) (vs : List Value) (s : Shared) : Prop where
  ns : ∃ o, s.heap.get? Lg = some o ∧ nsP [(Str.ofString "self", .ref w)] o
  ls : ∃ o, s.heap.get? pq = some o ∧ lstP vs o
  ne2 : Lg ≠ pq
  sz : s.heap.objs.size = N
  tup : ∀ (j : Nat) x, vs[j]? = some x → ∃ pr t cm, Tup s.heap.get? x [.int pr t, cm]
  bas : ∃ B, Bas B ∧ WlAt B w pq ∧ ∀ b o, B b = some o → s.heap.get? b = some o
  drawn : s.drawn = c.d
  os : s.os = c.os

theorem gen_start (hh : A.handled = none) {s : Shared} (X : Pre0 c Lg N pq w vs s) :
    Seg (model PP c.w) A (gR c Lg N pq vs) (gY c Lg N pq vs) vs.length s (.func (dBody (wlS 3)) (envF fdIter Lg 77)) ((model PP c.w).den (.func (dBody (wlS 3)) (envF fdIter Lg 77))) [] s := by
  obtain ⟨B, hB, hw, hBs⟩ := X.bas
  obtain ⟨K, k⟩ := hB.kf
  obtain ⟨dx, hs, tk, ix, idx⟩ := hw
  have hK : K.In s.heap := fun a o e => hBs _ _ (k.inK a o e)
  have I : InstAt s.heap w (wlO dx) 80 (some (dictOf [⟨hs, .str (Str.ofString "pq") tk, .ref pq⟩] 1)) := ⟨hBs _ _ ix, rfl, rfl, hBs _ _ idx⟩
  obtain ⟨oL, eL, pL⟩ := X.ns
  obtain ⟨oq, eq, pQ⟩ := X.ls
  have hLt : Lg < N := X.sz ▸ Heap.lt_size eL
  have hqt : pq < N := X.sz ▸ Heap.lt_size eq
  have S : St c (gB s Lg N pq) [(Lg, nsP [(Str.ofString "self", .ref w)]), (pq, lstP vs)] s.gens s := by
    refine ⟨fun b o e => ?_, fun p hp => ?_, by have := X.ne2; simp [*], fun p hp => ?_, rfl, X.drawn, X.os⟩
    · unfold gB at e; split at e
      · cases e
      · exact e
    · rcases List.mem_cons.mp hp with rfl | hp
      · exact X.ns
      rcases List.mem_cons.mp hp with rfl | hp
      · exact X.ls
      · cases hp
    · rcases List.mem_cons.mp hp with rfl | hp
      · simp [gB]
      rcases List.mem_cons.mp hp with rfl | hp
      · simp [gB]
      · cases hp
  refine seg_func (seg_execs_cons (seg_For (by intro _; rfl) ?_))
  rw [arm_eval_Attribute]
  refine wpAny_bind (ldL S rfl ?_)
  refine wpAny_bind (wpAny_standAt (wpAny_bind (wpAny_holding (get_value hK I k.gatt (findObj_own k.hasD k.pq rfl (v := .ref pq) ?_) rfl ?_))))
  · rw [lookIn_dict]; unfold getL; simp [Value.isStr]
  refine wpAny_bind (wpAny_pure (wpAny_pure ?_))
  have S1 := S.toks (s.toks + 1)
  refine wpAny_pyIter_list (S1.isList 1 rfl) ?_
  have S2 := S1.mut1 ({ cls := .type "list_iterator", data := .fields #[.ref pq, .int 0 0] } : Obj) (P := litP pq 0) ⟨rfl, rfl⟩
  have hsz : ({ s with toks := s.toks + 1 } : Shared).heap.objs.size = N := X.sz
  rw [hsz] at S2 ⊢
  intro p
  refine gen_loop hh vs.length 0 _ _ _ (by omega) rfl rfl hh (fun n s₀ s₁ hP => ?_) (gB s Lg N pq) (cov_gB s Lg N pq) (S2.relk trivial) fun j x hx => ?_
  · refine seg_leaf (.ok .next) ?_
    exact seg_end (.ok (.ret .none)) ⟨rfl, hP⟩
  · obtain ⟨pr, t, cm, h⟩ := X.tup j x hx
    refine ⟨pr, t, cm, h, ?_⟩
    obtain ⟨a, rfl, e⟩ := h
    refine ⟨a, rfl, cov_gB s Lg N pq a _ ?_ ?_ ?_ e⟩
    · rintro rfl
      obtain ⟨es, ep, hd, _⟩ := pL
      rw [e] at eL; cases eL; simp [tupO] at hd
    · exact Nat.ne_of_lt (X.sz ▸ Heap.lt_size e)
    · rintro rfl
      obtain ⟨m, rfl⟩ := pQ
      rw [e] at eq; simp [tupO] at eq
end
end Mine
end

section
open PySem PySem.W PyProof.Rows PySem.Calls
namespace Mine

abbrev Cst := List (List Int × Int)
def getC (cs : Cst) (k : List Int) : Option Int := (cs.find? fun e => decide (e.1 = k)).map (·.2)
def setC (cs : Cst) (k : List Int) (v : Int) : Cst := if (getC cs k).isSome then cs.map (fun e => if e.1 = k then (e.1, v) else e) else cs ++ [(k, v)]
abbrev tk (w : World) := tupleKind (intKind PP w)
abbrev Xs := List (List Int × Addr × Value)
def XR (x : List Int × Addr × Value) (e : List Int × Int) : Prop := x.1 = e.1 ∧ ∃ t, x.2.2 = .int e.2 t
/-- a dict whose keys are tuples of ints, its values ints -/
def dctP (d : Addr) (w : World) (B : Hp) (cs : Cst) (o : Obj) : Prop := (d == sysModules) = false ∧ ∃ es ep xs, o.ExactDict ∧ o.data = .dict es ep ∧ es.toList = xs.map (entryOfKey (tk w)) ∧ (∀ x ∈ xs, Pm B (.ref x.2.1) x.1) ∧ (xs.map (·.1)).Nodup ∧ All2 XR xs cs

theorem dctP.mono {d : Addr} {w : World} {B B' : Hp} {cs : Cst} {o : Obj} (h : dctP d w B cs o) (l : Le B B') : dctP d w B' cs o :=
  let ⟨n, es, ep, xs, a, b, c, d, e⟩ := h; ⟨n, es, ep, xs, a, b, c, fun x hx => (d x hx).mono l, e⟩
theorem at_getC {xs : Xs} {cs : Cst} (h : All2 XR xs cs) (k : List Int) : (∀ n, getC cs k = some n → ∃ a t, atKey xs k = some (a, .int n t)) ∧ (getC cs k = none → atKey xs k = none) := by
  induction h with
  | nil => exact ⟨fun n h => by simp [getC] at h, fun _ => rfl⟩
  | @cons x e xs cs hx r ih =>
    obtain ⟨h1, t, h2⟩ := hx
    by_cases hk : e.1 = k
    · have : x.1 = k := h1.trans hk
      refine ⟨fun n h => ?_, fun h => ?_⟩
      · simp [getC, hk] at h
        subst h
        exact ⟨x.2.1, t, by simp [atKey, this, ← h2]⟩
      · simp [getC, hk] at h
    · have : ¬ x.1 = k := fun q => hk (h1.symm.trans q)
      refine ⟨fun n h => ?_, fun h => ?_⟩
      · have := ih.1 n (by simpa [getC, hk] using h)
        simpa [atKey, *] using this
      · have := ih.2 (by simpa [getC, hk] using h)
        simpa [atKey, *] using this
theorem at_isSome {xs : Xs} {cs : Cst} (h : All2 XR xs cs) (k : List Int) : (atKey xs k).isSome = (getC cs k).isSome := by
  cases e : getC cs k with
  | none => rw [(at_getC h k).2 e]; rfl
  | some n => obtain ⟨a, t, e'⟩ := (at_getC h k).1 n e; rw [e']; rfl
theorem stored {xs : Xs} {cs : Cst} (h : All2 XR xs cs) (k : List Int) (a : Addr) (n : Int) (t : Tok) : All2 XR (storedH xs k a (.int n t)) (setC cs k n) := by
  unfold storedH setC
  rw [at_isSome h]
  split
  · have : ∀ {xs : Xs} {cs : Cst}, All2 XR xs cs → All2 XR (xs.map (putAt k (.int n t))) (cs.map (fun e => if e.1 = k then (e.1, n) else e)) := by
      intro xs cs h
      induction h with
      | nil => exact .nil
      | @cons x e xs cs hx r ih =>
        refine .cons ?_ ih
        unfold putAt
        dsimp only
        by_cases hk : e.1 = k
        · rw [if_pos hk, if_pos (hx.1.trans hk)]; exact ⟨hx.1, t, rfl⟩
        · rw [if_neg hk, if_neg fun q => hk (hx.1.symm.trans q)]; exact hx
    exact this h
  · exact h.snoc ⟨rfl, t, rfl⟩

section
variable {c : Cfg} {B B' B₀ : Hp} {mu mu' : Mo} {G : Array GenState} {s : Shared} {A : Around} {E : Value → Shared → Prop} {env : Env} {d a : Addr} {v : Value} {cs : Cst} {p : List Int} {n : Int}

theorem St.dict (S : St c B mu G s) (i : Nat) (hi : mu[i]? = some (d, dctP d c.w B₀ cs)) (hl : Le B₀ B) : ∃ xs, s.heap.DictOfH (tk c.w) d xs ∧ (∀ x ∈ xs, Pm B (.ref x.2.1) x.1) ∧ All2 XR xs cs := by
  obtain ⟨o, e, _, es, ep, xs, h1, h2, h3, h4, h5, h6⟩ := S.get i hi
  refine ⟨xs, ⟨o, es, ep, e, h1, h2, h3, fun x hx => ?_, h5⟩, fun x hx => (h4 x hx).mono hl, h6⟩
  obtain ⟨a, ea, ha⟩ := S.tkey c.w ((h4 x hx).mono hl)
  cases ea; exact ha
theorem St.notSys (S : St c B mu G s) (i : Nat) (hi : mu[i]? = some (d, dctP d c.w B₀ cs)) : (d == sysModules) = false := by
  obtain ⟨o, e, n, _⟩ := S.get i hi
  exact n

theorem dctIn {Q : Value → Shared → Prop} (S : St c B mu G s) (hB : Bas B) (i : Nat) (hi : mu[i]? = some (d, dctP d c.w B₀ cs)) (hl : Le B₀ B) (hv : Pm B v p) (hu : A.units + 1 < cLine) (h : ∀ s', St c B mu G s' → Q (.bool (getC cs p).isSome) s') :
    wpAny (model PP c.w) A (compareOp .In v (.ref d)) Q E s := by
  obtain ⟨xs, hd, hx, hc⟩ := S.dict i hi hl
  obtain ⟨a, rfl, ha⟩ := S.tkey c.w hv
  refine wpAny_in_heap (knd := tk c.w) hu ha (S.notSys i hi) hd ?_
  rw [at_isSome hc]
  exact h _ (S.toks _)
theorem dctItem {Q : Value → Shared → Prop} (S : St c B mu G s) (i : Nat) (hi : mu[i]? = some (d, dctP d c.w B₀ cs)) (hl : Le B₀ B) (hv : Pm B v p) (hu : A.units + 1 < cLine) (hg : getC cs p = some n) (h : ∀ t s', St c B mu G s' → Q (.int n t) s') :
    wpAny (model PP c.w) A (getItem (.ref d) v) Q E s := by
  obtain ⟨xs, hd, hx, hc⟩ := S.dict i hi hl
  obtain ⟨a, rfl, ha⟩ := S.tkey c.w hv
  obtain ⟨a', t, e⟩ := (at_getC hc p).1 n hg
  exact wpAny_getItem_heap (knd := tk c.w) hu ha hd e (h _ _ (S.toks _))
theorem dctSub {value slice : Expr} {Q : Value → Shared → Prop} (S : St c B mu G s) (i : Nat) (hi : mu[i]? = some (d, dctP d c.w B₀ cs)) (hl : Le B₀ B) (hv : Pm B v p) (hu : A.units + 1 < cLine) (hg : getC cs p = some n) (h : ∀ t s', St c B mu G s' → Q (.int n t) s')
    (hs : ∀ t u, subscripted slice false (.ref t) (.ref u) = operate [.ref t, .ref u] (getItem (.ref t) (.ref u)) := by intro _ _; with_unfolding_all rfl)
    (ht : ∀ t r, letTemporaryGo value (.ref t) r = pure () := by intro _ _; with_unfolding_all rfl) :
    wpAny (model PP c.w) A (subscriptTail value slice (.ref d) v) Q E s := by
  obtain ⟨xs, hd, hx, hc⟩ := S.dict i hi hl
  have hv' := hv
  obtain ⟨us, ⟨a, rfl, _⟩, _⟩ := hv'
  exact subscriptTail_builtin hd.typeIs slot_dict_getitem.lookup (dctItem S i hi hl hv hu hg h) (hs _ _) (ht _)
theorem dctSet {t : Tok} {Q : Unit → Shared → Prop} (S : St c B mu G s) (i : Nat) (hi : mu[i]? = some (d, dctP d c.w B₀ cs)) (hl : Le B₀ B) (hv : Pm B v p) (hu : A.units + 1 < cLine) (hsz : cs.length ≤ 1000)
    (h : ∀ s', St c B (mu.set i (d, dctP d c.w B (setC cs p n))) G s' → Q () s') :
    wpAny (model PP c.w) A (setItem (.ref d) v (.int n t)) Q E s := by
  obtain ⟨xs, hd, hx, hc⟩ := S.dict i hi hl
  obtain ⟨a, rfl, ha⟩ := S.tkey c.w hv
  have hsl : (1000 : Nat) ≤ sizeLine := by rw [sizeLine_eq]; decide
  refine wpAny_setItem_heap (knd := tk c.w) hu ha hd (fun h' hd' hs' => ?_) (by have := hc.length; omega)
  obtain ⟨o, es, ep, e, h1, h2, h3, h4, h5⟩ := hd'
  refine h _ (S.upd i hi hs' e ⟨S.notSys i hi, es, ep, _, h1, h2, h3, fun x hx' => ?_, h5, stored hc p a n t⟩ _)
  unfold storedH at hx'
  split at hx'
  · obtain ⟨y, hy, rfl⟩ := List.mem_map.mp hx'
    unfold putAt
    split
    · exact hx y hy
    · exact hx y hy
  · rcases List.mem_append.mp hx' with hx' | hx'
    · exact hx x hx'
    · rw [List.mem_singleton.mp hx']; exact hv
/-- d.get(k, n) -/
theorem evGet2 {o e f : Expr} {apos pos : Pos} {Q : Value → Shared → Prop}
    (h : wpAny (model PP c.w) A (eval o env) (fun ov s₁ => ∃ d ob, ov = .ref d ∧ s₁.heap.get? d = some ob ∧ ob.cls = .type "dict" ∧ ob.dict = none ∧ (d == sysModules) = false ∧ wpAny (model PP c.w) A (eval e env) (fun v s₂ => wpAny (model PP c.w) A (eval f env) (fun dv s₃ =>
      ∃ (B : Hp) (mu : Mo) (G : Array GenState) (i : Nat) (B₀ : Hp) (cs : Cst) (p : List Int) (n : Int) (t : Tok), dv = .int n t ∧ St c B mu G s₃ ∧ mu[i]? = some (d, dctP d c.w B₀ cs) ∧ Le B₀ B ∧ Pm B v p ∧ ∀ t s', St c B mu G s' → Q (.int ((getC cs p).getD n) t) s') E s₂) E s₁) E s)
    (hu : A.units + 2 < cLine)
    (hbase : attributeBase o (Str.ofString "get") env (eval o env) = eval o env := by rfl)
    (hline : (apos.endLine == pos.line) = true := by rfl)
    (he : starEach [e, f] env = [(false, eval e env), (false, eval f env)] := by rfl) :
    wpAny (model PP c.w) A (eval (.Call (.Attribute o (Str.ofString "get") apos) [e, f] [] pos) env) Q E s := by
  refine wpAny_Call_method hbase (by rw [he]; rfl) hline F.plainAttrs_dict F.slot_dict_get F.type_dict_get (wpAny_mono h (fun ov s₁ h₁ => ?_) fun _ _ x => x)
  obtain ⟨d, ob, rfl, e1, e2, e3, e4, h₁⟩ := h₁
  refine ⟨⟨_, e1, e2⟩, fun b e => ⟨_, by cases e; exact e1, e3⟩, ?_⟩
  rw [he]
  refine wpAny_dict_get2_heap (knd := tk c.w) (show A.units + 1 < cLine by omega) e4 (wpAny_mono h₁ (fun v s₂ h₂ => wpAny_mono h₂ (fun dv s₃ h₃ => ?_) fun _ _ x => x) fun _ _ x => x)
  obtain ⟨B, mu, G, i, B₀, cs, p, n, t, rfl, S, hi, hl, hv, h₃⟩ := h₃
  obtain ⟨xs, hd, hx, hc⟩ := S.dict i hi hl
  obtain ⟨a, rfl, ha⟩ := S.tkey c.w hv
  refine ⟨a, p, xs, rfl, ha, hd, ?_⟩
  cases eg : getC cs p with
  | none =>
    rw [(at_getC hc p).2 eg]
    have := h₃ t _ (S.toks (s₃.toks + (tk c.w).draws p))
    rw [eg] at this
    exact this
  | some m =>
    obtain ⟨a', t', e'⟩ := (at_getC hc p).1 m eg
    rw [e']
    have := h₃ t' _ (S.toks (s₃.toks + (tk c.w).draws p))
    rw [eg] at this
    exact this
theorem St.dictO (S : St c B mu G s) (hB : Bas B) (i : Nat) (hi : mu[i]? = some (d, dctP d c.w B₀ cs)) : ∃ ob, s.heap.get? d = some ob ∧ ob.cls = .type "dict" ∧ ob.dict = none ∧ (d == sysModules) = false := by
  obtain ⟨o, e, _, es, ep, xs, h1, _⟩ := S.get i hi
  exact ⟨o, e, h1.1, h1.2.1, S.notSys i hi⟩
end
end Mine
end

section
open PySem PySem.W PyProof.Rows PySem.Calls
namespace Mine

section
variable {c : Cfg} {B B' B1 : Hp} {mu mu' : Mo} {G : Array GenState} {s s₀ s₁ : Shared} {A : Around} {E : Value → Shared → Prop} {Lg N pq w a : Addr} {v x : Value} {vs ws us : List Value} {i k n : Nat} {k1 : Obj → Prop}

theorem St.transfer (S : St c B ((Lg, k1) :: mu) G s₀) (hpq : (pq, lstP vs) ∈ mu) (hN : ∀ p ∈ (Lg, k1) :: mu, p.1 ≠ N) (hBN : B N = none) (ha : s₀.heap.get? a = none) (hB1 : B1 a = some (tupO us)) (hC : Cov s₀ Lg N pq B1)
    (S1 : St c B1 [(Lg, nsP []), (N, litP pq i), (pq, lstP vs)] s₀.gens s₁) : St c (insB B a (tupO us)) ((Lg, nsP []) :: (N, litP pq i) :: mu) G s₁ := by
  have hBa : B a = none := by
    cases e : B a with
    | none => rfl
    | some o => rw [S.base _ _ e] at ha; cases ha
  have haN : a ≠ N := fun q => by have := S1.sep _ (.tail _ (.head _)); rw [← q, hB1] at this; cases this
  have hne : ∀ p ∈ (Lg, k1) :: mu, p.1 ≠ a := fun p hp q => by obtain ⟨o, e, _⟩ := S.at_ p hp; rw [q, ha] at e; cases e
  have hnd := List.nodup_cons.mp S.nd
  refine ⟨fun b o e => ?_, fun p hp => ?_, ?_, fun p hp => ?_, S1.gens.trans S.gens, S1.drawn, S1.os⟩
  · unfold insB at e
    by_cases hb : b = a
    · subst hb; rw [if_pos rfl] at e; cases e; exact S1.base _ _ hB1
    · rw [if_neg hb] at e
      refine S1.base _ _ (hC b o (fun q => ?_) (fun q => ?_) (fun q => ?_) (S.base b o e))
      · have := S.sep _ (.head _); rw [← q, e] at this; cases this
      · rw [q, hBN] at e; cases e
      · have := S.sep _ (.tail _ hpq); rw [← q, e] at this; cases this
  · rcases List.mem_cons.mp hp with rfl | hp
    · exact S1.at_ _ (.head _)
    rcases List.mem_cons.mp hp with rfl | hp
    · exact S1.at_ _ (.tail _ (.head _))
    by_cases hp' : p.1 = pq
    · have : p = (pq, lstP vs) := by
        obtain ⟨i1, h1⟩ := List.mem_iff_getElem?.mp hp
        obtain ⟨i2, h2⟩ := List.mem_iff_getElem?.mp hpq
        have := S.drop.idx h1 h2 hp'
        subst this; rw [h1] at h2; exact Option.some.inj h2
      subst this
      exact S1.at_ _ (.tail _ (.tail _ (.head _)))
    · obtain ⟨o, e, q⟩ := S.at_ p (.tail _ hp)
      refine ⟨o, S1.base _ _ (hC p.1 o (fun z => ?_) (hN p (.tail _ hp)) hp' e), q⟩
      exact hnd.1 (List.mem_map.mpr ⟨p, hp, z⟩)
  · rw [List.map_cons, List.map_cons, List.nodup_cons, List.nodup_cons]
    refine ⟨fun hm => ?_, fun hm => ?_, hnd.2⟩
    · rcases List.mem_cons.mp hm with q | hm
      · exact hN _ (.head _) q
      · exact hnd.1 hm
    · obtain ⟨p, hp, q⟩ := List.mem_map.mp hm
      exact hN p (.tail _ hp) q
  · rcases List.mem_cons.mp hp with rfl | hp
    · have h1 := hne (Lg, k1) (.head _)
      have h2 := S.sep (Lg, k1) (.head _)
      unfold insB; rw [if_neg h1]; exact h2
    rcases List.mem_cons.mp hp with rfl | hp
    · unfold insB; rw [if_neg (Ne.symm haN)]; exact hBN
    · unfold insB; rw [if_neg (hne _ (.tail _ hp))]; exact S.sep _ (.tail _ hp)

theorem St.transferE (S : St c B ((Lg, k1) :: mu) G s₀) (hpq : (pq, lstP vs) ∈ mu) (hN : ∀ p ∈ (Lg, k1) :: mu, p.1 ≠ N) (hBN : B N = none) (hC : Cov s₀ Lg N pq B1)
    (S1 : St c B1 [(Lg, nsP []), (pq, lstP vs)] s₀.gens s₁) : St c B ((Lg, nsP []) :: mu) G s₁ := by
  have hnd := List.nodup_cons.mp S.nd
  refine ⟨fun b o e => ?_, fun p hp => ?_, S.nd, fun p hp => ?_, S1.gens.trans S.gens, S1.drawn, S1.os⟩
  · refine S1.base _ _ (hC b o (fun q => ?_) (fun q => ?_) (fun q => ?_) (S.base b o e))
    · have := S.sep _ (.head _); rw [← q, e] at this; cases this
    · rw [q, hBN] at e; cases e
    · have := S.sep _ (.tail _ hpq); rw [← q, e] at this; cases this
  · rcases List.mem_cons.mp hp with rfl | hp
    · exact S1.at_ _ (.head _)
    by_cases hp' : p.1 = pq
    · have : p = (pq, lstP vs) := by
        obtain ⟨i1, h1⟩ := List.mem_iff_getElem?.mp hp
        obtain ⟨i2, h2⟩ := List.mem_iff_getElem?.mp hpq
        have := S.drop.idx h1 h2 hp'
        subst this; rw [h1] at h2; exact Option.some.inj h2
      subst this
      exact S1.at_ _ (.tail _ (.head _))
    · obtain ⟨o, e, q⟩ := S.at_ p (.tail _ hp)
      refine ⟨o, S1.base _ _ (hC p.1 o (fun z => ?_) (hN p (.tail _ hp)) hp' e), q⟩
      exact hnd.1 (List.mem_map.mpr ⟨p, hp, z⟩)
  · rcases List.mem_cons.mp hp with rfl | hp
    · exact S.sep (Lg, k1) (.head _)
    · exact S.sep _ (.tail _ hp)

/-- the body of a generator has run to its end: StopIteration, caught at once -/
theorem stopG {k : Unit → Sem PySem.Fin} (hh : A.handled = none) (h : ∀ (e : Addr) (h' : Heap), (∀ b o, s.heap.get? b = some o → h'.get? b = some o) → (∃ ob, h'.get? e = some ob ∧ ob.cls = .type "StopIteration") → E (.ref e) { s with heap := h' }) :
    wpAny (model PP c.w) A (do let x ← newExc (.type "StopIteration") []; let r ← raiseNew x; k r : Sem PySem.Fin) (fun _ _ => False) E s := by
  refine wpAny_bind ?_
  simp only [newExc, newTuple]
  refine wpAny_bind (wpAny_newObj_type ?_ (by size_fits))
  refine wpAny_bind (m := firstArgMember _ _) (wpAny_of_eq (a := Value.none) (by first | rfl | (simp only [firstArgMember]; rfl)) ?_)
  refine wpAny_newObj_type ?_ (by size_fits)
  simp only [raiseNew]
  refine wpAny_bind (wpAny_bind (wpAny_bind (wpAny_handled ?_)))
  rw [hh]
  refine wpAny_pure (wpAny_throw (h _ _ (fun b o e => Heap.get?_push_of_some _ (Heap.get?_push_of_some _ e)) ?_))
  exact ⟨_, Heap.get?_push_size _ rfl, rfl⟩

/-- one waking of the generator of a plain function, and that it is bare after it -/
theorem pyNextG {g : Nat} {gs : GenState} {P : Nat → Shared → Shared → Prop} {Y : Protocol} {Q : Option Value → Shared → Prop} (hh : A.handled = none) (hl : s.heap.NoLimit) (hroom : A.depth < recursionLimit)
    (hg : s.heap.IsGen a g) (hgs : s.gens[g]? = some gs) (hgo : gs.Goes (model PP c.w) A.in1 (fun n s₀ r s₁ => r = .ok (.ret .none) ∧ P n s₀ s₁) Y n (.send .none) (s.setGen g .running))
    (hY : ∀ v s₁ gs', gs'.bare = true → Y (n - 1) (s.setGen g .running) v s₁ (fun r' s'' => match n with
        | 0 => False
        | m + 1 => gs'.Goes (model PP c.w) A.in1 (fun n s₀ r s₁ => r = .ok (.ret .none) ∧ P n s₀ s₁) Y m r' s'') → Q (some v) (s₁.setGen g gs'))
    (hP : ∀ s₁, P n (s.setGen g .running) s₁ → ∀ h', (∀ b o, s₁.heap.get? b = some o → h'.get? b = some o) → Q none { s₁.setGen g .finished with heap := h' }) :
    wpAny (model PP c.w) A (pyNext (.ref a)) Q E s := by
  have wake : ∀ {QQ : PySem.Fin → Shared → Prop} {EE : Value → Shared → Prop}, (∀ v s₁, Q (some v) s₁ → QQ (.done (.ret v)) s₁) → (∀ (s₁ : Shared) (e : Addr) (h' : Heap), (∀ h'' : Heap, (∀ b o, s₁.heap.get? b = some o → h''.get? b = some o) → Q none { s₁ with heap := h'' }) → (∀ b o, s₁.heap.get? b = some o → h'.get? b = some o) →
      (∃ ob, h'.get? e = some ob ∧ ob.cls = .type "StopIteration") → EE (.ref e) { s₁ with heap := h' }) → wpAny (model PP c.w) A.in1 (Builtin.Generator.genWake (.ref a) (.send .none)) QQ EE s := by
    intro QQ EE h1 h2
    unfold Builtin.Generator.genWake
    refine wpAny_bind (wpAny_holding (wpAny_genNumber hg (wpAny_bind (wpAny_genState hgs ?_))))
    cases gs
    case running => exact hgo.elim
    case finished => exact hgo.elim
    all_goals
      refine wpAny_bind (wpAny_roomToWake hl hroom ?_)
      show wpAny _ _ (.resume g (.send .none) [] _) _ _ s
      refine wpAny_resumeQ hgs hgo (fun x s₁ hx => ?_) fun v s₁ gs' hb hv => wpAny_pure (h1 v _ (hY v s₁ gs' hb hv))
      obtain ⟨rfl, hp⟩ := hx
      show wpAny _ _ (newExc (.type "StopIteration") [] >>= _) _ _ _
      exact wpAny_mono (stopG (A := A.in1) hh fun e h' hk ho => h2 (s₁.setGen g .finished) e h' (fun h'' hk'' => hP s₁ hp h'' hk'') hk ho) (fun _ _ x => x.elim) fun _ _ x => x
  unfold pyNext
  refine wpAny_bind (wpAny_attempt (wpAny_callSpecial?_slot (name := Str.ofString "__next__") hg.typeIs slot_gen_next (wpAny_call_entry slot_gen_next hg.typeIs entry_gen_next (wake (fun v s₁ h => ⟨v, rfl, wpAny_pure h⟩) fun s₁ e h' hn hk ho => ?_) (args_gen_next _))))
  obtain ⟨ob, e1, e2⟩ := ho
  exact wpAny_bind (wpAny_isInstance (T := "StopIteration") (b := true) ⟨_, e1, e2⟩ isSubtype_stop (wpAny_pure (hn h' hk)))
end
end Mine
end

section
open PySem PySem.W PyProof.Rows PySem.Calls
namespace Mine

theorem bare_set {G : Array GenState} {g : Nat} {y : GenState} (h : AllBare G) (hy : y.bare = true) : AllBare (G.setIfInBounds g y) := by
  intro z hz
  obtain ⟨i, hi, rfl⟩ := Array.mem_iff_getElem.mp hz
  have hi' : i < G.size := by simpa using hi
  rw [Array.getElem_setIfInBounds hi']
  split
  · exact hy
  · exact h _ (Array.getElem_mem _)
theorem get_set {G : Array GenState} {g : Nat} {x y : GenState} (h : G[g]? = some x) : (G.setIfInBounds g y)[g]? = some y := by
  have hlt : g < G.size := by
    rcases Nat.lt_or_ge g G.size with h' | h'
    · exact h'
    · rw [Array.getElem?_eq_none h'] at h; cases h
  simp [hlt]

section
variable {c : Cfg} {B B' B₀ B1 : Hp} {mu mu' mu1 : Mo} {G : Array GenState} {s s₀ s₁ : Shared} {A : Around} {E : Value → Shared → Prop} {L Lg N pq w a d cell : Addr} {v x : Value} {vs ws us : List Value} {i k n g : Nat} {k1 : Obj → Prop} {gs : GenState} {cs : Cst} {es : List Ent}

theorem St.setGen (S : St c B mu G s) (g : Nat) (y : GenState) : St c B mu (G.setIfInBounds g y) (s.setGen g y) :=
  ⟨S.base, S.at_, S.nd, S.sep, by show s.gens.setIfInBounds g y = _; rw [S.gens], S.drawn, S.os⟩

theorem Pre.of (S : St c B ((Lg, nsP []) :: (N, litP pq i) :: mu1) G s) (hpq : (pq, lstP vs) ∈ mu1) (ht : ∀ (j : Nat) x, vs[j]? = some x → ∃ pr t cm, Tup B x [.int pr t, cm]) : Pre c Lg N pq vs i s := by
  have hn := S.nd
  rw [List.map_cons, List.map_cons, List.nodup_cons, List.nodup_cons] at hn
  refine ⟨S.at_ _ (.head _), S.at_ _ (.tail _ (.head _)), S.at_ _ (.tail _ (.tail _ hpq)), fun q => hn.1 (by show Lg ∈ N :: _; rw [q]; exact .head _), fun q => hn.1 ?_, fun q => hn.2.1 ?_, fun j x hx => ?_, S.drawn, S.os⟩
  · exact .tail _ (List.mem_map.mpr ⟨_, hpq, q.symm⟩)
  · exact List.mem_map.mpr ⟨_, hpq, q.symm⟩
  · obtain ⟨pr, t, cm, a, rfl, e⟩ := ht j x hx
    exact ⟨pr, t, cm, a, rfl, S.base _ _ e⟩

theorem gen_step {Q : Option Value → Shared → Prop} (S : St c B ((Lg, k1) :: mu1) G s) (hB : Bas B) (hh : A.handled = none) (hroom : A.depth < recursionLimit) (hpq : (pq, lstP vs) ∈ mu1) (hN : ∀ p ∈ (Lg, k1) :: mu1, p.1 ≠ N) (hBN : B N = none)
    (hg : s.heap.IsGen a g) (hgs : G[g]? = some gs) (hb : AllBare G) (hi : i < vs.length) (hgo : gs.Goes (model PP c.w) A.in1 (gR c Lg N pq vs) (gY c Lg N pq vs) (vs.length - i) (.send .none) (s.setGen g .running))
    (h : ∀ s1 G' gs' x pr t cm av t2, G'[g]? = some gs' → AllBare G' → vs[i]? = some x → Tup s.heap.get? x [.int pr t, cm] → Le B (insB B av (tupO [.int (-pr) t2, cm])) →
      St c (insB B av (tupO [.int (-pr) t2, cm])) ((Lg, nsP []) :: (N, litP pq (i + 1)) :: mu1) G' s1 → (∀ s'', Pre c Lg N pq vs (i + 1) s'' → gs'.Goes (model PP c.w) A.in1 (gR c Lg N pq vs) (gY c Lg N pq vs) (vs.length - (i + 1)) (.send .none) s'') →
      Q (some (.ref av)) s1) :
    wpAny (model PP c.w) A (pyNext (.ref a)) Q E s := by
  obtain ⟨m, hm⟩ : ∃ m, vs.length - i = m + 1 := ⟨vs.length - i - 1, by omega⟩
  rw [hm] at hgo
  refine pyNextG (P := gP c Lg N pq vs) hh (S.nolimit hB.lim) hroom hg (by rw [S.gens]; exact hgs) hgo (fun v s₁ gs' hbare hY => ?_) (fun s₁ hP h' hk => ?_)
  · obtain ⟨i', x, pr, t, cm, av, t2, B1, hi', hx, htx, rfl, hfr, hBa, hC, S1, hgo'⟩ := hY
    have : i' = i := by omega
    subst this
    have S0 := S.setGen g .running
    have S2 := S0.transfer hpq hN hBN hfr hBa hC S1
    have hBa' : B av = none := by
      cases e : B av with
      | none => rfl
      | some o => have := S.base _ _ e; have h2 : s.heap.get? av = none := hfr; rw [h2] at this; cases this
    refine h _ _ gs' x pr t cm av t2 (get_set (get_set hgs)) (bare_set (bare_set hb rfl) hbare) hx htx (le_insB hBa') (S2.setGen g gs') fun s'' X => ?_
    rw [show vs.length - (i' + 1) = m by omega]
    exact hgo' s'' X
  · exact absurd hP.1 (by omega)

theorem gen_end {Q : Option Value → Shared → Prop} (S : St c B ((Lg, k1) :: mu1) G s) (hB : Bas B) (hh : A.handled = none) (hroom : A.depth < recursionLimit) (hpq : (pq, lstP vs) ∈ mu1) (hN : ∀ p ∈ (Lg, k1) :: mu1, p.1 ≠ N) (hBN : B N = none)
    (hg : s.heap.IsGen a g) (hgs : G[g]? = some gs) (hb : AllBare G) (ht : ∀ (j : Nat) x, vs[j]? = some x → ∃ pr t cm, Tup B x [.int pr t, cm]) (hgo : gs.Goes (model PP c.w) A.in1 (gR c Lg N pq vs) (gY c Lg N pq vs) 0 (.send .none) (s.setGen g .running))
    (h : ∀ s1 G', AllBare G' → St c B ((Lg, nsP []) :: mu1) G' s1 → Q none s1) :
    wpAny (model PP c.w) A (pyNext (.ref a)) Q E s := by
  refine pyNextG (P := gP c Lg N pq vs) hh (S.nolimit hB.lim) hroom hg (by rw [S.gens]; exact hgs) hgo (fun v s₁ gs' hbare hY => ?_) (fun s₁ hP h' hk => ?_)
  · obtain ⟨i', x, pr, t, cm, av, t2, B1, hi', hx, htx, rfl, hfr, hBa, hC, S1, hgo'⟩ := hY
    have hBa' : B av = none := by
      cases e : B av with
      | none => rfl
      | some o => have := S.base _ _ e; have h2 : s.heap.get? av = none := hfr; rw [h2] at this; cases this
    have S2 := (S.setGen g .running).transfer hpq hN hBN hfr hBa hC S1
    exact (hgo' s₁ (Pre.of S2 hpq fun j x hx => let ⟨pr, t, cm, h⟩ := ht j x hx; ⟨pr, t, cm, h.mono (le_insB hBa')⟩)).elim
  · obtain ⟨_, B1, hC, S1⟩ := hP
    have S0 := S.setGen g .running
    have S2 := (S0.transferE hpq hN hBN hC S1).setGen g .finished
    exact h _ _ (bare_set (bare_set hb rfl) rfl) (S2.keep0 (h' := h') hk)
end
end Mine
end

section
open PySem PySem.W PyProof.Rows PySem.Calls
namespace Mine

def hasS : Stmt := stN (dBody (topS 3)) 6
def fdHas (cell cd : Addr) (ct doc pm : Value) : FuncData := fnX (dName hasS) "_find_lcas.<locals>._has_candidates" (dPar hasS) (dBody hasS) (dScope hasS) [(Str.ofString "_DNC", cell)] .none .none doc pm none (.ref cd) ct
def hasP (cs : Cst) : List Ent → Bool
  | [] => false
  | e :: es => (match getC cs e.2 with | some f => !(decide (Builtin.bitAnd f 4 = 4)) | none => false) || hasP cs es

section
variable {c : Cfg} {B B' B₀ B1 : Hp} {mu mu' mu1 : Mo} {G : Array GenState} {s s₀ s₁ : Shared} {A : Around} {E : Value → Shared → Prop} {L Lg N pq w a d cell : Addr} {v x : Value} {vs ws us : List Value} {i k n g : Nat} {k1 : Obj → Prop} {gs : GenState} {cs : Cst} {es : List Ent}

/-- x.m() on a work list, no arguments -/
theorem evMeth0 {env : Env} {o : Expr} {name : Str} {apos pos : Pos} {f : Addr} {Q : Value → Shared → Prop} {fd : FuncData} {pl : Sem Bool}
    (h : wpAny (model PP c.w) A (eval o env) (fun ov s₁ => ∃ (B : Hp) (mu : Mo) (G : Array GenState) (w pq : Addr) (K : Frag), ov = .ref w ∧ St c B mu G s₁ ∧ KF K B ∧ WlAt B w pq ∧ FnAt B f fd ∧
      findIn K (.ref 80) name = some (some (.ref f)) ∧ typeIn K (.ref f) = some (.type "function") ∧ wpAny (model PP c.w) A (call (.ref f) [.ref w] []) Q E s₁) E s)
    (hn : (Str.ofString "pq" == name) = false := by decide)
    (he : eval (.Call (.Attribute o name apos) [] [] pos) env = (do
      let ov ← eval o env
      standAt apos.atName
      let (f, first) ← holding [ov] (getMethod ov name pl)
      callWith pos f first (backTo pos (starEach [] env)) (backToKw pos (keywordEach [] env))) := by rfl) :
    wpAny (model PP c.w) A (eval (.Call (.Attribute o name apos) [] [] pos) env) Q E s := by
  refine methodCall_KW (pl := pl) (wpAny_mono h (fun ov s₁ h₁ => ?_) fun _ _ x => x) he
  obtain ⟨B, mu, G, w, pq, K, rfl, S, k, hw, hF, h1, h2, h₁⟩ := h₁
  refine methWl S k hw h1 h2 hn ?_
  obtain ⟨⟨ob, eo, hd⟩, _⟩ := hF
  show wpAny _ _ (callWith pos (.ref f) [.ref w] [] []) _ _ _
  refine callWith_function (o := ob) (fd := fd) ?_
  exact evalArgs_kw2_nil (pos := pos) (kws := []) (env := env) rfl (wpAny_evalAll_nil ⟨⟨S.base _ _ eo, hd⟩, h₁⟩)

theorem hasP_append (cs : Cst) (l1 l2 : List Ent) : hasP cs (l1 ++ l2) = (hasP cs l1 || hasP cs l2) := by
  induction l1 with
  | nil => simp [hasP]
  | cons e r ih => simp only [List.cons_append, hasP, ih, Bool.or_assoc]
def GenB (B : Hp) (a : Addr) (g : Nat) : Prop := ∃ o, B a = some o ∧ ∀ h : Heap, h.get? a = some o → h.IsGen a g
theorem GenB.mono {B B' : Hp} {a : Addr} {g : Nat} (h : GenB B a g) (l : Le B B') : GenB B' a g := let ⟨o, e, r⟩ := h; ⟨o, l _ _ e, r⟩

theorem iter_spec {Q : Value → Shared → Prop} (S : St c B mu G s) (hB : Bas B) (fit : Fit (n + 1) A)
    (h : ∀ Lg a B' s', Le B B' → GenB B' a G.size → St c B' ((Lg, nsP [(Str.ofString "self", .ref w)]) :: mu) (G.push (.fresh (.func (dBody (wlS 3)) (envF fdIter Lg 77)))) s' → Q (.ref a) s') :
    wpAny (model PP c.w) A (call (.ref 77) [.ref w] []) Q E s := by
  obtain ⟨⟨oi, ei, hdi⟩, hcdi⟩ := hB.iter
  refine wpAny_call (codeAny_call_generator fit.room (S.base _ _ ei) hdi rfl rfl rfl (S.codeRec hcdi) ?_)
  have hbind : bindArgs fdIter ⟨[.ref w], []⟩ = pure ([("self", .ref w)] : List (Str × Value)) := rfl
  rw [hbind]
  refine wpAny_pure (wpAny_newFunctionEnv (by decide) (locs rfl) (fun h₁ hns hsb => ?_) rfl)
  have S1 := S.mut ({ cls := .type "frame", data := .dict #[] } : Obj) (P := fun _ => True) trivial
  obtain ⟨o', esn, epn, e', hd', hk', hf'⟩ := hns
  have S2 := S1.upd0 (k' := nsP [(Str.ofString "self", .ref w)]) hsb e' ⟨esn, epn, hd', hk', fun x v hx => (hf' x).trans hx⟩ (s.toks + 1)
  refine ⟨S2.nolimit hB.lim, ?_⟩
  have hG : s.gens = G := S.gens
  have S3 : St c B ((s.heap.objs.size, nsP [(Str.ofString "self", .ref w)]) :: mu) (G.push (.fresh (.func (dBody (wlS 3)) (envF fdIter s.heap.objs.size 77)))) { s with heap := h₁, toks := s.toks + 1 + 1 + 1, gens := s.gens.push (.fresh (.func (dBody (wlS 3)) (envF fdIter s.heap.objs.size 77))) } :=
    ⟨S2.base, S2.at_, S2.nd, S2.sep, by show s.gens.push _ = _; rw [hG], S2.drawn, S2.os⟩
  have S4 := S3.imm ({ cls := .type "generator", data := .fields #[.int s.gens.size 0, .str fdIter.name (s.toks + 1), .str fdIter.qualname (s.toks + 1 + 1)] } : Obj)
  exact h s.heap.objs.size _ _ _ (le_insB S3.freshB) ⟨_, insB_self .., fun h e => by rw [← hG]; exact ⟨_, _, _, e, rfl, rfl, rfl⟩⟩ S4

theorem has_spec {fh : Addr} {cd : Addr} {ct doc pm : Value} {t4 : Tok} {Q : Value → Shared → Prop} (S : St c B mu G s) (hB : Bas B) (hG : AllBare G) (fit : Fit (n + 2) A) (hF : FnAt B fh (fdHas cell cd ct doc pm)) (hw : WlAt B w pq)
    (ip : Nat) (hip : mu[ip]? = some (pq, lstP vs)) (hes : All2 (En B) vs es) (id : Nat) (hid : mu[id]? = some (d, dctP d c.w B₀ cs)) (hl0 : Le B₀ B) (ic : Nat) (hic : mu[ic]? = some (cell, celP (some (.int 4 t4))))
    (h : ∀ B' G' s', Le B B' → AllBare G' → St c B' mu G' s' → Q (.bool (hasP cs es)) s') :
    wpAny (model PP c.w) A (call (.ref fh) [.ref w, .ref d] []) Q E s := by
  refine wpAny_call (callFn S hF hB.lim fit rfl (binds := [("wlst", .ref w), ("cstates", .ref d)]) rfl rfl (hcell := (by decide : ∀ x ∈ (dScope hasS).names, x.2 ≠ .cell)) fun L s A fit S => ?_)
  refine wpAny_execs_cons (wpAny_For ?_)
  obtain ⟨K, k⟩ := hB.kf
  refine evMeth0 (fd := fdIter) (ldL S rfl ⟨B, _, G, w, pq, K, rfl, S, k, hw, hB.iter, k.iter, k.tIter, iter_spec S hB fit fun Lg a B₁ s hle hga S => ?_⟩)
  obtain ⟨og, eg, hgen⟩ := hga
  refine wpAny_pyIter_gen (hgen _ (S.base _ _ eg)) ?_
  generalize hN : s.heap.objs.size = N
  generalize hgG : G.size = g at hgen
  have ht : ∀ (j : Nat) x, vs[j]? = some x → ∃ pr t cm, Tup B x [.int pr t, cm] := fun j x hx => by
    obtain ⟨e, _, t, w', h1, _⟩ := hes.get hx; exact ⟨_, t, w', h1⟩
  have hlen := hes.length
  have hpqm : ∀ l : List (Str × Value), (pq, lstP vs) ∈ (L, nsP l) :: mu := fun l => .tail _ (List.mem_of_getElem? hip)
  have hcls : og.cls = .type "generator" := by
    obtain ⟨o, _, _, e, hc, _⟩ := hgen _ (S.base _ _ eg)
    rw [S.base _ _ eg] at e; cases e; exact hc
  -- what is said of the first waking
  have fresh_go : ∀ B₂ l G₂ s, Le B₁ B₂ → St c B₂ ((Lg, nsP [(Str.ofString "self", .ref w)]) :: (L, nsP l) :: mu) G₂ s → s.heap.objs.size = N →
      (GenState.fresh (.func (dBody (wlS 3)) (envF fdIter Lg 77))).Goes (model PP c.w) A.in1 (gR c Lg N pq vs) (gY c Lg N pq vs) vs.length (.send .none) (s.setGen g .running) := by
    intro B₂ l G₂ s hle2 S hsz
    refine ⟨rfl, gen_start (w := w) (show A.in1.handled = none from fit.hd) ⟨S.at_ _ (.head _), S.at_ _ (.tail _ (hpqm l)), fun q => ?_, hsz, fun j x hx => ?_, ⟨B₂, hB.mono (hle.trans hle2), hw.mono (hle.trans hle2), S.base⟩, S.drawn, S.os⟩⟩
    · have := (List.nodup_cons.mp S.nd).1
      exact this (List.mem_map.mpr ⟨_, hpqm l, q.symm⟩)
    · obtain ⟨pr, t, cm, a', rfl, e⟩ := ht j x hx
      exact ⟨pr, t, cm, a', rfl, S.base _ _ ((hle.trans hle2) _ _ e)⟩
  refine codeAny_forLoop_any (fun n s => ∃ i B₂ l G₂ gs, n = vs.length - i ∧ i ≤ vs.length ∧ Le B₁ B₂ ∧ AllLk l [(Str.ofString "wlst", .ref w), (Str.ofString "cstates", .ref d)] ∧ G₂[g]? = some gs ∧ AllBare G₂ ∧ hasP cs (es.take i) = false ∧
    ∃ k1 mu1, (pq, lstP vs) ∈ mu1 ∧ St c B₂ ((Lg, k1) :: mu1) G₂ s ∧ (∀ p ∈ (Lg, k1) :: mu1, p.1 ≠ N) ∧ B₂ N = none ∧ mu1 = (L, nsP l) :: mu ∧
      gs.Goes (model PP c.w) A.in1 (gR c Lg N pq vs) (gY c Lg N pq vs) (vs.length - i) (.send .none) (s.setGen g .running)) ?_ vs.length ?_
  · rintro n s ⟨i, B₂, l, G₂, gs, rfl, hi, hle2, hl, hgs, hbare, hhas, k1, mu1, hpq, S, hNm, hBN, rfl, hgo⟩
    have hbase0 := S.base
    have hgen' := hgen s.heap (S.base _ _ (hle2 _ _ eg))
    have hB2 := hB.mono (hle.trans hle2)
    rcases Nat.lt_or_ge i vs.length with h' | h'
    · refine gen_step S hB2 fit.hd fit.room hpq hNm hBN hgen' hgs hbare h' hgo fun s1 G' gs' x pr t cm av t2 hgs' hb' hx htx hle3 S hgo' => ?_
      have e0 := S.base _ _ (hle3 _ _ (hle2 _ _ eg))
      refine letOwned_cls e0 hcls (by decide) ?_
      have hT : Tup (insB B₂ av (tupO [.int (-pr) t2, cm])) (.ref av) [.int (-pr) t2, cm] := ⟨_, rfl, insB_self ..⟩
      have S1 : St c (insB B₂ av (tupO [.int (-pr) t2, cm])) ((L, nsP l) :: (Lg, nsP []) :: (N, litP pq (i + 1)) :: mu) G' s1 := S.pick [2, 0, 1] 3
      obtain ⟨e, hee, t', w', hT1, hP1⟩ := hes.get hx
      have hcm : cm = w' := by
        obtain ⟨a1, q1, e1⟩ := htx
        obtain ⟨a2, q2, e2⟩ := hT1
        rw [q1] at q2; cases q2
        have e3 := hbase0 _ _ ((hle.trans hle2) _ _ e2)
        rw [e1] at e3
        have h5 := congrArg Obj.data (Option.some.inj e3)
        simp [tupO] at h5
        exact h5.2
      subst hcm
      have hB3 := hB2.mono hle3
      have hP3 := hP1.mono ((hle.trans hle2).trans hle3)
      generalize insB B₂ av (tupO [.int (-pr) t2, cm]) = B₃ at S1 hT hB3 hP3 hle3
      have hle03 : Le B B₃ := (hle.trans hle2).trans hle3
      have hwl : List.lookup (Str.ofString "wlst") l = some (.ref w) := hl.1
      have hcl : List.lookup (Str.ofString "cstates") l = some (.ref d) := hl.2.1
      refine stPair S1 fit.hd hT fun s S => ?_
      have hl64 := fit.line64
      -- if cmt in cstates
      have next : ∀ s, St c B₃ ((L, nsP ((Str.ofString "cmt", cm) :: (Str.ofString "dt", .int (-pr) t2) :: l)) :: (Lg, nsP []) :: (N, litP pq (i + 1)) :: mu) G' s → hasP cs [e] = false → ∃ m, m < vs.length - i ∧ ∃ i' B₂ l G₂ gs, m = vs.length - i' ∧ i' ≤ vs.length ∧ Le B₁ B₂ ∧
          AllLk l [(Str.ofString "wlst", .ref w), (Str.ofString "cstates", .ref d)] ∧ G₂[g]? = some gs ∧ AllBare G₂ ∧ hasP cs (es.take i') = false ∧
          ∃ k1 mu1, (pq, lstP vs) ∈ mu1 ∧ St c B₂ ((Lg, k1) :: mu1) G₂ s ∧ (∀ p ∈ (Lg, k1) :: mu1, p.1 ≠ N) ∧ B₂ N = none ∧ mu1 = (L, nsP l) :: mu ∧
          gs.Goes (model PP c.w) A.in1 (gR c Lg N pq vs) (gY c Lg N pq vs) (vs.length - i') (.send .none) (s.setGen g .running) := by
        intro s S hno
        have S2 : St c B₃ ((Lg, nsP []) :: (N, litP pq (i + 1)) :: (L, nsP ((Str.ofString "cmt", cm) :: (Str.ofString "dt", .int (-pr) t2) :: l)) :: mu) G' s := S.pick [1, 2, 0] 3
        have S3 : St c B₃ ((N, litP pq (i + 1)) :: (Lg, nsP []) :: (L, nsP ((Str.ofString "cmt", cm) :: (Str.ofString "dt", .int (-pr) t2) :: l)) :: mu) G' s := S2.pick [1, 0] 2
        refine ⟨vs.length - (i + 1), by omega, i + 1, B₃, _, G', gs', rfl, h', hle2.trans hle3, ⟨lk1 rfl (lk1 rfl hwl), lk1 rfl (lk1 rfl hcl), trivial⟩, hgs', hb', ?_, nsP [], _, hpqm _, S3.drop, fun p hp q => ?_, S3.sepA, rfl, ?_⟩
        · rw [List.take_add_one, hee, hasP_append, hhas]; exact hno
        · exact (List.nodup_cons.mp S3.nd).1 (List.mem_map.mpr ⟨p, hp, q⟩)
        · refine hgo' _ (Pre.of (S2.setGen g .running) (hpqm _) fun j x hx => ?_)
          obtain ⟨pr, t, cm, h⟩ := ht j x hx
          exact ⟨pr, t, cm, h.mono hle03⟩
      refine wpAny_execs_cons (wpAny_If (wpAny_isTrue_Compare1 (ldL S lk0 (ldL S (lk1 (by decide) (lk1 (by decide) hcl)) ?_))))
      refine dctIn S hB3 (id + 3) hid (hl0.trans hle03) hP3 (by omega) fun s S => wpAny_truthy_bool ?_
      cases hg : getC cs e.2 with
      | none => exact wpAny_execs_nil (wpAny_execs_nil (next s S (by simp [hasP, hg])))
      | some f =>
        refine wpAny_execs_cons (wpAny_If (isTrue_not (wpAny_isTrue_Compare1 (wpAny_BinOp (Subscript_ (ldL S (lk1 (by decide) (lk1 (by decide) hcl)) (ldL S lk0 ?_)))))))
        refine dctSub S (id + 3) hid (hl0.trans hle03) hP3 (by omega) hg fun t s S => ldF S (ic + 3) hic (iAnd S fun t s S => ldF S (ic + 3) hic (P.eq_int (wpAny_truthy_bool ?_)))
        by_cases hf : Builtin.bitAnd f 4 = 4
        · rw [hf]
          exact wpAny_execs_nil (wpAny_execs_nil (wpAny_execs_nil (next s S (by simp [hasP, hg, hf]))))
        · have hb4 : (Builtin.bitAnd f 4 == 4) = false := beq_eq_false_iff_ne.mpr hf
          rw [hb4]
          refine wpAny_execs_cons (wpAny_Return_some (Constant_bool ?_))
          have := h B₃ G' s hle03 hb' (S.sub (.cons _ (.cons _ (.cons _ (List.Sublist.refl _)))))
          have hes2 : hasP cs es = true := by
            have : es = es.take i ++ (e :: es.drop (i + 1)) := by
              obtain ⟨hlt, he⟩ := List.getElem?_eq_some_iff.mp hee
              rw [← he, List.getElem_cons_drop, List.take_append_drop]
            rw [this, hasP_append, hhas]
            simp [hasP, hg, hf]
          rw [hes2] at this
          exact this
    · have hie : i = vs.length := by omega
      subst hie
      rw [Nat.sub_self] at hgo
      refine gen_end S hB2 fit.hd fit.room hpq hNm hBN hgen' hgs hbare (fun j x hx => let ⟨pr, t, cm, h⟩ := ht j x hx; ⟨pr, t, cm, h.mono (hle.trans hle2)⟩) hgo fun s1 G' hb' S => ?_
      refine wpAny_execs_nil ?_
      refine wpAny_execs_cons (wpAny_Return_some (Constant_bool ?_))
      have := h B₂ G' s1 (hle.trans hle2) hb' (S.sub (.cons _ (.cons _ (List.Sublist.refl _))))
      rw [show es.take vs.length = es by rw [hlen]; exact List.take_length] at hhas
      rw [hhas] at this
      exact this
  · refine ⟨0, B₁, _, _, _, rfl, Nat.zero_le _, Le.refl _, ⟨rfl, rfl, trivial⟩, ?_, ?_, rfl, _, _, hpqm _, S, ?_, ?_, rfl, fresh_go B₁ _ _ s (Le.refl _) S hN⟩
    · rw [← hgG]; simp
    · exact hG.push rfl
    · intro p hp q
      have := S.lt hp
      rw [q, hN] at this
      exact Nat.lt_irrefl _ this
    · rw [← hN]; exact S.freshB
end
end Mine
end

section
open PySem PySem.W PyProof.Rows PySem.Calls
namespace Mine

section
variable {c : Cfg} {B B' : Hp} {mu mu' : Mo} {G : Array GenState} {s : Shared} {A : Around} {E : Value → Shared → Prop} {env : Env} {L C D a it t : Addr} {l l' : List (Str × Value)} {x y : Str} {pos : Pos} {v : Value} {vs ws : List Value} {j k n : Nat}

theorem adj_upto (b n : Nat) (hb : b ≤ n) : Builtin.Slice.sliceAdjust none (some (b : Int)) 1 (n : Int) = (0, (b : Int)) := by
  unfold Builtin.Slice.sliceAdjust
  have h1 : ¬ ((1 : Int) < 0) := by omega
  have h2 : ¬ ((b : Int) < 0) := by omega
  simp only [h1, h2, if_false]
  congr 1
  omega
theorem pl_upto (b : Nat) : Builtin.Slice.slicePlaces 0 (b : Int) 1 = b := by
  unfold Builtin.Slice.slicePlaces
  have h1 : (1 : Int) > 0 := by omega
  simp only [h1, if_true, Int.ediv_one]
  split <;> omega
theorem applied_upto {sl : Addr} {b n : Nat} {u : Tok} {Q : Int × Int × Nat → Shared → Prop} (hs : s.heap.IsSliceOf sl .none (.int b u) .none) (hb : b ≤ n) (h : Q (0, 1, b) s) :
    wpAny (model PP c.w) A (Builtin.Slice.sliceApplied (.ref sl) (pure (n : Int))) Q E s := by
  obtain ⟨os, hos, hcs, hds⟩ := id hs
  unfold Builtin.Slice.sliceApplied Builtin.Slice.sliceFields
  refine wpAny_bind (wpAny_bind (wpAny_field hos hds (x := .none) rfl (wpAny_bind (wpAny_field hos hds (x := .int b u) rfl (wpAny_bind (wpAny_field hos hds (x := .none) rfl (wpAny_pure ?_)))))))
  refine wpAny_bind (slicePart_none ?_)
  refine wpAny_ite ?_
  rw [if_neg (by decide)]
  refine wpAny_bind (slicePart_none (wpAny_bind (slicePart_int (wpAny_bind (wpAny_pure ?_)))))
  show wpAny _ _ (match Builtin.Slice.sliceAdjust none (some (b : Int)) 1 (n : Int) with | (lo, hi) => pure (lo, (1 : Int), Builtin.Slice.slicePlaces lo hi 1)) _ _ s
  rw [adj_upto b n hb]
  show wpAny _ _ (pure ((0 : Int), (1 : Int), Builtin.Slice.slicePlaces 0 (b : Int) 1)) _ _ s
  rw [pl_upto]
  exact wpAny_pure h
theorem pick_upto (xs : Array Value) (b : Nat) : ((List.range b).filterMap fun (k : Nat) => xs[((0 : Int) + (k : Int) * 1).toNat]?) = xs.toList.take b := by
  have e : (fun (k : Nat) => xs[((0 : Int) + (k : Int) * 1).toNat]?) = fun k => xs.toList[k]? := by
    funext k
    have : ((0 : Int) + (k : Int) * 1).toNat = k := by omega
    rw [this, Array.getElem?_toList]
  rw [e]
  generalize xs.toList = l
  induction b with
  | zero => simp
  | succ b ih => 
    rw [List.range_succ, List.filterMap_append, ih, List.take_add_one]
    congr 1

/-- row[:b] of a tuple, not all of it -/
theorem itemUpto {t sl : Addr} {b : Nat} {u : Tok} {Q : Value → Shared → Prop} (ht : s.heap.get? t = some (tupO vs)) (hs : s.heap.IsSliceOf sl .none (.int b u) .none) (hb : b < vs.length) (h100 : vs.length ≤ 100)
    (h : Q (.ref s.heap.objs.size) { s with heap := s.heap.push (tupO (vs.take b)) }) : wpAny (model PP c.w) A (getItem (.ref t) (.ref sl)) Q E s := by
  obtain ⟨os, hos, hcs, hds⟩ := id hs
  have hTs : s.TypeIs (.ref sl) "slice" := ⟨os, hos, hcs⟩
  have hTt : s.TypeIs (.ref t) "tuple" := ⟨_, ht, rfl⟩
  unfold getItem
  try with_reducible refine wpAny_holding ?_
  refine wpAny_bind (wpAny_sequenceKey hTt (by decide) ?_)
  refine wpAny_bind (wpAny_callSpecial?_slot (name := Str.ofString "__getitem__") hTt slot_tuple_getitem (wpAny_call_entry slot_tuple_getitem hTt entry_tuple_getitem ?_ (args_tuple_getitem _ _)))
  show wpAny _ _ (Builtin.Tuple.tupleItemsOf (.ref t) >>= _) _ _ s
  refine wpAny_bind (wpAny_tupleItemsOf ht rfl ?_)
  refine wpAny_bind (wpAny_typeOf hTs ?_)
  rw [if_pos (by decide)]
  refine wpAny_bind (applied_upto (n := vs.toArray.size) hs (by simp; omega) ?_)
  have hno : ¬ (((0 : Int) == 0 && (1 : Int) == 1 && b == vs.toArray.size) = true) := by
    have : (b == vs.toArray.size) = false := by rw [beq_eq_false_iff_ne, List.size_toArray]; omega
    rw [this]; simp
  refine wpAny_ite ?_
  rw [if_neg hno, pick_upto]
  refine wpAny_bind (m := Builtin.Tuple.tupleExact _) (wpAny_newObj_type (wpAny_pure ⟨_, rfl, wpAny_pure h⟩) ?_)
  show (List.take b vs).toArray.size ≤ sizeLine
  rw [List.size_toArray, List.length_take]
  exact szl _ (by omega)

theorem sliceTupUpto {value upper : Expr} {p : Pos} {Q : Value → Shared → Prop}
    (h : wpAny (model PP c.w) A (eval value env) (fun o s₁ => wpAny (model PP c.w) A (eval upper env) (fun vu s₃ =>
      ∃ (B : Hp) (mu : Mo) (G : Array GenState) (vs : List Value) (b : Nat) (u : Tok), Tup B o vs ∧ vu = .int b u ∧ St c B mu G s₃ ∧ b < vs.length ∧ vs.length ≤ 100 ∧
        ∀ r B' s', Le B B' → Tup B' r (vs.take b) → St c B' mu G s' → Q r s') E s₁) E s)
    (ht : ∀ o r, letTemporaryGo value o r = pure () := by intro _ _; rfl) :
    wpAny (model PP c.w) A (eval (.Subscript value (.Slice none (some upper) none p) pos) env) Q E s := by
  refine wpAny_Subscript_Slice (T := "tuple") slot_tuple_getitem.lookup (wpAny_mono h (fun o s₁ h₁ => wpAny_Slice (wpAny_pure (wpAny_mono h₁ (fun vu s₃ h₃ => ?_) fun _ _ e => e))) fun _ _ e => e) ht
  obtain ⟨B, mu, G, vs, b, u, ⟨t, rfl, e⟩, rfl, S, hb, h100, h₃⟩ := h₃
  rw [evalPart_none]
  have S1 := S.keep0 (h' := s₃.heap.push { cls := .type "slice", data := .fields #[.none, .int b u, .none] }) (fun _ _ e => Heap.get?_push_of_some _ e)
  refine wpAny_pure ⟨⟨_, S1.base _ _ e, rfl⟩, itemUpto (S1.base _ _ e) (Heap.IsSliceOf.new ..) hb h100 ?_⟩
  exact h₃ _ _ _ (le_insB S1.freshB) ⟨_, rfl, insB_self ..⟩ (S1.imm _)
theorem sliceTupFrom {value lower : Expr} {p : Pos} {Q : Value → Shared → Prop}
    (h : wpAny (model PP c.w) A (eval value env) (fun o s₁ => wpAny (model PP c.w) A (eval lower env) (fun vu s₃ =>
      ∃ (B : Hp) (mu : Mo) (G : Array GenState) (vs : List Value) (b : Nat) (u : Tok), Tup B o vs ∧ vu = .int b u ∧ St c B mu G s₃ ∧ 1 ≤ b ∧ b ≤ vs.length ∧ vs.length ≤ 100 ∧
        ∀ r B' s', Le B B' → Tup B' r (vs.drop b) → St c B' mu G s' → Q r s') E s₁) E s)
    (ht : ∀ o r, letTemporaryGo value o r = pure () := by intro _ _; rfl) :
    wpAny (model PP c.w) A (eval (.Subscript value (.Slice (some lower) none none p) pos) env) Q E s := by
  refine wpAny_Subscript_Slice (T := "tuple") slot_tuple_getitem.lookup (wpAny_mono h (fun o s₁ h₁ => wpAny_Slice (wpAny_mono h₁ (fun vu s₃ h₃ => ?_) fun _ _ e => e)) fun _ _ e => e) ht
  obtain ⟨B, mu, G, vs, b, u, ⟨t, rfl, e⟩, rfl, S, h1, hb, h100, h₃⟩ := h₃
  refine wpAny_pure ?_
  rw [evalPart_none]
  have S1 := S.keep0 (h' := s₃.heap.push { cls := .type "slice", data := .fields #[.int b u, .none, .none] }) (fun _ _ e => Heap.get?_push_of_some _ e)
  refine wpAny_pure ⟨⟨_, S1.base _ _ e, rfl⟩, getItem_tuple_from (S1.isTup e) (Heap.IsSliceOf.new ..) h1 (by simpa using hb) ?_ (by rw [List.size_toArray]; exact szl _ h100)⟩
  exact h₃ _ _ _ (le_insB S1.freshB) ⟨_, rfl, insB_self ..⟩ (S1.imm _)

/-- [elt for x in range(N) if cnd] -/
theorem compOne {elt cnd i1 : Expr} {scope : Scope} {px : Pos} {R : Result → Shared → Prop} {N n : Nat} (p : Nat → Bool) (Rel : Hp → Value → Nat → Prop)
    (hmono : ∀ B B' v q, Le B B' → Rel B v q → Rel B' v q) (fit : Fit n A) (hN : N ≤ 10)
    (hc : ∀ (b : Nat) tb B' l p1 p2 s, b < N → Le B B' → l.lookup x = some (.int b tb) → St c B' ((C, nsP l) :: p1 :: p2 :: mu) G s →
      wpAny (model PP c.w) A (isTrue cnd env (eval cnd env)) (fun ok s' => ok = p b ∧ ∃ B'', Le B' B'' ∧ St c B'' ((C, nsP l) :: p1 :: p2 :: mu) G s') (fun _ _ => False) s)
    (helt : ∀ (b : Nat) tb B' l p1 p2 s, b < N → Le B B' → l.lookup x = some (.int b tb) → St c B' ((C, nsP l) :: p1 :: p2 :: mu) G s →
      wpAny (model PP c.w) A (eval elt env) (fun v s' => ∃ B'', Le B' B'' ∧ Rel B'' v b ∧ St c B'' ((C, nsP l) :: p1 :: p2 :: mu) G s') (fun _ _ => False) s)
    (fin : ∀ B' l vs s, Le B B' → All2 (Rel B') vs (rangeUpto p N) → St c B' ((C, nsP l) :: (D, lstP vs) :: mu) G s → R (.ok .next) s)
    (S : St c B ((C, nsP []) :: (it, ritP 0 N 1) :: (D, lstP []) :: mu) G s)
    (hC : env.locals = C := by rfl) (hk : env.scope.kind = .function := by rfl) (hx : env.kindOf x = some .local := by rfl) :
    codeAny (model PP c.w) A (.compLoop (.ListComp elt [⟨.Name x px, i1, [cnd], 0⟩] scope pos) 0 (.ref it) (.ref D) env) R s := by
  refine compRng (PySem.compTurn_list _ _ _ _ _ _ _ _ _) fit.hd (fun i B' l rest G' => Le B B' ∧ G' = G ∧ ∃ vs, rest = (D, lstP vs) :: mu ∧ All2 (Rel B') vs (rangeUpto p i)) ?_ ?_ ⟨Le.refl _, rfl, [], rfl, .nil⟩ S
  · rintro b tb B₁ l rest G' s hb ⟨hle, rfl, vs, rfl, hvs⟩ S
    have hl2 : (rangeUpto p b).length ≤ b := by unfold rangeUpto; refine Nat.le_trans (List.length_filter_le _ _) (by simp)
    have hlen := hvs.length
    refine stL S (fun s S => ?_) hC hk hx
    refine wpAny_bind (wpAny_tests_one (wpAny_mono (hc b tb B₁ _ _ _ s hb hle lk0 S) (fun ok s h₁ => ?_) fun _ _ x => x))
    obtain ⟨rfl, B₃, hle3, S⟩ := h₁
    by_cases hp : p b = true
    · rw [if_pos hp]
      refine wpAny_bind (emit (wpAny_mono (helt b tb B₃ _ _ _ s hb (hle.trans hle3) lk0 S) (fun v s h₂ => ?_) fun _ _ x => x))
      obtain ⟨B₄, hle4, hR, S⟩ := h₂
      refine ⟨_, _, _, 2, vs, S, rfl, szl _ (by omega), fun s S => wpAny_pure ⟨rfl, B₄, _, _, _, ⟨hle.trans (hle3.trans hle4), rfl, _, rfl, ?_⟩, S⟩⟩
      rw [rangeUpto_succ, if_pos hp]
      exact (hvs.imp fun _ _ => hmono _ _ _ _ (hle3.trans hle4)).snoc hR
    · rw [if_neg hp]
      refine wpAny_pure ⟨rfl, B₃, _, _, _, ⟨hle.trans hle3, rfl, _, rfl, ?_⟩, S⟩
      rw [rangeUpto_succ, if_neg hp, List.append_nil]
      exact hvs.imp fun _ _ => hmono _ _ _ _ hle3
  · rintro B₁ l rest G' s ⟨hle, rfl, vs, rfl, hvs⟩ S
    exact fin _ _ _ _ hle hvs S
end
end Mine
end

section
open PySem PySem.W PyProof.Rows PySem.Calls
namespace Mine

def parS : Stmt := stN (dBody (topS 10)) 2
def ageS : Stmt := stN (dBody (topS 10)) 3
def fdPar (cd : Addr) (ct doc pm : Value) : FuncData := fnX (dName parS) "law.<locals>.parents" (dPar parS) (dBody parS) (dScope parS) [] .none .none doc pm none (.ref cd) ct
def fdAge (cd : Addr) (ct doc pm : Value) : FuncData := fnX (dName ageS) "law.<locals>.age" (dPar ageS) (dBody ageS) (dScope ageS) [] .none .none doc pm none (.ref cd) ct
def parT (p : List Int) (k : Nat) : Bool := decide (p.getD k 0 > p.getD (k + 1) 0)
def swapP (p : List Int) (k : Nat) : List Int := (p.take k ++ [p.getD (k + 1) 0, p.getD k 0]) ++ p.drop (k + 2)
def parP (p : List Int) : List (List Int) := (rangeUpto (parT p) 3).map (swapP p)
def ageP (p : List Int) : Int := 1 + (wrongP p).length

theorem ints_take {vs : List Value} {ns : List Int} (h : IntsAre vs ns) : ∀ k, IntsAre (vs.take k) (ns.take k) := by
  induction h with
  | nil => intro k; simp; exact .nil
  | cons n t r ih =>
    intro k
    cases k with
    | zero => exact .nil
    | succ k => exact .cons n t (ih k)
theorem ints_drop {vs : List Value} {ns : List Int} (h : IntsAre vs ns) : ∀ k, IntsAre (vs.drop k) (ns.drop k) := by
  induction h with
  | nil => intro k; simp; exact .nil
  | cons n t r ih =>
    intro k
    cases k with
    | zero => exact .cons n t r
    | succ k => exact ih k
theorem ints_app {vs ws : List Value} {ns ms : List Int} (h : IntsAre vs ns) (h' : IntsAre ws ms) : IntsAre (vs ++ ws) (ns ++ ms) := by
  induction h with
  | nil => exact h'
  | cons n t r ih => exact .cons n t ih

section
variable {c : Cfg} {B B' : Hp} {mu mu' : Mo} {G : Array GenState} {s : Shared} {A : Around} {E : Value → Shared → Prop} {env : Env} {L C D a it t : Addr} {l l' : List (Str × Value)} {x y : Str} {pos : Pos} {v : Value} {vs ws : List Value} {j k n : Nat}

theorem age_spec {p : List Int} {f : Addr × (Obj → Prop)} {fa cd : Addr} {ct doc pm : Value} {Q : Value → Shared → Prop} (S : St c B (f :: mu) G s) (hB : Bas B) (fit : Fit (n + 2) A) (hF : FnAt B fa (fdAge cd ct doc pm)) (hv : Pm B v p) (hp : p.length ≤ 4)
    (h : ∀ t B' s', Le B B' → St c B' (f :: mu) G s' → Q (.int (ageP p) t) s') :
    wpAny (model PP c.w) A (call (.ref fa) [v] []) Q E s := by
  refine wpAny_call (callFn S hF hB.lim fit rfl (binds := [("row", v)]) rfl rfl (hcell := (by decide : ∀ x ∈ (dScope ageS).names, x.2 ≠ .cell)) fun L s A fit S => ?_)
  refine wpAny_execs_cons (wpAny_Return_some (wpAny_BinOp (cInt S fun t1 s S => ?_)))
  refine evCallB (ldB S hB.nLen hB.bLen ⟨_, rfl, ?_⟩)
  obtain ⟨⟨ow, ew, hdw⟩, hcw⟩ := hB.lawWrong
  refine wpAny_items_cons (evCallF (ldG S hB.gWrong ⟨_, ow, _, rfl, hdw, wpAny_items_cons (ldL S rfl (wpAny_items_nil ⟨S.base _ _ ew, ?_⟩))⟩))
  refine lawWrong_spec S hB fit hv hp fun D B' ws s hle hws S => wpAny_items_nil ?_
  have hlen := hws.length
  have hl4 : (wrongP p).length ≤ 16 := by
    unfold wrongP
    rw [List.length_map]
    have := pairs_len (wrongT p) p.length
    have h2 : p.length * p.length ≤ 4 * 4 := Nat.mul_le_mul hp hp
    omega
  refine lenLs S (S.isList 1 rfl) (fun t s S => iAdd S fun t s S => ?_) (by omega)
  rw [hlen]
  exact h _ _ _ hle (S.sub (.cons _ (.cons _ (List.Sublist.refl _))))

theorem parents_spec {p : List Int} {f : Addr × (Obj → Prop)} {fa cd : Addr} {ct doc pm : Value} {Q : Value → Shared → Prop} (S : St c B (f :: mu) G s) (hB : Bas B) (fit : Fit (n + 1) A) (hF : FnAt B fa (fdPar cd ct doc pm)) (hv : Pm B v p) (hp : p.length = 4)
    (h : ∀ D B' ws s', Le B B' → All2 (Pm B') ws (parP p) → St c B' (f :: (D, lstP ws) :: mu) G s' → Q (.ref D) s') :
    wpAny (model PP c.w) A (call (.ref fa) [v] []) Q E s := by
  obtain ⟨vs, hT, hI⟩ := hv
  have hlen : vs.length = p.length := hI.length
  refine wpAny_call (callFnC S hF hB.lim fit rfl (binds := [("row", v)]) rfl rfl rfl (by decide : ((cellsFrom 0 (dScope parS).names []).map (·.1)).Nodup) [] (fun _ _ _ h => by cases h) fun L s A fit S => ?_)
  have S0 : St c B ((L, nsP []) :: (L + 1, celP (some v)) :: f :: mu) G s := S
  refine wpAny_execs_cons (wpAny_Return_some (evComp ?_))
  refine evCallT (ldB S0 hB.nRange hB.bRange ⟨_, rfl, wpAny_items_cons (cInt S0 fun t s S => wpAny_items_nil ?_)⟩)
  refine rangeOf S fun r s S => iterR S (by omega) (by omega) fun it s S => ?_
  refine ⟨_, _, _, it, rfl, S, selfR (p := fun _ => True) 1 rfl, fun C D s S => ?_⟩
  have S1 : St c B ((C, nsP []) :: (it, ritP 0 (3 : Nat) 1) :: (D, lstP []) :: (L, nsP []) :: (L + 1, celP (some v)) :: f :: mu) G s := S.pick [0, 3, 1, 2] 4
  refine compOne (parT p) (fun B v q => Pm B v (swapP p q)) (fun _ _ _ _ hl h => h.mono hl) fit (by omega) ?_ ?_ ?_ S1
  · intro b tb B' l p1 p2 s hb hle hx S
    refine wpAny_isTrue_Compare1 (Subscript_ (ldC S 4 rfl (ldL S hx (subPm S (hT.mono hle) hI b rfl (by omega) (by omega) fun t1 => ?_))))
    refine Subscript_ (ldC S 4 rfl (wpAny_BinOp (ldL S hx (cInt S fun t s S => iAdd S fun t s S => subPm S (hT.mono hle) hI (b + 1) (by omega) (by omega) (by omega) fun t2 => ?_))))
    refine P.gt_int (wpAny_truthy_bool ⟨rfl, B', Le.refl _, S⟩)
  · intro b tb B' l p1 p2 s hb hle hx S
    refine wpAny_BinOp (wpAny_BinOp (sliceTupUpto (ldC S 4 rfl (ldL S hx ?_))))
    refine ⟨_, _, _, vs, b, _, hT.mono hle, rfl, S, by omega, by omega, fun r1 B1 s hle1 hT1 S => ?_⟩
    refine evTuple (wpAny_items_cons (Subscript_ (ldC S 4 rfl (wpAny_BinOp (ldL S hx (cInt S fun t s S => iAdd S fun t s S => subPm S (hT.mono (hle.trans hle1)) hI (b + 1) (by omega) (by omega) (by omega) fun t1 => ?_))))))
    refine wpAny_items_cons (Subscript_ (ldC S 4 rfl (ldL S hx (subPm S (hT.mono (hle.trans hle1)) hI b rfl (by omega) (by omega) fun t2 => wpAny_items_nil ?_))))
    refine ⟨szl _ (by simp), _, _, _, S, fun r2 B2 s hle2 hT2 S => ?_⟩
    refine addT S (hT1.mono hle2) hT2 (fun r3 B3 s hle3 hT3 S => ?_) (szl _ (by simp; omega))
    refine sliceTupFrom (ldC S 4 rfl (wpAny_BinOp (ldL S hx (cInt S fun t s S => iAdd S fun t s S => ?_))))
    refine ⟨_, _, _, vs, b + 2, _, hT.mono ((hle.trans hle1).trans (hle2.trans hle3)), by rw [show ((b : Int) + 2) = ((b + 2 : Nat) : Int) by omega], S, by omega, by omega, by omega, fun r4 B4 s hle4 hT4 S => ?_⟩
    refine addT S (hT3.mono hle4) hT4 (fun r5 B5 s hle5 hT5 S => ?_) (szl _ (by simp; omega))
    exact ⟨B5, hle1.trans (hle2.trans (hle3.trans (hle4.trans hle5))), ⟨_, hT5, ints_app (ints_app (ints_take hI b) (.cons _ _ (.cons _ _ .nil))) (ints_drop hI _)⟩, S⟩
  · intro B' l vs s hle hvs S
    refine ⟨_, rfl, B', l, _, _, _, S, fun s S => h _ _ _ _ hle hvs.map ?_⟩
    exact S.pick [3, 0] 4
end
end Mine
end

section
open PySem PySem.W PyProof.Rows PySem.Calls
namespace Mine

/-! ## The plain reading of _find_lcas -/
structure LS where
  cs : Cst
  pq : List Ent
  cands : List Ent

def pushAll (m fl : Int) : List (List Int) → Cst → List Ent → Cst × List Ent
  | [], cs, pq => (cs, pq)
  | p :: r, cs, pq =>
    let pf := (getC cs p).getD 0
    if Builtin.bitAnd pf fl = fl then pushAll m fl r cs pq
    else if ageP p < m then pushAll m fl r cs pq
    else pushAll m fl r (setC cs p (Builtin.bitOr pf fl)) (pushP pq (-(ageP p), p))

/-- one turn of the while loop -/
def turnP (m : Int) (st : LS) : Option LS :=
  let e := (popP st.pq).1
  let pq := (popP st.pq).2
  match getC st.cs e.2 with
  | none => none
  | some f =>
    if e.2.length = 4 ∧ (parP e.2).all (fun p => decide (p.length = 4)) = true ∧ st.pq.length ≤ 900 ∧ st.cs.length ≤ 900 ∧ st.cands.length ≤ 900 then
      let fl := Builtin.bitAnd f 7
      if fl = 3 then
        let new := ¬ Builtin.bitAnd f 8 = 8
        let cs := if new then setC st.cs e.2 (Builtin.bitOr f 8) else st.cs
        let cands := if new then st.cands ++ [(-e.1, e.2)] else st.cands
        let r := pushAll m (Builtin.bitOr fl 4) (parP e.2) cs pq
        some ⟨r.1, r.2, cands⟩
      else
        let r := pushAll m fl (parP e.2) st.cs pq
        some ⟨r.1, r.2, st.cands⟩
    else none
def runP (m : Int) : Nat → LS → Option LS
  | 0, _ => none
  | n + 1, st => if hasP st.cs st.pq then (match turnP m st with | some st' => runP m n st' | none => none) else some st
def initP (p1 p2 : List Int) : LS :=
  let cs := setC [] p1 1
  let pq := pushP [] (-(ageP p1), p1)
  ⟨setC cs p2 (Builtin.bitOr ((getC cs p2).getD 0) 2), pushP pq (-(ageP p2), p2), []⟩
def dncT (cs : Cst) (e : Ent) : Bool := match getC cs e.2 with
  | some f => !(decide (Builtin.bitAnd f 4 = 4))
  | none => false
def lcasP (m : Int) (p1 p2 : List Int) : Option (List (List Int)) :=
  match runP m 60 (initP p1 p2) with
  | some st => if st.cands.all (fun e => (getC st.cs e.2).isSome) = true then some ((st.cands.filter (dncT st.cs)).map (·.2)) else none
  | none => none
end Mine
end

section
open PySem PySem.W PyProof.Rows PySem.Calls
namespace Mine

def InB (B : Hp) (h : Heap) : Prop := ∀ b o, B b = some o → h.get? b = some o
def HdAt (B : Hp) (c P : Addr) : Prop := ∀ h, InB B h → CodeHd h c P
theorem HdAt.mono {B B' : Hp} {c P} (x : HdAt B c P) (l : Le B B') : HdAt B' c P := fun h hb => x h fun b o e => hb b o (l _ _ e)
structure GM (B : Hp) : Prop where
  mg : ∃ mg, (∀ h, InB B h → h.Ns mainGlobals mg) ∧ ∃ bm o, mg "__builtins__" = some (.ref bm) ∧ bm ≠ builtinsNs ∧ bm ≠ mainGlobals ∧ B bm = some o ∧ o.cls = .type "module" ∧ o.dict = some builtinsNs ∧ o.data = .plain
  g : ∃ o, B mainGlobals = some o
theorem GM.mono {B B' : Hp} (x : GM B) (l : Le B B') : GM B' :=
  let ⟨⟨mg, h1, bm, o, a1, a2, a3, a4, r⟩, ⟨og, eg⟩⟩ := x; ⟨⟨mg, fun h hb => h1 h fun b o e => hb b o (l _ _ e), bm, o, a1, a2, a3, l _ _ a4, r⟩, ⟨og, l _ _ eg⟩⟩

/-- the table of the code objects made of a function's own text -/
def tabP (B : Hp) (qs : List (Pos × Str)) (o : Obj) : Prop := ∃ ps, o = tabObj ps ∧ TriplesOk ps.toList ∧ ∀ q ∈ qs, codeAmong q.1 ps.toList = none ∨ ∃ cv, codeAmong q.1 ps.toList = some cv ∧ CodeAt B cv q.2
theorem tabP.mono {B B' : Hp} {qs} {o : Obj} (x : tabP B qs o) (l : Le B B') : tabP B' qs o :=
  let ⟨ps, e, t, h⟩ := x; ⟨ps, e, t, fun q hq => (h q hq).imp id fun ⟨cv, a, b⟩ => ⟨cv, a, b.mono l⟩⟩
theorem among_other {p : Pos} {a b : Int} {cv : Value} (l : List Value) (h : TriplesOk l) (hn : ¬ (a = p.line ∧ b = p.col)) : codeAmong p (l ++ [rawInt a, rawInt b, cv]) = codeAmong p l := by
  fun_induction TriplesOk l with
  | case1 =>
    have : ((a == (p.line : Int)) && (b == (p.col : Int))) = false := by
      rw [Bool.and_eq_false_iff]
      by_cases h1 : a = p.line
      · right; exact beq_eq_false_iff_ne.mpr fun h2 => hn ⟨h1, h2⟩
      · left; exact beq_eq_false_iff_ne.mpr h1
    simp only [List.nil_append, codeAmong, rawInt, this]
    simp
  | case2 a' t b' u x rest ih =>
    simp only [List.cons_append, codeAmong]
    split
    · rfl
    · exact ih h
  | case3 l h1 h2 => exact h.elim

section
variable {c : Cfg} {B B' B₀ : Hp} {mu mu' : Mo} {G : Array GenState} {s : Shared} {A : Around} {E : Value → Shared → Prop} {env : Env} {P cc : Addr} {f : Addr × (Obj → Prop)}
  {name qual : Str} {params : Arguments} {body : List Stmt} {scope : Scope} {clos : List (Str × Addr)} {pos : Pos} {firstLine : Nat} {qs : List (Pos × Str)}

theorem St.tabGrow {ps : Array Value} {c' : Addr} {h' : Heap} {tk : Nat} (S : St c B (f :: (P, tabP B₀ qs) :: mu) G s) (hle : Le B₀ B) (e : s.heap.get? P = some (tabObj ps)) (ht : TriplesOk ps.toList)
    (htab : ∀ q ∈ qs, codeAmong q.1 ps.toList = none ∨ ∃ cv, codeAmong q.1 ps.toList = some cv ∧ CodeAt B₀ cv q.2) (hn : codeAmong pos ps.toList = none) (hq : (pos, qual) ∈ qs)
    (hqs : ∀ q ∈ qs, q.1.line = pos.line → q.1.col = pos.col → q = (pos, qual)) (hx : Heap.ExtBut P s.heap h') (hge' : s.heap.objs.size ≤ c') (hrec : h'.CodeRec (.ref c') qual)
    (htb : h'.get? P = some (tabObj (ps ++ #[rawInt pos.line, rawInt pos.col, .ref c']))) :
    ∃ oc, St c (insB B c' oc) (f :: (P, tabP (insB B c' oc) qs) :: mu) G { s with heap := h', toks := tk } ∧ Le B (insB B c' oc) ∧ CodeAt (insB B c' oc) (.ref c') qual := by
  have hBP : B P = none := S.sep _ (.tail _ (.head _))
  have hneP : ∀ p ∈ f :: mu, p.1 ≠ P := fun p hp q => by
    have S' : St c B ((P, tabP B₀ qs) :: f :: mu) G s := S.pick [1, 0] 2
    exact (List.nodup_cons.mp S'.nd).1 (List.mem_map.mpr ⟨p, hp, q⟩)
  obtain ⟨c₂, oc, us, t, e2, hoc, hdc, hv⟩ := hrec
  cases e2
  have hBc : B c' = none := by
    cases q : B c' with
    | none => rfl
    | some o => exact absurd (S.ltB q) (Nat.not_lt.mpr hge')
  have hl1 : Le B (insB B c' oc) := le_insB hBc
  have S1 : St c (insB B c' oc) (f :: (P, tabP (insB B c' oc) qs) :: mu) G { s with heap := h', toks := tk } := by
    refine ⟨fun b o' q => ?_, fun p hp => ?_, S.nd, fun p hp => ?_, S.gens, S.drawn, S.os⟩
    · unfold insB at q
      by_cases hb' : b = c'
      · subst hb'; rw [if_pos rfl] at q; cases q; exact hoc
      · rw [if_neg hb'] at q
        exact hx b o' (fun z => by rw [z, hBP] at q; cases q) (S.base _ _ q)
    · rcases List.mem_cons.mp hp with rfl | hp
      · obtain ⟨o', e', q⟩ := S.at_ p (.head _)
        exact ⟨o', hx _ _ (hneP p (.head _)) e', q⟩
      rcases List.mem_cons.mp hp with rfl | hp
      · refine ⟨_, htb, _, rfl, by simpa using TriplesOk_snoc _ _ _ _ ht, fun q hq' => ?_⟩
        simp only [Array.toList_append]
        by_cases hsame : q = (pos, qual)
        · subst hsame
          exact .inr ⟨_, codeAmong_snoc _ ht hn, c', oc, us, t, rfl, insB_self .., hdc, hv⟩
        · rw [among_other _ ht (fun z => hsame (hqs q hq' (by omega) (by omega)))]
          exact (htab q hq').imp id fun ⟨cv, x, y⟩ => ⟨cv, x, y.mono (hle.trans hl1)⟩
      · obtain ⟨o', e', q⟩ := S.at_ p (.tail _ (.tail _ hp))
        exact ⟨o', hx _ _ (hneP p (.tail _ hp)) e', q⟩
    · have hlt2 : p.1 < s.heap.objs.size := by
        rcases List.mem_cons.mp hp with rfl | hp
        · exact S.lt (.head _)
        rcases List.mem_cons.mp hp with rfl | hp
        · exact S.lt (p := (P, tabP B₀ qs)) (.tail _ (.head _))
        · exact S.lt (.tail _ (.tail _ hp))
      have hpB : B p.1 = none := by
        rcases List.mem_cons.mp hp with rfl | hp
        · exact S.sep _ (.head _)
        rcases List.mem_cons.mp hp with rfl | hp
        · exact hBP
        · exact S.sep _ (.tail _ (.tail _ hp))
      unfold insB
      rw [if_neg (Nat.ne_of_lt (Nat.lt_of_lt_of_le hlt2 hge'))]; exact hpB
  exact ⟨oc, S1, hl1, c', oc, us, t, rfl, insB_self .., hdc, hv⟩

theorem mkFn {Q : Value → Shared → Prop} (S : St c B (f :: (P, tabP B₀ qs) :: mu) G s) (hle : Le B₀ B) (hd : HdAt B cc P) (gm : GM B) (hcl : closureFor scope env = pure clos) (hq : (pos, qual) ∈ qs)
    (hqs : ∀ q ∈ qs, q.1.line = pos.line → q.1.col = pos.col → q = (pos, qual))
    (h : ∀ fa cd ct doc pm B' s', Le B B' → FnAt B' fa (fnX name qual params body scope clos .none .none doc pm none (.ref cd) ct) → St c B' (f :: (P, tabP B' qs) :: mu) G s' → Q (.ref fa) s')
    (henv : env.code = .ref cc := by rfl) (hge : env.globals = mainGlobals := by rfl) :
    wpAny (model PP c.w) A (makeFunction name qual params (.stmts body) scope env [] [] [] pos firstLine) Q E s := by
  obtain ⟨o, e, ps, rfl, ht, htab⟩ := S.get 1 rfl
  obtain ⟨⟨mg, hmg, bm, om, a1, a2, a3, a4, a5, a6, a7⟩, og, eg⟩ := gm
  have hns : s.heap.Ns mainGlobals mg := hmg _ S.base
  have hBP : B P = none := S.sep _ (.tail _ (.head _))
  have hgP : mainGlobals ≠ P := fun q => by rw [q, hBP] at eg; cases eg
  have hbP : bm ≠ P := fun q => by rw [q, hBP] at a4; cases a4
  have hb : s.heap.BuiltinsAt mg P := ⟨bm, om, a1, a2, a3, hbP, S.base _ _ a4, a5, a6, a7⟩
  rcases htab _ hq with hn | ⟨cv, hf, hc⟩
  · refine makeFunction_K hcl hge hns henv (hd _ S.base) e ht hn hgP hb fun c' ctv doc h' tk hx hge' hlt hrec htb => ?_
    obtain ⟨oc, S1, hl1, hc1⟩ := S.tabGrow (tk := tk) hle e ht htab hn hq hqs hx hge' hrec htb
    have S2 := S1.imm (fnMade name qual params body scope clos doc ((mg "__name__").getD .none) c' ctv)
    have hl2 := le_insB (o := fnMade name qual params body scope clos doc ((mg "__name__").getD .none) c' ctv) S1.freshB
    refine h _ c' ctv doc _ _ _ (hl1.trans hl2) ⟨⟨_, insB_self .., rfl⟩, hc1.mono hl2⟩ (S2.weak 1 rfl fun o x => x.mono hl2)
  · obtain ⟨cd, oc, us, t, rfl, ecd, hdc, hv⟩ := hc
    refine makeFunction_hit hcl hge hns henv (hd _ S.base) e ht hf hb fun ctv doc h' tk hk _ => ?_
    have S1 := (S.keep hk tk)
    have S2 := S1.imm (fnMade name qual params body scope clos doc ((mg "__name__").getD .none) cd ctv)
    have hl2 := le_insB (o := fnMade name qual params body scope clos doc ((mg "__name__").getD .none) cd ctv) S1.freshB
    exact h _ cd ctv doc _ _ _ hl2 ⟨⟨_, insB_self .., rfl⟩, cd, oc, us, t, rfl, hl2 _ _ (hle _ _ ecd), hdc, hv⟩ (S2.weak 1 rfl fun o x => x.mono (hle.trans hl2))
end
end Mine
end

section
open PySem PySem.W PyProof.Rows PySem.Calls
namespace Mine

section
variable {c : Cfg} {B B' B₀ : Hp} {mu mu' : Mo} {G : Array GenState} {s : Shared} {A : Around} {E : Value → Shared → Prop} {env : Env} {P cc a : Addr} {f : Addr × (Obj → Prop)} {vs : List Value} {n : Nat}
  {name qual : Str} {params : Arguments} {scope : Scope} {clos : List (Str × Addr)} {pos : Pos} {firstLine : Nat} {qs : List (Pos × Str)}

theorem St.exact (S : St c B mu G s) (i : Nat) {k : Obj → Prop} (hi : mu[i]? = some (a, k)) : ∃ o, k o ∧ St c B (mu.set i (a, fun x => x = o)) G s := by
  obtain ⟨o, e, q⟩ := S.get i hi
  exact ⟨o, q, S.upd i hi (k' := fun x => x = o) (Heap.SameBut.refl ..) e rfl s.toks⟩

/-- xs.sort(key=f) of a list that is no longer than one -/
theorem sort1 {fl : Addr} {Q : Value → Shared → Prop} (S : St c B mu G s) (i : Nat) (hi : mu[i]? = some (a, lstP vs)) (h1 : vs.length ≤ 1)
    (hk : ∀ v ∈ vs, ∀ (mu' : Mo) (s : Shared) (B' : Hp) (QQ : Value → Shared → Prop), Le B B' → St c B' mu' G s → (∀ k s', St c B' mu' G s' → QQ k s') → wpAny (model PP c.w) A.in1 (call (.ref fl) [v] []) QQ (fun _ _ => False) s)
    (h : ∀ s' B', Le B B' → St c B' mu G s' → Q .none s') :
    wpAny (model PP c.w) A (call (.builtin "list.sort") [.ref a] [(Str.ofString "key", .ref fl)]) Q E s := by
  have hl := S.isList i hi
  have hil : i < mu.length := (List.getElem?_eq_some_iff.mp hi).1
  refine wpAny_call_entry_kw slot_list_sort hl.typeIs entry_list_sort ?_ (ksk_l1 _ _)
  rw [ksk_t1]
  unfold ksk_tree
  obtain ⟨m, e⟩ := S.lstH i hi
  refine wpAny_bind ?_
  show wpAny _ _ (seqItems? (.ref a) >>= _) _ _ _
  refine wpAny_bind (wpAny_seqItems e rfl (wpAny_pure ?_))
  refine wpAny_bind ?_
  show wpAny _ _ (updateSeq a _) _ _ _
  refine updSeq S i hi (szl _ (by omega)) (by simp) fun s S => ?_
  obtain ⟨o, ⟨m', rfl⟩, S⟩ := S.exact i (by rw [List.getElem?_set_self hil])
  rw [List.set_set] at S
  have hia : (mu.set i (a, fun x : Obj => x = { cls := .type "list", data := .seq (#[] : Array Value) m' }))[i]? = some (a, fun x : Obj => x = { cls := .type "list", data := .seq (#[] : Array Value) m' }) := List.getElem?_set_self hil
  generalize hmu : mu.set i (a, fun x : Obj => x = { cls := .type "list", data := .seq (#[] : Array Value) m' }) = mu1 at S hia
  obtain ⟨oa, ea, rfl⟩ := S.get i hia
  refine wpAny_bind ?_
  unfold seqEpoch
  refine wpAny_bind (wpAny_load ea (wpAny_pure ?_))
  refine wpAny_bind (wpAny_newTuple ?_ (by simp; exact szl _ (by omega)))
  have S1 := S.imm (tupO vs)
  have hl1 := le_insB (o := tupO vs) S.freshB
  generalize insB B s.heap.objs.size (tupO vs) = B1 at S1 hl1
  refine wpAny_bind (wpAny_newList ?_ (szl _ (by simp)))
  have S2 := S1.mut ({ cls := .type "list", data := .seq (([] : List Value).toArray) } : Obj) (P := lstP []) ⟨0, rfl⟩
  refine wpAny_holding ?_
  unfold ksk_rest
  refine wpAny_bind (wpAny_rule (wpAny_bind ?_))
  -- what is behind the keys
  have rest : ∀ (ks : Addr) (kv : List Value) (B2 : Hp) (s : Shared), kv.length = vs.length → Le B1 B2 → St c B2 ((ks, lstP kv) :: mu1) G s → wpAny (model PP c.w) A.in1 (do let keys ← Builtin.List.listItems (.ref ks); ksk_end a false vs.toArray m' (.ref ks) keys) (fun fin s' => ∃ v, fin = Fin.done (Flow.ret v) ∧ Q v s') E s := by
    intro ks kv B2 s hkl hl2 S
    obtain ⟨mk, ek⟩ := S.lstH 0 rfl
    have hsz : ¬ ¬ vs.toArray.size < 2 := by simp; omega
    have hlt : vs.toArray.size < 2 := by simpa using hsz
    refine wpAny_bind ?_
    show wpAny _ _ (seqItems? (.ref ks) >>= _) _ _ _
    refine wpAny_bind (wpAny_seqItems ek rfl (wpAny_pure ?_))
    unfold ksk_end
    simp only [Bool.false_eq_true, if_false, if_pos hlt]
    refine wpAny_bind (wpAny_pure ?_)
    show wpAny _ _ (ksk_tail a false m' (.ref ks) (SortSt.mk' general' (kv.toArray.zip vs.toArray) #[] 7 none)) _ _ _
    have harr : arrOf (SortSt.mk' general' (kv.toArray.zip vs.toArray) #[] 7 none) = kv.toArray.zip vs.toArray := rfl
    have hfail : failedOf (SortSt.mk' general' (kv.toArray.zip vs.toArray) #[] 7 none) = none := rfl
    have hmap : (kv.toArray.zip vs.toArray).map (·.2) = vs.toArray := by
      apply Array.toList_inj.mp
      simp [List.map_snd_zip, hkl]
    unfold ksk_tail
    rw [harr, hfail, hmap]
    refine wpAny_bind ?_
    show wpAny _ _ (updateSeq ks _) _ _ _
    refine updSeq S 0 rfl (szl _ (by omega)) (by simp) fun s S => ?_
    refine wpAny_bind (wpAny_letGo ?_)
    obtain ⟨oa, ea, rfl⟩ := S.get (i + 1) (by simpa using hia)
    refine wpAny_bind ?_
    unfold seqEpoch
    refine wpAny_bind (wpAny_load ea (wpAny_pure ?_))
    simp only [bne_self_eq_false, Bool.false_eq_true, if_false]
    refine wpAny_bind ?_
    show wpAny _ _ (updateSeq a _) _ _ _
    have S3 := S.drop.weak i hia (k' := lstP []) fun o e => ⟨m', e⟩
    rw [← hmu, List.set_set] at S3
    refine updSeq S3 i (by rw [List.getElem?_set_self hil]) (szl _ (by simp)) (by simp; exact Nat.le_trans (szl _ (by omega)) (Nat.le_succ _)) fun s S => ?_
    rw [List.set_set, List.toList_toArray, set_same hi] at S
    exact wpAny_pure ⟨_, rfl, h _ _ (hl1.trans hl2) S⟩
  rw [← Array.forIn_toList]
  match vs, h1 with
  | [], _ =>
    refine wpAny_pure ?_
    exact rest _ [] _ _ rfl (Le.refl _) S2
  | [x], _ =>
    rw [List.forIn_cons]
    refine wpAny_bind (wpAny_bind (wpAny_attempt (wpAny_mono (hk x (.head _) _ _ B1 _ hl1 S2 fun k s S => ?_) (fun _ _ x => x) fun _ _ x => x.elim)))
    refine wpAny_bind ?_
    show wpAny _ _ (updateSeq _ _) _ _ _
    refine updSeq S 0 rfl (szl _ (by simp)) (by simp) fun s S => ?_
    refine wpAny_pure ?_
    dsimp only
    rw [List.forIn_nil]
    refine wpAny_pure ?_
    exact rest _ [k] _ _ rfl (Le.refl _) S
  | _ :: _ :: _, h1 => simp at h1

/-! ## The lambda -/
theorem mkLam {bodyE : Expr} {Q : Value → Shared → Prop} (S : St c B (f :: (P, tabP B₀ qs) :: mu) G s) (hle : Le B₀ B) (hd : HdAt B cc P) (gm : GM B) (hcl : closureFor scope env = pure clos) (hq : (pos, qual) ∈ qs)
    (hqs : ∀ q ∈ qs, q.1.line = pos.line → q.1.col = pos.col → q = (pos, qual))
    (h : ∀ fa cd ct pm B' s', Le B B' → FnAt B' fa (kla_fn name qual params bodyE scope clos pm (.ref cd) ct) → St c B' (f :: (P, tabP B' qs) :: mu) G s' → Q (.ref fa) s')
    (henv : env.code = .ref cc := by rfl) (hge : env.globals = mainGlobals := by rfl) :
    wpAny (model PP c.w) A (makeFunction name qual params (.expr bodyE) scope env [] [] [] pos firstLine) Q E s := by
  obtain ⟨o, e, ps, rfl, ht, htab⟩ := S.get 1 rfl
  obtain ⟨⟨mg, hmg, bm, om, a1, a2, a3, a4, a5, a6, a7⟩, og, eg⟩ := gm
  have hns : s.heap.Ns mainGlobals mg := hmg _ S.base
  have hBP : B P = none := S.sep _ (.tail _ (.head _))
  have hgP : mainGlobals ≠ P := fun q => by rw [q, hBP] at eg; cases eg
  have hbP : bm ≠ P := fun q => by rw [q, hBP] at a4; cases a4
  have hb : s.heap.BuiltinsAt mg P := ⟨bm, om, a1, a2, a3, hbP, S.base _ _ a4, a5, a6, a7⟩
  rcases htab _ hq with hn | ⟨cv, hf, hc⟩
  · refine kla_makeFunction hcl hge hns henv (hd _ S.base) e ht hn hgP hb fun c' ctv h' tk hx hge' hlt hrec htb => ?_
    obtain ⟨oc, S1, hl1, hc1⟩ := S.tabGrow (tk := tk) hle e ht htab hn hq hqs hx hge' hrec htb
    have S2 := S1.imm (kla_obj name qual params bodyE scope clos ((mg "__name__").getD .none) c' ctv)
    have hl2 := le_insB (o := kla_obj name qual params bodyE scope clos ((mg "__name__").getD .none) c' ctv) S1.freshB
    exact h _ c' ctv _ _ _ (hl1.trans hl2) ⟨⟨_, insB_self .., rfl⟩, hc1.mono hl2⟩ (S2.weak 1 rfl fun o x => x.mono hl2)
  · obtain ⟨cd, oc, us, t, rfl, ecd, hdc, hv⟩ := hc
    refine kla_makeFunctionHit hcl hge hns henv (hd _ S.base) e ht hf hb fun ctv h' tk hk _ => ?_
    have S1 := (S.keep hk tk)
    have S2 := S1.imm (kla_obj name qual params bodyE scope clos ((mg "__name__").getD .none) cd ctv)
    have hl2 := le_insB (o := kla_obj name qual params bodyE scope clos ((mg "__name__").getD .none) cd ctv) S1.freshB
    exact h _ cd ctv _ _ _ hl2 ⟨⟨_, insB_self .., rfl⟩, cd, oc, us, t, rfl, hl2 _ _ (hle _ _ ecd), hdc, hv⟩ (S2.weak 1 rfl fun o x => x.mono (hle.trans hl2))
end
end Mine
end

section
open PySem PySem.W PyProof.Rows PySem.Calls
namespace Mine

def lcS (i : Nat) : Stmt := stN (dBody (topS 3)) i
def lamX : Expr := match lcS 14 with | .Expr (.Call _ _ (k :: _) _) _ => k.value | _ => default
def lamPar : Arguments := match lamX with | .Lambda a _ _ _ => a | _ => default
def lamBody : Expr := match lamX with | .Lambda _ b _ _ => b | _ => default
def lamScope : Scope := match lamX with | .Lambda _ _ s _ => s | _ => default
def lamPos : Pos := match lamX with | .Lambda _ _ _ p => p | _ => default
def lamQ : Str := "_find_lcas.<locals>.<lambda>"
def hasQ : Str := "_find_lcas.<locals>._has_candidates"
def hasPos : Pos := match hasS with | .FunctionDef _ _ _ _ _ _ _ _ _ p => p | _ => default
def fdLam (cd : Addr) (ct pm : Value) : FuncData := kla_fn "<lambda>" lamQ lamPar lamBody lamScope [] pm (.ref cd) ct
def qsL : List (Pos × Str) := [(hasPos, hasQ), (lamPos, lamQ)]

section
variable {c : Cfg} {B B' B₀ : Hp} {mu mu' : Mo} {G : Array GenState} {s : Shared} {A : Around} {E : Value → Shared → Prop} {env : Env} {P cc a : Addr} {f : Addr × (Obj → Prop)} {vs : List Value} {n : Nat} {v y : Value}

theorem lam_call {fa cd : Addr} {ct pm : Value} {r : List Value} {Q : Value → Shared → Prop} (S : St c B mu G s) (hB : Bas B) (fit : Fit (n + 1) A) (hF : FnAt B fa (fdLam cd ct pm)) (hv : Tup B v (y :: r)) (hr : r.length ≤ 100)
    (h : ∀ s', St c B mu G s' → Q y s') : wpAny (model PP c.w) A (call (.ref fa) [v] []) Q E s := by
  obtain ⟨⟨o, ho, hd⟩, hcd⟩ := hF
  refine wpAny_call (kla_callFunE fit.room (S.base _ _ ho) hd rfl rfl rfl (S.codeRec hcd) ?_)
  have hbind : bindArgs (fdLam cd ct pm) ⟨[v], []⟩ = pure ([("x", v)] : List (Str × Value)) := rfl
  rw [hbind]
  refine wpAny_pure (wpAny_newFunctionEnv (by decide : ∀ x ∈ lamScope.names, x.2 ≠ .cell) (locs rfl) (fun h₁ hns hsb => ?_) rfl)
  have S1 := S.mut ({ cls := .type "frame", data := .dict #[] } : Obj) (P := fun _ => True) trivial
  obtain ⟨o', es, ep, e', hd', hk', hf'⟩ := hns
  have S2 := S1.upd0 (k' := nsP [(Str.ofString "x", v)]) hsb e' ⟨es, ep, hd', hk', fun x v hx => (hf' x).trans hx⟩ (s.toks + 1)
  refine ⟨S2.nolimit hB.lim, kla_codeExpr ?_⟩
  refine Subscript_ (ldL S2 rfl (cInt S2 fun t s S => subT S hv (j := 0) (by rw [show (0 : Int) = ((0 : Nat) : Int) from rfl]; exact seqIdx (by simp)) rfl ?_))
  exact h _ S.drop
end
end Mine
end

section
open PySem PySem.W PyProof.Rows PySem.Calls
namespace Mine

structure BasL (B : Hp) : Prop extends Bas B where
  gm : GM B
  hdL : HdAt B 89 87
  hdW : HdAt B 127 125
theorem BasL.mono {B B' : Hp} (h : BasL B) (l : Le B B') : BasL B' := ⟨h.toBas.mono l, h.gm.mono l, h.hdL.mono l, h.hdW.mono l⟩

/-- what the loop's frame holds -/
def lcN (fp fg : Addr) (m : Int) (tm t1 t2 t8 : Tok) (ca d fh w : Addr) : List (Str × Value) :=
  [(Str.ofString "lookup_parents", .ref fp), (Str.ofString "lookup_stamp", .ref fg), (Str.ofString "min_stamp", .int m tm), (Str.ofString "shallows", .none), (Str.ofString "cands", .ref ca), (Str.ofString "cstates", .ref d),
   (Str.ofString "_ANC_OF_1", .int 1 t1), (Str.ofString "_ANC_OF_2", .int 2 t2), (Str.ofString "_LCA", .int 8 t8), (Str.ofString "_has_candidates", .ref fh), (Str.ofString "wlst", .ref w)]

section
variable {c : Cfg} {B B' B₀ : Hp} {mu mu' : Mo} {G : Array GenState} {s : Shared} {A : Around} {E : Value → Shared → Prop} {env : Env} {L ce ca d fh w pq fp fg l2 cd1 cd2 : Addr} {f : Addr × (Obj → Prop)} {vs : List Value} {n : Nat} {v v1 v2 : Value}
  {p1 p2 : List Int} {m : Int} {tm : Tok} {l0 : List (Str × Value)} {ct1 dc1 pm1 ct2 dc2 pm2 : Value}

/-- WorkList() -/
theorem evNew {f : Str} {p pos : Pos} {Q : Value → Shared → Prop}
    (h : wpAny (model PP c.w) A (eval (.Name f p) env) (fun v s₁ => ∃ (K : Frag) (B : Hp) (mu : Mo) (G : Array GenState), v = .ref 80 ∧ St c B mu G s₁ ∧ KF K B ∧ wpAny (model PP c.w) A (call (.ref 80) [] []) Q E s₁) E s) :
    wpAny (model PP c.w) A (eval (.Call (.Name f p) [] [] pos) env) Q E s := by
  rw [arm_eval_Call_Name']
  refine wpAny_bind (wpAny_mono h (fun v s₁ h₁ => ?_) fun _ _ x => x)
  obtain ⟨K, B, mu, G, rfl, S, k, h₁⟩ := h₁
  refine callWith_of (P := fun h => K.In h) rfl (keeps_K k.keep) ?_
  exact evalArgs_kw2_nil (pos := pos) (kws := []) (env := env) rfl (wpAny_evalAll_nil ⟨S.inK k, h₁⟩)

/-- x.m(e) on a work list -/
theorem evMeth1 {o e : Expr} {name : Str} {apos pos : Pos} {f : Addr} {Q : Value → Shared → Prop} {fd : FuncData} {pl : Sem Bool}
    (h : wpAny (model PP c.w) A (eval o env) (fun ov s₁ => ∃ (B : Hp) (mu : Mo) (G : Array GenState) (w pq : Addr) (K : Frag), ov = .ref w ∧ St c B mu G s₁ ∧ KF K B ∧ WlAt B w pq ∧ FnAt B f fd ∧
      findIn K (.ref 80) name = some (some (.ref f)) ∧ typeIn K (.ref f) = some (.type "function") ∧ wpAny (model PP c.w) A (spliced (backTo pos (starEach [e] env))) (fun vs s₂ => (∃ B' mu' G', St c B' mu' G' s₂ ∧ Le B B') ∧ wpAny (model PP c.w) A (call (.ref f) (.ref w :: vs) []) Q E s₂) E s₁) E s)
    (hn : (Str.ofString "pq" == name) = false := by decide)
    (he : eval (.Call (.Attribute o name apos) [e] [] pos) env = (do
      let ov ← eval o env
      standAt apos.atName
      let (f, first) ← holding [ov] (getMethod ov name pl)
      callWith pos f first (backTo pos (starEach [e] env)) (backToKw pos (keywordEach [] env))) := by rfl)
    (hs : starEach [e] env = [(false, eval e env)] := by rfl) :
    wpAny (model PP c.w) A (eval (.Call (.Attribute o name apos) [e] [] pos) env) Q E s := by
  refine methodCall_KW (pl := pl) (wpAny_mono h (fun ov s₁ h₁ => ?_) fun _ _ x => x) he
  obtain ⟨B, mu, G, w, pq, K, rfl, S, k, hw, hF, h1, h2, h₁⟩ := h₁
  refine methWl S k hw h1 h2 hn ?_
  obtain ⟨⟨ob, eo, hd⟩, _⟩ := hF
  show wpAny _ _ (callWith pos (.ref f) [.ref w] (backTo pos (starEach [e] env)) []) _ _ _
  refine callWith_function (o := ob) (fd := fd) ?_
  rw [hs] at h₁ ⊢
  exact evalArgs_plain (wpAny_mono h₁ (fun vs s₂ h₂ => by
    obtain ⟨⟨B', mu', G', S', hl⟩, h₂⟩ := h₂
    exact ⟨⟨S'.base _ _ (hl _ _ eo), hd⟩, h₂⟩) fun _ _ x => x)

/-- wlst.add((lookup_stamp(x), x)), said of the names -/
theorem addS {x xw xg : Str} {ps pw pa pc pt pg px px2 pos : Pos} {kk : Nat} {p : List Int} {es : List Ent} {l : List (Str × Value)} {Q : Flow → Shared → Prop} (S : St c B ((L, nsP l) :: (pq, lstP vs) :: mu) G s) (hB : Bas B) (fit : Fit (n + 3) A)
    (hA : FnAt B fg (fdAge cd2 ct2 dc2 pm2)) (hw : WlAt B w pq) (hv : All2 (En B) vs es) (hsz : vs.length ≤ 1000) (hlw : l.lookup xw = some (.ref w)) (hlg : l.lookup xg = some (.ref fg)) (hlx : l.lookup x = some v) (hp : Pm B v p) (hp4 : p.length ≤ 4)
    (h : ∀ B' ws s', Le B B' → All2 (En B') ws (pushP es (-(ageP p), p)) → St c B' ((L, nsP l) :: (pq, lstP ws) :: mu) G s' → Q .next s')
    (hL : env.locals = L := by rfl) (hkf : env.scope.kind = .function := by rfl) (kx : env.kindOf x = some .local := by rfl) (kw : env.kindOf xw = some .local := by rfl) (kg : env.kindOf xg = some .local := by rfl)
    (dx : (x == ("__debug__" : Str)) = false := by decide) (dw : (xw == ("__debug__" : Str)) = false := by decide) (dg : (xg == ("__debug__" : Str)) = false := by decide) (hi : interactive env = false := by rfl)
    {pl : Sem Bool} (he : eval (.Call (.Attribute (.Name xw pw) (Str.ofString "add") pa) [.Tuple [.Call (.Name xg pg) [.Name x px] [] pc, .Name x px2] kk pt] [] pos) env = (do
      let ov ← eval (.Name xw pw) env
      standAt pa.atName
      let (f, first) ← holding [ov] (getMethod ov (Str.ofString "add") pl)
      callWith pos f first (backTo pos (starEach [.Tuple [.Call (.Name xg pg) [.Name x px] [] pc, .Name x px2] kk pt] env)) (backToKw pos (keywordEach [] env))) := by rfl) :
    wpAny (model PP c.w) A (exec (.Expr (.Call (.Attribute (.Name xw pw) (Str.ofString "add") pa) [.Tuple [.Call (.Name xg pg) [.Name x px] [] pc, .Name x px2] kk pt] [] pos) ps) env) Q E s := by
  refine wpAny_Expr ?_ hi rfl
  obtain ⟨K, k⟩ := hB.kf
  refine evMeth1 (fd := fdAdd) (pl := pl) (ldL S hlw ⟨B, _, G, w, pq, K, rfl, S, k, hw, hB.add, k.add, k.tAdd, ?_⟩ hL hkf kw dw) (by decide) he
  obtain ⟨⟨og, eg, hdg⟩, _⟩ := id hA
  refine wpAny_items_cons (evTuple (wpAny_items_cons (evCallF (ldL S hlg ⟨fg, og, _, rfl, hdg, wpAny_items_cons (ldL S hlx (wpAny_items_nil ⟨S.base _ _ eg, ?_⟩) hL hkf kx dx)⟩ hL hkf kg dg))))
  refine age_spec S hB (n := n) (fit.le (show n + 2 ≤ n + 3 by omega)) hA hp hp4 fun t B1 s hle1 S => ?_
  refine wpAny_items_cons (ldL S hlx (wpAny_items_nil ⟨szl _ (by simp), _, _, _, S, fun r B2 s hle2 hT S => wpAny_items_nil ⟨⟨_, _, _, S, hle1.trans hle2⟩, ?_⟩⟩) hL hkf kx dx)
  have hl := hle1.trans hle2
  refine add_spec S (hB.mono hl) (n := n) (fit.le (show n + 1 ≤ n + 3 by omega)) (hw.mono hl) 1 rfl (hv.imp fun _ _ h => h.mono hl) hT (hp.mono hl) hsz fun B3 ws s hle3 hws S => ?_
  exact h _ _ _ (hl.trans hle3) hws S

set_option maxHeartbeats 4000000 in
theorem lcas_init {Q : Flow → Shared → Prop} {rest : List Stmt} (hB : BasL B) (fit : Fit (n + 8) A) (hle : Le B₀ B) (hP : FnAt B fp (fdPar cd1 ct1 dc1 pm1)) (hA : FnAt B fg (fdAge cd2 ct2 dc2 pm2)) (h1 : Pm B v1 p1) (h2 : Pm B v2 p2) (hl1 : p1.length = 4) (hl2 : p2.length = 4)
    (hl0 : AllLk l0 [(Str.ofString "lookup_parents", .ref fp), (Str.ofString "c1", v1), (Str.ofString "c2s", .ref l2), (Str.ofString "lookup_stamp", .ref fg), (Str.ofString "min_stamp", .int m tm), (Str.ofString "shallows", .none)])
    (S : St c B ((L, nsP l0) :: (L + 1, celP none) :: f :: (87, tabP B₀ qsL) :: (l2, lstP [v2]) :: mu) G s)
    (h : ∀ B' s' ca d fh w pq cd ct doc pm t1 t2 t4 t8 pv, Le B B' → FnAt B' fh (fdHas (L + 1) cd ct doc pm) → WlAt B' w pq → All2 (En B') pv (initP p1 p2).pq →
      St c B' ((L, nsP (lcN fp fg m tm t1 t2 t8 ca d fh w)) :: (L + 1, celP (some (.int 4 t4))) :: (ca, lstP []) :: (d, dctP d c.w B' (initP p1 p2).cs) :: (pq, lstP pv) :: f :: (87, tabP B' qsL) :: mu) G s' →
      wpAny (model PP c.w) A (execs rest (envC fdLcas L 90)) Q E s') :
    wpAny (model PP c.w) A (execs (lcS 0 :: lcS 1 :: lcS 2 :: lcS 3 :: lcS 4 :: lcS 5 :: lcS 6 :: lcS 7 :: lcS 8 :: lcS 9 :: lcS 10 :: rest) (envC fdLcas L 90)) Q E s := by
  -- cands = []
  refine wpAny_execs_cons (wpAny_Assign_Name (evList (wpAny_items_nil ⟨szl _ (by simp), _, _, _, _, S, fun ca s S => ?_⟩)))
  refine stLn S fun s S => ?_
  -- cstates = {}
  refine wpAny_execs_cons (wpAny_Assign_Name (wpAny_Dict_empty ?_))
  have S := S.mut1 ({ cls := .type "dict", data := .dict #[] } : Obj) (P := dctP s.heap.objs.size c.w B []) ⟨beq_eq_false_iff_ne.mpr (Nat.ne_of_gt (Nat.lt_trans (show sysModules < mainGlobals by decide) (let ⟨_, e⟩ := hB.gm.g; S.ltB e))), #[], 0, [], ⟨rfl, rfl, rfl⟩, rfl, rfl, (fun _ h => by cases h), List.nodup_nil, .nil⟩
  generalize s.heap.objs.size = d at S ⊢
  refine stLn S fun s S => ?_
  refine wpAny_execs_cons (wpAny_Assign_Name (cInt S fun t1 s S => stLn S fun s S => ?_))
  refine wpAny_execs_cons (wpAny_Assign_Name (cInt S fun t2 s S => stLn S fun s S => ?_))
  refine wpAny_execs_cons (wpAny_Assign_Name (cInt S fun t4 s S => stC S 3 rfl fun s S => ?_))
  refine wpAny_execs_cons (wpAny_Assign_Name (cInt S fun t8 s S => stLn S fun s S => ?_))
  -- def _has_candidates
  have S0 : St c B ((L, nsP ((Str.ofString "_LCA", .int 8 t8) :: (Str.ofString "_ANC_OF_2", .int 2 t2) :: (Str.ofString "_ANC_OF_1", .int 1 t1) :: (Str.ofString "cstates", .ref d) :: (Str.ofString "cands", .ref ca) :: l0)) :: (87, tabP B₀ qsL) :: (d, dctP d c.w B []) :: (ca, lstP []) ::
      (L + 1, celP (some (.int 4 t4))) :: f :: (l2, lstP [v2]) :: mu) G s := S.pick [0, 5, 1, 2, 3, 4, 6] 7
  refine wpAny_execs_cons (nestDef_K rfl rfl rfl ?_)
  refine mkFn S0 hle hB.hdL hB.gm (clos := [(Str.ofString "_DNC", L + 1)]) rfl (qual := hasQ) (pos := hasPos) (.head _) (by decide) fun fh cd ct doc pm B1 s hle1 hF S => ?_
  refine stLn S fun s S => ?_
  -- wlst = WorkList()
  have hB1 := hB.mono hle1
  obtain ⟨K, k⟩ := hB1.kf
  refine wpAny_execs_cons (wpAny_Assign_Name (evNew (ldG S hB1.gWork ⟨K, _, _, _, rfl, S, k, ?_⟩)))
  refine wpAny_call (newWl_spec (n := n) S hB1.toBas (fit.le (by omega)) fun w pq B2 s hle2 hw S => ?_)
  refine stLn S fun s S => ?_
  have hB2 := hB1.mono hle2
  have hl02 := hle1.trans hle2
  obtain ⟨hn1, hn2, hn3, hn4, hn5, hn6, _⟩ := hl0
  -- names
  have S : St c B2 ((L, nsP (lcN fp fg m tm t1 t2 t8 ca d fh w ++ [(Str.ofString "c1", v1), (Str.ofString "c2s", .ref l2)])) :: (pq, lstP []) :: (d, dctP d c.w B []) :: (87, tabP B1 qsL) :: (ca, lstP []) :: (L + 1, celP (some (.int 4 t4))) :: f :: (l2, lstP [v2]) :: mu) G s :=
    S.norm [0, 2, 1, 3, 4, 5, 6] 7 ⟨lk1 rfl (lk1 rfl (lk1 rfl (lk1 rfl (lk1 rfl (lk1 rfl (lk1 rfl hn1)))))), lk1 rfl (lk1 rfl (lk1 rfl (lk1 rfl (lk1 rfl (lk1 rfl (lk1 rfl hn4)))))), lk1 rfl (lk1 rfl (lk1 rfl (lk1 rfl (lk1 rfl (lk1 rfl (lk1 rfl hn5)))))), lk1 rfl (lk1 rfl (lk1 rfl (lk1 rfl (lk1 rfl (lk1 rfl (lk1 rfl hn6)))))),
      rfl, rfl, rfl, rfl, rfl, rfl, rfl, lk1 rfl (lk1 rfl (lk1 rfl (lk1 rfl (lk1 rfl (lk1 rfl (lk1 rfl hn2)))))), lk1 rfl (lk1 rfl (lk1 rfl (lk1 rfl (lk1 rfl (lk1 rfl (lk1 rfl hn3)))))), trivial⟩
  have hl64 := fit.line64
  have hP1 := h1.mono hl02
  have hP2 := h2.mono hl02
  have hA2 := hA.mono hl02
  -- cstates[c1] = _ANC_OF_1
  refine wpAny_execs_cons (wpAny_Assign_Subscript (ldL S rfl (ldL S rfl (ldL S rfl ?_))))
  refine dctSet S 2 rfl hl02 hP1 (by omega) (by simp) fun s S => ?_
  -- try: wlst.add((lookup_stamp(c1), c1))
  refine wpAny_execs_cons (wpAny_Try_except (wpAny_execs_cons (addS (n := n) S hB2.toBas (fit.le (show n + 3 ≤ n + 8 by omega)) hA2 hw .nil (by simp) rfl rfl rfl hP1 (by omega) fun B3 ws s hle3 hws S => wpAny_execs_nil (wpAny_execs_nil ?_))))
  have hB3 := hB2.mono hle3
  have hl03 := hl02.trans hle3
  -- for c2 in c2s
  refine wpAny_execs_cons (wpAny_For (ldL S rfl ?_))
  refine iterLs S (S.isList 7 rfl) fun it s S => ?_
  have S : St c B3 ((L, nsP (lcN fp fg m tm t1 t2 t8 ca d fh w ++ [(Str.ofString "c1", v1), (Str.ofString "c2s", .ref l2)])) :: (it, litP l2 0) :: (pq, lstP ws) :: (d, dctP d c.w B3 (setC [] p1 1)) :: (87, tabP B1 qsL) :: (ca, lstP []) :: (L + 1, celP (some (.int 4 t4))) :: f :: (l2, lstP [v2]) :: mu) G s :=
    S.weak 3 rfl fun o x => x.mono hle3
  refine forLs fit.hd (ws := [v2]) (fun i B l rest G' => Le B3 B ∧ G' = G ∧ AllLk l (lcN fp fg m tm t1 t2 t8 ca d fh w ++ [(Str.ofString "c1", v1), (Str.ofString "c2s", .ref l2)]) ∧
      ∃ pv, rest = (pq, lstP pv) :: (d, dctP d c.w B (if i = 0 then setC [] p1 1 else (initP p1 p2).cs)) :: (87, tabP B1 qsL) :: (ca, lstP []) :: (L + 1, celP (some (.int 4 t4))) :: f :: (l2, lstP [v2]) :: mu ∧
        All2 (En B) pv (if i = 0 then pushP [] (-(ageP p1), p1) else (initP p1 p2).pq)) ?_ ?_ ?_ ⟨Le.refl _, rfl, ?_, ws, rfl, hws⟩ S
  · rintro i B l rest G' s ⟨hle, rfl, hl, pv, rfl, hpv⟩ S
    exact S.isList 8 rfl
  · rintro i v B l rest G' s hv ⟨hle, rfl, hl, pv, rfl, hpv⟩ S
    have hi0 : i = 0 := by
      rcases i with _ | i
      · rfl
      · simp at hv
    subst hi0
    have hvv : v2 = v := by simpa using hv
    subst hvv
    rw [if_pos rfl] at hpv
    rw [if_pos rfl] at S
    obtain ⟨n1, n2, n3, n4, n5, n6, n7, n8, n9, n10, n11, n12, n13, _⟩ := hl
    have hBB := hB3.mono hle
    have hlB := hl03.trans hle
    refine stL S fun s S => ?_
    -- cflags = cstates.get(c2, 0)
    refine wpAny_execs_cons (wpAny_Assign_Name (evGet2 (ldL S (lk1 rfl n6) ?_) (by omega)))
    obtain ⟨ob, e1, e2, e3, e4⟩ := S.dictO hBB.toBas 3 rfl
    refine ⟨d, ob, rfl, e1, e2, e3, e4, ldL S lk0 (cInt S fun t0 s S => ⟨B, _, _, 3, B, _, p2, 0, t0, rfl, S, rfl, Le.refl _, h2.mono hlB, fun tf s S => ?_⟩)⟩
    refine stLn S fun s S => ?_
    -- cstates[c2] = cflags | _ANC_OF_2
    refine wpAny_execs_cons (wpAny_Assign_Subscript (wpAny_BinOp (ldL S lk0 (ldL S (lk1 rfl (lk1 rfl n8)) (iOr S fun to s S => ldL S (lk1 rfl (lk1 rfl n6)) (ldL S (lk1 rfl lk0) ?_))))))
    refine dctSet S 3 rfl (Le.refl _) (h2.mono hlB) (by omega) (by simp [setC, getC]) fun s S => ?_
    -- try: wlst.add((lookup_stamp(c2), c2))
    have hplen : pv.length ≤ 1000 := by rw [hpv.length]; simp [pushP, up_len]
    have S : St c B ((L, nsP ((Str.ofString "cflags", Value.int ((getC (setC [] p1 1) p2).getD 0) tf) :: (Str.ofString "c2", v2) :: l)) :: (pq, lstP pv) :: (it, litP l2 1) :: (d, dctP d c.w B (initP p1 p2).cs) :: (87, tabP B1 qsL) :: (ca, lstP []) :: (L + 1, celP (some (.int 4 t4))) :: f :: (l2, lstP [v2]) :: mu) G' s := S.pick [0, 2, 1] 3
    refine wpAny_execs_cons (wpAny_Try_except (wpAny_execs_cons (addS (n := n) S hBB.toBas (fit.le (show n + 3 ≤ n + 8 by omega)) (hA.mono hlB) (hw.mono (hle3.trans hle)) hpv hplen (lk1 rfl (lk1 rfl n11)) (lk1 rfl (lk1 rfl n2)) (lk1 rfl lk0) (h2.mono hlB) (by omega) fun B4 ws4 s hle4 hws4 S => wpAny_execs_nil (wpAny_execs_nil (wpAny_execs_nil ?_)))))
    have S : St c B4 ((L, nsP ((Str.ofString "cflags", Value.int ((getC (setC [] p1 1) p2).getD 0) tf) :: (Str.ofString "c2", v2) :: l)) :: (pq, lstP ws4) :: (it, litP l2 1) :: (d, dctP d c.w B4 (initP p1 p2).cs) :: (87, tabP B1 qsL) :: (ca, lstP []) :: (L + 1, celP (some (.int 4 t4))) :: f :: (l2, lstP [v2]) :: mu) G' s := S.weak 3 rfl fun o x => x.mono hle4
    exact ⟨B4, _, _, G', ⟨hle.trans hle4, rfl, ⟨lk1 rfl (lk1 rfl n1), lk1 rfl (lk1 rfl n2), lk1 rfl (lk1 rfl n3), lk1 rfl (lk1 rfl n4), lk1 rfl (lk1 rfl n5), lk1 rfl (lk1 rfl n6), lk1 rfl (lk1 rfl n7), lk1 rfl (lk1 rfl n8), lk1 rfl (lk1 rfl n9), lk1 rfl (lk1 rfl n10), lk1 rfl (lk1 rfl n11), lk1 rfl (lk1 rfl n12), lk1 rfl (lk1 rfl n13), trivial⟩, ws4, rfl, hws4⟩, S.pick [0, 2, 1] 3⟩
  · rintro B l rest G' s ⟨hle, rfl, hl, pv, rfl, hpv⟩ S
    obtain ⟨n1, n2, n3, n4, n5, n6, n7, n8, n9, n10, n11, n12, n13, _⟩ := hl
    have S : St c B ((L, nsP (lcN fp fg m tm t1 t2 t8 ca d fh w)) :: (L + 1, celP (some (.int 4 t4))) :: (ca, lstP []) :: (d, dctP d c.w B (initP p1 p2).cs) :: (pq, lstP pv) :: f :: (87, tabP B1 qsL) :: mu) G' s :=
      (St.norm S [4, 3, 1, 0, 5, 2] 7 ⟨n1, n2, n3, n4, n5, n6, n7, n8, n9, n10, n11, trivial⟩)
    refine wpAny_execs_nil ?_
    exact h B s ca d fh w pq cd ct doc pm t1 t2 t4 t8 pv (hl03.trans hle) (hF.mono ((hle2.trans hle3).trans hle)) (hw.mono (hle3.trans hle)) hpv (S.weak 6 rfl fun o x => x.mono ((hle2.trans hle3).trans hle))
  · exact ⟨rfl, rfl, rfl, rfl, rfl, rfl, rfl, rfl, rfl, rfl, rfl, rfl, rfl, trivial⟩
end
end Mine
end

section
open PySem PySem.W PyProof.Rows PySem.Calls
namespace Mine

def whB : List Stmt := match lcS 11 with | .While _ b _ _ => b | _ => []
def whT : Expr := match lcS 11 with | .While t _ _ _ => t | _ => default
def parFor : Stmt := match stN whB 6 with | .If _ (b :: _) _ _ => b | _ => default
def parFT : Expr := match parFor with | .For t .. => t | _ => default
def parFB : List Stmt := match parFor with | .For _ _ b .. => b | _ => []

theorem AllLk.add {l : List (Str × Value)} {x : Str} {v : Value} : ∀ {l' : List (Str × Value)}, AllLk l l' → (l'.all fun p => !(p.1 == x)) = true → AllLk ((x, v) :: l) l'
  | [], _, _ => trivial
  | p :: r, ⟨h1, h2⟩, h => by
    rw [List.all_cons, Bool.and_eq_true] at h
    exact ⟨lk1 (by simpa using h.1) h1, AllLk.add (l' := r) h2 h.2⟩
theorem AllLk.get {l l' : List (Str × Value)} {x : Str} {v : Value} (h : AllLk l l') (e : l'.lookup x = some v) : l.lookup x = some v := h.look x v e
theorem setC_len (cs : Cst) (k : List Int) (v : Int) : (setC cs k v).length ≤ cs.length + 1 := by
  unfold setC; split <;> simp
theorem pushP_len (es : List Ent) (e : Ent) : (pushP es e).length = es.length + 1 := by unfold pushP; rw [up_len]; simp

theorem pushAll_cons (m fl : Int) (p : List Int) (r : List (List Int)) (cs : Cst) (pq : List Ent) : pushAll m fl (p :: r) cs pq =
    if Builtin.bitAnd ((getC cs p).getD 0) fl = fl then pushAll m fl r cs pq else if ageP p < m then pushAll m fl r cs pq
    else pushAll m fl r (setC cs p (Builtin.bitOr ((getC cs p).getD 0) fl)) (pushP pq (-(ageP p), p)) := rfl
section
variable {c : Cfg} {B B' B₀ : Hp} {mu mu' : Mo} {G : Array GenState} {s : Shared} {A : Around} {E : Value → Shared → Prop} {env : Env} {L ce ca d fh w pq fp fg lp it cd1 cd2 : Addr} {f : Addr × (Obj → Prop)} {n : Nat} {v v1 v2 : Value}
  {m fl : Int} {tm tf t1 t2 t8 : Tok} {l l0 : List (Str × Value)} {ct2 dc2 pm2 : Value} {ps : List (List Int)} {wsP pv : List Value} {cs : Cst} {es : List Ent}

def lcN2 (fp fg : Addr) (m : Int) (tm t1 t2 t8 : Tok) (ca d fh w : Addr) (fl : Int) (tf : Tok) : List (Str × Value) := (Str.ofString "cflags", .int fl tf) :: lcN fp fg m tm t1 t2 t8 ca d fh w

set_option maxHeartbeats 4000000 in
theorem par_loop {R : Result → Shared → Prop} (hB : Bas B) (fit : Fit (n + 3) A) (hA : FnAt B fg (fdAge cd2 ct2 dc2 pm2)) (hw : WlAt B w pq) (hps : All2 (Pm B) wsP ps) (hp4 : ∀ p ∈ ps, p.length = 4) (hn3 : ps.length ≤ 3)
    (hl : AllLk l (lcN2 fp fg m tm t1 t2 t8 ca d fh w fl tf)) (hes : All2 (En B) pv es) (hel : es.length ≤ 950) (hcl : cs.length ≤ 950)
    (S : St c B ((L, nsP l) :: (it, litP lp 0) :: (lp, lstP wsP) :: (d, dctP d c.w B cs) :: (pq, lstP pv) :: mu) G s)
    (h : ∀ B' l' pv' s', Le B B' → AllLk l' (lcN2 fp fg m tm t1 t2 t8 ca d fh w fl tf) → All2 (En B') pv' (pushAll m fl ps cs es).2 →
      St c B' ((L, nsP l') :: (lp, lstP wsP) :: (d, dctP d c.w B' (pushAll m fl ps cs es).1) :: (pq, lstP pv') :: mu) G s' → R (.ok .next) s') :
    codeAny (model PP c.w) A (.forLoop parFT (.ref it) parFB [] (envC fdLcas L 90)) R s := by
  refine forLs fit.hd (ws := wsP) (fun i B1 l rest G' => Le B B1 ∧ G' = G ∧ AllLk l (lcN2 fp fg m tm t1 t2 t8 ca d fh w fl tf) ∧ i ≤ ps.length ∧
      ∃ pv cs' es', rest = (lp, lstP wsP) :: (d, dctP d c.w B1 cs') :: (pq, lstP pv) :: mu ∧ All2 (En B1) pv es' ∧ es'.length ≤ 950 + i ∧ cs'.length ≤ 950 + i ∧ pushAll m fl (ps.drop i) cs' es' = pushAll m fl ps cs es) ?_ ?_ ?_
      ⟨Le.refl _, rfl, hl, Nat.zero_le _, pv, cs, es, rfl, hes, hel, hcl, rfl⟩ S
  · rintro i B1 l rest G' s ⟨hle, rfl, hl, hi, pv, cs', es', rfl, hes, _⟩ S
    exact S.isList 2 rfl
  · rintro i v B1 l rest G' s hv ⟨hle, rfl, hl, hi, pv, cs', es', rfl, hes, hel, hcl, heq⟩ S
    obtain ⟨p, hp, hvp⟩ := hps.get hv
    have hBB := hB.mono hle
    have hvp := hvp.mono hle
    have hp4' : p.length = 4 := hp4 p (List.mem_of_getElem? hp)
    have hlt : i < ps.length := (List.getElem?_eq_some_iff.mp hp).1
    have hdrop : ps.drop i = p :: ps.drop (i + 1) := by
      rw [List.drop_eq_getElem_cons hlt, (List.getElem?_eq_some_iff.mp hp).2]
    rw [hdrop] at heq
    have hl64 := fit.line64
    refine stL S fun s S => ?_
    have hl2 : AllLk ((Str.ofString "pcmt", v) :: l) (lcN2 fp fg m tm t1 t2 t8 ca d fh w fl tf) := hl.add rfl
    -- pflags = cstates.get(pcmt, 0)
    refine wpAny_execs_cons (wpAny_Assign_Name (evGet2 (ldL S (hl2.get (x := Str.ofString "cstates") rfl) ?_) (by omega)))
    obtain ⟨ob, e1, e2, e3, e4⟩ := S.dictO hBB 3 rfl
    refine ⟨d, ob, rfl, e1, e2, e3, e4, ldL S lk0 (cInt S fun t0 s S => ⟨B1, _, _, 3, B1, _, p, 0, t0, rfl, S, rfl, Le.refl _, hvp, fun tp s S => ?_⟩)⟩
    refine stLn S fun s S => ?_
    have hl3 : AllLk ((Str.ofString "pflags", Value.int ((getC cs' p).getD 0) tp) :: (Str.ofString "pcmt", v) :: l) (lcN2 fp fg m tm t1 t2 t8 ca d fh w fl tf) := hl2.add rfl
    generalize hpf : (getC cs' p).getD 0 = pf at S hl3
    -- if pflags & cflags == cflags: continue
    refine wpAny_execs_cons (wpAny_If (wpAny_isTrue_Compare1 (wpAny_BinOp (ldL S lk0 (ldL S (hl3.get (x := Str.ofString "cflags") rfl) (iAnd S fun ta s S => ldL S (hl3.get (x := Str.ofString "cflags") rfl) (P.eq_int (wpAny_truthy_bool ?_))))))))
    rw [pushAll_cons, hpf] at heq
    by_cases hc1 : Builtin.bitAnd pf fl = fl
    · rw [beq_iff_eq.mpr hc1, if_pos rfl]
      rw [if_pos hc1] at heq
      refine wpAny_execs_cons (wpAny_Continue ?_)
      exact ⟨B1, _, _, G', ⟨hle, rfl, hl3, hlt, pv, cs', es', rfl, hes, by omega, by omega, heq⟩, S⟩
    · rw [beq_eq_false_iff_ne.mpr hc1, if_neg Bool.false_ne_true]
      rw [if_neg hc1] at heq
      refine wpAny_execs_nil ?_
      -- try: pdt = lookup_stamp(pcmt)
      obtain ⟨⟨og, eg, hdg⟩, _⟩ := id (hA.mono hle)
      refine wpAny_execs_cons (wpAny_Try_except (wpAny_execs_cons (wpAny_Assign_Name (evCallF (ldL S (hl3.get (x := Str.ofString "lookup_stamp") rfl) ⟨fg, og, _, rfl, hdg, wpAny_items_cons (ldL S (lk1 rfl lk0) (wpAny_items_nil ⟨S.base _ _ eg, ?_⟩))⟩)))))
      refine age_spec S hBB (n := n) (fit.le (show n + 2 ≤ n + 3 by omega)) (hA.mono hle) hvp (by omega) fun tg B2 s hle2 S => ?_
      refine stLn S fun s S => wpAny_execs_nil (wpAny_execs_nil ?_)
      have hl4 : AllLk ((Str.ofString "pdt", Value.int (ageP p) tg) :: (Str.ofString "pflags", Value.int pf tp) :: (Str.ofString "pcmt", v) :: l) (lcN2 fp fg m tm t1 t2 t8 ca d fh w fl tf) := hl3.add rfl
      have hl12 := hle.trans hle2
      -- if pdt < min_stamp: continue
      refine wpAny_execs_cons (wpAny_If (wpAny_isTrue_Compare1 (ldL S lk0 (ldL S (hl4.get (x := Str.ofString "min_stamp") rfl) (P.lt_int (wpAny_truthy_bool ?_))))))
      by_cases hc2 : ageP p < m
      · rw [decide_eq_true hc2, if_pos rfl]
        rw [if_pos hc2] at heq
        refine wpAny_execs_cons (wpAny_Continue ?_)
        exact ⟨B2, _, _, G', ⟨hl12, rfl, hl4, hlt, pv, cs', es', rfl, hes.imp fun _ _ x => x.mono hle2, by omega, by omega, heq⟩, S.weak 3 rfl fun o x => x.mono hle2⟩
      · rw [decide_eq_false hc2, if_neg Bool.false_ne_true]
        rw [if_neg hc2] at heq
        refine wpAny_execs_nil ?_
        -- cstates[pcmt] = pflags | cflags
        refine wpAny_execs_cons (wpAny_Assign_Subscript (wpAny_BinOp (ldL S (lk1 rfl lk0) (ldL S (hl4.get (x := Str.ofString "cflags") rfl) (iOr S fun to s S => ldL S (hl4.get (x := Str.ofString "cstates") rfl) (ldL S (lk1 rfl (lk1 rfl lk0)) ?_))))))
        refine dctSet S 3 rfl hle2 (hvp.mono hle2) (by omega) (by omega) fun s S => ?_
        -- wlst.add((pdt, pcmt))
        refine wpAny_execs_cons (wpAny_Expr ?_ rfl rfl)
        have hB2 := hBB.mono hle2
        obtain ⟨K, k⟩ := hB2.kf
        refine evMeth1 (fd := fdAdd) (ldL S (hl4.get (x := Str.ofString "wlst") rfl) ⟨B2, _, G', w, pq, K, rfl, S, k, hw.mono hl12, hB2.add, k.add, k.tAdd, ?_⟩)
        refine wpAny_items_cons (evTuple (wpAny_items_cons (ldL S lk0 (wpAny_items_cons (ldL S (lk1 rfl (lk1 rfl lk0)) (wpAny_items_nil ⟨szl _ (by simp), _, _, _, S, fun r B3 s hle3 hT S => wpAny_items_nil ⟨⟨_, _, _, S, hle3⟩, ?_⟩⟩))))))
        have hl23 := hle2.trans hle3
        refine add_spec S (hB2.mono hle3) (n := n) (fit.le (show n + 1 ≤ n + 3 by omega)) ((hw.mono hl12).mono hle3) 4 rfl (hes.imp fun _ _ h => h.mono hl23) hT ((hvp.mono hle2).mono hle3) (by rw [hes.length]; omega) fun B4 ws s hle4 hws S => wpAny_execs_nil ?_
        have hl34 := hle3.trans hle4
        have h1 := setC_len cs' p (Builtin.bitOr pf fl)
        have h2 := pushP_len es' (-(ageP p), p)
        exact ⟨B4, _, _, G', ⟨hl12.trans hl34, rfl, hl4, hlt, ws, _, _, rfl, hws, by omega, by omega, heq⟩, S.weak 3 rfl fun o x => x.mono hl34⟩
  · rintro B1 l rest G' s ⟨hle, rfl, hl, hi, pv, cs', es', rfl, hes, hel, hcl, heq⟩ S
    refine wpAny_execs_nil ?_
    rw [show ps.drop wsP.length = [] by rw [hps.length]; simp] at heq
    have e1 : (pushAll m fl ps cs es) = (cs', es') := heq.symm
    have := h B1 l pv s hle hl
    rw [e1] at this
    exact this hes S
end
end Mine
end

section
open PySem PySem.W PyProof.Rows PySem.Calls
namespace Mine

theorem turnP_some {m : Int} {st st' : LS} (h : turnP m st = some st') : ∃ f, getC st.cs (popP st.pq).1.2 = some f ∧ (popP st.pq).1.2.length = 4 ∧ (∀ p ∈ parP (popP st.pq).1.2, p.length = 4) ∧ st.pq.length ≤ 900 ∧ st.cs.length ≤ 900 ∧ st.cands.length ≤ 900 ∧
    (if Builtin.bitAnd f 7 = 3 then
      (if Builtin.bitAnd f 8 = 8 then (pushAll m (Builtin.bitOr (Builtin.bitAnd f 7) 4) (parP (popP st.pq).1.2) st.cs (popP st.pq).2, st.cands)
        else (pushAll m (Builtin.bitOr (Builtin.bitAnd f 7) 4) (parP (popP st.pq).1.2) (setC st.cs (popP st.pq).1.2 (Builtin.bitOr f 8)) (popP st.pq).2, st.cands ++ [(-(popP st.pq).1.1, (popP st.pq).1.2)]))
     else (pushAll m (Builtin.bitAnd f 7) (parP (popP st.pq).1.2) st.cs (popP st.pq).2, st.cands)) = ((st'.cs, st'.pq), st'.cands) := by
  unfold turnP at h
  dsimp only at h
  cases hg : getC st.cs (popP st.pq).1.2 with
  | none => rw [hg] at h; cases h
  | some f =>
    rw [hg] at h
    dsimp only at h
    split at h
    · rename_i hc
      obtain ⟨h1, h2, h3, h4, h5⟩ := hc
      refine ⟨f, rfl, h1, fun p hp => by simpa using List.all_eq_true.mp h2 p hp, h3, h4, h5, ?_⟩
      split at h
      · rename_i h6
        rw [if_pos h6]
        by_cases h7 : Builtin.bitAnd f 8 = 8
        · rw [if_pos h7]
          simp only [h7, not_true_eq_false, if_false, Option.some.injEq] at h
          rw [← h]
        · rw [if_neg h7]
          simp only [h7, not_false_eq_true, if_true, Option.some.injEq] at h
          rw [← h]
      · rename_i h6
        rw [if_neg h6]
        simp only [Option.some.injEq] at h
        rw [← h]
    · cases h
theorem popP_len {es : List Ent} : (popP es).2.length ≤ es.length := by
  have hd : ∀ (f : Nat) (l : List Ent) (pos : Nat), (downF f l pos).length = l.length := by
    intro f
    induction f with
    | zero => intro l pos; rfl
    | succ f ih =>
      intro l pos
      unfold downF
      split
      · dsimp only; rw [ih]; simp [swapL]
      · rw [up_len]
  match es with
  | [] => simp [popP]
  | [x] => simp [popP]
  | x :: y :: r => simp only [popP]; rw [hd]; simp

section
variable {c : Cfg} {B B' B₀ : Hp} {mu mu' : Mo} {G : Array GenState} {s : Shared} {A : Around} {E : Value → Shared → Prop} {env : Env} {L ce ca d fh w pq fp fg lp it cd1 cd2 : Addr} {f : Addr × (Obj → Prop)} {n : Nat} {v v1 v2 : Value}
  {m fl : Int} {tm tf t1 t2 t4 t8 : Tok} {l l0 : List (Str × Value)} {ct1 dc1 pm1 ct2 dc2 pm2 : Value} {pv cv : List Value} {st st' : LS}

/-- what holds at the head of the while loop -/
def WhI (c : Cfg) (B₀ : Hp) (L ce ca d fh w pq fp fg : Addr) (m : Int) (tm t1 t2 t4 t8 : Tok) (mu : Mo) (st : LS) (s : Shared) : Prop :=
  ∃ B l pv cv G, Le B₀ B ∧ AllBare G ∧ AllLk l (lcN fp fg m tm t1 t2 t8 ca d fh w) ∧ All2 (En B) pv st.pq ∧ All2 (En B) cv st.cands ∧
    St c B ((L, nsP l) :: (d, dctP d c.w B st.cs) :: (pq, lstP pv) :: (ca, lstP cv) :: (ce, celP (some (.int 4 t4))) :: mu) G s

set_option maxHeartbeats 4000000 in
theorem tail_walk {p : List Int} {cs : Cst} {es cands : List Ent} {cm : Value} (hB : Bas B₀) (fit : Fit (n + 4) A) (hP : FnAt B₀ fp (fdPar cd1 ct1 dc1 pm1)) (hA : FnAt B₀ fg (fdAge cd2 ct2 dc2 pm2)) (hw : WlAt B₀ w pq) (hle : Le B₀ B) (hG : AllBare G)
    (hl : AllLk l (lcN2 fp fg m tm t1 t2 t8 ca d fh w fl tf)) (hcm : l.lookup (Str.ofString "cmt") = some cm) (hp : Pm B cm p) (h4 : p.length = 4) (hp4 : ∀ q ∈ parP p, q.length = 4) (hes : All2 (En B) pv es) (hcv : All2 (En B) cv cands) (he9 : es.length ≤ 950) (hc9 : cs.length ≤ 950)
    (S : St c B ((L, nsP l) :: (d, dctP d c.w B cs) :: (pq, lstP pv) :: (ca, lstP cv) :: (L + 1, celP (some (.int 4 t4))) :: mu) G s) :
    wpAny (model PP c.w) A (execs [stN whB 5, stN whB 6] (envC fdLcas L 90)) (fun f s' => f = .next ∧ WhI c B₀ L (L + 1) ca d fh w pq fp fg m tm t1 t2 t4 t8 mu ⟨(pushAll m fl (parP p) cs es).1, (pushAll m fl (parP p) cs es).2, cands⟩ s') (fun _ _ => False) s := by
  have hBB := hB.mono hle
  -- try: parents = lookup_parents(cmt)
  obtain ⟨⟨og, eg, hdg⟩, _⟩ := id (hP.mono hle)
  refine wpAny_execs_cons (wpAny_Try_except (wpAny_execs_cons (wpAny_Assign_Name (evCallF (ldL S (hl.get (x := Str.ofString "lookup_parents") rfl) ⟨fp, og, _, rfl, hdg, wpAny_items_cons (ldL S hcm (wpAny_items_nil ⟨S.base _ _ eg, ?_⟩))⟩)))))
  refine parents_spec S hBB (n := n) (fit.le (show n + 1 ≤ n + 4 by omega)) (hP.mono hle) hp h4 fun lp B1 ws s hle1 hws S => ?_
  refine stLn S fun s S => wpAny_execs_nil (wpAny_execs_nil ?_)
  have hl1 : AllLk ((Str.ofString "parents", .ref lp) :: l) (lcN2 fp fg m tm t1 t2 t8 ca d fh w fl tf) := hl.add rfl
  have hB1 := hBB.mono hle1
  have hl01 := hle.trans hle1
  have hlen3 : (parP p).length ≤ 3 := by
    unfold parP rangeUpto; rw [List.length_map]; exact Nat.le_trans (List.length_filter_le _ _) (by simp)
  have S : St c B1 ((L, nsP ((Str.ofString "parents", .ref lp) :: l)) :: (lp, lstP ws) :: (d, dctP d c.w B1 cs) :: (pq, lstP pv) :: (ca, lstP cv) :: (L + 1, celP (some (.int 4 t4))) :: mu) G s := S.weak 2 rfl fun o x => x.mono hle1
  -- if parents
  refine wpAny_execs_cons (wpAny_If (isTrue_plain (ldL S lk0 (wpAny_truthy_list (S.isList 1 rfl) (by have := hws.length; simp; omega) ?_))))
  have hes1 := hes.imp fun _ _ x => En.mono x hle1
  have hcv1 := hcv.imp fun _ _ x => En.mono x hle1
  have S := S.toks (s.toks + 1 + 1)
  generalize parP p = ps at hws hlen3 hp4 ⊢
  cases hws with
  | nil =>
    refine wpAny_execs_nil (wpAny_execs_nil ⟨rfl, B1, (Str.ofString "parents", .ref lp) :: l, pv, cv, G, hl01, hG, hl1.2, hes1, hcv1, ?_⟩)
    exact S.pick [0, 2, 3, 4, 5] 6
  | @cons x q ws ps hx hr =>
    refine wpAny_execs_cons (wpAny_For (ldL S lk0 ?_))
    refine iterLs S (S.isList 1 rfl) fun it s S => ?_
    have S : St c B1 ((L, nsP ((Str.ofString "parents", .ref lp) :: l)) :: (it, litP lp 0) :: (lp, lstP (x :: ws)) :: (d, dctP d c.w B1 cs) :: (pq, lstP pv) :: (ca, lstP cv) :: (L + 1, celP (some (.int 4 t4))) :: mu) G s := S
    refine par_loop hB1 (fit.le (show n + 3 ≤ n + 4 by omega)) (hA.mono hl01) (hw.mono hl01) (.cons hx hr) hp4 hlen3 hl1 hes1 he9 hc9 S fun B2 l' pv' s hle2 hl' hpv' S => ?_
    refine wpAny_execs_nil (wpAny_execs_nil ⟨rfl, B2, l', pv', cv, G, hl01.trans hle2, hG, hl'.2, hpv', hcv1.imp fun _ _ x => En.mono x hle2, ?_⟩)
    exact S.pick [0, 2, 3, 4, 5] 6

set_option maxHeartbeats 4000000 in
theorem turn_walk (hB : Bas B₀) (fit : Fit (n + 4) A) (hP : FnAt B₀ fp (fdPar cd1 ct1 dc1 pm1)) (hA : FnAt B₀ fg (fdAge cd2 ct2 dc2 pm2)) (hw : WlAt B₀ w pq) (ht : turnP m st = some st') (hne : st.pq ≠ [])
    (hI : WhI c B₀ L (L + 1) ca d fh w pq fp fg m tm t1 t2 t4 t8 mu st s) :
    wpAny (model PP c.w) A (execs whB (envC fdLcas L 90)) (fun f s' => f = .next ∧ WhI c B₀ L (L + 1) ca d fh w pq fp fg m tm t1 t2 t4 t8 mu st' s') (fun _ _ => False) s := by
  obtain ⟨B, l, pv, cv, G, hle, hG, hl, hpv, hcv, S⟩ := hI
  obtain ⟨fl0, hg, hc4, hp4, hz1, hz2, hz3, hres⟩ := turnP_some ht
  have hBB := hB.mono hle
  have hl64 := fit.line64
  obtain ⟨K, k⟩ := hBB.kf
  -- result = wlst.get()
  refine wpAny_execs_cons (wpAny_Assign_Name (evMeth0 (fd := fdGet) (ldL S (hl.get (x := Str.ofString "wlst") rfl) ⟨B, _, G, w, pq, K, rfl, S, k, hw.mono hle, hBB.get, k.get, k.tGet, ?_⟩)))
  refine get_spec S hBB (n := n) (fit.le (show n + 1 ≤ n + 4 by omega)) (hw.mono hle) 2 rfl hpv hne (by rw [hpv.length]; omega) fun r B1 ws s t cm hle1 hT hPm hws S => ?_
  refine stLn S fun s S => ?_
  have hl1 : AllLk ((Str.ofString "result", r) :: l) (lcN fp fg m tm t1 t2 t8 ca d fh w) := hl.add rfl
  have hB1 := hBB.mono hle1
  have hl01 := hle.trans hle1
  -- if result is None: break
  refine wpAny_execs_cons (wpAny_If (wpAny_isTrue_Compare1 (ldL S lk0 (Constant_none (is_none (wpAny_truthy_bool ?_))))))
  have hrn : (r == Value.none) = false := by obtain ⟨ra, rfl, _⟩ := hT; rfl
  rw [hrn, if_neg Bool.false_ne_true]
  refine wpAny_execs_nil ?_
  -- dt, cmt = result
  refine wpAny_execs_cons (Assign_Tuple (ldL S lk0 (stPair S fit.hd hT fun s S => ?_)))
  have hl2 : AllLk ((Str.ofString "cmt", cm) :: (Str.ofString "dt", Value.int (-(popP st.pq).1.1) t) :: (Str.ofString "result", r) :: l) (lcN fp fg m tm t1 t2 t8 ca d fh w) := (hl1.add rfl).add rfl
  have S : St c B1 ((L, nsP ((Str.ofString "cmt", cm) :: (Str.ofString "dt", Value.int (-(popP st.pq).1.1) t) :: (Str.ofString "result", r) :: l)) :: (d, dctP d c.w B1 st.cs) :: (pq, lstP ws) :: (ca, lstP cv) :: (L + 1, celP (some (.int 4 t4))) :: mu) G s := S.weak 1 rfl fun o x => x.mono hle1
  have hcv1 := hcv.imp fun _ _ x => En.mono x hle1
  generalize (popP st.pq).1 = e at hg hc4 hp4 hres hPm S hl2
  have hpl := popP_len (es := st.pq)
  generalize (popP st.pq).2 = pq' at hres hws hpl
  -- cflags = cstates[cmt] & (_ANC_OF_1 | _ANC_OF_2 | _DNC)
  refine wpAny_execs_cons (wpAny_Assign_Name (wpAny_BinOp (Subscript_ (ldL S (hl2.get (x := Str.ofString "cstates") rfl) (ldL S lk0 (dctSub S 1 rfl (Le.refl _) hPm (by omega) hg fun tf s S => ?_))))))
  refine wpAny_BinOp (wpAny_BinOp (ldL S (hl2.get (x := Str.ofString "_ANC_OF_1") rfl) (ldL S (hl2.get (x := Str.ofString "_ANC_OF_2") rfl) (iOr S fun to s S => ldC S 4 rfl (iOr S fun to2 s S => iAnd S fun ta s S => ?_)))))
  rw [show Builtin.bitOr (Builtin.bitOr 1 2) 4 = 7 by decide]
  refine stLn S fun s S => ?_
  have hl3 : AllLk ((Str.ofString "cflags", Value.int (Builtin.bitAnd fl0 7) ta) :: (Str.ofString "cmt", cm) :: (Str.ofString "dt", Value.int (-e.1) t) :: (Str.ofString "result", r) :: l) (lcN fp fg m tm t1 t2 t8 ca d fh w) := hl2.add rfl
  -- if cflags == _ANC_OF_1 | _ANC_OF_2
  refine wpAny_execs_cons (wpAny_If (wpAny_isTrue_Compare1 (ldL S lk0 (wpAny_BinOp (ldL S (hl3.get (x := Str.ofString "_ANC_OF_1") rfl) (ldL S (hl3.get (x := Str.ofString "_ANC_OF_2") rfl) (iOr S fun to s S => P.eq_int (wpAny_truthy_bool ?_))))))))
  rw [show Builtin.bitOr 1 2 = 3 by decide]
  by_cases h3 : Builtin.bitAnd fl0 7 = 3
  · rw [beq_iff_eq.mpr h3, if_pos rfl]
    rw [if_pos h3] at hres
    -- if not cstates[cmt] & _LCA == _LCA
    refine wpAny_execs_cons (wpAny_If (isTrue_not (wpAny_isTrue_Compare1 (wpAny_BinOp (Subscript_ (ldL S (hl3.get (x := Str.ofString "cstates") rfl) (ldL S (lk1 rfl lk0) (dctSub S 1 rfl (Le.refl _) hPm (by omega) hg fun tf s S => ?_))))))))
    refine ldL S (hl3.get (x := Str.ofString "_LCA") rfl) (iAnd S fun ta2 s S => ldL S (hl3.get (x := Str.ofString "_LCA") rfl) (P.eq_int (wpAny_truthy_bool ?_)))
    by_cases h8 : Builtin.bitAnd fl0 8 = 8
    · rw [beq_iff_eq.mpr h8]
      rw [if_pos h8] at hres
      refine wpAny_execs_nil ?_
      -- cflags = cflags | _DNC
      refine wpAny_execs_cons (wpAny_Assign_Name (wpAny_BinOp (ldL S lk0 (ldC S 4 rfl (iOr S fun to3 s S => stLn S fun s S => wpAny_execs_nil ?_)))))
      rw [Prod.mk.injEq, Prod.ext_iff] at hres
      have := tail_walk hB fit hP hA hw hl01 hG (fl := Builtin.bitOr (Builtin.bitAnd fl0 7) 4) (tf := to3) ⟨lk0, hl3.add rfl⟩ (lk1 rfl (lk1 rfl lk0)) hPm hc4 hp4 hws hcv1 (by omega) (by omega) S
      rw [hres.1.1, hres.1.2, hres.2] at this
      exact this
    · rw [beq_eq_false_iff_ne.mpr h8]
      rw [if_neg h8] at hres
      -- cstates[cmt] = cstates[cmt] | _LCA
      refine wpAny_execs_cons (wpAny_Assign_Subscript (wpAny_BinOp (Subscript_ (ldL S (hl3.get (x := Str.ofString "cstates") rfl) (ldL S (lk1 rfl lk0) (dctSub S 1 rfl (Le.refl _) hPm (by omega) hg fun tf s S => ?_))))))
      refine ldL S (hl3.get (x := Str.ofString "_LCA") rfl) (iOr S fun to4 s S => ldL S (hl3.get (x := Str.ofString "cstates") rfl) (ldL S (lk1 rfl lk0) ?_))
      refine dctSet S 1 rfl (Le.refl _) hPm (by omega) (by omega) fun s S => ?_
      -- cands.append((dt, cmt))
      refine wpAny_execs_cons (exAppend (ldL S (hl3.get (x := Str.ofString "cands") rfl) ⟨_, _, rfl, S.lstH 3 rfl, ?_⟩))
      refine evTuple (wpAny_items_cons (ldL S (lk1 rfl (lk1 rfl lk0)) (wpAny_items_cons (ldL S (lk1 rfl lk0) (wpAny_items_nil ⟨szl _ (by simp), _, _, _, S, fun r3 B3 s hle3 hT3 S => ?_⟩)))))
      have hsl : (1000 : Nat) ≤ sizeLine := by rw [sizeLine_eq]; decide
      refine ⟨_, _, _, 3, cv, S, rfl, by have := hcv.length; omega, fun s S => wpAny_execs_nil ?_⟩
      have hl03 := hl01.trans hle3
      -- cflags = cflags | _DNC
      refine wpAny_execs_cons (wpAny_Assign_Name (wpAny_BinOp (ldL S lk0 (ldC S 4 rfl (iOr S fun to3 s S => stLn S fun s S => wpAny_execs_nil ?_)))))
      have S := S.weak 1 rfl (k' := dctP d c.w B3 (setC st.cs e.2 (Builtin.bitOr fl0 8))) fun o x => x.mono hle3
      have hsc := setC_len st.cs e.2 (Builtin.bitOr fl0 8)
      rw [Prod.mk.injEq, Prod.ext_iff] at hres
      have := tail_walk (cands := st.cands ++ [(-e.1, e.2)]) hB fit hP hA hw hl03 hG (fl := Builtin.bitOr (Builtin.bitAnd fl0 7) 4) (tf := to3) ⟨lk0, hl3.add rfl⟩ (lk1 rfl (lk1 rfl lk0)) (hPm.mono hle3) hc4 hp4 (hws.imp fun _ _ x => En.mono x hle3)
        ((hcv1.imp fun _ _ x => En.mono x hle3).snoc ⟨_, _, hT3, hPm.mono hle3⟩) (by omega) (by omega) S
      rw [hres.1.1, hres.1.2, hres.2] at this
      exact this
  · rw [beq_eq_false_iff_ne.mpr h3, if_neg Bool.false_ne_true]
    rw [if_neg h3] at hres
    refine wpAny_execs_nil ?_
    rw [Prod.mk.injEq, Prod.ext_iff] at hres
    have := tail_walk hB fit hP hA hw hl01 hG (fl := Builtin.bitAnd fl0 7) (tf := ta) ⟨lk0, hl2.add rfl⟩ (lk1 rfl lk0) hPm hc4 hp4 hws hcv1 (by omega) (by omega) S
    rw [hres.1.1, hres.1.2, hres.2] at this
    exact this
end
end Mine
end

section
open PySem PySem.W PyProof.Rows PySem.Calls PySem.SeqAt
namespace Mine

theorem items_ofG {prog : Program} {w : World} {vs : List Value} {p : List Int} (h : IntsAre vs p) : ItemsAre (intKind prog w) p vs := by
  induction h with
  | nil => exact .nil
  | cons n t r ih => exact .cons (by simp [intKind, Value.isInt]) ih
section
variable {c : Cfg} {B B' B₀ : Hp} {mu mu' : Mo} {G : Array GenState} {s : Shared} {A : Around} {E : Value → Shared → Prop} {env : Env} {L C D I l2 a : Addr} {l : List (Str × Value)} {n : Nat} {v w : Value} {p q : List Int} {x y : Str} {pos : Pos}

theorem St.keyG (S : St c B mu G s) (h : Pm B v p) : ∃ a, v = .ref a ∧ ∀ prog w, IsTupleKey (intKind prog w) s.heap p a := by
  obtain ⟨vs, ⟨a, rfl, e⟩, i⟩ := h
  exact ⟨a, rfl, fun prog w => ⟨_, _, _, S.base _ _ e, rfl, rfl, items_ofG i⟩⟩
theorem eqAt_pm (S : St c B mu G s) (hv : Pm B v p) (hw : Pm B w q) (hu : A.units < cLine) : EqAt A s v w (decide (p = q)) := fun prog wd E Q h => by
  obtain ⟨a, rfl, ha⟩ := S.keyG hv
  obtain ⟨b, rfl, hb⟩ := S.keyG hw
  exact wpAny_eqBool_tuple hu (ha prog wd) (hb prog wd) h

/-- y = [elt for ..], y a local name on the same line -/
theorem exCompAssign {elt target iter : Expr} {ifs : List Expr} {rest : List Comprehension} {scope : Scope} {cl : List (Str × Addr)} {py spos : Pos} {Q : Flow → Shared → Prop}
    (h : wpAny (model PP c.w) A (eval iter env) (fun x s₁ => wpAny (model PP c.w) A (pyIter x) (fun iv s₂ => ∃ B mu G I, iv = .ref I ∧ St c B mu G s₂ ∧
        (∀ s Q E, St c B mu G s → Q (.ref I) s → wpAny (model PP c.w) A (pyIter (.ref I)) Q E s) ∧
        ∀ C D s₃, St c B ((C, nsP []) :: (D, lstP []) :: mu) G s₃ →
          codeAny (model PP c.w) A (.compLoop (.ListComp elt (⟨target, iter, ifs, 0⟩ :: rest) scope pos) 0 (.ref I) (.ref D) (compEnvC scope cl C env))
            (fun r s' => ∃ f, r = .ok f ∧ ∃ B' lc p l mu' G', St c B' ((C, nsP lc) :: (D, p) :: (L, nsP l) :: mu') G' s' ∧ ∀ s'', St c B' ((L, nsP ((y, .ref D) :: l)) :: (D, p) :: mu') G' s'' → Q .next s'') s₃) E s₁) E s)
    (hsw : swapsWith (.ListComp elt (⟨target, iter, ifs, 0⟩ :: rest) scope pos) (some (.Name y py)) spos.line env = pure true := by rfl)
    (hclos : closureFor scope env = pure cl := by rfl) (hcell : ∀ y ∈ scope.names, y.2 ≠ .cell := by decide) (hkind : scope.kind = .function := by rfl)
    (hnames : ∀ y ∈ scope.names, y.2 = .local → scope.names.lookup y.1 = some .local := by decide)
    (hs : ∀ x, foldedSetIterable iter env x = pure x := by intro _; rfl)
    (hL : env.locals = L := by rfl) (hk : env.scope.kind = .function := by rfl) (hy : env.kindOf y = some .local := by rfl) :
    wpAny (model PP c.w) A (exec (.Assign [.Name y py] (.ListComp elt (⟨target, iter, ifs, 0⟩ :: rest) scope pos) spos) env) Q E s := by
  rw [exec_Assign_Name_used _ _ _ _ hsw]
  refine wpAny_bind (wpAny_standAt (wpAny_bind ?_))
  show wpAny _ A (do let _ ← comprehension (.ListComp elt (⟨target, iter, ifs, 0⟩ :: rest) scope pos) scope env _ (newList []) false (eval iter env) (some (assign (.Name y py) env))) _ _ s
  refine wpAny_bind (wpAny_mono (wpAny_comprehension_free (use := some (assign (.Name y py) env)) (Q := fun _ s' => Q .next s') rfl hs hclos hkind hnames
    (wpAny_mono h (fun xv s₁ h₁ => wpAny_mono h₁ (fun it s₂ h₂ => ?_) fun _ _ e => e) fun _ _ e => e)) (fun _ s' hq => wpAny_pure (wpAny_pure hq)) fun _ _ e => e)
  obtain ⟨B, mu, G, I, rfl, S, hself, h₂⟩ := h₂
  refine wpAny_newObj_type (wpAny_newFunctionEnv hcell (by intro y hy; simp at hy) (fun h₁ hns₁ hsb₁ => ?_) hkind)
  have S1 := S.mut ({ cls := .type "list", dict := none, data := .seq ([] : List Value).toArray } : Obj) (P := lstP []) ⟨0, rfl⟩
  have S2 := S1.mut ({ cls := .type "dict", data := .dict #[] } : Obj) (P := fun _ => True) trivial
  obtain ⟨o', es, ep, e', hd', hk', hf'⟩ := hns₁
  have S3 := S2.upd0 (k' := nsP []) hsb₁ e' ⟨es, ep, hd', hk', fun x v hx => by cases hx⟩ (s₂.toks + ([] : List (Str × Value)).length)
  refine codeAny_mono (codeAny_compStart_list (h₂ _ _ _ S3) (hself _ _ _ S3.drop.drop (h₂ _ _ _ S3))) fun r s' hr => ?_
  obtain ⟨f, rfl, B', lc, p, l, mu', G', S', hQ⟩ := hr
  show wpAny _ A (assign (.Name y py) env (.ref _)) _ _ s'
  refine stL (S'.pick [2, 0, 1] 3) (fun s'' S4 => ?_) hL hk hy
  have S5 := S4.pick [1, 0, 2] 3
  obtain ⟨o, e, es, ep, hd, hk, _⟩ := S5.at_ _ (List.mem_cons_self ..)
  exact ⟨nsFind es, ns_of e hd hk, fun h' hs => hQ _ (S5.extBut 0 rfl hs.extBut)⟩
end
end Mine
end

section
open PySem PySem.W PyProof.Rows PySem.Calls PySem.SeqAt
namespace Mine

section
variable {c : Cfg} {B B' B₀ : Hp} {mu mu' : Mo} {G : Array GenState} {s : Shared} {A : Around} {E : Value → Shared → Prop} {env : Env} {L ce ca d fh w pq fp fg lp it l2 cd cd1 cd2 : Addr} {f : Addr × (Obj → Prop)} {n : Nat} {v v1 v2 : Value}
  {m fl : Int} {tm tf t1 t2 t4 t8 : Tok} {l l0 : List (Str × Value)} {ct dc pm ct1 dc1 pm1 ct2 dc2 pm2 : Value} {pv cv : List Value} {st stf : LS} {p1 p2 : List Int}

set_option maxHeartbeats 4000000 in
theorem while_walk {k : Nat} {R : Result → Shared → Prop} (hB : Bas B₀) (fit : Fit (n + 4) A) (hP : FnAt B₀ fp (fdPar cd1 ct1 dc1 pm1)) (hA : FnAt B₀ fg (fdAge cd2 ct2 dc2 pm2)) (hw : WlAt B₀ w pq) (hF : FnAt B₀ fh (fdHas (L + 1) cd ct dc pm))
    (hrun : runP m k st = some stf) (hI : WhI c B₀ L (L + 1) ca d fh w pq fp fg m tm t1 t2 t4 t8 mu st s)
    (h : ∀ s', WhI c B₀ L (L + 1) ca d fh w pq fp fg m tm t1 t2 t4 t8 mu stf s' → R (.ok .next) s') :
    codeAny (model PP c.w) A (.whileLoop whT whB [] (envC fdLcas L 90)) R s := by
  refine codeAny_whileLoop (fun k s => ∃ st, runP m k st = some stf ∧ WhI c B₀ L (L + 1) ca d fh w pq fp fg m tm t1 t2 t4 t8 mu st s) ?_ k ⟨st, hrun, hI⟩
  rintro k s ⟨st, hrun, B, l, pv, cv, G, hle, hG, hl, hpv, hcv, S⟩
  have hBB := hB.mono hle
  obtain ⟨⟨og, eg, hdg⟩, _⟩ := id (hF.mono hle)
  refine isTrue_plain (evCallF (ldL S (hl.get (x := Str.ofString "_has_candidates") rfl) ⟨fh, og, _, rfl, hdg, wpAny_items_cons (ldL S (hl.get (x := Str.ofString "wlst") rfl) (wpAny_items_cons (ldL S (hl.get (x := Str.ofString "cstates") rfl) (wpAny_items_nil ⟨S.base _ _ eg, ?_⟩))))⟩))
  refine has_spec S hBB hG (n := n) (fit.le (show n + 2 ≤ n + 4 by omega)) (hF.mono hle) (hw.mono hle) 2 rfl hpv 1 rfl (Le.refl _) 4 rfl fun B1 G1 s hle1 hG1 S => wpAny_truthy_bool ?_
  have hl01 := hle.trans hle1
  have hI1 : WhI c B₀ L (L + 1) ca d fh w pq fp fg m tm t1 t2 t4 t8 mu st s := ⟨B1, l, pv, cv, G1, hl01, hG1, hl, hpv.imp fun _ _ x => En.mono x hle1, hcv.imp fun _ _ x => En.mono x hle1, S.weak 1 rfl fun o x => x.mono hle1⟩
  cases k with
  | zero => simp [runP] at hrun
  | succ k =>
    unfold runP at hrun
    cases hh : hasP st.cs st.pq with
    | false =>
      rw [hh, if_neg Bool.false_ne_true] at hrun
      rw [if_neg Bool.false_ne_true]
      cases hrun
      exact wpAny_execs_nil (h s hI1)
    | true =>
      rw [hh, if_pos rfl] at hrun
      rw [if_pos rfl]
      cases ht : turnP m st with
      | none => rw [ht] at hrun; cases hrun
      | some st' =>
        rw [ht] at hrun
        have hne : st.pq ≠ [] := fun q => by rw [q] at hh; simp [hasP] at hh
        refine wpAny_mono (turn_walk hB fit hP hA hw ht hne hI1) (fun fl s' hf => ?_) fun _ _ x => x.elim
        obtain ⟨rfl, hI2⟩ := hf
        exact ⟨k, Nat.lt_succ_self _, st', hrun, hI2⟩

def resL (i : Nat) : Stmt := lcS i
set_option maxHeartbeats 4000000 in
/-- what is behind the while loop -/
theorem lcas_tail {Q : Flow → Shared → Prop} (hB : BasL B₀) (fit : Fit (n + 4) A) (hlen : (st.cands.filter (dncT st.cs)).length ≤ 1) (hall : ∀ e ∈ st.cands, ∃ f, getC st.cs e.2 = some f)
    (hI : WhI c B₀ L (L + 1) ca d fh w pq fp fg m tm t1 t2 t4 t8 (f :: (87, tabP B' qsL) :: mu) st s) (hle' : Le B' B₀)
    (h : ∀ D B G ws s', Le B₀ B → AllBare G → All2 (Pm B) ws ((st.cands.filter (dncT st.cs)).map (·.2)) → St c B (f :: (D, lstP ws) :: (87, tabP B qsL) :: mu) G s' → Q (.ret (.ref D)) s') :
    wpAny (model PP c.w) A (execs [lcS 12, lcS 13, lcS 14, lcS 15, lcS 16] (envC fdLcas L 90)) Q E s := by
  obtain ⟨B, l, pv, cv, G, hle, hG, hl, hpv, hcv, S⟩ := hI
  have hBB := hB.mono hle
  have hl64 := fit.line64
  -- results = []
  refine wpAny_execs_cons (wpAny_Assign_Name (evList (wpAny_items_nil ⟨szl _ (by simp), _, _, _, _, S, fun rs s S => ?_⟩)))
  refine stLn S fun s S => ?_
  have hl1 : AllLk ((Str.ofString "results", .ref rs) :: l) ((Str.ofString "results", .ref rs) :: lcN fp fg m tm t1 t2 t8 ca d fh w) := ⟨lk0, hl.add rfl⟩
  -- for dt, cmt in cands
  refine wpAny_execs_cons (wpAny_For (ldL S (hl1.get (x := Str.ofString "cands") rfl) ?_))
  refine iterLs S (S.isList 4 rfl) fun it s S => ?_
  refine forLs fit.hd (ws := cv) (fun i B1 l rest G' => Le B B1 ∧ G' = G ∧ AllLk l ((Str.ofString "results", .ref rs) :: lcN fp fg m tm t1 t2 t8 ca d fh w) ∧ i ≤ st.cands.length ∧
      ∃ rv, rest = (rs, lstP rv) :: (d, dctP d c.w B st.cs) :: (pq, lstP pv) :: (ca, lstP cv) :: (L + 1, celP (some (.int 4 t4))) :: f :: (87, tabP B' qsL) :: mu ∧ All2 (En B1) rv ((st.cands.take i).filter (dncT st.cs))) ?_ ?_ ?_
      ⟨Le.refl _, rfl, hl1, Nat.zero_le _, [], rfl, .nil⟩ S
  · rintro i B1 l rest G' s ⟨hle1, rfl, hl, hi, rv, rfl, hrv⟩ S
    exact S.isList 5 rfl
  · rintro i v B1 l rest G' s hv ⟨hle1, rfl, hl, hi, rv, rfl, hrv⟩ S
    obtain ⟨e, he, t, cm, hT, hPm⟩ := hcv.get hv
    have hlt : i < st.cands.length := (List.getElem?_eq_some_iff.mp he).1
    have htake : st.cands.take (i + 1) = st.cands.take i ++ [e] := by rw [List.take_add_one, he]; rfl
    obtain ⟨f0, hf0⟩ := hall e (List.mem_of_getElem? he)
    refine stPair S fit.hd (hT.mono hle1) fun s S => ?_
    have hl2 : AllLk ((Str.ofString "cmt", cm) :: (Str.ofString "dt", Value.int e.1 t) :: l) ((Str.ofString "results", .ref rs) :: lcN fp fg m tm t1 t2 t8 ca d fh w) := (hl.add rfl).add rfl
    have hPm1 := hPm.mono hle1
    -- if not cstates[cmt] & _DNC == _DNC and (dt, cmt) not in results
    refine wpAny_execs_cons (wpAny_If (isTrue_and (isTrue_not (wpAny_isTrue_Compare1 (wpAny_BinOp (Subscript_ (ldL S (hl2.get (x := Str.ofString "cstates") rfl) (ldL S lk0 (dctSub S 3 rfl hle1 hPm1 (by omega) hf0 fun tf s S => ?_)))))))))
    refine ldC S 6 rfl (iAnd S fun ta s S => ldC S 6 rfl (P.eq_int (wpAny_truthy_bool ?_)))
    by_cases h4 : Builtin.bitAnd f0 4 = 4
    · rw [beq_iff_eq.mpr h4]
      refine wpAny_execs_nil (wpAny_execs_nil ?_)
      refine ⟨B1, _, _, G', ⟨hle1, rfl, hl2, hlt, rv, rfl, ?_⟩, S⟩
      rw [htake, List.filter_append]
      simpa [dncT, hf0, h4] using hrv
    · rw [beq_eq_false_iff_ne.mpr h4]
      have hde : dncT st.cs e = true := by simp [dncT, hf0, h4]
      have hsub : ((st.cands.take i).filter (dncT st.cs)).length + 1 ≤ 1 := by
        refine Nat.le_trans ?_ hlen
        have : (st.cands.take (i + 1)).filter (dncT st.cs) = (st.cands.take i).filter (dncT st.cs) ++ [e] := by
          rw [htake, List.filter_append]; simp [hde]
        have h5 := ((List.take_sublist (i + 1) st.cands).filter (dncT st.cs)).length_le
        rw [this, List.length_append] at h5
        exact h5
      have hnil : (st.cands.take i).filter (dncT st.cs) = [] := List.eq_nil_of_length_eq_zero (by omega)
      rw [hnil] at hrv
      cases hrv
      refine isTrue_and (wpAny_isTrue_Compare1 (evTuple (wpAny_items_cons (ldL S (lk1 rfl lk0) (wpAny_items_cons (ldL S lk0 (wpAny_items_nil ⟨szl _ (by simp), _, _, _, S, fun r2 B2 s hle2 hT2 S => ?_⟩)))))))
      refine ldL S (hl2.get (x := Str.ofString "results") rfl) (notIn_listAt (fun _ => false) (S.isList 2 rfl) (fun y hy => by simp at hy) (wpAny_truthy_bool ?_))
      rw [if_pos (by simp)]
      refine isTrue_and_nil ?_
      refine wpAny_execs_cons (exAppend (ldL S (hl2.get (x := Str.ofString "results") rfl) ⟨_, _, rfl, S.lstH 2 rfl, ?_⟩))
      refine evTuple (wpAny_items_cons (ldL S (lk1 rfl lk0) (wpAny_items_cons (ldL S lk0 (wpAny_items_nil ⟨szl _ (by simp), _, _, _, S, fun r3 B3 s hle3 hT3 S => ?_⟩)))))
      refine ⟨_, _, _, 2, [], S, rfl, szl _ (by simp), fun s S => wpAny_execs_nil (wpAny_execs_nil ?_)⟩
      have hl13 := hle1.trans (hle2.trans hle3)
      refine ⟨B3, _, _, G', ⟨hl13, rfl, hl2, hlt, _, rfl, ?_⟩, S⟩
      rw [htake, List.filter_append, hnil]
      simp only [List.nil_append, List.filter_cons, hde, if_true, List.filter_nil]
      exact .cons ⟨_, _, hT3, hPm1.mono (hle2.trans hle3)⟩ .nil
  · rintro B1 l rest G' s ⟨hle1, rfl, hl, hi, rv, rfl, hrv⟩ S
    refine wpAny_execs_nil ?_
    rw [hcv.length, List.take_length] at hrv
    have hrl := hrv.length
    have hB1 := hB.mono (hle.trans hle1)
    -- results.sort(key=lambda x: x[0])
    refine wpAny_execs_cons (wpAny_Expr ?_ rfl rfl)
    refine methodCall_KW (ldL S (hl.get (x := Str.ofString "results") rfl) ?_)
    obtain ⟨mr, er⟩ := S.lstH 1 rfl
    refine getMethod_builtin (T := "list") ⟨_, er, rfl⟩ F.plainAttrs_list F.slot_list_sort F.type_list_sort (fun b e => ⟨_, by cases e; exact er, rfl⟩) ?_
    refine callWith_builtin_kwB rfl rfl (evalArgs_kw_nil rfl (kws_cons (kla_eval rfl ?_)))
    have S : St c B1 ((L, nsP l) :: (87, tabP B' qsL) :: (rs, lstP rv) :: f :: mu) G' s := S.pick [0, 7, 1, 6] 8
    refine mkLam S ((hle'.trans hle).trans hle1) hB1.hdL hB1.gm (clos := []) rfl (qual := lamQ) (pos := lamPos) (.tail _ (.head _)) (by decide) fun fl cdl ctl pml B2 s hle2 hFl S => kws_nil ?_
    refine sort1 S 2 rfl (by omega) (fun v hv mu' s B3 QQ hle3 S hQ => ?_) fun s B3 hle3 S => ?_
    · obtain ⟨j, hj⟩ := List.mem_iff_getElem?.mp hv
      obtain ⟨e, he, t, cm, hT, _⟩ := hrv.get hj
      exact lam_call (n := n) S ((hB1.mono hle2).toBas.mono hle3) ((fit.le (show n + 2 ≤ n + 4 by omega)).in1) (hFl.mono hle3) (hT.mono (hle2.trans hle3)) (by simp) fun s S => hQ _ _ S
    · have hB3 := (hB1.mono hle2).mono hle3
      have hrv3 := hrv.imp fun _ _ x => En.mono x (hle2.trans hle3)
      -- lcas = [cmt for dt, cmt in results]
      refine wpAny_execs_cons (exCompAssign (ldL S (hl.get (x := Str.ofString "results") rfl) ?_))
      refine iterLs S (S.isList 2 rfl) fun it s S => ?_
      refine ⟨_, _, _, it, rfl, S, selfL 1 rfl, fun C D s S => ?_⟩
      have S : St c B3 ((C, nsP []) :: (it, litP rs 0) :: (D, lstP []) :: (L, nsP l) :: (rs, lstP rv) :: (87, tabP B2 qsL) :: f :: mu) G' s := S.pick [0, 3, 1, 2, 5, 4] 6
      refine compLs (PySem.compTurn_list _ _ _ _ _ _ _ _ _) fit.hd (ws := rv) (fun i B4 lc rest G4 => B4 = B3 ∧ G4 = G' ∧ i ≤ rv.length ∧ ∃ dv, rest = (D, lstP dv) :: (L, nsP l) :: (rs, lstP rv) :: (87, tabP B2 qsL) :: f :: mu ∧ All2 (Pm B3) dv (((st.cands.filter (dncT st.cs)).map (·.2)).take i)) ?_ ?_ ?_ ⟨rfl, rfl, Nat.zero_le _, [], rfl, .nil⟩ S
      · rintro i B4 lc rest G4 s ⟨rfl, rfl, hi, dv, rfl, hdv⟩ S
        exact S.isList 4 rfl
      · rintro i v B4 lc rest G4 s hv ⟨rfl, rfl, hi, dv, rfl, hdv⟩ S
        obtain ⟨e, he, t, cm, hT, hPm⟩ := hrv3.get hv
        have hlt : i < rv.length := (List.getElem?_eq_some_iff.mp hv).1
        refine stPair S fit.hd hT fun s S => ?_
        refine wpAny_bind (wpAny_tests_nil ?_)
        rw [if_pos rfl]
        refine wpAny_bind (emit (ldL S lk0 ⟨_, _, _, 2, dv, S, rfl, ?_, fun s S => wpAny_pure ⟨rfl, _, _, _, _, ⟨rfl, rfl, hlt, _, rfl, ?_⟩, S⟩⟩))
        · have := hdv.length
          rw [List.length_take, List.length_map] at this
          exact szl _ (by omega)
        · rw [List.take_add_one, List.getElem?_map, he]
          exact hdv.snoc hPm
      · rintro B4 lc rest G4 s ⟨rfl, rfl, hi, dv, rfl, hdv⟩ S
        refine ⟨_, rfl, _, _, _, _, _, _, S, fun s S => ?_⟩
        refine wpAny_execs_cons (wpAny_Return_some (ldL S lk0 ?_))
        rw [hrv3.length, ← List.length_map (f := (·.2)), List.take_length] at hdv
        refine h D _ _ dv s ((hle.trans hle1).trans (hle2.trans hle3)) hG hdv ?_
        have S : St c _ (f :: (D, lstP dv) :: (87, tabP B2 qsL) :: mu) G4 s := S.pick [4, 1, 3] 5
        exact S.weak 2 rfl fun o x => x.mono hle3
end
end Mine
end

section
open PySem PySem.W PyProof.Rows PySem.Calls PySem.SeqAt
namespace Mine

section
variable {c : Cfg} {B B' B₀ : Hp} {mu mu' : Mo} {G : Array GenState} {s : Shared} {A : Around} {E : Value → Shared → Prop} {env : Env} {L ce ca d fh w pq fp fg lp it l2 cd cd1 cd2 : Addr} {f : Addr × (Obj → Prop)} {n : Nat} {v v1 v2 : Value}
  {m fl : Int} {tm tf t1 t2 t4 t8 : Tok} {l l0 : List (Str × Value)} {ct dc pm ct1 dc1 pm1 ct2 dc2 pm2 : Value} {pv cv : List Value} {st stf : LS} {p1 p2 : List Int} {res : List (List Int)}

set_option maxHeartbeats 4000000 in
theorem lcas_body {Q : Flow → Shared → Prop} (hB : BasL B) (hG : AllBare G) (fit : Fit (n + 8) A) (hle : Le B₀ B) (hP : FnAt B fp (fdPar cd1 ct1 dc1 pm1)) (hA : FnAt B fg (fdAge cd2 ct2 dc2 pm2)) (h1 : Pm B v1 p1) (h2 : Pm B v2 p2) (hl1 : p1.length = 4) (hl2 : p2.length = 4)
    (hl0 : AllLk l0 [(Str.ofString "lookup_parents", .ref fp), (Str.ofString "c1", v1), (Str.ofString "c2s", .ref l2), (Str.ofString "lookup_stamp", .ref fg), (Str.ofString "min_stamp", .int m tm), (Str.ofString "shallows", .none)])
    (hrun : lcasP m p1 p2 = some res) (hres : res.length ≤ 1)
    (S : St c B ((L, nsP l0) :: (L + 1, celP none) :: f :: (87, tabP B₀ qsL) :: (l2, lstP [v2]) :: mu) G s)
    (h : ∀ D B' G' ws s', Le B B' → AllBare G' → All2 (Pm B') ws res → St c B' (f :: (D, lstP ws) :: (87, tabP B' qsL) :: mu) G' s' → Q (.ret (.ref D)) s') :
    wpAny (model PP c.w) A (execs (dBody (topS 3)) (envC fdLcas L 90)) Q E s := by
  show wpAny _ _ (execs (lcS 0 :: lcS 1 :: lcS 2 :: lcS 3 :: lcS 4 :: lcS 5 :: lcS 6 :: lcS 7 :: lcS 8 :: lcS 9 :: lcS 10 :: [lcS 11, lcS 12, lcS 13, lcS 14, lcS 15, lcS 16]) (envC fdLcas L 90)) _ _ _
  refine lcas_init hB fit hle hP hA h1 h2 hl1 hl2 hl0 S fun B1 s ca d fh w pq cd ct doc pm t1 t2 t4 t8 pv hle1 hF hw hpv S => ?_
  unfold lcasP at hrun
  cases hr : runP m 60 (initP p1 p2) with
  | none => rw [hr] at hrun; cases hrun
  | some st =>
    rw [hr] at hrun
    dsimp only at hrun
    split at hrun
    · rename_i hall
      cases hrun
      have hB1 := hB.mono hle1
      have S : St c B1 ((L, nsP (lcN fp fg m tm t1 t2 t8 ca d fh w)) :: (d, dctP d c.w B1 (initP p1 p2).cs) :: (pq, lstP pv) :: (ca, lstP []) :: (L + 1, celP (some (.int 4 t4))) :: f :: (87, tabP B1 qsL) :: mu) G s := S.pick [0, 3, 4, 2, 1] 5
      refine wpAny_execs_cons (wpAny_While ?_)
      refine while_walk (n := n) hB1.toBas (fit.le (show n + 4 ≤ n + 8 by omega)) (hP.mono hle1) (hA.mono hle1) hw hF hr ⟨B1, _, pv, [], G, Le.refl _, hG, ⟨rfl, rfl, rfl, rfl, rfl, rfl, rfl, rfl, rfl, rfl, rfl, trivial⟩, hpv, .nil, S⟩ fun s hI => ?_
      refine lcas_tail (n := n) hB1 (fit.le (show n + 4 ≤ n + 8 by omega)) (by simpa using hres) (fun e he => ?_) hI (Le.refl _) fun D B2 G2 ws s hle2 hG2 hws S => h D B2 G2 ws s (hle1.trans hle2) hG2 hws S
      have := List.all_eq_true.mp hall e he
      exact Option.isSome_iff_exists.mp this
    · cases hrun

set_option maxHeartbeats 4000000 in
theorem lcas_call0 {Q : Value → Shared → Prop} (S : St c B (f :: (87, tabP B₀ qsL) :: (l2, lstP [v2]) :: mu) G s) (hB : BasL B) (hG : AllBare G) (fit : Fit (n + 9) A) (hle : Le B₀ B) (hP : FnAt B fp (fdPar cd1 ct1 dc1 pm1)) (hA : FnAt B fg (fdAge cd2 ct2 dc2 pm2)) (h1 : Pm B v1 p1) (h2 : Pm B v2 p2)
    (hl1 : p1.length = 4) (hl2 : p2.length = 4) (hrun : lcasP 0 p1 p2 = some res) (hres : res.length ≤ 1)
    (h : ∀ D B' G' ws s', Le B B' → AllBare G' → All2 (Pm B') ws res → St c B' (f :: (D, lstP ws) :: (87, tabP B' qsL) :: mu) G' s' → Q (.ref D) s') :
    wpAny (model PP c.w) A (call (.ref 90) [.ref fp, v1, .ref l2, .ref fg] [(Str.ofString "shallows", .none)]) Q E s := by
  refine wpAny_call (callFnC' S hB.lcas hB.lim fit rfl (binds := [(Str.ofString "lookup_parents", .ref fp), (Str.ofString "c1", v1), (Str.ofString "c2s", .ref l2), (Str.ofString "lookup_stamp", .ref fg), (Str.ofString "min_stamp", .int 0 381), (Str.ofString "shallows", .none)]) (fun {Q E} hq => ?_) rfl rfl (by decide)
    [(Str.ofString "lookup_parents", .ref fp), (Str.ofString "c1", v1), (Str.ofString "c2s", .ref l2), (Str.ofString "lookup_stamp", .ref fg), (Str.ofString "min_stamp", .int 0 381), (Str.ofString "shallows", .none)] (fun L => AllM.look ⟨rfl, rfl, rfl, rfl, rfl, rfl, trivial⟩) fun L s A fit S => ?_)
  · obtain ⟨od, nd, ed, hdd⟩ := hB.dflt
    show wpAny _ _ (seqItems? (.ref 85) >>= _) _ _ _
    refine wpAny_bind (wpAny_seqItems (S.base _ _ ed) hdd ?_)
    exact wpAny_pure hq
  · have S : St c B ((L, nsP [(Str.ofString "lookup_parents", .ref fp), (Str.ofString "c1", v1), (Str.ofString "c2s", .ref l2), (Str.ofString "lookup_stamp", .ref fg), (Str.ofString "min_stamp", .int 0 381), (Str.ofString "shallows", .none)]) :: (L + 1, celP none) :: f :: (87, tabP B₀ qsL) :: (l2, lstP [v2]) :: mu) G s := S
    exact lcas_body hB hG fit hle hP hA h1 h2 hl1 hl2 ⟨rfl, rfl, rfl, rfl, rfl, rfl, trivial⟩ hrun hres S fun D B' G' ws s' hle hG hws S => h D B' G' ws s' hle hG hws S
set_option maxHeartbeats 4000000 in
theorem lcas_call1 {Q : Value → Shared → Prop} (S : St c B (f :: (87, tabP B₀ qsL) :: (l2, lstP [v2]) :: mu) G s) (hB : BasL B) (hG : AllBare G) (fit : Fit (n + 9) A) (hle : Le B₀ B) (hP : FnAt B fp (fdPar cd1 ct1 dc1 pm1)) (hA : FnAt B fg (fdAge cd2 ct2 dc2 pm2)) (h1 : Pm B v1 p1) (h2 : Pm B v2 p2)
    (hl1 : p1.length = 4) (hl2 : p2.length = 4) (hrun : lcasP m p1 p2 = some res) (hres : res.length ≤ 1)
    (h : ∀ D B' G' ws s', Le B B' → AllBare G' → All2 (Pm B') ws res → St c B' (f :: (D, lstP ws) :: (87, tabP B' qsL) :: mu) G' s' → Q (.ref D) s') :
    wpAny (model PP c.w) A (call (.ref 90) [.ref fp, v1, .ref l2, .ref fg] [(Str.ofString "min_stamp", .int m tm), (Str.ofString "shallows", .none)]) Q E s := by
  refine wpAny_call (callFnC' S hB.lcas hB.lim fit rfl (binds := [(Str.ofString "lookup_parents", .ref fp), (Str.ofString "c1", v1), (Str.ofString "c2s", .ref l2), (Str.ofString "lookup_stamp", .ref fg), (Str.ofString "min_stamp", .int m tm), (Str.ofString "shallows", .none)]) (fun {Q E} hq => ?_) rfl rfl (by decide)
    [(Str.ofString "lookup_parents", .ref fp), (Str.ofString "c1", v1), (Str.ofString "c2s", .ref l2), (Str.ofString "lookup_stamp", .ref fg), (Str.ofString "min_stamp", .int m tm), (Str.ofString "shallows", .none)] (fun L => AllM.look ⟨rfl, rfl, rfl, rfl, rfl, rfl, trivial⟩) fun L s A fit S => ?_)
  · obtain ⟨od, nd, ed, hdd⟩ := hB.dflt
    show wpAny _ _ (seqItems? (.ref 85) >>= _) _ _ _
    refine wpAny_bind (wpAny_seqItems (S.base _ _ ed) hdd ?_)
    exact wpAny_pure hq
  · have S : St c B ((L, nsP [(Str.ofString "lookup_parents", .ref fp), (Str.ofString "c1", v1), (Str.ofString "c2s", .ref l2), (Str.ofString "lookup_stamp", .ref fg), (Str.ofString "min_stamp", .int m tm), (Str.ofString "shallows", .none)]) :: (L + 1, celP none) :: f :: (87, tabP B₀ qsL) :: (l2, lstP [v2]) :: mu) G s := S
    exact lcas_body hB hG fit hle hP hA h1 h2 hl1 hl2 ⟨rfl, rfl, rfl, rfl, rfl, rfl, trivial⟩ hrun hres S fun D B' G' ws s' hle hG hws S => h D B' G' ws s' hle hG hws S
end
end Mine
end

section
open PySem PySem.W PyProof.Rows PySem.Calls PySem.SeqAt
namespace Mine

def mergeP (p1 p2 : List Int) : Option (List (List Int)) := if p1 = p2 then some [p1] else lcasP 0 p1 p2
def fastP (p1 p2 : List Int) : Option Bool := if p1 = p2 then some true else (lcasP (ageP p1) p1 p2).map fun r => decide (r = [p1])

section
variable {c : Cfg} {B B' B₀ : Hp} {mu mu' : Mo} {G : Array GenState} {s : Shared} {A : Around} {E : Value → Shared → Prop} {env : Env} {L li fp fg l2 cd1 cd2 : Addr} {f : Addr × (Obj → Prop)} {n : Nat} {v v1 v2 : Value}
  {ct1 dc1 pm1 ct2 dc2 pm2 : Value} {p1 p2 : List Int} {res : List (List Int)} {pos : Pos}

theorem evCallFK {fn : Str} {p : Pos} {a : Expr} {args : List Expr} {kws : List Keyword} {Q : Value → Shared → Prop}
    (h : wpAny (model PP c.w) A (eval (.Name fn p) env) (fun v s₁ => ∃ fa o fd, v = .ref fa ∧ o.data = .func fd ∧ wpAny (model PP c.w) A (spliced (backTo pos (starEach (a :: args) env))) (fun vs s₂ =>
      wpAny (model PP c.w) A (evalAll ((backToKw pos (keywordEach kws env)).map (·.2))) (fun kvs s₃ => s₃.heap.get? fa = some o ∧ wpAny (model PP c.w) A (call (.ref fa) vs (((backToKw pos (keywordEach kws env)).filterMap (·.1)).zip kvs)) Q E s₃) E s₂) E s₁) E s)
    (he : starEach (a :: args) env = (false, eval a env) :: starEach args env := by rfl) (hall : (backToKw pos (keywordEach kws env)).all (·.1.isSome) = true := by rfl) :
    wpAny (model PP c.w) A (eval (.Call (.Name fn p) (a :: args) kws pos) env) Q E s := by
  rw [arm_eval_Call_Name']
  refine wpAny_bind (wpAny_mono h (fun v s₁ h₁ => ?_) fun _ _ x => x)
  obtain ⟨fa, o, fd, rfl, hd, h₁⟩ := h₁
  refine callWith_function_kw (o := o) (fd := fd) ?_
  rw [he] at h₁ ⊢
  exact evalArgs_kwB hall (wpAny_mono h₁ (fun vs s₂ h₂ => wpAny_mono h₂ (fun ks s₃ h₃ => ⟨⟨h₃.1, hd⟩, h₃.2⟩) fun _ _ x => x) fun _ _ x => x)

set_option maxHeartbeats 4000000 in
theorem merge_spec {Q : Value → Shared → Prop} (S : St c B (f :: (87, tabP B₀ qsL) :: (li, lstP [v1, v2]) :: mu) G s) (hB : BasL B) (hG : AllBare G) (fit : Fit (n + 10) A) (hle : Le B₀ B) (hP : FnAt B fp (fdPar cd1 ct1 dc1 pm1)) (hA : FnAt B fg (fdAge cd2 ct2 dc2 pm2)) (h1 : Pm B v1 p1) (h2 : Pm B v2 p2)
    (hl1 : p1.length = 4) (hl2 : p2.length = 4) (hrun : mergeP p1 p2 = some res) (hres : res.length ≤ 1)
    (h : ∀ D B' G' ws s', Le B B' → AllBare G' → All2 (Pm B') ws res → St c B' (f :: (D, lstP ws) :: (87, tabP B' qsL) :: mu) G' s' → Q (.ref D) s') :
    wpAny (model PP c.w) A (call (.ref 97) [.ref fp, .ref fg, .none, .ref li] []) Q E s := by
  refine wpAny_call (callFn S hB.merge hB.lim fit rfl (binds := [(Str.ofString "lookup_parents", .ref fp), (Str.ofString "lookup_stamp", .ref fg), (Str.ofString "shallows", .none), (Str.ofString "commit_ids", .ref li)]) rfl rfl fun L s A fit S => ?_)
  have hl64 := fit.line64
  have hlt : ((2 : Nat) : Int) < 2 ^ 63 := by decide
  -- if not commit_ids
  refine wpAny_execs_cons (wpAny_If (isTrue_not (isTrue_plain (ldL S rfl (wpAny_truthy_list (S.isList 3 rfl) hlt ?_)))))
  rw [if_neg (by simp)]
  refine wpAny_execs_nil ?_
  have S := S.toks (s.toks + 1 + 1)
  -- c1 = commit_ids[0]
  refine wpAny_execs_cons (wpAny_Assign_Name (Subscript_ (ldL S rfl (cInt S fun t0 s S => subLs (S.isList 3 rfl) (by omega) (y := v1) rfl (stLn S fun s S => ?_)))))
  -- if not len(commit_ids) > 1
  refine wpAny_execs_cons (wpAny_If (isTrue_not (wpAny_isTrue_Compare1 (evCallB (ldB S hB.nLen hB.bLen ⟨_, rfl, wpAny_items_cons (ldL S rfl (wpAny_items_nil ?_))⟩)))))
  refine lenLs S (S.isList 3 rfl) (fun tl s S => cInt S fun t1 s S => P.gt_int (wpAny_truthy_bool ?_)) hlt
  rw [if_neg (by simp)]
  refine wpAny_execs_nil ?_
  -- c2s = list(commit_ids[1:])
  refine wpAny_execs_cons (wpAny_Assign_Name (evCallT (ldB S hB.nList hB.bList ⟨_, rfl, wpAny_items_cons (sliceLs (ldL S rfl ?_))⟩)))
  show wpAny _ _ (eval _ _) _ _ _
  refine cInt S fun t2 s S => wpAny_pure ⟨_, _, _, _, _, _, _, _, rfl, S, S.isList 3 rfl, szl _ (by simp), .int _ _, .none, fun sl s S => wpAny_items_nil ?_⟩
  have hsp : (slicePick ([v1, v2] : List Value).toArray (some 1) none none).toList = [v2] := by
    rw [show (1 : Int) = ((1 : Nat) : Int) from rfl, slicePick_from']; rfl
  rw [hsp] at S
  refine listOfL S 1 rfl (szl _ (by simp)) fun l2 s S => ?_
  refine stLn S fun s S => ?_
  -- if c1 in c2s
  refine wpAny_execs_cons (wpAny_If (wpAny_isTrue_Compare1 (ldL S rfl (ldL S rfl ?_))))
  refine in_listAt (fun _ => decide (p2 = p1)) (S.isList 1 rfl) (fun y hy => ?_) (wpAny_truthy_bool ?_)
  · have : y = v2 := by simpa using hy
    subst this
    exact eqAt_pm S h2 h1 (by show A.units + 1 < _; omega)
  unfold mergeP at hrun
  by_cases he : p1 = p2
  · rw [if_pos he] at hrun
    cases hrun
    rw [if_pos (by simp [he])]
    refine wpAny_execs_cons (wpAny_Return_some (evList (wpAny_items_cons (ldL S rfl (wpAny_items_nil ⟨szl _ (by simp), _, _, _, _, S, fun D s S => ?_⟩)))))
    have S : St c B (f :: (D, lstP [v1]) :: (87, tabP B₀ qsL) :: mu) G s := S.pick [4, 1, 5] 7
    exact h D B G [v1] s (Le.refl _) hG (.cons h1 .nil) (S.weak 2 rfl fun o x => x.mono hle)
  · rw [if_neg he] at hrun
    rw [if_neg (by simp; exact fun q => he q.symm)]
    refine wpAny_execs_nil ?_
    -- lcas = _find_lcas(..)
    have S : St c B ((L, nsP ((Str.ofString "c2s", .ref l2) :: (Str.ofString "c1", v1) :: [(Str.ofString "lookup_parents", .ref fp), (Str.ofString "lookup_stamp", .ref fg), (Str.ofString "shallows", .none), (Str.ofString "commit_ids", .ref li)].reverse)) :: (87, tabP B₀ qsL) :: (l2, lstP [v2]) :: f :: mu) G s := S.pick [0, 4, 1, 3] 6
    obtain ⟨⟨og, eg, hdg⟩, _⟩ := id hB.lcas
    refine wpAny_execs_cons (wpAny_Assign_Name (evCallFK (ldG S hB.gLcas ⟨90, og, _, rfl, hdg, ?_⟩)))
    refine wpAny_items_cons (ldL S rfl (wpAny_items_cons (ldL S rfl (wpAny_items_cons (ldL S rfl (wpAny_items_cons (ldL S rfl (wpAny_items_nil ?_))))))))
    refine kws_cons (ldL S rfl (kws_nil ⟨S.base _ _ eg, ?_⟩))
    refine lcas_call0 (n := n) S hB hG fit hle hP hA h1 h2 hl1 hl2 hrun hres fun D B' G' ws s hle' hG' hws S => ?_
    refine stLn S fun s S => ?_
    refine wpAny_execs_cons (wpAny_Return_some (ldL S rfl ?_))
    exact h D B' G' ws s hle' hG' hws (S.pick [3, 1, 2] 4)
end
end Mine
end

section
open PySem PySem.W PyProof.Rows PySem.Calls PySem.SeqAt
namespace Mine

section
variable {c : Cfg} {B B' B₀ : Hp} {mu mu' : Mo} {G : Array GenState} {s : Shared} {A : Around} {E : Value → Shared → Prop} {env : Env} {L li fp fg l2 cd1 cd2 : Addr} {f : Addr × (Obj → Prop)} {n : Nat} {v w v1 v2 : Value}
  {ct1 dc1 pm1 ct2 dc2 pm2 : Value} {p q p1 p2 : List Int} {res : List (List Int)} {pos : Pos} {bo : Bool}

theorem eqC_pm {Q : Value → Shared → Prop} (S : St c B mu G s) (hv : Pm B v p) (hw : Pm B w q) (hu : A.units < cLine) (h : Q (.bool (decide (p = q))) s) : wpAny (model PP c.w) A (compareOp .Eq v w) Q E s := by
  obtain ⟨a, rfl, ha⟩ := S.tkey c.w hv
  obtain ⟨b, rfl, hb⟩ := S.tkey c.w hw
  show wpAny _ _ (richCompare .Eq (.ref a) (.ref b)) _ _ _
  exact wpAny_richCompare_same_room (op := .Eq) ha.typeIs hb.typeIs F.slot_tuple_eq (wpAny_call_entry F.slot_tuple_eq ha.typeIs F.entry_tuple_eq (tuple_eq_tree ha hb ⟨_, rfl, (fun e => nomatch e), h⟩) (F.args_tuple_eq_2 _ _)) hu

set_option maxHeartbeats 4000000 in
theorem fast_spec {Q : Value → Shared → Prop} (S : St c B (f :: (87, tabP B₀ qsL) :: mu) G s) (hB : BasL B) (hG : AllBare G) (fit : Fit (n + 10) A) (hle : Le B₀ B) (hP : FnAt B fp (fdPar cd1 ct1 dc1 pm1)) (hA : FnAt B fg (fdAge cd2 ct2 dc2 pm2)) (h1 : Pm B v1 p1) (h2 : Pm B v2 p2)
    (hl1 : p1.length = 4) (hl2 : p2.length = 4) (hrun : fastP p1 p2 = some bo) (hres : ∀ r, lcasP (ageP p1) p1 p2 = some r → p1 ≠ p2 → r.length ≤ 1)
    (h : ∀ B' G' s', Le B B' → AllBare G' → St c B' (f :: (87, tabP B' qsL) :: mu) G' s' → Q (.bool bo) s') :
    wpAny (model PP c.w) A (call (.ref 104) [.ref fp, .ref fg, .none, v1, v2] []) Q E s := by
  refine wpAny_call (callFn S hB.fast hB.lim fit rfl (binds := [(Str.ofString "lookup_parents", .ref fp), (Str.ofString "lookup_stamp", .ref fg), (Str.ofString "shallows", .none), (Str.ofString "c1", v1), (Str.ofString "c2", v2)]) rfl rfl fun L s A fit S => ?_)
  have hl64 := fit.line64
  -- if c1 == c2
  refine wpAny_execs_cons (wpAny_If (wpAny_isTrue_Compare1 (ldL S rfl (ldL S rfl (eqC_pm S h1 h2 (by omega) (wpAny_truthy_bool ?_))))))
  unfold fastP at hrun
  by_cases he : p1 = p2
  · rw [if_pos he] at hrun
    cases hrun
    rw [if_pos (by simp [he])]
    refine wpAny_execs_cons (wpAny_Return_some (Constant_bool ?_))
    exact h B G s (Le.refl _) hG ((S.pick [1, 2] 3).weak 1 rfl fun o x => x.mono hle)
  · rw [if_neg he] at hrun
    rw [if_neg (by simp [he])]
    refine wpAny_execs_nil ?_
    -- min_stamp = lookup_stamp(c1)
    obtain ⟨⟨og, eg, hdg⟩, _⟩ := id hA
    refine wpAny_execs_cons (wpAny_Try_except (wpAny_execs_cons (wpAny_Assign_Name (evCallF (ldL S rfl ⟨fg, og, _, rfl, hdg, wpAny_items_cons (ldL S rfl (wpAny_items_nil ⟨S.base _ _ eg, ?_⟩))⟩)))))
    refine age_spec S hB.toBas (n := n) (fit.le (show n + 2 ≤ n + 9 by omega)) hA h1 (by omega) fun tg B1 s hle1 S => ?_
    refine stLn S fun s S => wpAny_execs_nil (wpAny_execs_nil ?_)
    have hB1 := hB.mono hle1
    -- lcas = _find_lcas(..)
    obtain ⟨r, hr, hbo⟩ := Option.map_eq_some_iff.mp hrun
    have hr1 := hres r hr he
    obtain ⟨⟨ol, el, hdl⟩, _⟩ := id hB1.lcas
    refine wpAny_execs_cons (wpAny_Assign_Name (evCallFK (ldG S hB1.gLcas ⟨90, ol, _, rfl, hdl, ?_⟩)))
    refine wpAny_items_cons (ldL S rfl (wpAny_items_cons (ldL S rfl (wpAny_items_cons (evList (wpAny_items_cons (ldL S rfl (wpAny_items_nil ⟨szl _ (by simp), _, _, _, _, S, fun l2 s S => wpAny_items_cons (ldL S rfl (wpAny_items_nil ?_))⟩))))))))
    refine kws_cons (ldL S rfl (kws_cons (ldL S rfl (kws_nil ⟨S.base _ _ el, ?_⟩))))
    have S : St c B1 ((L, nsP ((Str.ofString "min_stamp", .int (ageP p1) tg) :: [(Str.ofString "lookup_parents", .ref fp), (Str.ofString "lookup_stamp", .ref fg), (Str.ofString "shallows", .none), (Str.ofString "c1", v1), (Str.ofString "c2", v2)].reverse)) :: (87, tabP B₀ qsL) :: (l2, lstP [v2]) :: f :: mu) G s := S.pick [0, 3, 1, 2] 4
    refine lcas_call1 (n := n) S hB1 hG fit (hle.trans hle1) (hP.mono hle1) (hA.mono hle1) (h1.mono hle1) (h2.mono hle1) hl1 hl2 hr hr1 fun D B2 G2 ws s hle2 hG2 hws S => ?_
    refine stLn S fun s S => ?_
    -- return lcas == [c1]
    refine wpAny_execs_cons (wpAny_Return_some (wpAny_Compare1 (ldL S rfl (evList (wpAny_items_cons (ldL S rfl (wpAny_items_nil ⟨szl _ (by simp), _, _, _, _, S, fun l3 s S => ?_⟩)))))))
    have fin : ∀ s, St c B2 ((L, nsP ((Str.ofString "lcas", .ref D) :: (Str.ofString "min_stamp", .int (ageP p1) tg) :: [(Str.ofString "lookup_parents", .ref fp), (Str.ofString "lookup_stamp", .ref fg), (Str.ofString "shallows", .none), (Str.ofString "c1", v1), (Str.ofString "c2", v2)].reverse)) :: (l3, lstP [v1]) :: (D, lstP ws) :: (87, tabP B2 qsL) :: f :: mu) G2 s → Q (.bool bo) s :=
      fun s S => h B2 G2 s (hle1.trans hle2) hG2 (S.pick [4, 3] 5)
    cases hws with
    | nil =>
      refine eq_list_lengthsAt (S.isList 2 rfl) (S.isList 1 rfl) (by simp) (by omega) ?_
      have := fin s S
      rw [← hbo] at this
      simpa using this
    | @cons x y ws ys hx hrest =>
      cases hrest with
      | nil =>
        refine eq_listAt (e := fun _ => decide (y = p1)) (S.isList 2 rfl) (S.isList 1 rfl) (by simp) (by omega) (fun j hj1 hj2 => ?_) ?_
        · have hj0 : j = 0 := by simp at hj1; omega
          subst hj0
          exact eqAt_pm S hx (h1.mono (hle1.trans hle2)) (by show A.units + 1 < _; omega)
        · have := fin s S
          rw [← hbo] at this
          simpa using this
      | cons _ _ => simp at hr1
end
end Mine
end

section
open PySem PySem.W PyProof.Rows PySem.Calls PySem.SeqAt
namespace Mine

def runB {α : Type} (n : Nat) (cmp : Nat → Nat → Bool) : KasT α → Option α
  | .ret a => some a
  | .ask i j k => if i < n ∧ j < n then runB n cmp (k (cmp i j)) else none
theorem runB_wp {α : Type} {n : Nat} {cmp : Nat → Nat → Bool} {ask : Nat → Nat → (Bool → Shared → Prop) → Shared → Prop} {Q : α → Shared → Prop} {s : Shared} (h : ∀ i j C, i < n → j < n → C (cmp i j) s → ask i j C s) :
    ∀ (t : KasT α) (a : α), runB n cmp t = some a → Q a s → t.kasWp ask Q s
  | .ret b, a, e, hq => by cases e; exact hq
  | .ask i j k, a, e, hq => by
    unfold runB at e
    split at e
    · rename_i hij
      exact h i j _ hij.1 hij.2 (runB_wp h (k (cmp i j)) a e hq)
    · cases e
def sortQ (ps : List (List Int)) : Option (List (List Int)) :=
  if ps.length < 2 then some ps else match runB ps.length (fun i j => ltP (ps.getD i []) (ps.getD j [])) (kas_sort ps.length) with
    | some p => if p.toList.all (fun i => decide (i < ps.length)) = true then some (p.toList.map fun i => ps.getD i []) else none
    | none => none

section
variable {c : Cfg} {B B' B₀ : Hp} {mu mu' : Mo} {G : Array GenState} {s : Shared} {A : Around} {E : Value → Shared → Prop} {env : Env} {L a b : Addr} {f : Addr × (Obj → Prop)} {n : Nat} {v w : Value} {vs ws : List Value}
  {p q : List Int} {ps out : List (List Int)} {pos : Pos}

theorem katLex_ints {w : World} {Q : Bool → Shared → Prop} (hp : IntsAre vs p) : ∀ {ws : List Value} {q : List Int} {i : Nat} {fin : Bool}, IntsAre ws q → fin = decide (vs.length < ws.length) → Q (ltP p q) s → KatLex PP w A true fin Q (vs.zip ws) i s := by
  induction hp with
  | nil =>
    intro ws q i fin hq hf h
    cases hq with
    | nil => subst hf; exact kat_nil h
    | cons m u r => subst hf; exact kat_nil (by simpa [ltP] using h)
  | cons m t r ih =>
    intro ws q i fin hq hf h
    cases hq with
    | nil => subst hf; exact kat_nil (by simpa [ltP] using h)
    | cons m2 u r2 =>
      rw [List.zip_cons_cons]
      refine kat_cons (wpAny_eqBool_int ?_)
      unfold ltP at h
      by_cases e : m = m2
      · rw [beq_iff_eq.mpr e]
        rw [if_pos e] at h
        exact kat_yes (ih r2 (by simpa using hf) h)
      · rw [beq_eq_false_iff_ne.mpr e]
        rw [if_neg e] at h
        refine kat_no ?_
        cases hi : (i == 0) with
        | true => exact oneLt_int h
        | false => exact kat_one _ _ (P.lt_int h)

theorem keyLt_pm {Q : Bool → Shared → Prop} (S : St c B mu G s) (hv : Pm B v p) (hw : Pm B w q) (h : Q (ltP p q) s) : wpAny (model PP c.w) A (keyLt' (tuples' true) v w) Q E s := by
  obtain ⟨vs, ⟨a, rfl, ea⟩, ia⟩ := hv
  obtain ⟨ws, ⟨b, rfl, eb⟩, ib⟩ := hw
  exact kat_lt (S.base _ _ ea) rfl (S.base _ _ eb) rfl (katLex_ints ia ib (by simp) h)

theorem katTups_pm (S : St c B mu G s) (h : All2 (Pm B) vs ps) (hne : ∀ p ∈ ps, p ≠ []) : ∃ fs, KatTups s.heap vs fs ∧ fs.length = vs.length ∧ ∀ v ∈ fs, ∃ n t, v = Value.int n t := by
  induction h with
  | nil => exact ⟨[], .nil, rfl, fun v hv => by cases hv⟩
  | @cons x y l m hx hr ih =>
    obtain ⟨fs, h1, h2, h3⟩ := ih fun p hp => hne p (.tail _ hp)
    obtain ⟨us, ⟨a, rfl, e⟩, hi⟩ := hx
    cases hi with
    | nil => exact absurd rfl (hne _ (.head _))
    | @cons n t us ns r =>
      refine ⟨.int n t :: fs, .cons (S.base _ _ e) rfl rfl rfl h1, by simp [h2], fun v hv => ?_⟩
      rcases List.mem_cons.mp hv with rfl | hv
      · exact ⟨_, _, rfl⟩
      · exact h3 v hv

theorem all2_pick {vs : List Value} {ps : List (List Int)} (h : All2 (Pm B) vs ps) : ∀ (is : List Nat), (∀ i ∈ is, i < ps.length) → All2 (Pm B) (is.map fun i => vs.getD i Value.none) (is.map fun i => ps.getD i [])
  | [], _ => .nil
  | i :: r, hi => by
    have hlt : i < vs.length := by rw [h.length]; exact hi i (.head _)
    obtain ⟨q, hq, hx⟩ := h.get (List.getElem?_eq_getElem hlt)
    refine .cons ?_ (all2_pick h r fun j hj => hi j (.tail _ hj))
    show Pm B (vs.getD i Value.none) (ps.getD i [])
    rw [getD_of hq, getD_of (List.getElem?_eq_getElem hlt)]
    exact hx

theorem sortL {Q : Value → Shared → Prop} (S : St c B mu G s) (i : Nat) (hi : mu[i]? = some (a, lstP vs)) (hv : All2 (Pm B) vs ps) (hne : ∀ p ∈ ps, p ≠ []) (h64 : ps.length < 64) (hq : sortQ ps = some out)
    (h : ∀ ws s', All2 (Pm B) ws out → St c B (mu.set i (a, lstP ws)) G s' → Q .none s') :
    wpAny (model PP c.w) A (call (.builtin "list.sort") [.ref a] []) Q E s := by
  have hl := S.isList i hi
  have hil : i < mu.length := (List.getElem?_eq_some_iff.mp hi).1
  have hlen := hv.length
  refine wpAny_call_entry_kw slot_list_sort hl.typeIs entry_list_sort ?_ (args_list_sort _)
  rw [list_sort_plain]
  obtain ⟨m, e⟩ := S.lstH i hi
  refine wpAny_bind ?_
  show wpAny _ _ (seqItems? (.ref a) >>= _) _ _ _
  refine wpAny_bind (wpAny_seqItems e rfl (wpAny_pure ?_))
  refine wpAny_bind ?_
  show wpAny _ _ (updateSeq a _) _ _ _
  refine updSeq S i hi (szl _ (by omega)) (by simp) fun s S => ?_
  obtain ⟨o, ⟨m', rfl⟩, S⟩ := S.exact i (by rw [List.getElem?_set_self hil])
  rw [List.set_set] at S
  have hia : (mu.set i (a, fun x : Obj => x = { cls := .type "list", data := .seq (#[] : Array Value) m' }))[i]? = some (a, fun x : Obj => x = { cls := .type "list", data := .seq (#[] : Array Value) m' }) := List.getElem?_set_self hil
  generalize hmu : mu.set i (a, fun x : Obj => x = { cls := .type "list", data := .seq (#[] : Array Value) m' }) = mu1 at S hia
  obtain ⟨oa, ea, rfl⟩ := S.get i hia
  refine wpAny_bind ?_
  unfold seqEpoch
  refine wpAny_bind (wpAny_load ea (wpAny_pure ?_))
  refine wpAny_bind (wpAny_newTuple ?_ (by simp; exact szl _ (by omega)))
  have S1 := S.keep0 (h' := s.heap.push { cls := .type "tuple", data := .seq vs.toArray.toList.toArray }) fun b o q => Heap.get?_push_of_some _ q
  refine wpAny_bind (wpAny_newList ?_ (szl _ (by simp)))
  have S2 := S1.keep0 (h' := (s.heap.push { cls := .type "tuple", data := .seq vs.toArray.toList.toArray }).push { cls := .type "list", data := .seq ([] : List Value).toArray }) fun b o q => Heap.get?_push_of_some _ q
  refine wpAny_holding ?_
  generalize (s.heap.push { cls := .type "tuple", data := .seq vs.toArray.toList.toArray }).push { cls := .type "list", data := .seq ([] : List Value).toArray } = h2 at S2 ⊢
  unfold sortQ at hq
  by_cases h2 : ps.length < 2
  · rw [if_pos h2] at hq
    cases hq
    have hlt : vs.toArray.size < 2 := by simp; omega
    simp only [if_pos hlt]
    refine wpAny_bind (wpAny_pure (wpAny_bind (wpAny_pure ?_)))
    obtain ⟨ov, hov0⟩ : ∃ ov, ov = vs := ⟨_, rfl⟩
    have S := S2
    have hov : All2 (Pm B) ov ps := by rw [hov0]; exact hv
    have hol : ov.length ≤ 100 := by rw [hov0]; omega
    obtain ⟨st, hst⟩ : ∃ st, st = SortSt.mk' general' (vs.toArray.zip vs.toArray) #[] 7 none := ⟨_, rfl⟩
    have harr : (arrOf st).map (·.2) = List.toArray ov := by
      rw [hst, hov0]
      show (vs.toArray.zip vs.toArray).map (·.2) = vs.toArray
      apply Array.toList_inj.mp
      simp [List.map_snd_zip]
    have hf : failedOf st = none := hst ▸ rfl
    rw [← hst]
    dsimp only
    rw [harr, hf]
    obtain ⟨oa, ea, rfl⟩ := S.get i hia
    refine wpAny_bind (wpAny_bind (wpAny_load ea (wpAny_pure ?_)))
    simp only [bne_self_eq_false, Bool.false_eq_true, if_false]
    refine wpAny_bind ?_
    show wpAny _ _ (updateSeq a _) _ _ _
    have S5 := S.weak i hia (k' := lstP []) fun o e => ⟨m', e⟩
    rw [← hmu, List.set_set] at S5
    refine updSeq S5 i (by rw [List.getElem?_set_self hil]) (szl _ (by simp)) (by simp; exact Nat.le_trans (szl _ hol) (Nat.le_succ _)) fun s S => ?_
    rw [List.set_set, List.toList_toArray] at S
    exact wpAny_pure ⟨_, rfl, h ov _ hov S⟩
  · rw [if_neg h2] at hq
    have hlt : ¬ vs.toArray.size < 2 := by rw [List.size_toArray]; omega
    simp only [if_neg hlt]
    obtain ⟨fs, k1, k2, k3⟩ := katTups_pm S2 hv hne
    refine wpAny_bind (kat_kind (T := .type "int") k1 (by omega) (fun v hv => ?_) (by decide) ?_)
    · obtain ⟨n, t, rfl⟩ := k3 v hv
      exact Looks.of_pure rfl
    split at hq
    · rename_i p hrun
      split at hq
      · rename_i hall
        cases hq
        refine wpAny_bind (wpAny_mono (Q := fun r s' => ∃ ov, (arrOf r.2).map (·.2) = List.toArray ov ∧ failedOf r.2 = none ∧ All2 (Pm B) ov (p.toList.map fun i => ps.getD i []) ∧ ov.length ≤ 100 ∧ St c B mu1 G s') (E := fun _ _ => False) ?_ (fun r s' hr => ?_) fun _ _ x => x.elim)
        · refine kat_run (E := fun _ _ => False) (Q := fun st' s' => ∃ ov, (arrOf st').map (·.2) = List.toArray ov ∧ failedOf st' = none ∧ All2 (Pm B) ov (p.toList.map fun i => ps.getD i []) ∧ ov.length ≤ 100 ∧ St c B mu1 G s') (G := fun p' s' => p' = p ∧ St c B mu1 G s') rfl (by omega) (by omega)
            (fun p' st' s' a1 a2 a3 a4 => ?_) ?_
          · obtain ⟨rfl, S4⟩ := a4
            refine ⟨p'.toList.map fun i => vs.getD i Value.none, kat_snds rfl a2, a3, all2_pick hv _ fun i hi => by simpa using List.all_eq_true.mp hall i hi, ?_, S4⟩
            rw [List.length_map, Array.length_toList, a1]; omega
          · rw [hlen]
            refine runB_wp (n := ps.length) (fun i j C hi hj hC => ?_) (kas_sort ps.length) p hrun ⟨rfl, S2⟩
            obtain ⟨qi, hqi, hxi⟩ := hv.get (List.getElem?_eq_getElem (show i < vs.length by omega))
            obtain ⟨qj, hqj, hxj⟩ := hv.get (List.getElem?_eq_getElem (show j < vs.length by omega))
            show wpAny _ _ (keyLt' (tuples' true) (vs.getD i Value.none) (vs.getD j Value.none)) _ _ _
            rw [getD_of (List.getElem?_eq_getElem (show i < vs.length by omega)), getD_of (List.getElem?_eq_getElem (show j < vs.length by omega))]
            rw [getD_of hqi, getD_of hqj] at hC
            exact keyLt_pm S2 hxi hxj hC
        · obtain ⟨⟨⟩, st⟩ := r
          obtain ⟨ov, harr, hf, hov, hol, S⟩ := hr
          dsimp only at harr hf ⊢
          rw [harr, hf]
          obtain ⟨oa, ea, rfl⟩ := S.get i hia
          refine wpAny_bind (wpAny_bind (wpAny_load ea (wpAny_pure ?_)))
          simp only [bne_self_eq_false, Bool.false_eq_true, if_false]
          refine wpAny_bind ?_
          show wpAny _ _ (updateSeq a _) _ _ _
          have S5 := S.weak i hia (k' := lstP []) fun o e => ⟨m', e⟩
          rw [← hmu, List.set_set] at S5
          refine updSeq S5 i (by rw [List.getElem?_set_self hil]) (szl _ (by simp)) (by simp; exact Nat.le_trans (szl _ hol) (Nat.le_succ _)) fun s S => ?_
          rw [List.set_set, List.toList_toArray] at S
          exact wpAny_pure ⟨_, rfl, h ov _ hov S⟩
      · cases hq
    · cases hq
end
end Mine
end

section
open PySem PySem.W PyProof.Rows PySem.Calls PySem.SeqAt
namespace Mine

section
variable {c : Cfg} {B B' B₀ : Hp} {mu mu' : Mo} {G : Array GenState} {s : Shared} {A : Around} {E : Value → Shared → Prop} {env : Env} {L a b : Addr} {f : Addr × (Obj → Prop)} {n : Nat} {v w x : Value} {vs ws : List Value}
  {p q : List Int} {ps qs out : List (List Int)} {pos : Pos}

theorem sortedL {Q : Value → Shared → Prop} (S : St c B (f :: mu) G s) (i : Nat) (hi : (f :: mu)[i]? = some (a, lstP vs)) (hv : All2 (Pm B) vs ps) (hne : ∀ p ∈ ps, p ≠ []) (h64 : ps.length < 64) (hq : sortQ ps = some out)
    (h : ∀ D ws s', All2 (Pm B) ws out → St c B (f :: (D, lstP ws) :: mu) G s' → Q (.ref D) s') : wpAny (model PP c.w) A (call (.builtin "sorted") [.ref a] []) Q E s := by
  have hlen := hv.length
  refine Calls.call_function_entry kind_sorted plain_sorted entry_sorted (args_sorted1 _) ?_
  unfold Builtin.«sorted»
  refine wpAny_bind (m := checkCount "sorted" 1 1 _) (wpAny_pure ?_)
  refine wpAny_bind (collect_list (S.isList i hi) ?_ (szl _ (by omega)))
  refine wpAny_bind (wpAny_newList ?_ (szl _ (by omega)))
  have keep : ∀ b o, s.heap.get? b = some o → ((s.heap.push (seqObj "list" #[] 0)).update s.heap.objs.size (Obj.mapSeq (· ++ vs.toArray))).get? b = some o := fun b o q => by
    have hlt : b < s.heap.objs.size := Heap.lt_size q
    rw [Heap.get?_update_ne _ _ _ _ (Nat.ne_of_lt hlt), Heap.get?_push_ne _ _ _ (Nat.ne_of_lt hlt)]
    exact q
  have S1 := (S.keep0 keep).mut1 ({ cls := .type "list", data := .seq vs.toArray } : Obj) (P := lstP vs) ⟨0, rfl⟩
  refine wpAny_bind (wpAny_holding (sortL S1 1 rfl hv hne h64 hq fun ws s hws S => ?_))
  exact wpAny_pure ⟨_, rfl, h _ ws s hws S⟩

/-! ## Containment and comparison of lists of tuples -/
theorem Pm.uniq (h : Pm B v p) (h' : Pm B v q) : p = q := by
  obtain ⟨vs, ⟨a, rfl, e⟩, i⟩ := h
  obtain ⟨ws, ⟨b, q1, e'⟩, i'⟩ := h'
  cases q1
  rw [e] at e'
  have hvw : vs = ws := by simpa [tupO] using congrArg Obj.data (Option.some.inj e')
  subst hvw
  clear e e'
  induction i generalizing q with
  | nil => cases i'; rfl
  | cons n t r ih =>
    cases i' with
    | cons m u r' => rw [ih r']
theorem hit_ex (B : Hp) (p : List Int) : ∃ e : Value → Bool, ∀ v q, Pm B v q → e v = decide (q = p) := by
  classical
  refine ⟨fun v => decide (∃ q, Pm B v q ∧ q = p), fun v q h => ?_⟩
  rw [decide_eq_decide]
  exact ⟨fun ⟨q', h', e'⟩ => (h.uniq h').trans e', fun e => ⟨q, h, e⟩⟩
theorem hit_any {e : Value → Bool} (he : ∀ v q, Pm B v q → e v = decide (q = p)) (h : All2 (Pm B) vs ps) : vs.toArray.any e = decide (p ∈ ps) := by
  rw [List.any_toArray]
  induction h with
  | nil => rfl
  | @cons y q l m hy _ ih =>
    rw [List.any_cons, ih, he _ _ hy]
    by_cases e : q = p
    · simp [e]
    · have : ¬ p = q := fun z => e z.symm
      simp [e, this]
theorem hit_at {e : Value → Bool} (he : ∀ v q, Pm B v q → e v = decide (q = p)) (S : St c B mu G s) (hv : All2 (Pm B) vs ps) (hx : Pm B x p) (hu : A.units + 1 < cLine) : ∀ y, y ∈ vs.toArray → EqAt A.in1 s y x (e y) := fun y hy => by
  obtain ⟨j, hj⟩ := List.mem_iff_getElem?.mp (by simpa using hy)
  obtain ⟨q, _, hq⟩ := hv.get hj
  rw [he _ _ hq]
  exact eqAt_pm S hq hx hu
theorem inL {Q : Value → Shared → Prop} (S : St c B mu G s) (i : Nat) (hi : mu[i]? = some (a, lstP vs)) (hv : All2 (Pm B) vs ps) (hx : Pm B x p) (hu : A.units + 1 < cLine) (h : Q (.bool (decide (p ∈ ps))) s) : wpAny (model PP c.w) A (compareOp .In x (.ref a)) Q E s := by
  obtain ⟨e, he⟩ := hit_ex B p
  exact in_listAt e (S.isList i hi) (hit_at he S hv hx hu) (by rw [hit_any he hv]; exact h)
theorem notInL {Q : Value → Shared → Prop} (S : St c B mu G s) (i : Nat) (hi : mu[i]? = some (a, lstP vs)) (hv : All2 (Pm B) vs ps) (hx : Pm B x p) (hu : A.units + 1 < cLine) (h : Q (.bool (!decide (p ∈ ps))) s) : wpAny (model PP c.w) A (compareOp .NotIn x (.ref a)) Q E s := by
  obtain ⟨e, he⟩ := hit_ex B p
  exact notIn_listAt e (S.isList i hi) (hit_at he S hv hx hu) (by rw [hit_any he hv]; exact h)

/-- two lists of the same tuples are not unequal -/
theorem neL {Q : Value → Shared → Prop} (S : St c B mu G s) (i j : Nat) (hi : mu[i]? = some (a, lstP vs)) (hj : mu[j]? = some (b, lstP ws)) (hv : All2 (Pm B) vs ps) (hw : All2 (Pm B) ws ps) (hu : A.units + 1 < cLine) (h : Q (.bool false) s) :
    wpAny (model PP c.w) A (compareOp .NotEq (.ref a) (.ref b)) Q E s := by
  have h1 := hv.length
  have h2 := hw.length
  refine RcNeAt.lists (e := fun _ => true) (S.isList i hi) (S.isList j hj) (by simp; omega) (by omega) (fun k k1 k2 => ?_) PP c.w E Q ?_
  · have k1' : k < vs.length := by simpa using k1
    have k2' : k < ws.length := by simpa using k2
    obtain ⟨p, hp, x1⟩ := hv.get (List.getElem?_eq_getElem k1')
    obtain ⟨q, hq, x2⟩ := hw.get (List.getElem?_eq_getElem k2')
    rw [hp] at hq
    cases hq
    have := eqAt_pm (A := A.in1) S x1 x2 hu
    simpa using this
  · have : (List.range vs.toArray.size).all (fun _ => true) = true := List.all_eq_true.mpr fun _ _ => rfl
    rw [this]; exact h
/-- a list against the empty one -/
theorem eqNilL {Q : Value → Shared → Prop} (S : St c B mu G s) (i j : Nat) (hi : mu[i]? = some (a, lstP vs)) (hj : mu[j]? = some (b, lstP [])) (hu : A.units + 1 < cLine) (h : Q (.bool (decide (vs = []))) s) :
    wpAny (model PP c.w) A (compareOp .Eq (.ref a) (.ref b)) Q E s := by
  cases vs with
  | nil => exact eq_listAt (e := fun _ => true) (S.isList i hi) (S.isList j hj) rfl (by omega) (fun k k1 k2 => by simp at k1) (by simpa using h)
  | cons x r => exact eq_list_lengthsAt (S.isList i hi) (S.isList j hj) (by simp) (by omega) (by simpa using h)
end
end Mine
end

section
open PySem PySem.W PyProof.Rows PySem.Calls PySem.SeqAt
namespace Mine

/-! ## The plain reading of the law -/
def pr (b a : Nat) : List Int := [(a : Int), (b : Int)]
def rightC (H T : List (List Int)) (b a : Nat) : Bool := !(decide (pr b a ∈ H)) || !(decide (pr b a ∈ T))
def right0 (H T : List (List Int)) : List (List Int) := (pairsUpto (rightC H T) 4).map fun q => pr q.1 q.2
def stepC (m : Nat) (R : List (List Int)) (b a : Nat) : Bool := !(decide (pr b a ∈ R)) && (decide ([(a : Int), (m : Int)] ∈ R) && decide ([(m : Int), (b : Int)] ∈ R))
def stepR (m : Nat) (R : List (List Int)) : List (List Int) := R ++ (pairsUpto (stepC m R) 4).map fun q => pr q.1 q.2
def foldR : Nat → List (List Int) → List (List Int)
  | 0, R => R
  | m + 1, R => stepR m (foldR m R)
def dueC (R : List (List Int)) (b a : Nat) : Bool := !(decide (pr b a ∈ R))
def dueP (R : List (List Int)) : List (List Int) := (pairsUpto (dueC R) 4).map fun q => pr q.1 q.2
def allR (p1 p2 : List Int) : List (List Int) := foldR 4 (right0 (wrongP p1) (wrongP p2))
def withinP (H T : List (List Int)) : List (List Int) := H.filter fun x => !(decide (x ∈ T))
def sameSort (x y : List (List Int)) : Bool := match sortQ x, sortQ y with
  | some a, some b => decide (a = b)
  | _, _ => false
end Mine
end

section
open PySem PySem.W PyProof.Rows PySem.Calls PySem.SeqAt
namespace Mine

def lwS (i : Nat) : Stmt := stN (dBody (topS 10)) i
def parQ : Str := "law.<locals>.parents"
def ageQ : Str := "law.<locals>.age"
def posOf : Stmt → Pos
  | .FunctionDef _ _ _ _ _ _ _ _ _ p => p
  | _ => default
def qsW : List (Pos × Str) := [(posOf parS, parQ), (posOf ageS, ageQ)]

section
variable {c : Cfg} {B B' B₀ : Hp} {mu mu' : Mo} {G : Array GenState} {s : Shared} {A : Around} {E : Value → Shared → Prop} {env : Env} {L a b sa : Addr} {l : List (Str × Value)} {f : Addr × (Obj → Prop)} {n : Nat} {v w x : Value} {vs ws : List Value}
  {p q : List Int} {ns : List Int} {ps qs out : List (List Int)} {pos : Pos}

theorem ints_at (h : IntsAre vs ns) : ∀ {k : Nat} {v : Value}, vs[k]? = some v → ∃ n t, v = .int n t := by
  induction h with
  | nil => intro k v e; simp at e
  | cons n t r ih =>
    intro k v e
    cases k with
    | zero => simp at e; exact ⟨n, t, e.symm⟩
    | succ k => exact ih (by simpa using e)

/-- _law_order(_law_at(script, k, j)) -/
theorem orderAt {k : Nat} {j : Int} {po pa ps pk pj pc pc2 : Pos} {kk kj : Nat} {Q : Value → Shared → Prop} (S : St c B ((L, nsP l) :: mu) G s) (hB : Bas B) (fit : Fit (n + 1) A) (hsa : LstB B sa vs) (hvs : IntsAre vs ns) (hlen : vs.length ≤ 63) (hk : k ≤ 1)
    (hl : l.lookup (Str.ofString "script") = some (.ref sa)) (h : ∀ v m B' s', Le B B' → Pm B' v (ordP m) → St c B' ((L, nsP l) :: mu) G s' → Q v s')
    (hL : env.locals = L := by rfl) (hkf : env.scope.kind = .function := by rfl) (hs : env.kindOf (Str.ofString "script") = some .local := by rfl) (ho : env.kindOf (Str.ofString "_law_order") = some .globalImplicit := by rfl)
    (ha : env.kindOf (Str.ofString "_law_at") = some .globalImplicit := by rfl) (hG : env.globals = mainGlobals := by rfl) :
    wpAny (model PP c.w) A (eval (.Call (.Name (Str.ofString "_law_order") po) [.Call (.Name (Str.ofString "_law_at") pa) [.Name (Str.ofString "script") ps, .Constant (.int k) kk pk, .Constant (.int j) kj pj] [] pc] [] pc2) env) Q E s := by
  obtain ⟨⟨oo, eo, hdo⟩, _⟩ := id hB.lawOrder
  obtain ⟨⟨oa, ea, hda⟩, _⟩ := id hB.lawAt
  refine evCallF (ldG S hB.gOrder ⟨118, oo, _, rfl, hdo, wpAny_items_cons (evCallF (ldG S hB.gAt ⟨111, oa, _, rfl, hda, wpAny_items_cons (ldL S hl (wpAny_items_cons (cInt S fun t1 s S => wpAny_items_cons (cInt S fun t2 s S => wpAny_items_nil ⟨S.base _ _ ea, ?_⟩))) hL hkf hs)⟩ hG hkf ha))⟩ hG hkf ho)
  refine lawAt_spec (n := n) (i := 0) S hB fit hsa (szl _ (by omega)) hk fun v s S hv => wpAny_items_nil ⟨S.base _ _ eo, ?_⟩
  obtain ⟨m, t, rfl⟩ : ∃ m t, v = .int m t := by
    rcases hv with hv | ⟨_, rfl⟩
    · exact ints_at hvs hv
    · exact ⟨_, _, rfl⟩
  exact lawOrder_spec (n := n) S hB fit fun v B' s' hle hp S => h v m B' s' hle hp S

theorem stPairC {x y : Str} {px py : Pos} {kk : Nat} {vx vy : Value} {o1 o2 : Option Value} {Q : Unit → Shared → Prop} (S : St c B mu G s) (hh : A.handled = none) (ht : Tup B v [vx, vy]) (i j : Nat) (hij : i ≠ j) (hi : mu[i]? = some (a, celP o1)) (hj : mu[j]? = some (b, celP o2))
    (h : ∀ s', St c B ((mu.set i (a, celP (some vx))).set j (b, celP (some vy))) G s' → Q () s')
    (hca : env.cells.lookup x = some a := by rfl) (hcb : env.cells.lookup y = some b := by rfl) (hk : env.scope.kind = .function := by rfl) (hx : env.kindOf x = some .cell := by rfl) (hy : env.kindOf y = some .cell := by rfl) :
    wpAny (model PP c.w) A (assign (.Tuple [.Name x px, .Name y py] kk pos) env v) Q E s := by
  obtain ⟨t, rfl, e⟩ := ht
  refine wpAny_assign_Tuple hh (S.isTuple e) rfl rfl fun h' hx' => ?_
  have S1 := S.keep0 (h' := h') fun b o e => hx' b o (Nat.ne_of_lt (Heap.lt_size e)) e
  refine wpAny_assignInOrder_more (wpAny_assign_Name (stC S1 i hi (fun s S => wpAny_assignInOrder_more (wpAny_assign_Name (stC S j (by rw [List.getElem?_set_ne hij]; exact hj) (fun s S => wpAny_assignInOrder_none (h _ S)) hcb hk hy))) hca hk hx))

set_option maxHeartbeats 4000000 in
/-- one, other, parents, age, here, there -/
theorem law_head {Q : Flow → Shared → Prop} {rest : List Stmt} (hB : BasL B) (fit : Fit (n + 4) A) (hsa : LstB B sa vs) (hvs : IntsAre vs ns) (hlen : vs.length ≤ 63)
    (S : St c B [(L, nsP [(Str.ofString "script", .ref sa)]), (L + 4, celP none), (L + 3, celP none), (L + 2, celP none), (L + 1, celP none), (87, tabP B qsL), (125, tabP B qsW)] G s)
    (h : ∀ B' s' v1 v2 m1 m2 fp fg cd1 ct1 dc1 pm1 cd2 ct2 dc2 pm2 hl tl hw tw, Le B B' → Pm B' v1 (ordP m1) → Pm B' v2 (ordP m2) → FnAt B' fp (fdPar cd1 ct1 dc1 pm1) → FnAt B' fg (fdAge cd2 ct2 dc2 pm2) → All2 (Pm B') hw (wrongP (ordP m1)) → All2 (Pm B') tw (wrongP (ordP m2)) →
      St c B' [(L, nsP [(Str.ofString "one", v1), (Str.ofString "other", v2), (Str.ofString "parents", .ref fp), (Str.ofString "age", .ref fg)]), (L + 4, celP none), (L + 3, celP none), (L + 2, celP (some (.ref tl))), (L + 1, celP (some (.ref hl))), (hl, lstP hw), (tl, lstP tw), (87, tabP B' qsL), (125, tabP B' qsW)] G s' →
      wpAny (model PP c.w) A (execs rest (envC fdLaw L 128)) Q E s') (hord : ∀ m, (ordP m).length ≤ 4) :
    wpAny (model PP c.w) A (execs (lwS 0 :: lwS 1 :: lwS 2 :: lwS 3 :: lwS 4 :: rest) (envC fdLaw L 128)) Q E s := by
  refine wpAny_execs_cons (wpAny_Assign_Name (orderAt (k := 0) (n := n) S hB.toBas (fit.le (show n + 1 ≤ n + 4 by omega)) hsa hvs hlen (by omega) rfl fun v1 m1 B1 s hle1 hp1 S => stLn S fun s S => ?_))
  have hB1 := hB.mono hle1
  refine wpAny_execs_cons (wpAny_Assign_Name (orderAt (k := 1) (n := n) S hB1.toBas (fit.le (show n + 1 ≤ n + 4 by omega)) (hsa.mono hle1) hvs hlen (by omega) rfl fun v2 m2 B2 s hle2 hp2 S => stLn S fun s S => ?_))
  have hB2 := hB1.mono hle2
  have hl02 := hle1.trans hle2
  -- def parents
  have S : St c B2 [(L, nsP [(Str.ofString "other", v2), (Str.ofString "one", v1), (Str.ofString "script", .ref sa)]), (125, tabP B qsW), (L + 4, celP none), (L + 3, celP none), (L + 2, celP none), (L + 1, celP none), (87, tabP B qsL)] G s := S.pick [0, 6, 1, 2, 3, 4, 5] 7
  refine wpAny_execs_cons (nestDef_K rfl rfl rfl ?_)
  refine mkFn S hl02 hB2.hdW hB2.gm (clos := []) rfl (qual := parQ) (pos := posOf parS) (.head _) (by decide) fun fp cd1 ct1 dc1 pm1 B3 s hle3 hFp S => ?_
  refine stLn S fun s S => ?_
  have hB3 := hB2.mono hle3
  -- def age
  refine wpAny_execs_cons (nestDef_K rfl rfl rfl ?_)
  refine mkFn S (Le.refl _) hB3.hdW hB3.gm (clos := []) rfl (qual := ageQ) (pos := posOf ageS) (.tail _ (.head _)) (by decide) fun fg cd2 ct2 dc2 pm2 B4 s hle4 hFg S => ?_
  refine stLn S fun s S => ?_
  have hB4 := hB3.mono hle4
  have hl24 := hle3.trans hle4
  -- here, there = _law_wrong(one), _law_wrong(other)
  obtain ⟨⟨ow, ew, hdw⟩, _⟩ := id hB4.lawWrong
  refine wpAny_execs_cons (Assign_Tuple (evTuple (wpAny_items_cons (evCallF (ldG S hB4.gWrong ⟨123, ow, _, rfl, hdw, wpAny_items_cons (ldL S rfl (wpAny_items_nil ⟨S.base _ _ ew, ?_⟩))⟩)))))
  refine lawWrong_spec (n := n) S hB4.toBas (fit.le (show n + 1 ≤ n + 4 by omega)) ((hp1.mono hle2).mono hl24) (hord _) fun hl B5 hw s hle5 hhw S => ?_
  have hB5 := hB4.mono hle5
  refine wpAny_items_cons (evCallF (ldG S hB5.gWrong ⟨123, ow, _, rfl, hdw, wpAny_items_cons (ldL S rfl (wpAny_items_nil ⟨S.base _ _ (hle5 _ _ ew), ?_⟩))⟩))
  refine lawWrong_spec (n := n) S hB5.toBas (fit.le (show n + 1 ≤ n + 4 by omega)) ((hp2.mono hl24).mono hle5) (hord _) fun tl B6 tw s hle6 htw S => wpAny_items_nil ?_
  refine ⟨szl _ (by simp), _, _, _, S, fun r B7 s hle7 hT S => ?_⟩
  have S : St c B7 [(L, nsP [(Str.ofString "one", v1), (Str.ofString "other", v2), (Str.ofString "parents", .ref fp), (Str.ofString "age", .ref fg)]), (L + 4, celP none), (L + 3, celP none), (L + 2, celP none), (L + 1, celP none), (hl, lstP hw), (tl, lstP tw), (87, tabP B qsL), (125, tabP B4 qsW)] G s :=
    S.norm [3, 4, 5, 6, 1, 0, 7, 2] 8 ⟨rfl, rfl, rfl, rfl, trivial⟩
  refine stPairC S fit.hd hT 4 3 (by decide) rfl rfl fun s S => ?_
  have hl67 := hle6.trans hle7
  have hl27 := hl24.trans (hle5.trans hl67)
  exact h B7 s v1 v2 m1 m2 fp fg cd1 ct1 dc1 pm1 cd2 ct2 dc2 pm2 hl tl hw tw (hl02.trans hl27) ((hp1.mono hle2).mono hl27) (hp2.mono hl27) (hFp.mono (hle4.trans (hle5.trans hl67))) (hFg.mono (hle5.trans hl67)) (hhw.imp fun _ _ x => x.mono hl67) (htw.imp fun _ _ x => x.mono hle7)
    ((S.weak 7 rfl fun o x => x.mono (hl02.trans hl27)).weak 8 rfl fun o x => x.mono (hle5.trans hl67))
end
end Mine
end

section
open PySem PySem.W PyProof.Rows PySem.Calls PySem.SeqAt
namespace Mine

section
variable {c : Cfg} {B B' B₀ : Hp} {mu mu' : Mo} {G : Array GenState} {s : Shared} {A : Around} {E : Value → Shared → Prop} {env : Env} {L a b sa hl tl rl : Addr} {l : List (Str × Value)} {f : Addr × (Obj → Prop)} {n : Nat} {v w x : Value} {vs ws hw tw rw : List Value}
  {p q : List Int} {ns : List Int} {H T R : List (List Int)} {pos : Pos} {vm vr : Option Value}

/-- (x, y) of two int names -/
theorem tup2 {x y : Str} {px py : Pos} {k : Nat} {i j : Int} {ti tj : Tok} {Q : Value → Shared → Prop} (S : St c B ((L, nsP l) :: mu) G s) (hi : l.lookup x = some (.int i ti)) (hj : l.lookup y = some (.int j tj))
    (h : ∀ r B' s', Le B B' → Pm B' r [i, j] → St c B' ((L, nsP l) :: mu) G s' → Q r s')
    (hL : env.locals = L := by rfl) (hk : env.scope.kind = .function := by rfl) (hx : env.kindOf x = some .local := by rfl) (hy : env.kindOf y = some .local := by rfl)
    (dx : (x == ("__debug__" : Str)) = false := by decide) (dy : (y == ("__debug__" : Str)) = false := by decide)
    (he : starEach [.Name x px, .Name y py] env = [(false, eval (.Name x px) env), (false, eval (.Name y py) env)] := by rfl) :
    wpAny (model PP c.w) A (eval (.Tuple [.Name x px, .Name y py] k pos) env) Q E s :=
  evTuple (wpAny_items_cons (ldL S hi (wpAny_items_cons (ldL S hj (wpAny_items_nil ⟨szl _ (by simp), _, _, _, S, fun r B' s hle hT S => h _ B' s hle ⟨_, hT, .cons _ _ (.cons _ _ .nil)⟩ S⟩) hL hk hy dy)) hL hk hx dx))

set_option maxHeartbeats 4000000 in
/-- right = [..] -/
theorem right_init {Q : Flow → Shared → Prop} {rest : List Stmt} (hB : Bas B) (fit : Fit (n + 1) A) (hH : All2 (Pm B) hw H) (hT : All2 (Pm B) tw T)
    (S : St c B ((L, nsP l) :: (L + 4, celP vm) :: (L + 3, celP vr) :: (L + 2, celP (some (.ref tl))) :: (L + 1, celP (some (.ref hl))) :: (hl, lstP hw) :: (tl, lstP tw) :: mu) G s)
    (h : ∀ B' s' rl rw, Le B B' → All2 (Pm B') rw (right0 H T) → St c B' ((L, nsP l) :: (L + 4, celP vm) :: (L + 3, celP (some (.ref rl))) :: (L + 2, celP (some (.ref tl))) :: (L + 1, celP (some (.ref hl))) :: (hl, lstP hw) :: (tl, lstP tw) :: (rl, lstP rw) :: mu) G s' →
      wpAny (model PP c.w) A (execs rest (envC fdLaw L 128)) Q E s') :
    wpAny (model PP c.w) A (execs (lwS 5 :: rest) (envC fdLaw L 128)) Q E s := by
  have hl64 := fit.line64
  refine wpAny_execs_cons (wpAny_Assign_Name (evComp ?_))
  refine evCallT (ldB S hB.nRange hB.bRange ⟨_, rfl, wpAny_items_cons (cInt S fun t s S => wpAny_items_nil ?_)⟩)
  refine rangeOf S fun r s S => iterR S (by omega) (by omega) fun it s S => ?_
  refine ⟨_, _, _, it, rfl, S, selfR (p := fun _ => True) 1 rfl, fun C D s S => ?_⟩
  have S : St c B ((C, nsP []) :: (it, ritP 0 (4 : Nat) 1) :: (D, lstP []) :: (L, nsP l) :: (L + 4, celP vm) :: (L + 3, celP vr) :: (L + 2, celP (some (.ref tl))) :: (L + 1, celP (some (.ref hl))) :: (hl, lstP hw) :: (tl, lstP tw) :: mu) G s := S.pick [0, 3, 1, 2] 4
  refine compPairs (n := n) (rightC H T) (fun B v q => Pm B v (pr q.1 q.2)) (fun _ _ _ _ hl h => h.mono hl) (fit.le (by omega)) hB (by omega) ?_ ?_ ?_ S
  · intro b a tb ta B' l p1 p2 p3 s hb hab hle hx hy S
    refine isTrue_or (wpAny_isTrue_Compare1 (tup2 S hy hx fun r1 B1 s hle1 hp1 S => ldC S 8 rfl (notInL S 9 rfl (hH.imp fun _ _ x => x.mono (hle.trans hle1)) hp1 (by omega) (wpAny_truthy_bool ?_))))
    by_cases h1 : [(a : Int), (b : Int)] ∈ H
    · rw [decide_eq_true h1]
      refine isTrue_or (wpAny_isTrue_Compare1 (tup2 S hy hx fun r2 B2 s hle2 hp2 S => ldC S 7 rfl (notInL S 10 rfl (hT.imp fun _ _ x => x.mono (hle.trans (hle1.trans hle2))) hp2 (by omega) (wpAny_truthy_bool ?_))))
      by_cases h2 : [(a : Int), (b : Int)] ∈ T
      · rw [decide_eq_true h2]
        exact isTrue_or_nil ⟨by simp [rightC, pr, h1, h2], B2, hle1.trans hle2, S⟩
      · rw [decide_eq_false h2]
        exact ⟨by simp [rightC, pr, h2], B2, hle1.trans hle2, S⟩
    · rw [decide_eq_false h1]
      exact ⟨by simp [rightC, pr, h1], B1, hle1, S⟩
  · intro b a tb ta B' l p1 p2 p3 s hb hab hle hx hy S
    exact tup2 S hy hx fun r1 B1 s hle1 hp1 S => ⟨B1, hle1, hp1, S⟩
  · intro B' l vs s hle hvs S
    refine ⟨_, rfl, B', l, _, _, _, S, fun s S => ?_⟩
    refine stC S 3 rfl fun s S => ?_
    exact h B' s D vs hle hvs.map (S.pick [1, 2, 3, 4, 5, 6, 7, 0] 8)

set_option maxHeartbeats 4000000 in
/-- due = [..], on its own line's local name -/
theorem due_spec {Q : Flow → Shared → Prop} {rest : List Stmt} (hB : Bas B) (fit : Fit (n + 1) A) (hR : All2 (Pm B) rw R)
    (S : St c B ((L, nsP l) :: (L + 3, celP (some (.ref rl))) :: (rl, lstP rw) :: mu) G s)
    (h : ∀ B' s' dl dw, Le B B' → All2 (Pm B') dw (dueP R) → St c B' ((L, nsP ((Str.ofString "due", .ref dl) :: l)) :: (dl, lstP dw) :: (L + 3, celP (some (.ref rl))) :: (rl, lstP rw) :: mu) G s' →
      wpAny (model PP c.w) A (execs rest (envC fdLaw L 128)) Q E s') :
    wpAny (model PP c.w) A (execs (lwS 7 :: rest) (envC fdLaw L 128)) Q E s := by
  have hl64 := fit.line64
  refine wpAny_execs_cons (exCompAssign ?_)
  refine evCallT (ldB S hB.nRange hB.bRange ⟨_, rfl, wpAny_items_cons (cInt S fun t s S => wpAny_items_nil ?_)⟩)
  refine rangeOf S fun r s S => iterR S (by omega) (by omega) fun it s S => ?_
  refine ⟨_, _, _, it, rfl, S, selfR (p := fun _ => True) 1 rfl, fun C D s S => ?_⟩
  have S : St c B ((C, nsP []) :: (it, ritP 0 (4 : Nat) 1) :: (D, lstP []) :: (L, nsP l) :: (L + 3, celP (some (.ref rl))) :: (rl, lstP rw) :: mu) G s := S.pick [0, 3, 1, 2] 4
  refine compPairs (n := n) (dueC R) (fun B v q => Pm B v (pr q.1 q.2)) (fun _ _ _ _ hl h => h.mono hl) (fit.le (by omega)) hB (by omega) ?_ ?_ ?_ S
  · intro b a tb ta B' l p1 p2 p3 s hb hab hle hx hy S
    exact wpAny_isTrue_Compare1 (tup2 S hy hx fun r1 B1 s hle1 hp1 S => ldC S 5 rfl (notInL S 6 rfl (hR.imp fun _ _ x => x.mono (hle.trans hle1)) hp1 (by omega) (wpAny_truthy_bool ⟨rfl, B1, hle1, S⟩)))
  · intro b a tb ta B' l p1 p2 p3 s hb hab hle hx hy S
    exact tup2 S hy hx fun r1 B1 s hle1 hp1 S => ⟨B1, hle1, hp1, S⟩
  · intro B' l vs s hle hvs S
    refine ⟨_, rfl, B', _, _, _, _, _, S, fun s S => ?_⟩
    exact h B' s D vs hle hvs.map S
end
end Mine
end

section
open PySem PySem.W PyProof.Rows PySem.Calls PySem.SeqAt
namespace Mine

section
variable {c : Cfg} {B B' B₀ : Hp} {mu mu' : Mo} {G : Array GenState} {s : Shared} {A : Around} {E : Value → Shared → Prop} {env : Env} {L a b sa hl tl rl : Addr} {l : List (Str × Value)} {f : Addr × (Obj → Prop)} {n : Nat} {v w x : Value} {vs ws hw tw rw₀ : List Value}
  {p q : List Int} {ns : List Int} {H T R : List (List Int)} {pos : Pos} {vm vr : Option Value}

set_option maxHeartbeats 4000000 in
/-- for middle in range(4) -/
theorem middle_spec {Q : Flow → Shared → Prop} {rest : List Stmt} (hB : Bas B) (fit : Fit (n + 1) A) (hR : All2 (Pm B) rw₀ R) (hRl : rw₀.length ≤ 16)
    (S : St c B ((L, nsP l) :: (L + 4, celP vm) :: (L + 3, celP (some (.ref rl))) :: (rl, lstP rw₀) :: mu) G s)
    (h : ∀ B' s' rl rw vm, Le B B' → All2 (Pm B') rw (foldR 4 R) → St c B' ((L, nsP l) :: (L + 4, celP vm) :: (L + 3, celP (some (.ref rl))) :: (rl, lstP rw) :: mu) G s' →
      wpAny (model PP c.w) A (execs rest (envC fdLaw L 128)) Q E s') :
    wpAny (model PP c.w) A (execs (lwS 6 :: rest) (envC fdLaw L 128)) Q E s := by
  have hl64 := fit.line64
  refine wpAny_execs_cons (wpAny_For (evCallT (ldB S hB.nRange hB.bRange ⟨_, rfl, wpAny_items_cons (cInt S fun t s S => wpAny_items_nil ?_)⟩)))
  refine rangeOf S fun r s S => iterR S (by omega) (by omega) fun it s S => ?_
  refine forRng (i₀ := 0) (m := 4) fit.hd (fun i B1 l1 rest G' => Le B B1 ∧ G' = G ∧ l1 = l ∧ ∃ vm rl rw, rest = (L + 4, celP vm) :: (L + 3, celP (some (.ref rl))) :: (rl, lstP rw) :: mu ∧ All2 (Pm B1) rw (foldR i R) ∧ rw.length ≤ 16 + 16 * i) ?_ ?_
    ⟨Le.refl _, rfl, rfl, vm, rl, rw₀, rfl, hR, by omega⟩ S
  · rintro i ti B1 l1 rest G' s hi ⟨hle1, rfl, rfl, vm, rl, rw, rfl, hrw, hlen⟩ S
    have hB1 := hB.mono hle1
    rw [show (0 : Int) + (i : Int) = i by omega]
    refine wpAny_assign_Name (stC S 2 rfl fun s S => ?_)
    -- right = right + [..]
    refine wpAny_execs_cons (wpAny_Assign_Name (wpAny_BinOp (ldC S 3 rfl (evComp ?_))))
    refine evCallT (ldB S hB1.nRange hB1.bRange ⟨_, rfl, wpAny_items_cons (cInt S fun t s S => wpAny_items_nil ?_)⟩)
    refine rangeOf S fun r s S => iterR S (by omega) (by omega) fun it2 s S => ?_
    refine ⟨_, _, _, it2, rfl, S, selfR (p := fun _ => True) 1 rfl, fun C D s S => ?_⟩
    have S : St c B1 ((C, nsP []) :: (it2, ritP 0 (4 : Nat) 1) :: (D, lstP []) :: (L, nsP l1) :: (it, ritP (0 + ((i + 1 : Nat) : Int)) ((4 : Nat) - ((i + 1 : Nat) : Int)) 1) :: (L + 4, celP (some (.int i ti))) :: (L + 3, celP (some (.ref rl))) :: (rl, lstP rw) :: mu) G' s := S.pick [0, 3, 1, 2] 4
    refine compPairs (n := n) (stepC i (foldR i R)) (fun B v q => Pm B v (pr q.1 q.2)) (fun _ _ _ _ hl h => h.mono hl) (fit.le (by omega)) hB1 (by omega) ?_ ?_ ?_ S
    · intro b a tb ta B' l p1 p2 p3 s hb hab hle hx hy S
      refine isTrue_and (wpAny_isTrue_Compare1 (tup2 S hy hx fun r1 B2 s hle2 hp2 S => ldC S 7 rfl (notInL S 8 rfl (hrw.imp fun _ _ x => x.mono (hle.trans hle2)) hp2 (by omega) (wpAny_truthy_bool ?_))))
      by_cases h1 : [(a : Int), (b : Int)] ∈ foldR i R
      · rw [decide_eq_true h1]
        exact ⟨by simp [stepC, pr, h1], B2, hle2, S⟩
      · rw [decide_eq_false h1]
        refine isTrue_and (wpAny_isTrue_Compare1 (evTuple (wpAny_items_cons (ldL S hy (wpAny_items_cons (ldC S 6 rfl (wpAny_items_nil ⟨szl _ (by simp), _, _, _, S, fun r2 B3 s hle3 hT3 S => ?_⟩)))))))
        refine ldC S 7 rfl (inL S 8 rfl (hrw.imp fun _ _ x => x.mono (hle.trans (hle2.trans hle3))) (p := [(a : Int), (i : Int)]) ⟨_, hT3, .cons _ _ (.cons _ _ .nil)⟩ (by omega) (wpAny_truthy_bool ?_))
        by_cases h2 : [(a : Int), (i : Int)] ∈ foldR i R
        · rw [decide_eq_true h2]
          refine isTrue_and (wpAny_isTrue_Compare1 (evTuple (wpAny_items_cons (ldC S 6 rfl (wpAny_items_cons (ldL S hx (wpAny_items_nil ⟨szl _ (by simp), _, _, _, S, fun r3 B4 s hle4 hT4 S => ?_⟩)))))))
          have hl4 := hle2.trans (hle3.trans hle4)
          refine ldC S 7 rfl (inL S 8 rfl (hrw.imp fun _ _ x => x.mono (hle.trans hl4)) (p := [(i : Int), (b : Int)]) ⟨_, hT4, .cons _ _ (.cons _ _ .nil)⟩ (by omega) (wpAny_truthy_bool ?_))
          by_cases h3 : [(i : Int), (b : Int)] ∈ foldR i R
          · rw [decide_eq_true h3]
            exact isTrue_and_nil ⟨by simp [stepC, pr, h1, h2, h3], B4, hl4, S⟩
          · rw [decide_eq_false h3]
            exact ⟨by simp [stepC, pr, h3], B4, hl4, S⟩
        · rw [decide_eq_false h2]
          exact ⟨by simp [stepC, pr, h2], B3, hle2.trans hle3, S⟩
    · intro b a tb ta B' l p1 p2 p3 s hb hab hle hx hy S
      exact tup2 S hy hx fun r1 B1 s hle1 hp1 S => ⟨B1, hle1, hp1, S⟩
    · intro B2 l2 vs s hle2 hvs S
      refine ⟨_, rfl, B2, l2, _, _, _, S, fun s S => ?_⟩
      have hvl : vs.length ≤ 16 := by rw [hvs.length]; exact pairs_len _ 4
      have S : St c B2 ((L, nsP l1) :: (D, lstP vs) :: (it, ritP (0 + ((i + 1 : Nat) : Int)) ((4 : Nat) - ((i + 1 : Nat) : Int)) 1) :: (L + 4, celP (some (.int i ti))) :: (L + 3, celP (some (.ref rl))) :: (rl, lstP rw) :: mu) G' s := S.pick [1, 0] 2
      refine addLs S 5 rfl 1 rfl (fun rr s S => ?_) (szl _ (by omega))
      refine stC S 5 rfl fun s S => wpAny_execs_nil ?_
      refine ⟨B2, _, _, G', ⟨hle1.trans hle2, rfl, rfl, some (.int i ti), rr, rw ++ vs, rfl, ?_, by rw [List.length_append]; omega⟩, S.pick [0, 3, 4, 5, 1] 7⟩
      show All2 _ _ (stepR i (foldR i R))
      unfold stepR
      have : ∀ {l1 l2 : List Value} {m1 m2 : List (List Int)}, All2 (Pm B2) l1 m1 → All2 (Pm B2) l2 m2 → All2 (Pm B2) (l1 ++ l2) (m1 ++ m2) := by
        intro l1 l2 m1 m2 h1 h2
        induction h1 with
        | nil => exact h2
        | cons x _ ih => exact .cons x ih
      exact this (hrw.imp fun _ _ x => x.mono hle2) hvs.map
  · rintro B1 l1 rest G' s ⟨hle1, rfl, rfl, vm, rl, rw, rfl, hrw, hlen⟩ S
    exact wpAny_execs_nil (h B1 s rl rw vm hle1 hrw S)
end
end Mine
end

section
open PySem PySem.W PyProof.Rows PySem.Calls PySem.SeqAt
namespace Mine

section
variable {c : Cfg} {B B' B₀ : Hp} {mu mu' : Mo} {G : Array GenState} {s : Shared} {A : Around} {E : Value → Shared → Prop} {env : Env} {L a b sa hl tl rl dl fp fg cd1 cd2 : Addr} {l : List (Str × Value)} {f : Addr × (Obj → Prop)} {n : Nat} {v w x v1 v2 : Value} {vs ws hw tw dw : List Value}
  {p q p1 p2 t : List Int} {ns : List Int} {H T R Du out : List (List Int)} {pos : Pos} {vm vr : Option Value} {ct1 dc1 pm1 ct2 dc2 pm2 : Value}

set_option maxHeartbeats 8000000 in
theorem law_tail {Q : Flow → Shared → Prop} (hB : BasL B) (hG : AllBare G) (fit : Fit (n + 11) A) (hle : Le B₀ B) (hP : FnAt B fp (fdPar cd1 ct1 dc1 pm1)) (hA : FnAt B fg (fdAge cd2 ct2 dc2 pm2)) (h1 : Pm B v1 p1) (h2 : Pm B v2 p2) (hl1 : p1.length = 4) (hl2 : p2.length = 4)
    (hH : All2 (Pm B) hw H) (hT : All2 (Pm B) tw T) (hD : All2 (Pm B) dw Du) (hDne : ∀ p ∈ Du, p ≠ []) (hDl : Du.length < 64) (hHl : H.length ≤ 64)
    (hm : mergeP p1 p2 = some [t]) (ht4 : t.length = 4) (hs1 : sortQ (wrongP t) = some out) (hs2 : sortQ Du = some out) (hf1 : fastP p1 p2 = some (decide (withinP H T = []))) (hf2 : fastP t p2 = some true)
    (hr1 : ∀ r, lcasP (ageP p1) p1 p2 = some r → p1 ≠ p2 → r.length ≤ 1) (hr2 : ∀ r, lcasP (ageP t) t p2 = some r → t ≠ p2 → r.length ≤ 1)
    (hl : AllLk l [(Str.ofString "one", v1), (Str.ofString "other", v2), (Str.ofString "parents", .ref fp), (Str.ofString "age", .ref fg), (Str.ofString "due", .ref dl)])
    (S : St c B ((L, nsP l) :: (87, tabP B₀ qsL) :: (L + 2, celP (some (.ref tl))) :: (L + 1, celP (some (.ref hh))) :: (hh, lstP hw) :: (tl, lstP tw) :: (dl, lstP dw) :: mu) G s)
    (h : ∀ B' G' s', Le B B' → AllBare G' → St c B' ((87, tabP B' qsL) :: mu) G' s' → Q (.ret (.bool true)) s') :
    wpAny (model PP c.w) A (execs [lwS 8, lwS 9, lwS 10, lwS 11] (envC fdLaw L 128)) Q E s := by
  have hl64 := fit.line64
  -- told = find_merge_base(parents, age, None, [one, other])
  obtain ⟨⟨om, em, hdm⟩, _⟩ := id hB.merge
  refine wpAny_execs_cons (wpAny_Assign_Name (evCallF (ldG S hB.gMerge ⟨97, om, _, rfl, hdm, ?_⟩)))
  refine wpAny_items_cons (ldL S (hl.get (x := Str.ofString "parents") rfl) (wpAny_items_cons (ldL S (hl.get (x := Str.ofString "age") rfl) (wpAny_items_cons (Constant_none (wpAny_items_cons (evList ?_)))))))
  refine wpAny_items_cons (ldL S (hl.get (x := Str.ofString "one") rfl) (wpAny_items_cons (ldL S (hl.get (x := Str.ofString "other") rfl) (wpAny_items_nil ⟨szl _ (by simp), _, _, _, _, S, fun li s S => wpAny_items_nil ⟨S.base _ _ em, ?_⟩⟩))))
  have S : St c B ((L, nsP l) :: (87, tabP B₀ qsL) :: (li, lstP [v1, v2]) :: (L + 2, celP (some (.ref tl))) :: (L + 1, celP (some (.ref hh))) :: (hh, lstP hw) :: (tl, lstP tw) :: (dl, lstP dw) :: mu) G s := S.pick [0, 2, 1] 3
  refine merge_spec (n := n) S hB hG (fit.le (show n + 10 ≤ n + 11 by omega)) hle hP hA h1 h2 hl1 hl2 hm (by simp) fun D B1 G1 ws s hle1 hG1 hws S => ?_
  have hB1 := hB.mono hle1
  cases hws with
  | @cons tv _ ws _ htv hnil =>
  cases hnil
  refine stLn S fun s S => ?_
  have hl1' : AllLk ((Str.ofString "told", .ref D) :: l) ((Str.ofString "told", .ref D) :: [(Str.ofString "one", v1), (Str.ofString "other", v2), (Str.ofString "parents", .ref fp), (Str.ofString "age", .ref fg), (Str.ofString "due", .ref dl)]) := ⟨lk0, hl.add rfl⟩
  have hlt : ((1 : Nat) : Int) < 2 ^ 63 := by decide
  -- if len(told) != 1 or sorted(_law_wrong(told[0])) != sorted(due)
  refine wpAny_execs_cons (wpAny_If (isTrue_or (wpAny_isTrue_Compare1 (evCallB (ldB S hB1.nLen hB1.bLen ⟨_, rfl, wpAny_items_cons (ldL S lk0 (wpAny_items_nil ?_))⟩)))))
  refine lenLs S (S.isList 1 rfl) (fun tkl s S => cInt S fun t1 s S => P.ne_int (wpAny_truthy_bool ?_)) hlt
  refine isTrue_or (wpAny_isTrue_Compare1 (evCallB (ldB S hB1.nSorted hB1.bSorted ⟨_, rfl, ?_⟩)))
  obtain ⟨⟨ow, ew, hdw⟩, _⟩ := id hB1.lawWrong
  refine wpAny_items_cons (evCallF (ldG S hB1.gWrong ⟨123, ow, _, rfl, hdw, wpAny_items_cons (Subscript_ (ldL S lk0 (cInt S fun t0 s S => subLs (S.isList 1 rfl) (by omega) (y := tv) rfl (wpAny_items_nil ⟨S.base _ _ ew, ?_⟩))))⟩))
  refine lawWrong_spec (n := n) S hB1.toBas (fit.le (show n + 1 ≤ n + 11 by omega)) htv (by omega) fun D2 B2 w2 s hle2 hw2 S => wpAny_items_nil ?_
  have hB2 := hB1.mono hle2
  have hwl : (wrongP t).length ≤ 16 := by
    unfold wrongP
    rw [List.length_map]
    have := pairs_len (wrongT t) t.length
    rw [ht4] at this ⊢
    exact this
  refine sortedL S 1 rfl hw2 (fun p hp => by unfold wrongP at hp; obtain ⟨q, _, rfl⟩ := List.mem_map.mp hp; simp) (by omega) hs1 fun D3 w3 s hw3 S => ?_
  refine evCallB (ldB S hB2.nSorted hB2.bSorted ⟨_, rfl, wpAny_items_cons (ldL S (hl1'.get (x := Str.ofString "due") rfl) (wpAny_items_nil ?_))⟩)
  refine sortedL S 9 rfl (hD.imp fun _ _ x => x.mono (hle1.trans hle2)) hDne hDl hs2 fun D4 w4 s hw4 S => ?_
  refine neL S 2 1 rfl rfl hw3 hw4 (by omega) (wpAny_truthy_bool (isTrue_or_nil ?_))
  refine wpAny_execs_nil ?_
  have hl02 := hle1.trans hle2
  have S : St c B2 ((L, nsP ((Str.ofString "told", .ref D) :: l)) :: (87, tabP B1 qsL) :: (D, lstP [tv]) :: (L + 2, celP (some (.ref tl))) :: (L + 1, celP (some (.ref hh))) :: (hh, lstP hw) :: (tl, lstP tw) :: mu) G1 s := S.pick [0, 5, 4, 6, 7, 8, 9] 11
  have hH2 := hH.imp fun _ _ x => x.mono hl02
  have hT2 := hT.imp fun _ _ x => x.mono hl02
  -- within = [pair for pair in here if pair not in there] == []
  refine wpAny_execs_cons (wpAny_Assign_Name (wpAny_Compare1 (evComp (ldC S 4 rfl ?_))))
  refine iterLs S (S.isList 5 rfl) fun it s S => ?_
  refine ⟨_, _, _, it, rfl, S, selfL 1 rfl, fun C Dn s S => ?_⟩
  have S : St c B2 ((C, nsP []) :: (it, litP hh 0) :: (Dn, lstP []) :: (L, nsP ((Str.ofString "told", .ref D) :: l)) :: (87, tabP B1 qsL) :: (D, lstP [tv]) :: (L + 2, celP (some (.ref tl))) :: (L + 1, celP (some (.ref hh))) :: (hh, lstP hw) :: (tl, lstP tw) :: mu) G1 s := S.pick [0, 3, 1, 2] 4
  refine compLs (PySem.compTurn_list _ _ _ _ _ _ _ _ _) fit.hd (ws := hw) (fun i B3 lc rest G3 => B3 = B2 ∧ G3 = G1 ∧ i ≤ hw.length ∧ ∃ dv, rest = (Dn, lstP dv) :: (L, nsP ((Str.ofString "told", .ref D) :: l)) :: (87, tabP B1 qsL) :: (D, lstP [tv]) :: (L + 2, celP (some (.ref tl))) :: (L + 1, celP (some (.ref hh))) :: (hh, lstP hw) :: (tl, lstP tw) :: mu ∧
    All2 (Pm B2) dv (withinP (H.take i) T)) ?_ ?_ ?_ ⟨rfl, rfl, Nat.zero_le _, [], rfl, .nil⟩ S
  · rintro i B3 lc rest G3 s ⟨rfl, rfl, hi, dv, rfl, hdv⟩ S
    exact S.isList 8 rfl
  · rintro i v B3 lc rest G3 s hv ⟨rfl, rfl, hi, dv, rfl, hdv⟩ S
    obtain ⟨e, he, hPm⟩ := hH2.get hv
    have hlt' : i < hw.length := (List.getElem?_eq_some_iff.mp hv).1
    have htake : withinP (H.take (i + 1)) T = withinP (H.take i) T ++ (if !(decide (e ∈ T)) then [e] else []) := by
      unfold withinP
      rw [List.take_add_one, he, List.filter_append]
      congr 1
      by_cases hh : e ∈ T <;> simp [hh]
    have hdl : dv.length ≤ 64 := by
      rw [hdv.length]
      refine Nat.le_trans (List.length_filter_le _ _) ?_
      rw [List.length_take]; omega
    refine stL S fun s S => ?_
    refine wpAny_bind (wpAny_tests_one (wpAny_isTrue_Compare1 (ldL S lk0 (ldC S 6 rfl (notInL S 9 rfl hT2 hPm (by omega) (wpAny_truthy_bool ?_))))))
    by_cases hh' : e ∈ T
    · rw [decide_eq_true hh']
      rw [if_neg (by simp)]
      refine wpAny_pure ⟨rfl, _, _, _, _, ⟨rfl, rfl, hlt', dv, rfl, ?_⟩, S⟩
      rw [htake]; simpa [hh'] using hdv
    · rw [decide_eq_false hh']
      rw [if_pos (by simp)]
      refine wpAny_bind (emit (ldL S lk0 ⟨_, _, _, 2, dv, S, rfl, szl _ (by omega), fun s S => wpAny_pure ⟨rfl, _, _, _, _, ⟨rfl, rfl, hlt', _, rfl, ?_⟩, S⟩⟩))
      rw [htake]
      simpa [hh'] using hdv.snoc hPm
  · rintro B3 lc rest G3 s ⟨rfl, rfl, hi, dv, rfl, hdv⟩ S
    refine ⟨_, rfl, _, _, _, _, _, S, fun s S => ?_⟩
    rw [hH2.length, List.take_length] at hdv
    have S : St c _ ((L, nsP ((Str.ofString "told", .ref D) :: l)) :: (Dn, lstP dv) :: (87, tabP B1 qsL) :: (D, lstP [tv]) :: (L + 2, celP (some (.ref tl))) :: (L + 1, celP (some (.ref hh))) :: (hh, lstP hw) :: (tl, lstP tw) :: mu) _ s := S.pick [1, 0] 2
    refine evList (wpAny_items_nil ⟨szl _ (by simp), _, _, _, _, S, fun en s S => ?_⟩)
    refine eqNilL S 2 1 rfl rfl (by omega) ?_
    refine stLn S fun s S => ?_
    have hdd : decide (dv = []) = decide (withinP H T = []) := by
      have := hdv.length
      rw [decide_eq_decide]
      constructor
      · intro e; rw [e] at this; exact List.eq_nil_of_length_eq_zero this.symm
      · intro e; rw [e] at this; exact List.eq_nil_of_length_eq_zero this
    rw [hdd] at S
    have hl2' : AllLk ((Str.ofString "within", .bool (decide (withinP H T = []))) :: (Str.ofString "told", .ref D) :: l) ((Str.ofString "told", .ref D) :: [(Str.ofString "one", v1), (Str.ofString "other", v2), (Str.ofString "parents", .ref fp), (Str.ofString "age", .ref fg), (Str.ofString "due", .ref dl)]) := hl1'.add rfl
    have S : St c _ ((L, nsP ((Str.ofString "within", .bool (decide (withinP H T = []))) :: (Str.ofString "told", .ref D) :: l)) :: (87, tabP B1 qsL) :: (D, lstP [tv]) :: mu) _ s := S.pick [0, 3, 4] 9
    -- return can_fast_forward(parents, age, None, one, other) == within and can_fast_forward(parents, age, None, told[0], other)
    obtain ⟨⟨og, eg, hdg⟩, _⟩ := id hB2.fast
    refine wpAny_execs_cons (wpAny_Return_some (wpAny_And2 (wpAny_Compare1 (evCallF (ldG S hB2.gFast ⟨104, og, _, rfl, hdg, ?_⟩)))))
    refine wpAny_items_cons (ldL S (hl2'.get (x := Str.ofString "parents") rfl) (wpAny_items_cons (ldL S (hl2'.get (x := Str.ofString "age") rfl) (wpAny_items_cons (Constant_none (wpAny_items_cons (ldL S (hl2'.get (x := Str.ofString "one") rfl) (wpAny_items_cons (ldL S (hl2'.get (x := Str.ofString "other") rfl) (wpAny_items_nil ⟨S.base _ _ eg, ?_⟩))))))))))
    refine fast_spec (n := n) S hB2 hG1 (fit.le (show n + 10 ≤ n + 11 by omega)) hle2 (hP.mono hl02) (hA.mono hl02) (h1.mono hl02) (h2.mono hl02) hl1 hl2 hf1 hr1 fun B4 G4 s hle4 hG4 S => ?_
    have hB4 := hB2.mono hle4
    have hl04 := hl02.trans hle4
    refine ldL S lk0 (eq_bool ?_)
    rw [show (decide (withinP H T = []) == decide (withinP H T = [])) = true by simp]
    refine wpAny_truthy_bool ?_
    rw [if_pos rfl]
    refine evCallF (ldG S hB4.gFast ⟨104, og, _, rfl, hdg, ?_⟩)
    refine wpAny_items_cons (ldL S (hl2'.get (x := Str.ofString "parents") rfl) (wpAny_items_cons (ldL S (hl2'.get (x := Str.ofString "age") rfl) (wpAny_items_cons (Constant_none (wpAny_items_cons ?_))))))
    refine Subscript_ (ldL S (hl2'.get (x := Str.ofString "told") rfl) (cInt S fun t0 s S => subLs (S.isList 2 rfl) (by omega) (y := tv) rfl ?_))
    refine wpAny_items_cons (ldL S (hl2'.get (x := Str.ofString "other") rfl) (wpAny_items_nil ⟨S.base _ _ (hle4 _ _ eg), ?_⟩))
    refine fast_spec (n := n) S hB4 hG4 (fit.le (show n + 10 ≤ n + 11 by omega)) (Le.refl _) (hP.mono hl04) (hA.mono hl04) (htv.mono (hle2.trans hle4)) (h2.mono hl04) ht4 hl2 hf2 hr2 fun B5 G5 s hle5 hG5 S => ?_
    exact h B5 G5 s (hl04.trans hle5) hG5 (S.pick [1] 3)
end
end Mine
end

section
open PySem PySem.W PyProof.Rows PySem.Calls PySem.SeqAt
namespace Mine

/-- what the plain check gives -/
structure LawFacts (p1 p2 t : List Int) (out : List (List Int)) : Prop where
  hm : mergeP p1 p2 = some [t]
  ht4 : t.length = 4
  hs1 : sortQ (wrongP t) = some out
  hs2 : sortQ (dueP (allR p1 p2)) = some out
  hf1 : fastP p1 p2 = some (decide (withinP (wrongP p1) (wrongP p2) = []))
  hf2 : fastP t p2 = some true
  hr1 : ∀ r, lcasP (ageP p1) p1 p2 = some r → p1 ≠ p2 → r.length ≤ 1
  hr2 : ∀ r, lcasP (ageP t) t p2 = some r → t ≠ p2 → r.length ≤ 1

section
variable {c : Cfg} {B B' B₀ : Hp} {mu mu' : Mo} {G : Array GenState} {s : Shared} {A : Around} {E : Value → Shared → Prop} {env : Env} {L sa : Addr} {n : Nat} {vs : List Value} {ns : List Int}

theorem lawBody : dBody (topS 10) = [lwS 0, lwS 1, lwS 2, lwS 3, lwS 4, lwS 5, lwS 6, lwS 7, lwS 8, lwS 9, lwS 10, lwS 11] := rfl

set_option maxHeartbeats 8000000 in
theorem law_spec {Q : Value → Shared → Prop} (S : St c B [(87, tabP B qsL), (125, tabP B qsW)] G s) (hB : BasL B) (hF : FnAt B 128 fdLaw) (hG : AllBare G) (fit : Fit (n + 20) A)
    (hsa : LstB B sa vs) (hvs : IntsAre vs ns) (hlen : vs.length ≤ 63) (hord : ∀ m, (ordP m).length = 4) (hok : ∀ i j, ∃ t out, LawFacts (ordP i) (ordP j) t out)
    (h : ∀ B' G' s', Le B B' → AllBare G' → St c B' [(87, tabP B' qsL), (125, tabP B' qsW)] G' s' → Q (.bool true) s') :
    wpAny (model PP c.w) A (call (.ref 128) [.ref sa] []) Q E s := by
  refine wpAny_call (callFnC S hF hB.lim (n := n + 19) (body := dBody (topS 10)) (binds := [(Str.ofString "script", .ref sa)]) fit rfl rfl rfl rfl (by decide) [(Str.ofString "script", .ref sa)]
    (fun L x v hx => AllM.look (m := bindL (envC fdLaw L 128).kindOf [(Str.ofString "script", .ref sa)] (fun _ => none)) (l := [(Str.ofString "script", .ref sa)]) ⟨rfl, trivial⟩ x v hx) fun L s A fit S => ?_)
  have S : St c B [(L, nsP [(Str.ofString "script", .ref sa)]), (L + 4, celP none), (L + 3, celP none), (L + 2, celP none), (L + 1, celP none), (87, tabP B qsL), (125, tabP B qsW)] G s := S
  rw [lawBody]
  refine law_head (n := n) hB (fit.le (by omega)) hsa hvs hlen S (fun B1 s v1 v2 m1 m2 fp fg cd1 ct1 dc1 pm1 cd2 ct2 dc2 pm2 hl tl hw tw hle1 h1 h2 hP hA hH hT S => ?_) fun m => by rw [hord m]; exact Nat.le_refl _
  have hB1 := hB.mono hle1
  obtain ⟨t, out, F⟩ := hok m1 m2
  refine right_init (n := n) hB1.toBas (fit.le (by omega)) hH hT S fun B2 s rl rw hle2 hR S => ?_
  have hB2 := hB1.mono hle2
  have hrl : rw.length ≤ 16 := by
    rw [hR.length]; unfold right0; rw [List.length_map]; exact pairs_len _ 4
  have S := S.pick [0, 1, 2, 7, 3, 4, 5, 6, 8] 9
  refine middle_spec (n := n) hB2.toBas (fit.le (by omega)) hR hrl S fun B3 s rl rw vm hle3 hR S => ?_
  have hB3 := hB2.mono hle3
  have S := S.pick [0, 2, 3, 4, 5, 6, 7, 8] 9
  refine due_spec (n := n) hB3.toBas (fit.le (by omega)) hR S fun B4 s dl dw hle4 hD S => ?_
  have hB4 := hB3.mono hle4
  have hl24 := hle2.trans (hle3.trans hle4)
  have S := S.pick [0, 8, 4, 5, 6, 7, 1] 9
  have hwl : (wrongP (ordP m1)).length ≤ 16 := by
    unfold wrongP
    rw [List.length_map]
    have := pairs_len (wrongT (ordP m1)) (ordP m1).length
    rw [hord m1] at this ⊢
    exact this
  have hdl : (dueP (allR (ordP m1) (ordP m2))).length ≤ 16 := by
    unfold dueP; rw [List.length_map]; exact pairs_len _ 4
  refine law_tail (n := n) hB4 hG (fit.le (by omega)) hl24 (hP.mono hl24) (hA.mono hl24) (h1.mono hl24) (h2.mono hl24) (hord _) (hord _) (hH.imp fun _ _ x => x.mono hl24) (hT.imp fun _ _ x => x.mono hl24)
    hD (fun p hp => by unfold dueP at hp; obtain ⟨q, _, rfl⟩ := List.mem_map.mp hp; simp [pr]) (Nat.lt_of_le_of_lt hdl (by decide)) (by omega) F.hm F.ht4 F.hs1 F.hs2 F.hf1 F.hf2 F.hr1 F.hr2 ?_ S fun B5 G5 s hle5 hG5 S => ?_
  · exact ⟨rfl, rfl, rfl, rfl, rfl, trivial⟩
  · exact h B5 G5 s (hle1.trans (hl24.trans hle5)) hG5 (S.weak 1 rfl fun o x => x.mono (hl24.trans hle5))
end
end Mine
end

section
open PySem PySem.W PyProof.Rows PySem.Calls PySem.SeqAt
namespace Mine

/-! ## What the top leaves, read off the written part -/
def FK (K : Frag) (a : Addr) (fd : FuncData) : Prop := (∃ o, K.lookup a = some o ∧ o.data = .func fd) ∧ codeIn K fd.code fd.qualname = true
/-- the class's facts -/
structure WK (K : Frag) : Prop where
  makes : makesIn K 80 = true
  keep : keepIn K (.ref 80) = true
  init : findIn K (.ref 80) "__init__" = some (some (.ref 56))
  tInit : typeIn K (.ref 56) = some (.type "function")
  seta : findIn K (.ref 80) "__setattr__" = some (some (.builtin "object.__setattr__"))
  over : plainOver K 80 = true
  taker : takerIn K 80 "pq" = some none
  hasD : hasDictIn K 80 = true
  gatt : findIn K (.ref 80) "__getattribute__" = some (some (.builtin "object.__getattribute__"))
  gat : findIn K (.ref 80) "__getattr__" = some none
  pq : findIn K (.ref 80) "pq" = some none
  add : findIn K (.ref 80) "add" = some (some (.ref 63))
  tAdd : typeIn K (.ref 63) = some (.type "function")
  get : findIn K (.ref 80) "get" = some (some (.ref 70))
  tGet : typeIn K (.ref 70) = some (.type "function")
  iter : findIn K (.ref 80) "iter" = some (some (.ref 77))
  tIter : typeIn K (.ref 77) = some (.type "function")
structure BK (K : Frag) : Prop extends WK K where
  fLawAt : FK K 111 fdLawAt
  fLawOrder : FK K 118 fdLawOrder
  fLawWrong : FK K 123 fdLawWrong
  fLcas : FK K 90 fdLcas
  fMerge : FK K 97 fdMerge
  fFast : FK K 104 fdFast
  fAdd : FK K 63 fdAdd
  fGet : FK K 70 fdGet
  fIter : FK K 77 fdIter
  fInit : FK K 56 fdInit
  fLaw : FK K 128 fdLaw
  nLen : nsIn K mainGlobals "len" = some none
  nTuple : nsIn K mainGlobals "tuple" = some none
  nRange : nsIn K mainGlobals "range" = some none
  nList : nsIn K mainGlobals "list" = some none
  nSorted : nsIn K mainGlobals "sorted" = some none
  gWrong : nsIn K mainGlobals "_law_wrong" = some (some (.ref 123))
  gOrder : nsIn K mainGlobals "_law_order" = some (some (.ref 118))
  gAt : nsIn K mainGlobals "_law_at" = some (some (.ref 111))
  gMerge : nsIn K mainGlobals "find_merge_base" = some (some (.ref 97))
  gFast : nsIn K mainGlobals "can_fast_forward" = some (some (.ref 104))
  gLcas : nsIn K mainGlobals "_find_lcas" = some (some (.ref 90))
  gWork : nsIn K mainGlobals "WorkList" = some (some (.ref 80))
  gPush : nsIn K mainGlobals "heappush" = some (some (.builtin "_heapq.heappush"))
  gPop : nsIn K mainGlobals "heappop" = some (some (.builtin "_heapq.heappop"))
  dflt : ∃ o n, K.lookup 85 = some o ∧ o.data = .seq #[.int 0 381, .none] n
  noT : noTabs K = true

/-- all that the heap holds, but the two tables -/
def hpOf (h : Heap) : Hp := fun a => if a = 87 ∨ a = 125 then none else h.get? a

section
variable {h : Heap} {K : Frag} {mg mb : Str → Option Value} {p : Program} {loose : List Str} {mean : ExcName → Option Value}

theorem hpOf_get (h1 : h.get? 87 = some (tabObj #[])) (h2 : h.get? 125 = some (tabObj #[])) {b : Addr} {o : Obj} (e : h.get? b = some o) (hn : o ≠ tabObj #[]) : hpOf h b = some o := by
  unfold hpOf
  rw [if_neg]
  · exact e
  · rintro (rfl | rfl)
    · rw [h1] at e; exact hn (Option.some.inj e).symm
    · rw [h2] at e; exact hn (Option.some.inj e).symm
theorem hpOf_of {b : Addr} {o : Obj} (e : hpOf h b = some o) : h.get? b = some o := by
  unfold hpOf at e
  split at e
  · cases e
  · exact e
theorem hpOf_K (h1 : h.get? 87 = some (tabObj #[])) (h2 : h.get? 125 = some (tabObj #[])) (X : K.In h) (hK : noTabs K = true) {a : Addr} {o : Obj} (e : K.lookup a = some o) : hpOf h a = some o := by
  refine hpOf_get h1 h2 (X a o e) fun q => ?_
  have h3 := List.all_eq_true.mp hK (a, o) (mem_of_lookupK e)
  subst q
  exact absurd (show false = true from h3) Bool.false_ne_true

theorem hpOf_fn (h1 : h.get? 87 = some (tabObj #[])) (h2 : h.get? 125 = some (tabObj #[])) (X : K.In h) (hK : noTabs K = true) {a : Addr} {fd : FuncData} (x : FK K a fd) : FnAt (hpOf h) a fd := by
  obtain ⟨⟨o, e, hd⟩, hc⟩ := x
  obtain ⟨c, oc, vs, t, e1, e2, e3, e4⟩ := codeRec_of X hc
  refine ⟨⟨o, hpOf_K h1 h2 X hK e, hd⟩, c, oc, vs, t, e1, hpOf_get h1 h2 e2 (fun q => ?_), e3, e4⟩
  subst q
  cases e3
  cases e4

theorem hpOf_ns (h1 : h.get? 87 = some (tabObj #[])) (h2 : h.get? 125 = some (tabObj #[])) {a : Addr} {m : Str → Option Value} (x : h.Ns a m) : ∃ o es ep, hpOf h a = some o ∧ o.data = .dict es ep ∧ StrKeys es ∧ ∀ name, nsFind es name = m name :=
  let ⟨o, es, ep, e, hd, r⟩ := x; ⟨o, es, ep, hpOf_get h1 h2 e (fun q => by rw [q] at hd; cases hd), hd, r⟩

theorem base_of (X : K.In h) (T : Top p loose mean mg mb h) (F : BK K) (hL : CodeHd h 89 87 ∧ h.get? 87 = some (tabObj #[])) (hW : CodeHd h 127 125 ∧ h.get? 125 = some (tabObj #[])) : BasL (hpOf h) ∧ FnAt (hpOf h) 128 fdLaw := by
  have h1 := hL.2
  have h2 := hW.2
  have fn : ∀ {a fd}, FK K a fd → FnAt (hpOf h) a fd := fun x => hpOf_fn h1 h2 X F.noT x
  have gl : ∀ {x : Str} {v : Value}, nsIn K mainGlobals x = some (some v) → GlobAt (hpOf h) x v := fun {x v} e =>
    let ⟨o, es, ep, e1, hd, hk, hf⟩ := hpOf_ns h1 h2 T.g; ⟨o, es, ep, e1, hd, hk, (hf x).trans (mg_of X T.g e)⟩
  have ng : ∀ {x : Str}, nsIn K mainGlobals x = some none → NoGlob (hpOf h) x := fun {x} e =>
    let ⟨o, es, ep, e1, hd, hk, hf⟩ := hpOf_ns h1 h2 T.g; ⟨o, es, ep, e1, hd, hk, (hf x).trans (mg_none_of X T.g e)⟩
  have bl : ∀ {x : Str} {v : Value}, bootBuiltins x = some v → x ≠ Str.ofString "__name__" → BuiltAt (hpOf h) x v := fun {x v} e n =>
    let ⟨o, es, ep, e1, hd, hk, hf⟩ := hpOf_ns h1 h2 T.b; ⟨o, es, ep, e1, hd, hk, (hf x).trans ((T.builtins x n).trans e)⟩
  have lim : NoLim (hpOf h) := by
    obtain ⟨mc, ns, hn⟩ := T.nolimit
    obtain ⟨o, es, ep, e1, hd, hk, hf⟩ := hpOf_ns h1 h2 ns
    exact ⟨o, es, ep, e1, hd, hk, (hf _).trans hn⟩
  have hd : ∀ {c P : Addr}, CodeHd h c P → HdAt (hpOf h) c P := fun {c P} x h' hb => by
    obtain ⟨o, vs, file, tf, flags, tg, inF, text, tt, e, r1, r⟩ := x
    exact ⟨o, vs, file, tf, flags, tg, inF, text, tt, hb _ _ (hpOf_get h1 h2 e fun q => by rw [q] at r1; cases r1), r1, r⟩
  have gm : GM (hpOf h) := by
    obtain ⟨o, es, ep, e1, hd1, hk, hf⟩ := hpOf_ns h1 h2 T.g
    obtain ⟨bm, ob, b1, b2, b3, b4, b5, b6⟩ := T.bmain
    refine ⟨⟨mg, fun h' hb => ⟨o, es, ep, hb _ _ e1, hd1, hk, hf⟩, bm, ob, b1, b2, fun q => ?_, hpOf_get h1 h2 b3 (fun q => by rw [q] at b4; cases b4), b4, b5, b6⟩, o, e1⟩
    rw [← q] at e1
    have := hpOf_of e1
    rw [b3] at this
    cases this
    rw [b6] at hd1
    cases hd1
  have df : ∃ o n, hpOf h 85 = some o ∧ o.data = .seq #[.int 0 381, .none] n := let ⟨o, n, e, d⟩ := F.dflt; ⟨o, n, hpOf_K h1 h2 X F.noT e, d⟩
  exact ⟨{ lim := lim, lawAt := fn F.fLawAt, lawOrder := fn F.fLawOrder, lawWrong := fn F.fLawWrong, lcas := fn F.fLcas, merge := fn F.fMerge, fast := fn F.fFast, add := fn F.fAdd, get := fn F.fGet, iter := fn F.fIter, init := fn F.fInit, nLen := ng F.nLen, bLen := bl rfl (by decide), nTuple := ng F.nTuple, bTuple := bl rfl (by decide), nRange := ng F.nRange, bRange := bl rfl (by decide), nList := ng F.nList, bList := bl rfl (by decide), nSorted := ng F.nSorted, bSorted := bl rfl (by decide), gWrong := gl F.gWrong, gOrder := gl F.gOrder, gAt := gl F.gAt, gMerge := gl F.gMerge, gFast := gl F.gFast, gLcas := gl F.gLcas, gWork := gl F.gWork, gPush := gl F.gPush, gPop := gl F.gPop, kf := ⟨K, ⟨fun a o e => hpOf_K h1 h2 X F.noT e, F.makes, F.keep, F.init, F.tInit, F.seta, F.over, F.taker, F.hasD, F.gatt, F.gat, F.pq, F.add, F.tAdd, F.get, F.tGet, F.iter, F.tIter⟩⟩, dflt := df, gm := gm, hdL := hd hL.1, hdW := hd hW.1 }, fn F.fLaw⟩
end
end Mine
end

section
open PySem PySem.W PyProof.Rows PySem.Calls PySem.SeqAt
namespace Mine

section
variable {K : Frag} {mg mb : Str → Option Value} {p : Program} {loose : List Str} {mean mean' : ExcName → Option Value} {w : World} {s₁ : Shared} {fa sa : Addr} {vs : List Value} {ns : List Int} {cw : ClaimW} {cl : Str → Option Addr} {args : List WData}

theorem law_walk (X : K.In s₁.heap) (T : Top p loose mean mg mb s₁.heap) (F : BK K) (hL : CodeHd s₁.heap 89 87 ∧ s₁.heap.get? 87 = some (tabObj #[])) (hW : CodeHd s₁.heap 127 125 ∧ s₁.heap.get? 125 = some (tabObj #[]))
    (hm : mg "law" = some (.ref fa)) (hk : nsIn K mainGlobals "law" = some (some (.ref 128))) (hg : s₁.gens = #[]) (hl : s₁.heap.IsList sa vs.toArray) (hI : IntsAre vs ns) (hn : ns.length ≤ 63)
    (hr : ∀ cls, cw.raises args cls = false) (hp : cw.post args (.bool true) args = true) (hord : ∀ m, (ordP m).length = 4) (hok : ∀ i j, ∃ t out, LawFacts (ordP i) (ordP j) t out) :
    wpAny (model PP w) callerA (call (.ref fa) [.ref sa]) (fun v s' => GoodWG cw cl mean' args s₁ (.ok (.ret v)) s') (fun e s' => GoodWG cw cl mean' args s₁ (.error e) s') s₁ := by
  have e := mg_of X T.g hk
  rw [hm] at e
  cases e
  obtain ⟨hB, hF⟩ := base_of X T F hL hW
  have h1 := hL.2
  have h2 := hW.2
  have hlen : vs.length ≤ 63 := by rw [hI.length]; exact hn
  have tb : ∀ qs, tabP (hpOf s₁.heap) qs (tabObj #[]) := fun qs => ⟨#[], rfl, trivial, fun q _ => .inl rfl⟩
  have S : St ⟨w, s₁.drawn, s₁.os⟩ (hpOf s₁.heap) [(87, tabP (hpOf s₁.heap) qsL), (125, tabP (hpOf s₁.heap) qsW)] #[] s₁ := by
    refine ⟨fun b o e => hpOf_of e, fun q hq => ?_, (show ([87, 125] : List Addr).Nodup by decide), fun q hq => ?_, hg, rfl, rfl⟩
    · rcases List.mem_cons.mp hq with rfl | hq
      · exact ⟨_, h1, tb _⟩
      · rw [List.mem_singleton.mp hq]
        exact ⟨_, h2, tb _⟩
    · rcases List.mem_cons.mp hq with rfl | hq
      · rfl
      · rw [List.mem_singleton.mp hq]
        rfl
  have hsa : LstB (hpOf s₁.heap) sa vs := let ⟨o, e, hc, r⟩ := hl; ⟨o, hpOf_get h1 h2 e (fun q => by rw [q] at hc; cases hc), hc, r⟩
  refine law_spec (c := ⟨w, s₁.drawn, s₁.os⟩) (n := 40) S hB hF (.of_eq rfl) ⟨rfl, by decide, by decide⟩ hsa hI hlen hord hok fun B' G' s' hle hG' S' => ?_
  have hk' : ∀ b o, s₁.heap.get? b = some o → o ≠ tabObj #[] → s'.heap.get? b = some o := fun b o e hne => S'.base _ _ (hle _ _ (hpOf_get h1 h2 e hne))
  have key : ∀ b o, s₁.heap.get? b = some o → b ≠ 87 → b ≠ 125 → s'.heap.get? b = some o := fun b o e n1 n2 => S'.base _ _ (hle _ _ (by unfold hpOf; rw [if_neg (fun q => q.elim n1 n2)]; exact e))
  have t1 : ∃ ps, s'.heap.get? 87 = some (tabObj ps) := by
    obtain ⟨o, e, ps, rfl, _⟩ := S'.get 0 rfl
    exact ⟨ps, e⟩
  have t2 : ∃ ps, s'.heap.get? 125 = some (tabObj ps) := by
    obtain ⟨o, e, ps, rfl, _⟩ := S'.get 1 rfl
    exact ⟨ps, e⟩
  refine ⟨.inl ⟨.bool true, .bool true, [], rfl, hr, .bool true, hp, fun _ => ⟨List.nodup_nil, fun a ha => by cases ha⟩⟩, ⟨fun b o e => ?_, fun b o e => ?_⟩, S'.os, by rw [S'.gens]; exact hG'⟩
  · by_cases n1 : b = 87
    · subst n1
      obtain ⟨ps, e'⟩ := t1
      rw [h1] at e; cases e
      exact .inr (.inl ⟨(hL.1.tab h1).isCodeTable, rfl, #[], ps, rfl, by rw [Array.empty_append]; exact e'⟩)
    · by_cases n2 : b = 125
      · subst n2
        obtain ⟨ps, e'⟩ := t2
        rw [h2] at e; cases e
        exact .inr (.inl ⟨(hW.1.tab h2).isCodeTable, rfl, #[], ps, rfl, by rw [Array.empty_append]; exact e'⟩)
      · exact .inl (key b o e n1 n2)
  · by_cases n1 : b = 87
    · subst n1; exact let ⟨ps, e'⟩ := t1; ⟨_, e'⟩
    · by_cases n2 : b = 125
      · subst n2; exact let ⟨ps, e'⟩ := t2; ⟨_, e'⟩
      · exact ⟨o, key b o e n1 n2⟩
end
end Mine
end

section
open PySem PySem.W PyProof.Rows PySem.Calls PySem.SeqAt
namespace Mine

/-! ## The 24 rows by their place: eldest first, then by the row itself -/
def tblP : List (List Int) := [[3, 2, 1, 0], [2, 3, 1, 0], [3, 1, 2, 0], [3, 2, 0, 1], [1, 3, 2, 0], [2, 1, 3, 0], [2, 3, 0, 1], [3, 0, 2, 1], [3, 1, 0, 2], [0, 3, 2, 1], [1, 2, 3, 0], [1, 3, 0, 2], [2, 0, 3, 1], [2, 1, 0, 3],
  [3, 0, 1, 2], [0, 2, 3, 1], [0, 3, 1, 2], [1, 0, 3, 2], [1, 2, 0, 3], [2, 0, 1, 3], [0, 1, 3, 2], [0, 2, 1, 3], [1, 0, 2, 3], [0, 1, 2, 3]]
def parTb : List (List Nat) := [[1, 2, 3], [5, 6], [4, 8], [6, 7], [10, 11], [10, 13], [12], [9, 14], [11, 14], [15, 16], [18], [17], [15, 19], [18, 19], [16], [21], [20], [20, 22], [22], [21], [23], [23], [23], []]
def ageTb : List Nat := [7, 6, 6, 6, 5, 5, 5, 5, 5, 4, 4, 4, 4, 4, 4, 3, 3, 3, 3, 3, 2, 2, 2, 1]
def rowN (k : Nat) : List Int := tblP.getD k []
def parN (k : Nat) : List Nat := parTb.getD k []
def ageN (k : Nat) : Nat := ageTb.getD k 0
def enN (k : Nat) : Ent := (-(ageN k : Int), rowN k)
def cdN (k : Nat) : Ent := (-(enN k).1, (enN k).2)

theorem row_inj : ∀ a < 25, ∀ b < 25, rowN a = rowN b → a = b := by decide +kernel
theorem en_lt : ∀ a < 25, ∀ b < 25, ltE (enN a) (enN b) = Nat.blt a b := by decide +kernel
theorem par_row : ∀ k < 25, parP (rowN k) = (parN k).map rowN := by decide +kernel
theorem par_lt : ∀ k < 25, ∀ q ∈ parN k, q < 24 := by decide +kernel
theorem age_row : ∀ k < 24, ageP (rowN k) = (ageN k : Int) := by decide +kernel
theorem len_row : ∀ k < 24, (rowN k).length = 4 := by decide +kernel
theorem len_row' {k : Nat} (hk : k < 25) (h : (rowN k).length = 4) : k < 24 := by
  rcases Nat.lt_or_ge k 24 with h' | h'
  · exact h'
  · have : k = 24 := by omega
    subst this; exact absurd h (by decide)

/-! ## The same reading on places -/
abbrev CsN := List (Nat × Nat)
def psiN (e : Nat × Nat) : List Int × Int := (rowN e.1, (e.2 : Int))
def getN : CsN → Nat → Option Nat
  | [], _ => none
  | e :: r, k => bif Nat.beq e.1 k then some e.2 else getN r k
def setN (cs : CsN) (k v : Nat) : CsN := match getN cs k with
  | some _ => cs.map fun e => bif Nat.beq e.1 k then (e.1, v) else e
  | none => cs ++ [(k, v)]
def hasN (cs : CsN) : List Nat → Bool
  | [] => false
  | e :: es => (match getN cs e with | some f => !(Nat.beq (Nat.land f 4) 4) | none => false) || hasN cs es
def upN : Nat → List Nat → Nat → List Nat
  | 0, l, _ => l
  | f + 1, l, pos =>
    bif Nat.blt 0 pos then
      (bif Nat.blt (l.getD pos 24) (l.getD ((pos - 1) / 2) 24) then upN f (swapL l ((pos - 1) / 2) pos (l.getD ((pos - 1) / 2) 24) (l.getD pos 24)) ((pos - 1) / 2) else l)
    else l
def downN : Nat → List Nat → Nat → List Nat
  | 0, l, _ => l
  | f + 1, l, pos =>
    bif Nat.blt pos (l.length / 2) then
      let ch := bif Nat.blt (2 * pos + 2) l.length && !(Nat.blt (l.getD (2 * pos + 1) 24) (l.getD (2 * pos + 2) 24)) then 2 * pos + 2 else 2 * pos + 1
      downN f (swapL l ch pos (l.getD ch 24) (l.getD pos 24)) ch
    else upN l.length l pos
def pushN (l : List Nat) (e : Nat) : List Nat := upN (l.length + 1) (l ++ [e]) l.length
def popN : List Nat → Nat × List Nat
  | [] => (24, [])
  | [x] => (x, [])
  | x :: y :: r => (x, downN ((y :: r).length + 1) (((x :: y :: r).dropLast).set 0 ((y :: r).getLast (by simp))) 0)

abbrev Bd (l : List Nat) : Prop := ∀ x ∈ l, x < 25
abbrev BdC (cs : CsN) : Prop := ∀ e ∈ cs, e.1 < 25

theorem getD_map {l : List Nat} (i : Nat) : (l.map enN).getD i (0, []) = enN (l.getD i 24) := by
  rw [List.getD_eq_getElem?_getD, List.getD_eq_getElem?_getD, List.getElem?_map]
  cases l[i]? with
  | none => rfl
  | some x => rfl
theorem getD_lt {l : List Nat} (h : Bd l) (i : Nat) : l.getD i 24 < 25 := by
  rw [List.getD_eq_getElem?_getD]
  cases e : l[i]? with
  | none => decide
  | some x => exact h x (List.mem_of_getElem? e)
theorem set_bd {l : List Nat} (h : Bd l) {x : Nat} (hx : x < 25) (i : Nat) : Bd (l.set i x) := fun y hy => by
  rcases List.mem_or_eq_of_mem_set hy with hy | rfl
  · exact h y hy
  · exact hx
theorem swap_bd {l : List Nat} (h : Bd l) {x y : Nat} (hx : x < 25) (hy : y < 25) (i j : Nat) : Bd (swapL l i j x y) := set_bd (set_bd h hy i) hx j
theorem swap_map (l : List Nat) (i j x y : Nat) : swapL (l.map enN) i j (enN x) (enN y) = (swapL l i j x y).map enN := by
  unfold swapL
  rw [← List.map_set, ← List.map_set]

theorem up_map : ∀ (f : Nat) (l : List Nat) (pos : Nat), Bd l → upF f (l.map enN) pos = (upN f l pos).map enN ∧ Bd (upN f l pos) := by
  intro f
  induction f with
  | zero => intro l pos h; exact ⟨rfl, h⟩
  | succ f ih =>
    intro l pos h
    unfold upF upN
    by_cases h0 : 0 < pos
    · rw [if_pos h0, show Nat.blt 0 pos = true from by rw [Nat.blt_eq]; exact h0]
      simp only [cond_true, getD_map]
      rw [en_lt _ (getD_lt h _) _ (getD_lt h _)]
      cases e : Nat.blt (l.getD pos 24) (l.getD ((pos - 1) / 2) 24) with
      | true =>
        simp only [cond_true, if_true]
        rw [swap_map]
        exact ih _ _ (swap_bd h (getD_lt h _) (getD_lt h _) _ _)
      | false => exact ⟨rfl, h⟩
    · rw [if_neg h0, show Nat.blt 0 pos = false from by rw [Bool.eq_false_iff]; intro q; rw [Nat.blt_eq] at q; exact h0 q]
      exact ⟨rfl, h⟩

theorem down_map : ∀ (f : Nat) (l : List Nat) (pos : Nat), Bd l → downF f (l.map enN) pos = (downN f l pos).map enN ∧ Bd (downN f l pos) := by
  intro f
  induction f with
  | zero => intro l pos h; exact ⟨rfl, h⟩
  | succ f ih =>
    intro l pos h
    unfold downF downN
    simp only [List.length_map, getD_map]
    rw [en_lt _ (getD_lt h _) _ (getD_lt h _)]
    by_cases h0 : pos < l.length / 2
    · rw [if_pos h0, show Nat.blt pos (l.length / 2) = true from by rw [Nat.blt_eq]; exact h0]
      simp only [cond_true]
      have hch : (if 2 * pos + 2 < l.length ∧ (l.getD (2 * pos + 1) 24).blt (l.getD (2 * pos + 2) 24) = false then 2 * pos + 2 else 2 * pos + 1) =
          (bif Nat.blt (2 * pos + 2) l.length && !(Nat.blt (l.getD (2 * pos + 1) 24) (l.getD (2 * pos + 2) 24)) then 2 * pos + 2 else 2 * pos + 1) := by
        by_cases h1 : 2 * pos + 2 < l.length
        · rw [show Nat.blt (2 * pos + 2) l.length = true from by rw [Nat.blt_eq]; exact h1]
          cases Nat.blt (l.getD (2 * pos + 1) 24) (l.getD (2 * pos + 2) 24) <;> simp [h1]
        · rw [show Nat.blt (2 * pos + 2) l.length = false from by rw [Bool.eq_false_iff]; intro q; rw [Nat.blt_eq] at q; exact h1 q]
          simp [h1]
      rw [hch, swap_map]
      exact ih _ _ (swap_bd h (getD_lt h _) (getD_lt h _) _ _)
    · rw [if_neg h0, show Nat.blt pos (l.length / 2) = false from by rw [Bool.eq_false_iff]; intro q; rw [Nat.blt_eq] at q; exact h0 q]
      exact up_map _ _ _ h

theorem push_map {l : List Nat} (h : Bd l) {e : Nat} (he : e < 25) : pushP (l.map enN) (enN e) = (pushN l e).map enN ∧ Bd (pushN l e) := by
  unfold pushP pushN
  rw [List.length_map, show l.map enN ++ [enN e] = (l ++ [e]).map enN by simp]
  exact up_map _ _ _ fun x hx => by
    rcases List.mem_append.mp hx with hx | hx
    · exact h x hx
    · rw [List.mem_singleton.mp hx]; exact he
theorem pop_map {l : List Nat} (h : Bd l) : popP (l.map enN) = (enN (popN l).1, (popN l).2.map enN) ∧ (popN l).1 < 25 ∧ Bd (popN l).2 := by
  match l, h with
  | [], _ => exact ⟨rfl, by decide, fun _ hx => by cases hx⟩
  | [x], h => exact ⟨rfl, h x (.head _), fun _ hx => by cases hx⟩
  | x :: y :: r, h =>
    have hb : Bd (((x :: y :: r).dropLast).set 0 ((y :: r).getLast (by simp))) :=
      set_bd (fun z hz => h z (List.dropLast_subset _ hz)) (h _ (.tail _ (List.getLast_mem _))) 0
    have hm := down_map ((y :: r).length + 1) _ 0 hb
    refine ⟨?_, h x (.head _), hm.2⟩
    show (enN x, downF _ _ _) = _
    refine Prod.ext rfl ?_
    show downF ((enN y :: r.map enN).length + 1) ((((x :: y :: r).map enN).dropLast).set 0 (((y :: r).map enN).getLast (by simp))) 0 = _
    rw [← List.map_dropLast, List.getLast_map, ← List.map_set]
    rw [show (enN y :: r.map enN).length = (y :: r).length by simp]
    exact hm.1

theorem row_beq {a b : Nat} (ha : a < 25) (hb : b < 25) : decide (rowN a = rowN b) = Nat.beq a b := by
  by_cases e : a = b
  · subst e; rw [decide_eq_true rfl]; exact (Nat.beq_refl a).symm
  · rw [decide_eq_false fun q => e (row_inj a ha b hb q)]
    exact (Bool.eq_false_iff.mpr fun q => e (Nat.eq_of_beq_eq_true q)).symm

theorem get_map {k : Nat} (hk : k < 25) : ∀ {cs : CsN}, BdC cs → getC (cs.map psiN) (rowN k) = (getN cs k).map (fun f : Nat => (f : Int)) := by
  intro cs
  induction cs with
  | nil => intro _; rfl
  | cons e r ih =>
    intro h
    have ih := ih fun x hx => h x (.tail _ hx)
    unfold getC at ih ⊢
    unfold getN
    rw [List.map_cons, List.find?_cons]
    show Option.map _ (match decide (rowN e.1 = rowN k) with | true => _ | false => _) = _
    rw [row_beq (h e (.head _)) hk]
    cases Nat.beq e.1 k with
    | true => rfl
    | false => exact ih

theorem set_map {k : Nat} (hk : k < 25) {cs : CsN} (h : BdC cs) (v : Nat) : setC (cs.map psiN) (rowN k) (v : Int) = (setN cs k v).map psiN ∧ BdC (setN cs k v) := by
  unfold setC setN
  rw [get_map hk h]
  cases getN cs k with
  | none =>
    refine ⟨by simp [psiN], fun e he => ?_⟩
    rcases List.mem_append.mp he with he | he
    · exact h e he
    · rw [List.mem_singleton.mp he]; exact hk
  | some f =>
    refine ⟨?_, fun e he => ?_⟩
    · simp only [List.map_map]
      refine List.map_congr_left fun e he => ?_
      have := row_beq (h e he) hk
      show (if rowN e.1 = rowN k then (rowN e.1, (v : Int)) else psiN e) = psiN (bif Nat.beq e.1 k then (e.1, v) else e)
      rw [← this]
      by_cases q : rowN e.1 = rowN k
      · rw [if_pos q, decide_eq_true q]; rfl
      · rw [if_neg q, decide_eq_false q]; rfl
    · obtain ⟨x, hx, rfl⟩ := List.mem_map.mp he
      cases q : Nat.beq x.1 k <;> exact h x hx

theorem and_nat (x y : Nat) : Builtin.bitAnd (x : Int) (y : Int) = ((Nat.land x y : Nat) : Int) := by
  unfold Builtin.bitAnd
  rw [decide_eq_true (Int.natCast_nonneg x), decide_eq_true (Int.natCast_nonneg y)]
  rfl
theorem or_nat (x y : Nat) : Builtin.bitOr (x : Int) (y : Int) = ((Nat.lor x y : Nat) : Int) := by
  have hn : ∀ z : Nat, ¬ (0 ≤ Builtin.bitNot (z : Int)) := fun z => by unfold Builtin.bitNot; omega
  have hb : ∀ z : Int, Builtin.bitNot (Builtin.bitNot z) = z := fun z => by unfold Builtin.bitNot; omega
  unfold Builtin.bitOr Builtin.bitAnd
  rw [decide_eq_false (hn x), decide_eq_false (hn y)]
  show Builtin.bitNot (Builtin.bitNot _) = _
  rw [hb, hb, hb]
  rfl
theorem beq_int (x y : Nat) : decide ((x : Int) = (y : Int)) = Nat.beq x y := by
  by_cases e : x = y
  · subst e; rw [decide_eq_true rfl]; exact (Nat.beq_refl x).symm
  · rw [decide_eq_false fun q => e (Int.natCast_inj.mp q)]
    exact (Bool.eq_false_iff.mpr fun q => e (Nat.eq_of_beq_eq_true q)).symm

theorem has_map {cs : CsN} (h : BdC cs) : ∀ {l : List Nat}, Bd l → hasP (cs.map psiN) (l.map enN) = hasN cs l := by
  intro l
  induction l with
  | nil => intro _; rfl
  | cons e r ih =>
    intro hl
    unfold hasN
    show ((match getC (cs.map psiN) (rowN e) with | some f => !(decide (Builtin.bitAnd f 4 = 4)) | none => false) || hasP (cs.map psiN) (r.map enN)) = _
    rw [ih fun x hx => hl x (.tail _ hx), get_map (hl e (.head _)) h]
    cases getN cs e with
    | none => rfl
    | some f =>
      show ((!decide (Builtin.bitAnd (f : Int) ((4 : Nat) : Int) = ((4 : Nat) : Int))) || _) = _
      rw [and_nat, beq_int]
end Mine
end

section
open PySem PySem.W PyProof.Rows PySem.Calls PySem.SeqAt
namespace Mine

structure LN where
  cs : CsN
  pq : List Nat
  cands : List Nat
def LN.toS (st : LN) : LS := ⟨st.cs.map psiN, st.pq.map enN, st.cands.map cdN⟩
structure LN.Bd (st : LN) : Prop where
  cs : BdC st.cs
  pq : Mine.Bd st.pq
  cands : Mine.Bd st.cands

def pushAllN (m fl : Nat) : List Nat → CsN → List Nat → CsN × List Nat
  | [], cs, pq => (cs, pq)
  | p :: r, cs, pq =>
    let pf := (getN cs p).getD 0
    bif Nat.beq (Nat.land pf fl) fl then pushAllN m fl r cs pq
    else bif Nat.blt (ageN p) m then pushAllN m fl r cs pq
    else pushAllN m fl r (setN cs p (Nat.lor pf fl)) (pushN pq p)
def turnN (m : Nat) (st : LN) : Option LN :=
  let e := (popN st.pq).1
  let pq := (popN st.pq).2
  match getN st.cs e with
  | none => none
  | some f =>
    bif Nat.blt e 24 && (Nat.ble st.pq.length 900 && (Nat.ble st.cs.length 900 && Nat.ble st.cands.length 900)) then
      let fl := Nat.land f 7
      bif Nat.beq fl 3 then
        let new := !(Nat.beq (Nat.land f 8) 8)
        let cs := bif new then setN st.cs e (Nat.lor f 8) else st.cs
        let cands := bif new then st.cands ++ [e] else st.cands
        let r := pushAllN m (Nat.lor fl 4) (parN e) cs pq
        some ⟨r.1, r.2, cands⟩
      else
        let r := pushAllN m fl (parN e) st.cs pq
        some ⟨r.1, r.2, st.cands⟩
    else none
def runN (m : Nat) : Nat → LN → Option LN
  | 0, _ => none
  | n + 1, st => bif hasN st.cs st.pq then (match turnN m st with | some st' => runN m n st' | none => none) else some st
def initN (i j : Nat) : LN :=
  let cs := setN [] i 1
  let pq := pushN [] i
  ⟨setN cs j (Nat.lor ((getN cs j).getD 0) 2), pushN pq j, []⟩
def dncN (cs : CsN) (e : Nat) : Bool := match getN cs e with
  | some f => !(Nat.beq (Nat.land f 4) 4)
  | none => false
def lcaN (m i j : Nat) : Option (List Nat) :=
  match runN m 60 (initN i j) with
  | some st => bif st.cands.all (fun e => (getN st.cs e).isSome) then some (st.cands.filter (dncN st.cs)) else none
  | none => none

/-- turnP, what was drawn set apart -/
def turnI (m : Int) (st : LS) (x : Ent × List Ent) (f : Int) : Option LS :=
  if Builtin.bitAnd f 7 = 3 then
    some ⟨(pushAll m (Builtin.bitOr (Builtin.bitAnd f 7) 4) (parP x.1.2) (if ¬ Builtin.bitAnd f 8 = 8 then setC st.cs x.1.2 (Builtin.bitOr f 8) else st.cs) x.2).1,
      (pushAll m (Builtin.bitOr (Builtin.bitAnd f 7) 4) (parP x.1.2) (if ¬ Builtin.bitAnd f 8 = 8 then setC st.cs x.1.2 (Builtin.bitOr f 8) else st.cs) x.2).2,
      if ¬ Builtin.bitAnd f 8 = 8 then st.cands ++ [(-x.1.1, x.1.2)] else st.cands⟩
  else some ⟨(pushAll m (Builtin.bitAnd f 7) (parP x.1.2) st.cs x.2).1, (pushAll m (Builtin.bitAnd f 7) (parP x.1.2) st.cs x.2).2, st.cands⟩
def turnB (m : Int) (st : LS) (x : Ent × List Ent) : Option LS :=
  match getC st.cs x.1.2 with
  | none => none
  | some f => if x.1.2.length = 4 ∧ (parP x.1.2).all (fun p => decide (p.length = 4)) = true ∧ st.pq.length ≤ 900 ∧ st.cs.length ≤ 900 ∧ st.cands.length ≤ 900 then turnI m st x f else none
theorem turnB_eq (m : Int) (st : LS) : turnP m st = turnB m st (popP st.pq) := rfl
theorem turnB_some {m : Int} {st : LS} {x : Ent × List Ent} {f : Int} (hg : getC st.cs x.1.2 = some f)
    (hc : x.1.2.length = 4 ∧ (parP x.1.2).all (fun p => decide (p.length = 4)) = true ∧ st.pq.length ≤ 900 ∧ st.cs.length ≤ 900 ∧ st.cands.length ≤ 900) : turnB m st x = turnI m st x f := by
  unfold turnB; rw [hg]; exact if_pos hc

theorem getD_cast (o : Option Nat) : (o.map (fun f : Nat => (f : Int))).getD 0 = ((o.getD 0 : Nat) : Int) := by cases o <;> rfl
theorem en_row {k : Nat} (hk : k < 24) : enN k = (-(ageP (rowN k)), rowN k) := by rw [age_row k hk]; rfl

theorem pushAll_map (m fl : Nat) : ∀ (ps : List Nat) (cs : CsN) (pq : List Nat), (∀ p ∈ ps, p < 24) → BdC cs → Mine.Bd pq →
    pushAll (m : Int) (fl : Int) (ps.map rowN) (cs.map psiN) (pq.map enN) = ((pushAllN m fl ps cs pq).1.map psiN, (pushAllN m fl ps cs pq).2.map enN) ∧ BdC (pushAllN m fl ps cs pq).1 ∧ Mine.Bd (pushAllN m fl ps cs pq).2 := by
  intro ps
  induction ps with
  | nil => intro cs pq _ hc hq; exact ⟨rfl, hc, hq⟩
  | cons p r ih =>
    intro cs pq hp hc hq
    have hpl : p < 24 := hp p (.head _)
    have hp25 : p < 25 := by omega
    have hr : ∀ x ∈ r, x < 24 := fun x hx => hp x (.tail _ hx)
    unfold pushAllN
    rw [List.map_cons]
    unfold pushAll
    rw [get_map hp25 hc]
    simp only [getD_cast, and_nat, or_nat]
    rw [← en_row hpl, age_row p hpl]
    have hb := beq_int (Nat.land ((getN cs p).getD 0) fl) fl
    by_cases h1 : ((Nat.land ((getN cs p).getD 0) fl : Nat) : Int) = (fl : Int)
    · rw [if_pos h1, ← hb, decide_eq_true h1]
      exact ih cs pq hr hc hq
    · rw [if_neg h1, ← hb, decide_eq_false h1]
      by_cases h2 : (ageN p : Int) < (m : Int)
      · rw [if_pos h2, show Nat.blt (ageN p) m = true from by rw [Nat.blt_eq]; omega]
        exact ih cs pq hr hc hq
      · rw [if_neg h2, show Nat.blt (ageN p) m = false from by rw [Bool.eq_false_iff]; intro q; rw [Nat.blt_eq] at q; omega]
        have hs := set_map hp25 hc (Nat.lor ((getN cs p).getD 0) fl)
        have hq' := push_map hq hp25
        rw [hs.1, hq'.1]
        exact ih _ _ hr hs.2 hq'.2

theorem turn_map {m : Nat} {st st' : LN} (hb : st.Bd) (h : turnN m st = some st') : turnP (m : Int) st.toS = some st'.toS ∧ st'.Bd := by
  have hp := pop_map hb.pq
  unfold turnN at h
  dsimp only at h
  rw [turnB_eq, show st.toS.pq = st.pq.map enN from rfl, hp.1]
  have hg' : getC st.toS.cs (enN (popN st.pq).1).2 = (getN st.cs (popN st.pq).1).map (fun f : Nat => (f : Int)) := get_map hp.2.1 hb.cs
  generalize hg : getN st.cs (popN st.pq).1 = g at h hg'
  cases g with
  | none => cases h
  | some f =>
    dsimp only at h
    generalize hcond : (Nat.blt (popN st.pq).1 24 && (Nat.ble st.pq.length 900 && (Nat.ble st.cs.length 900 && Nat.ble st.cands.length 900))) = cnd at h
    cases cnd with
    | false => cases h
    | true =>
      simp only [Bool.and_eq_true, Nat.blt_eq, Nat.ble_eq] at hcond
      obtain ⟨hc1, hc2, hc3, hc4⟩ := hcond
      rw [turnB_some (f := (f : Int)) hg' ⟨len_row _ hc1, by
        show (parP (rowN (popN st.pq).1)).all _ = true
        rw [par_row _ hp.2.1, List.all_eq_true]
        intro x hx
        obtain ⟨q, hq, rfl⟩ := List.mem_map.mp hx
        exact decide_eq_true (len_row _ (par_lt _ hp.2.1 q hq)), by simpa [LN.toS] using hc2, by simpa [LN.toS] using hc3, by simpa [LN.toS] using hc4⟩]
      unfold turnI
      simp only [LN.toS]
      rw [show (enN (popN st.pq).1).2 = rowN (popN st.pq).1 from rfl, par_row _ hp.2.1]
      simp only [cond_true] at h
      have h7 : Builtin.bitAnd (f : Int) 7 = ((Nat.land f 7 : Nat) : Int) := and_nat f 7
      have h8 : Builtin.bitAnd (f : Int) 8 = ((Nat.land f 8 : Nat) : Int) := and_nat f 8
      have ho8 : Builtin.bitOr (f : Int) 8 = ((Nat.lor f 8 : Nat) : Int) := or_nat f 8
      have ho4 : Builtin.bitOr ((Nat.land f 7 : Nat) : Int) 4 = ((Nat.lor (Nat.land f 7) 4 : Nat) : Int) := or_nat _ 4
      rw [h7, h8, ho8, ho4]
      have b3 := beq_int (Nat.land f 7) 3
      have b8 := beq_int (Nat.land f 8) 8
      by_cases e3 : ((Nat.land f 7 : Nat) : Int) = ((3 : Nat) : Int)
      · rw [decide_eq_true e3] at b3
        rw [← b3] at h
        rw [if_pos (show ((Nat.land f 7 : Nat) : Int) = 3 from e3)]
        simp only [cond_true] at h
        by_cases e8 : ((Nat.land f 8 : Nat) : Int) = ((8 : Nat) : Int)
        · rw [decide_eq_true e8] at b8
          rw [← b8] at h
          simp only [Bool.not_true, cond_false] at h
          rw [if_neg (fun q => q (show ((Nat.land f 8 : Nat) : Int) = 8 from e8)), if_neg (fun q => q (show ((Nat.land f 8 : Nat) : Int) = 8 from e8))]
          have hm := pushAll_map m (Nat.lor (Nat.land f 7) 4) (parN (popN st.pq).1) st.cs (popN st.pq).2 (par_lt _ hp.2.1) hb.cs hp.2.2
          rw [hm.1]
          cases h
          exact ⟨rfl, ⟨hm.2.1, hm.2.2, hb.cands⟩⟩
        · rw [decide_eq_false e8] at b8
          rw [← b8] at h
          simp only [Bool.not_false, cond_true] at h
          rw [if_pos (show ¬ ((Nat.land f 8 : Nat) : Int) = 8 from e8), if_pos (show ¬ ((Nat.land f 8 : Nat) : Int) = 8 from e8)]
          have hs := set_map hp.2.1 hb.cs (Nat.lor f 8)
          have hm := pushAll_map m (Nat.lor (Nat.land f 7) 4) (parN (popN st.pq).1) (setN st.cs (popN st.pq).1 (Nat.lor f 8)) (popN st.pq).2 (par_lt _ hp.2.1) hs.2 hp.2.2
          rw [hs.1, hm.1]
          cases h
          refine ⟨?_, ⟨hm.2.1, hm.2.2, fun x hx => ?_⟩⟩
          · simp [cdN, enN]
          · rcases List.mem_append.mp hx with hx | hx
            · exact hb.cands x hx
            · rw [List.mem_singleton.mp hx]; exact hp.2.1
      · rw [decide_eq_false e3] at b3
        rw [← b3] at h
        rw [if_neg (show ¬ ((Nat.land f 7 : Nat) : Int) = 3 from e3)]
        simp only [cond_false] at h
        have hm := pushAll_map m (Nat.land f 7) (parN (popN st.pq).1) st.cs (popN st.pq).2 (par_lt _ hp.2.1) hb.cs hp.2.2
        rw [hm.1]
        cases h
        exact ⟨rfl, ⟨hm.2.1, hm.2.2, hb.cands⟩⟩

theorem run_map {m : Nat} : ∀ {n : Nat} {st st' : LN}, st.Bd → runN m n st = some st' → runP (m : Int) n st.toS = some st'.toS ∧ st'.Bd := by
  intro n
  induction n with
  | zero => intro st st' _ h; cases h
  | succ n ih =>
    intro st st' hb h
    unfold runN at h
    unfold runP
    rw [show hasP st.toS.cs st.toS.pq = hasN st.cs st.pq from has_map hb.cs hb.pq]
    cases hh : hasN st.cs st.pq with
    | false =>
      rw [hh] at h
      cases h
      exact ⟨rfl, hb⟩
    | true =>
      rw [hh] at h
      simp only [cond_true] at h
      rw [if_pos rfl]
      cases ht : turnN m st with
      | none => rw [ht] at h; cases h
      | some st1 =>
        rw [ht] at h
        have := turn_map hb ht
        rw [this.1]
        exact ih this.2 h

theorem lca_map {m i j : Nat} {r : List Nat} (hi : i < 24) (hj : j < 24) (h : lcaN m i j = some r) : lcasP (m : Int) (rowN i) (rowN j) = some (r.map rowN) ∧ Mine.Bd r := by
  have hi5 : i < 25 := by omega
  have hj5 : j < 25 := by omega
  have h0 : BdC ([] : CsN) := fun _ hx => by cases hx
  have hq0 : Mine.Bd [] := fun _ hx => by cases hx
  have s1 := set_map hi5 h0 1
  have s2 := set_map hj5 s1.2 (Nat.lor ((getN (setN [] i 1) j).getD 0) 2)
  have q1 := push_map hq0 hi5
  have q2 := push_map q1.2 hj5
  have hb : (initN i j).Bd := ⟨s2.2, q2.2, hq0⟩
  have hinit : initP (rowN i) (rowN j) = (initN i j).toS := by
    unfold initP
    rw [← en_row hi, ← en_row hj]
    have e1 : setC [] (rowN i) 1 = (setN [] i 1).map psiN := s1.1
    have e2 : pushP [] (enN i) = (pushN [] i).map enN := q1.1
    rw [e1, e2]
    dsimp only
    rw [get_map hj5 s1.2, getD_cast]
    have e3 : Builtin.bitOr (((getN (setN [] i 1) j).getD 0 : Nat) : Int) 2 = ((Nat.lor ((getN (setN [] i 1) j).getD 0) 2 : Nat) : Int) := or_nat _ 2
    rw [e3, s2.1, q2.1]
    rfl
  unfold lcaN at h
  unfold lcasP
  rw [hinit]
  cases hr : runN m 60 (initN i j) with
  | none => rw [hr] at h; cases h
  | some st =>
    rw [hr] at h
    have hm := run_map hb hr
    rw [hm.1]
    have hb' := hm.2
    simp only at h ⊢
    have hall : st.toS.cands.all (fun e => (getC st.toS.cs e.2).isSome) = st.cands.all (fun e => (getN st.cs e).isSome) := by
      show (st.cands.map cdN).all (fun e => (getC (st.cs.map psiN) e.2).isSome) = _
      rw [List.all_map]
      rw [Bool.eq_iff_iff, List.all_eq_true, List.all_eq_true]
      have key : ∀ x ∈ st.cands, (getC (st.cs.map psiN) (cdN x).2).isSome = (getN st.cs x).isSome := fun x hx => by
        show (getC (st.cs.map psiN) (rowN x)).isSome = _
        rw [get_map (hb'.cands x hx) hb'.cs, Option.isSome_map]
      exact ⟨fun h x hx => (key x hx) ▸ h x hx, fun h x hx => by show (getC _ _).isSome = true; rw [key x hx]; exact h x hx⟩
    rw [hall]
    cases ha : st.cands.all (fun e => (getN st.cs e).isSome) with
    | false => rw [ha] at h; cases h
    | true =>
      rw [ha] at h
      cases h
      rw [if_pos rfl]
      refine ⟨?_, fun x hx => hb'.cands x (List.mem_filter.mp hx).1⟩
      congr 1
      show ((st.cands.map cdN).filter (dncT (st.cs.map psiN))).map (·.2) = _
      rw [List.filter_map, List.map_map]
      have hf : st.cands.filter (dncT (st.cs.map psiN) ∘ cdN) = st.cands.filter (dncN st.cs) := by
        refine List.filter_congr fun x hx => ?_
        show (match getC (st.cs.map psiN) (rowN x) with | some f => !(decide (Builtin.bitAnd f 4 = 4)) | none => false) = dncN st.cs x
        rw [get_map (hb'.cands x hx) hb'.cs]
        unfold dncN
        cases getN st.cs x with
        | none => rfl
        | some f =>
          show (!decide (Builtin.bitAnd (f : Int) ((4 : Nat) : Int) = ((4 : Nat) : Int))) = _
          rw [and_nat, beq_int]
      rw [hf]
      rfl
end Mine
end

section
open PySem PySem.W PyProof.Rows PySem.Calls PySem.SeqAt
namespace Mine

/-- what is due, by the place of the row -/
def dueTb : List (List (List Int)) := [[[0, 1], [0, 2], [1, 2], [0, 3], [1, 3], [2, 3]], [[0, 1], [0, 2], [1, 2], [0, 3], [1, 3]], [[0, 1], [0, 2], [0, 3], [1, 3], [2, 3]], [[0, 2], [1, 2], [0, 3], [1, 3], [2, 3]], [[0, 1], [0, 2], [0, 3], [2, 3]], [[0, 1], [0, 2], [1, 2], [0, 3]], [[0, 2], [1, 2], [0, 3], [1, 3]], [[1, 2], [0, 3], [1, 3], [2, 3]], [[0, 1], [0, 3], [1, 3], [2, 3]], [[1, 2], [1, 3], [2, 3]], [[0, 1], [0, 2], [0, 3]], [[0, 1], [0, 3], [2, 3]], [[0, 2], [1, 2], [1, 3]], [[0, 1], [0, 2], [1, 2]], [[0, 3], [1, 3], [2, 3]], [[1, 2], [1, 3]], [[1, 3], [2, 3]], [[0, 1], [2, 3]], [[0, 1], [0, 2]], [[0, 2], [1, 2]], [[2, 3]], [[1, 2]], [[0, 1]], []]
def dueT (k : Nat) : List (List Int) := dueTb.getD k []
def mergeN (i j : Nat) : Option (List Nat) := bif Nat.beq i j then some [i] else lcaN 0 i j
def fN (i j : Nat) : Option Bool := bif Nat.beq i j then some true else match lcaN (ageN i) i j with
  | some [] => some false
  | some [x] => some (Nat.beq x i)
  | _ => none
def lawN (i j : Nat) : Bool := match mergeN i j with
  | some [t] => Nat.blt t 24 && (decide (dueP (allR (rowN i) (rowN j)) = dueT t) && ((match fN i j with
      | some bo => bo == decide (withinP (wrongP (rowN i)) (wrongP (rowN j)) = [])
      | none => false) && (match fN t j with
      | some bo => bo
      | none => false)))
  | _ => false

theorem due_sorts : ∀ k < 24, sameSort (wrongP (rowN k)) (dueT k) = true := by decide +kernel
theorem law_0 : ∀ j < 24, lawN 0 j = true := by decide +kernel
theorem law_1 : ∀ j < 24, lawN 1 j = true := by decide +kernel
theorem law_2 : ∀ j < 24, lawN 2 j = true := by decide +kernel
theorem law_3 : ∀ j < 24, lawN 3 j = true := by decide +kernel
theorem law_4 : ∀ j < 24, lawN 4 j = true := by decide +kernel
theorem law_5 : ∀ j < 24, lawN 5 j = true := by decide +kernel
theorem law_6 : ∀ j < 24, lawN 6 j = true := by decide +kernel
theorem law_7 : ∀ j < 24, lawN 7 j = true := by decide +kernel
theorem law_8 : ∀ j < 24, lawN 8 j = true := by decide +kernel
theorem law_9 : ∀ j < 24, lawN 9 j = true := by decide +kernel
theorem law_10 : ∀ j < 24, lawN 10 j = true := by decide +kernel
theorem law_11 : ∀ j < 24, lawN 11 j = true := by decide +kernel
theorem law_12 : ∀ j < 24, lawN 12 j = true := by decide +kernel
theorem law_13 : ∀ j < 24, lawN 13 j = true := by decide +kernel
theorem law_14 : ∀ j < 24, lawN 14 j = true := by decide +kernel
theorem law_15 : ∀ j < 24, lawN 15 j = true := by decide +kernel
theorem law_16 : ∀ j < 24, lawN 16 j = true := by decide +kernel
theorem law_17 : ∀ j < 24, lawN 17 j = true := by decide +kernel
theorem law_18 : ∀ j < 24, lawN 18 j = true := by decide +kernel
theorem law_19 : ∀ j < 24, lawN 19 j = true := by decide +kernel
theorem law_20 : ∀ j < 24, lawN 20 j = true := by decide +kernel
theorem law_21 : ∀ j < 24, lawN 21 j = true := by decide +kernel
theorem law_22 : ∀ j < 24, lawN 22 j = true := by decide +kernel
theorem law_23 : ∀ j < 24, lawN 23 j = true := by decide +kernel

theorem lawN_all : ∀ i < 24, ∀ j < 24, lawN i j = true := by
  intro i hi
  match i, hi with
  | 0, _ => exact law_0
  | 1, _ => exact law_1
  | 2, _ => exact law_2
  | 3, _ => exact law_3
  | 4, _ => exact law_4
  | 5, _ => exact law_5
  | 6, _ => exact law_6
  | 7, _ => exact law_7
  | 8, _ => exact law_8
  | 9, _ => exact law_9
  | 10, _ => exact law_10
  | 11, _ => exact law_11
  | 12, _ => exact law_12
  | 13, _ => exact law_13
  | 14, _ => exact law_14
  | 15, _ => exact law_15
  | 16, _ => exact law_16
  | 17, _ => exact law_17
  | 18, _ => exact law_18
  | 19, _ => exact law_19
  | 20, _ => exact law_20
  | 21, _ => exact law_21
  | 22, _ => exact law_22
  | 23, _ => exact law_23
  | n + 24, h => exact absurd h (by omega)

theorem merge_map {i j : Nat} (hi : i < 24) (hj : j < 24) {r : List Nat} (h : mergeN i j = some r) : mergeP (rowN i) (rowN j) = some (r.map rowN) := by
  unfold mergeN at h
  unfold mergeP
  have hb := row_beq (a := i) (b := j) (by omega) (by omega)
  by_cases e : rowN i = rowN j
  · rw [← hb, decide_eq_true e] at h
    rw [if_pos e]
    cases h; rfl
  · rw [← hb, decide_eq_false e] at h
    rw [if_neg e]
    exact (lca_map hi hj h).1
theorem fast_map {i j : Nat} (hi : i < 24) (hj : j < 24) {bo : Bool} (h : fN i j = some bo) : fastP (rowN i) (rowN j) = some bo ∧ ∀ r, lcasP (ageP (rowN i)) (rowN i) (rowN j) = some r → rowN i ≠ rowN j → r.length ≤ 1 := by
  unfold fN at h
  unfold fastP
  have hb := row_beq (a := i) (b := j) (by omega) (by omega)
  by_cases e : rowN i = rowN j
  · rw [← hb, decide_eq_true e] at h
    rw [if_pos e]
    exact ⟨h, fun r _ hne => absurd e hne⟩
  · rw [← hb, decide_eq_false e] at h
    rw [if_neg e, age_row i hi]
    simp only [cond_false] at h
    generalize hl : lcaN (ageN i) i j = o at h
    match o, h with
    | some [], h =>
      have := (lca_map hi hj hl).1
      cases h
      exact ⟨by rw [this]; rfl, fun r hr _ => by rw [this] at hr; cases hr; exact Nat.zero_le _⟩
    | some [x], h =>
      obtain ⟨this, hx⟩ := lca_map hi hj hl
      have hx := hx x (.head _)
      cases h
      refine ⟨?_, fun r hr _ => by rw [this] at hr; cases hr; exact Nat.le_refl _⟩
      rw [this, ← row_beq hx (by omega : i < 25)]
      show some (decide ([rowN x] = [rowN i])) = _
      simp
    | some (_ :: _ :: _), h => cases h
    | none, h => cases h

theorem law_facts {i j : Nat} (hi : i < 24) (hj : j < 24) : ∃ t out, LawFacts (rowN i) (rowN j) t out := by
  have h := lawN_all i hi j hj
  unfold lawN at h
  generalize hm : mergeN i j = o at h
  match o, h with
  | none, h => cases h
  | some [], h => cases h
  | some (_ :: _ :: _), h => cases h
  | some [t], h =>
    simp only [Bool.and_eq_true, Nat.blt_eq, decide_eq_true_eq] at h
    obtain ⟨ht, hd, h1, h2⟩ := h
    have hs := due_sorts t ht
    unfold sameSort at hs
    generalize e1 : sortQ (wrongP (rowN t)) = a at hs
    generalize e2 : sortQ (dueT t) = b at hs
    generalize f1 : fN i j = x at h1
    generalize f2 : fN t j = y at h2
    match a, b, x, y, hs, h1, h2 with
    | some a, some b, some x, some true, hs, h1, _ =>
      have hab : a = b := by simpa using hs
      have hx : x = decide (withinP (wrongP (rowN i)) (wrongP (rowN j)) = []) := by simpa using h1
      have m1 := fast_map hi hj f1
      have m2 := fast_map ht hj f2
      exact ⟨rowN t, a, merge_map hi hj hm, len_row t ht, e1, by rw [hd, e2, hab], by rw [m1.1, hx], m2.1, m1.2, m2.2⟩
    | none, _, _, _, hs, _, _ => cases hs
    | some _, none, _, _, hs, _, _ => cases hs
    | some _, some _, none, _, _, h1, _ => cases h1
    | some _, some _, some _, none, _, _, h2 => cases h2
    | some _, some _, some _, some false, _, _, h2 => cases h2

/-! ## Every number names one of the 24 rows -/
theorem ord_rem (n : Int) : ∃ a b c : Nat, a < 4 ∧ b < 3 ∧ c < 2 ∧ ordP n = ordP ((a : Int) + 4 * (b : Int) + 12 * (c : Int)) := by
  have f4 : ∀ z : Int, z.fmod 4 = z % 4 ∧ z.fdiv 4 = z / 4 := fun z => ⟨Int.fmod_eq_emod_of_nonneg z (by decide), Int.fdiv_eq_ediv_of_nonneg z (by decide)⟩
  have f3 : ∀ z : Int, z.fmod 3 = z % 3 ∧ z.fdiv 3 = z / 3 := fun z => ⟨Int.fmod_eq_emod_of_nonneg z (by decide), Int.fdiv_eq_ediv_of_nonneg z (by decide)⟩
  have f2 : ∀ z : Int, z.fmod 2 = z % 2 ∧ z.fdiv 2 = z / 2 := fun z => ⟨Int.fmod_eq_emod_of_nonneg z (by decide), Int.fdiv_eq_ediv_of_nonneg z (by decide)⟩
  have f1 : ∀ z : Int, z.fmod 1 = z % 1 := fun z => Int.fmod_eq_emod_of_nonneg z (by decide)
  refine ⟨(n % 4).toNat, (n / 4 % 3).toNat, (n / 4 / 3 % 2).toNat, by omega, by omega, by omega, ?_⟩
  generalize hz : ((n % 4).toNat : Int) + 4 * ((n / 4 % 3).toNat : Int) + 12 * ((n / 4 / 3 % 2).toNat : Int) = z
  have h1 : n % 4 = z % 4 := by omega
  have h2 : n / 4 % 3 = z / 4 % 3 := by omega
  have h3 : n / 4 / 3 % 2 = z / 4 / 3 % 2 := by omega
  have h4 : n / 4 / 3 / 2 % 1 = z / 4 / 3 / 2 % 1 := by omega
  simp only [ordP, ordGo, (f4 _).1, (f4 _).2, (f3 _).1, (f3 _).2, (f2 _).1, (f2 _).2, f1, h1, h2, h3, h4]
theorem ord_tab : ∀ a : Nat, a < 4 → ∀ b : Nat, b < 3 → ∀ c : Nat, c < 2 → (List.range 24).any (fun k => decide (ordP ((a : Int) + 4 * (b : Int) + 12 * (c : Int)) = rowN k)) = true := by decide +kernel
theorem ord_row (n : Int) : ∃ k < 24, ordP n = rowN k := by
  obtain ⟨a, b, c, ha, hb, hc, e⟩ := ord_rem n
  rw [e]
  obtain ⟨k, hk, h⟩ := List.any_eq_true.mp (ord_tab a ha b hb c hc)
  exact ⟨k, List.mem_range.mp hk, of_decide_eq_true h⟩
theorem ord_len (m : Int) : (ordP m).length = 4 := by
  obtain ⟨k, hk, e⟩ := ord_row m
  rw [e]; exact len_row k hk
theorem ord_facts (m k : Int) : ∃ t out, LawFacts (ordP m) (ordP k) t out := by
  obtain ⟨i, hi, e1⟩ := ord_row m
  obtain ⟨j, hj, e2⟩ := ord_row k
  rw [e1, e2]; exact law_facts hi hj
end Mine
end

open PySem PySem.W PyProof.Rows
set_option maxRecDepth 100000 in
set_option maxHeartbeats 8000000 in
theorem PySem.Challenge.cw_bh0016_01_holds : PySem.Challenge.rw_bh0016_01.Holds := by
  w_on; o_law; k_head; (case hw => w_witness2)
  intro w s₀ s₁ mg mb G Y fa o pm cd doc dV kV ho hd hcd hD hmg hg args vals as hpre hlay hrd hwl hlo
  have KX := km_in_of Y
  have KT := km_tabs_of Y
  clear hd ho hcd hD
  refine Ground.open G ?_
  intro T B D TE TW
  have hL : CodeHd s₁.heap 89 87 ∧ s₁.heap.get? 87 = some (tabObj #[]) := ⟨codeHd_of_K (c := 89) (P := 87) KX (by kernel_rfl), KT 87 (by decide)⟩
  have hW : CodeHd s₁.heap 127 125 ∧ s₁.heap.get? 125 = some (tabObj #[]) := ⟨codeHd_of_K (c := 127) (P := 125) KX (by kernel_rfl), KT 125 (by decide)⟩
  wrow_args hpre hlay hrd hwl hlo
  rename_i hl _ _ _ hI _ hn _
  refine Mine.law_walk (K := _) KX T ?_ hL hW hmg (by kernel_rfl) hg hl hI (by omega) (fun _ => rfl) (by kernel_rfl) Mine.ord_len Mine.ord_facts
  exact ⟨⟨by kernel_rfl, by kernel_rfl, by kernel_rfl, by kernel_rfl, by kernel_rfl, by kernel_rfl, by kernel_rfl, by kernel_rfl, by kernel_rfl, by kernel_rfl, by kernel_rfl, by kernel_rfl, by kernel_rfl, by kernel_rfl, by kernel_rfl, by kernel_rfl, by kernel_rfl⟩, ⟨⟨_, rfl, rfl⟩, by kernel_rfl⟩, ⟨⟨_, rfl, rfl⟩, by kernel_rfl⟩, ⟨⟨_, rfl, rfl⟩, by kernel_rfl⟩, ⟨⟨_, rfl, rfl⟩, by kernel_rfl⟩, ⟨⟨_, rfl, rfl⟩, by kernel_rfl⟩, ⟨⟨_, rfl, rfl⟩, by kernel_rfl⟩, ⟨⟨_, rfl, rfl⟩, by kernel_rfl⟩, ⟨⟨_, rfl, rfl⟩, by kernel_rfl⟩, ⟨⟨_, rfl, rfl⟩, by kernel_rfl⟩, ⟨⟨_, rfl, rfl⟩, by kernel_rfl⟩, ⟨⟨_, rfl, rfl⟩, by kernel_rfl⟩, by kernel_rfl, by kernel_rfl, by kernel_rfl, by kernel_rfl, by kernel_rfl, by kernel_rfl, by kernel_rfl, by kernel_rfl, by kernel_rfl, by kernel_rfl, by kernel_rfl, by kernel_rfl, by kernel_rfl, by kernel_rfl, ⟨_, _, rfl, rfl⟩, by kernel_rfl⟩

import PyProof.Rows.All
import Wide.All
import OpenK.AllK
import Wide.FinOn
import Flt.RightMore
import Flt.Sum
import Lean
import PySem.Challenge.RW_qu0022_01
set_option Elab.async false
namespace Mine
open PySem PySem.Calls PyProof.Rows

/-- what the ledger knows of an address -/
inductive MO where
  | lst (vs : List Value)
  | lsi (vs : List Value)
  | cel (v : Option Value)
  | raw (o : Obj)

def MO.At (h : Heap) (a : Addr) : MO → Prop
  | .lst vs => h.PlainList a vs.toArray
  | .lsi vs => h.IsList a vs.toArray
  | .cel v => h.IsCell a v
  | .raw o => h.get? a = some o

abbrev Led := List (Addr × MO)
abbrev Sub (g h : Heap) : Prop := ∀ b o, g.get? b = some o → h.get? b = some o

theorem Sub.refl (h : Heap) : Sub h h := fun _ _ e => e
theorem Sub.trans {a b c : Heap} (x : Sub a b) (y : Sub b c) : Sub a c := fun p o e => y p o (x p o e)
theorem Sub.push {a b : Heap} (x : Sub a b) (o : Obj) : Sub a (b.push o) := fun p _ e => Heap.get?_push_of_some _ (x p _ e)

theorem MO.At.obj {h : Heap} {a : Addr} {x : MO} (X : x.At h a) : ∃ o, h.get? a = some o := by
  cases x with
  | lst vs => obtain ⟨n, e⟩ := X; exact ⟨_, e⟩
  | lsi vs => obtain ⟨o, e, _⟩ := X; exact ⟨_, e⟩
  | cel v => obtain ⟨o, e, _⟩ := X; exact ⟨_, e⟩
  | raw o => exact ⟨_, X⟩
theorem MO.At.at {h h' : Heap} {a : Addr} {x : MO} (X : x.At h a) (k : ∀ o, h.get? a = some o → h'.get? a = some o) : x.At h' a := by
  cases x with
  | lst vs => obtain ⟨n, e⟩ := X; exact ⟨n, k _ e⟩
  | lsi vs => obtain ⟨o, e, r⟩ := X; exact ⟨o, k _ e, r⟩
  | cel v => obtain ⟨o, e, d⟩ := X; exact ⟨o, k _ e, d⟩
  | raw o => exact k _ X
theorem MO.At.sub {h h' : Heap} {a : Addr} {x : MO} (X : x.At h a) (k : Sub h h') : x.At h' a := X.at fun _ e => k _ _ e
theorem MO.At.but {h h' : Heap} {a b : Addr} {x : MO} (X : x.At h a) (k : Heap.SameBut b h h') (n : a ≠ b) : x.At h' a :=
  X.at fun _ e => (k.2 _ n).trans e
theorem MO.At.lt {h : Heap} {a : Addr} {x : MO} (X : x.At h a) : a < h.objs.size := let ⟨_, e⟩ := X.obj; Heap.lt_size e

structure St (g : Heap) (L : Addr) (m : Str → Option Value) (led : Led) (h : Heap) : Prop where
  ns : h.Ns L m
  keep : Sub g h
  offL : g.get? L = none
  ats : ∀ p ∈ led, p.2.At h p.1
  off : ∀ p ∈ led, g.get? p.1 = none ∧ p.1 ≠ L
  nodup : (led.map (·.1)).Nodup

section
variable {g h h' : Heap} {L : Addr} {m m' : Str → Option Value} {led : Led}

theorem St.at (S : St g L m led h) {a : Addr} {x : MO} (e : (a, x) ∈ led) : x.At h a := S.ats _ e
theorem St.grow (S : St g L m led h) (k : Sub h h') : St g L m led h' :=
  ⟨S.ns.keeps k, S.keep.trans k, S.offL, fun p hp => (S.ats p hp).sub k, S.off, S.nodup⟩
theorem St.push (S : St g L m led h) (o : Obj) : St g L m led (h.push o) := S.grow ((Sub.refl h).push o)

theorem none_of_new {a : Addr} (k : Sub g h) (e : h.get? a = none) : g.get? a = none := by
  cases q : g.get? a with
  | none => rfl
  | some o => rw [k _ _ q] at e; cases e

theorem St.add (S : St g L m led h) (k : Sub h h') {a : Addr} {x : MO} (e : h.get? a = none) (X : x.At h' a) : St g L m ((a, x) :: led) h' := by
  refine ⟨S.ns.keeps k, S.keep.trans k, S.offL, fun p hp => ?_, fun p hp => ?_, ?_⟩
  · rcases List.mem_cons.mp hp with rfl | hp
    · exact X
    · exact (S.ats p hp).sub k
  · rcases List.mem_cons.mp hp with rfl | hp
    · refine ⟨none_of_new S.keep e, fun q => ?_⟩
      obtain ⟨o, _, _, ho, _⟩ := S.ns
      rw [← q, e] at ho; cases ho
    · exact S.off p hp
  · refine List.nodup_cons.mpr ⟨fun q => ?_, S.nodup⟩
    obtain ⟨p, hp, rfl⟩ := List.mem_map.mp q
    obtain ⟨o, ho⟩ := (S.ats p hp).obj
    rw [e] at ho; cases ho

theorem new_none (h : Heap) {a : Addr} (e : h.objs.size ≤ a) : h.get? a = none := by
  cases q : h.get? a with
  | none => rfl
  | some o => exact absurd (Heap.lt_size q) (Nat.not_lt.mpr e)

theorem St.addList (S : St g L m led h) (vs : List Value) :
    St g L m ((h.objs.size, .lst vs) :: led) (h.push { cls := .type "list", data := .seq vs.toArray }) :=
  S.add ((Sub.refl h).push _) (new_none h (Nat.le_refl _)) ⟨0, Heap.get?_push_size _ rfl⟩

theorem St.setNs (S : St g L m led h) (hn : h'.Ns L m') (k : Heap.SameBut L h h') : St g L m' led h' :=
  ⟨hn, fun b o e => (k.2 b fun q => by rw [q, S.offL] at e; cases e).trans (S.keep b o e), S.offL,
    fun p hp => (S.ats p hp).but k (S.off p hp).2, S.off, S.nodup⟩

theorem nodup_set {l : Led} {i : Nat} {a : Addr} {x x' : MO} (e : l[i]? = some (a, x)) : (l.set i (a, x')).map (·.1) = l.map (·.1) := by
  induction l generalizing i with
  | nil => simp at e
  | cons p r ih =>
    cases i with
    | zero => simp at e; subst e; rfl
    | succ i => simp at e; simp [ih e]

theorem mem_set_cases {l : Led} {i : Nat} {a : Addr} {x x' : MO} (e : l[i]? = some (a, x)) (nd : (l.map (·.1)).Nodup) {p : Addr × MO} (hp : p ∈ l.set i (a, x')) : p = (a, x') ∨ (p ∈ l ∧ p.1 ≠ a) := by
  induction l generalizing i with
  | nil => simp at e
  | cons q r ih =>
    simp only [List.map_cons, List.nodup_cons] at nd
    cases i with
    | zero =>
      simp at e; subst e
      rcases List.mem_cons.mp hp with rfl | hp
      · exact .inl rfl
      · exact .inr ⟨.tail _ hp, fun q => nd.1 (List.mem_map.mpr ⟨p, hp, q⟩)⟩
    | succ i =>
      simp at e
      rcases List.mem_cons.mp hp with rfl | hp
      · refine .inr ⟨.head _, fun q => nd.1 ?_⟩
        rw [q]; exact List.mem_map_of_mem (f := (·.1)) (List.mem_of_getElem? e)
      · rcases ih e nd.2 hp with h | ⟨h1, h2⟩
        · exact .inl h
        · exact .inr ⟨.tail _ h1, h2⟩

theorem St.upd (S : St g L m led h) (i : Nat) {a : Addr} {x x' : MO} (e : led[i]? = some (a, x)) (k : Heap.SameBut a h h') (X : x'.At h' a) :
    St g L m (led.set i (a, x')) h' := by
  have ha := S.off _ (List.mem_of_getElem? e)
  refine ⟨S.ns.sameBut k (Ne.symm ha.2), fun b o q => (k.2 b fun z => by rw [z, ha.1] at q; cases q).trans (S.keep b o q), S.offL, fun p hp => ?_, fun p hp => ?_, ?_⟩
  · rcases mem_set_cases e S.nodup hp with rfl | ⟨h1, h2⟩
    · exact X
    · exact (S.ats p h1).but k h2
  · rcases mem_set_cases e S.nodup hp with rfl | ⟨h1, h2⟩
    · exact ha
    · exact S.off p h1
  · rw [nodup_set e]; exact S.nodup

theorem St.sublist (S : St g L m led h) {led' : Led} (k : led'.Sublist led) : St g L m led' h :=
  ⟨S.ns, S.keep, S.offL, fun p hp => S.ats p (k.subset hp), fun p hp => S.off p (k.subset hp), (k.map _).nodup S.nodup⟩
theorem St.perm (S : St g L m led h) {led' : Led} (k : led'.Perm led) : St g L m led' h :=
  ⟨S.ns, S.keep, S.offL, fun p hp => S.ats p (k.subset hp), fun p hp => S.off p (k.subset hp), (k.map _).nodup_iff.mpr S.nodup⟩

/-- everything but the frame and the ledger's addresses, frozen -/
theorem St.freeze {led₁ led₂ : Led} (S : St g L m (led₁ ++ led₂) h) :
    ∃ g', Sub g g' ∧ St g' L m led₁ h ∧ (∀ p ∈ led₂, p.2.At g' p.1) ∧ (∀ b o, h.get? b = some o → b ≠ L → b ∉ led₁.map (·.1) → g'.get? b = some o) := by
  have get : ∀ b o, h.get? b = some o → b ≠ L → b ∉ led₁.map (·.1) → (W.hideAll h (L :: led₁.map (·.1))).get? b = some o := fun b o e n1 n2 =>
    W.hideAll_get _ e (by simp only [List.mem_cons, not_or]; exact ⟨n1, n2⟩)
  refine ⟨W.hideAll h (L :: led₁.map (·.1)), fun b o e => get b o (S.keep b o e) (fun q => ?_) (fun q => ?_), ?_, fun p hp => ?_, get⟩
  · rw [q, S.offL] at e; cases e
  · obtain ⟨p, hp, rfl⟩ := List.mem_map.mp q
    rw [(S.off p (List.mem_append_left _ hp)).1] at e; cases e
  · refine ⟨S.ns, fun b o e => W.of_hideAll _ e, W.hideAll_none _ (.head _), fun p hp => S.ats p (List.mem_append_left _ hp), fun p hp => ⟨W.hideAll_none _ (.tail _ (List.mem_map_of_mem hp)), (S.off p (List.mem_append_left _ hp)).2⟩, ?_⟩
    exact ((List.sublist_append_left led₁ led₂).map _).nodup S.nodup
  · have off := S.off p (List.mem_append_right _ hp)
    refine (S.ats p (List.mem_append_right _ hp)).at fun o e => get _ o e off.2 fun q => ?_
    have nd := S.nodup
    rw [List.map_append, List.nodup_append] at nd
    exact nd.2.2 _ q _ (List.mem_map_of_mem hp) rfl
end

/-- the room that a call needs -/
structure AOk (A : Around) (k : Nat) : Prop where
  handled : A.handled = none
  depth : A.depth + k < recursionLimit
  units : A.units + 20 * k + 60 < cLine
  guards : A.guards = some []

theorem AOk.deeper {A : Around} {k : Nat} (x : AOk A (k + 1)) (env : Env) : AOk (A.deeper env) k := by
  obtain ⟨h1, h2, h3, h4⟩ := x
  exact ⟨h1, by show A.depth + 1 + k < _; omega, by show A.units + 3 + _ + _ < _; omega, h4⟩
theorem AOk.le {A : Around} {k j : Nat} (x : AOk A k) (h : j ≤ k) : AOk A j := ⟨x.handled, by have := x.depth; omega, by have := x.units; omega, x.guards⟩

end Mine
namespace Mine
open PySem PySem.Calls PyProof.Rows

abbrev F0 : Value → Shared → Prop := fun _ _ => False

structure EX where
  qual : Str
  func : Option Addr
  code : Value
  frame : Option Addr

abbrev mkEnv (sc : Scope) (L : Addr) (cs : List (Str × Addr)) (x : EX) : Env :=
  { scope := sc, locals := L, globals := mainGlobals, cells := cs, qual := x.qual, func := x.func, code := x.code, frame := x.frame, builtins := builtinsNs }

abbrev set1 (m : Str → Option Value) (x : Str) (v : Value) : Str → Option Value := fun y => if y = x then some v else m y

theorem plain1 {env : Env} {pos : Pos} {e : Expr} (he : starEach (e :: []) env = (false, eval e env) :: starEach [] env := by rfl) : (backTo pos (starEach [e] env)).any (·.1) = false := by rw [he]; rfl

theorem wp0 {α : Type} {M : Model} {A : Around} {t : Sem α} {Q : α → Shared → Prop} {E : Value → Shared → Prop} {s : Shared} (h : wpAny M A t Q F0 s) : wpAny M A t Q E s :=
  wpAny_mono h (fun _ _ x => x) fun _ _ x => x.elim

section
variable {prog : Program} {w : World} {A : Around} {E : Value → Shared → Prop} {s : Shared} {g : Heap} {L : Addr} {m : Str → Option Value} {led : Led}
  {sc : Scope} {cs : List (Str × Addr)} {ex : EX} {x : Str} {pos : Pos} {v : Value}

theorem nm_loc {Q : Value → Shared → Prop} (S : St g L m led s.heap) (hl : sc.names.lookup x = some .local) (hv : m x = some v) (h : Q v s)
    (hk : sc.kind = .function := by rfl) (hd : (x == ("__debug__" : Str)) = false := by rfl) :
    wpAny (model prog w) A (eval (.Name x pos) (mkEnv sc L cs ex)) Q E s :=
  wpAny_Name (wpAny_loadName_local (env := mkEnv sc L cs ex) hk hl S.ns hv h) hd
theorem ld_loc {Q : Value → Shared → Prop} (S : St g L m led s.heap) (hl : sc.names.lookup x = some .local) (hv : m x = some v) (h : Q v s)
    (hk : sc.kind = .function := by rfl) :
    wpAny (model prog w) A (loadName (mkEnv sc L cs ex) x) Q E s :=
  wpAny_loadName_local (env := mkEnv sc L cs ex) hk hl S.ns hv h
theorem nm_cel {Q : Value → Shared → Prop} {c : Addr} (hc : s.heap.IsCell c (some v)) (hl : sc.names.lookup x = some .cell) (hcs : cs.lookup x = some c) (h : Q v s)
    (hk : sc.kind = .function := by rfl) (hd : (x == ("__debug__" : Str)) = false := by rfl) :
    wpAny (model prog w) A (eval (.Name x pos) (mkEnv sc L cs ex)) Q E s :=
  wpAny_Name (wpAny_loadName_cell (env := mkEnv sc L cs ex) hk hl hcs hc h) hd
theorem nm_fre {Q : Value → Shared → Prop} {c : Addr} (hc : s.heap.IsCell c (some v)) (hl : sc.names.lookup x = some .free) (hcs : cs.lookup x = some c) (h : Q v s)
    (hk : sc.kind = .function := by rfl) (hd : (x == ("__debug__" : Str)) = false := by rfl) (hn : (x == ("__classdict__" : Str)) = false := by rfl) :
    wpAny (model prog w) A (eval (.Name x pos) (mkEnv sc L cs ex)) Q E s :=
  wpAny_Name (wpAny_loadName_free (env := mkEnv sc L cs ex) hk hl hcs hc h hn) hd
theorem nm_glo {mg : Str → Option Value} {Q : Value → Shared → Prop} (hg : s.heap.Ns mainGlobals mg) (hl : sc.names.lookup x = some .globalImplicit) (hv : mg x = some v) (h : Q v s)
    (hk : sc.kind = .function := by rfl) (hd : (x == ("__debug__" : Str)) = false := by rfl) :
    wpAny (model prog w) A (eval (.Name x pos) (mkEnv sc L cs ex)) Q E s :=
  Name_function_global (env := mkEnv sc L cs ex) hk hl (loadGlobal_global (env := mkEnv sc L cs ex) hg hv h) hd
theorem nm_bui {mg mb : Str → Option Value} {Q : Value → Shared → Prop} (hg : s.heap.Ns mainGlobals mg) (hb : s.heap.Ns builtinsNs mb) (hl : sc.names.lookup x = some .globalImplicit) (hn : mg x = none) (hv : mb x = some v) (h : Q v s)
    (hk : sc.kind = .function := by rfl) (hd : (x == ("__debug__" : Str)) = false := by rfl) :
    wpAny (model prog w) A (eval (.Name x pos) (mkEnv sc L cs ex)) Q E s :=
  Name_function_global (env := mkEnv sc L cs ex) hk hl (loadGlobal_builtin (env := mkEnv sc L cs ex) hg hn hb hv h) hd

theorem st_loc {Q : Unit → Shared → Prop} (S : St g L m led s.heap) (hl : sc.names.lookup x = some .local)
    (h : ∀ h', St g L (set1 m x v) led h' → Q () { s with heap := h', toks := s.toks + 1 }) (hk : sc.kind = .function := by rfl) :
    wpAny (model prog w) A (storeName (mkEnv sc L cs ex) x v) Q E s :=
  wpAny_storeName_local (env := mkEnv sc L cs ex) hl S.ns (fun h' hn hs => h h' (S.setNs hn hs))
    (by show (sc.kind == .class || (sc.kind == .module && L != mainGlobals)) = false; rw [hk]; rfl)

theorem st_cel {Q : Unit → Shared → Prop} (i : Nat) {c : Addr} {v₀ : Option Value} (S : St g L m led s.heap) (e : led[i]? = some (c, .cel v₀)) (hl : sc.names.lookup x = some .cell) (hcs : cs.lookup x = some c)
    (h : ∀ h', St g L m (led.set i (c, .cel (some v))) h' → Q () { s with heap := h' }) (hk : sc.kind = .function := by rfl) :
    wpAny (model prog w) A (storeName (mkEnv sc L cs ex) x v) Q E s :=
  wpAny_storeName_cell (env := mkEnv sc L cs ex) hk hl hcs (S.at (List.mem_of_getElem? e)) fun h' hc hs => h h' (S.upd i e hs hc)

theorem as_loc {value : Expr} {pos' : Pos} {Q : Flow → Shared → Prop}
    (h : wpAny (model prog w) A (eval value (mkEnv sc L cs ex)) (fun v s₁ => wpAny (model prog w) A (storeName (mkEnv sc L cs ex) x v) (fun _ => Q .next) E s₁) E s)
    (hs : swapsWith value (some (.Name x pos')) pos.line (mkEnv sc L cs ex) = pure false := by rfl) :
    wpAny (model prog w) A (exec (.Assign [.Name x pos'] value pos) (mkEnv sc L cs ex)) Q E s := wpAny_Assign_Name h hs

theorem new_list {vs : List Value} {Q : Value → Shared → Prop} (S : St g L m led s.heap)
    (h : ∀ h' l, St g L m ((l, .lst vs) :: led) h' → Sub s.heap h' → s.heap.get? l = none → Q (.ref l) { s with heap := h' }) (hsz : vs.length ≤ sizeLine := by size_fits) :
    wpAny (model prog w) A (newList vs) Q E s :=
  wpAny_newObj_type (h _ _ (S.addList vs) ((Sub.refl _).push _) (new_none _ (Nat.le_refl _))) (by show vs.toArray.size ≤ sizeLine; rw [List.size_toArray]; exact hsz)

theorem app_list {l : Addr} {vs : List Value} {Q : Value → Shared → Prop} (i : Nat) (S : St g L m led s.heap) (e : led[i]? = some (l, .lst vs))
    (h : ∀ h', St g L m (led.set i (l, .lst (vs ++ [v]))) h' → Q .none { s with heap := h' }) (hsz : vs.length ≤ sizeLine) :
    wpAny (model prog w) A (call (.builtin "list.append") [.ref l, v]) Q E s := by
  refine wpAny_list_append_plain (S.at (List.mem_of_getElem? e)) (fun h' hp hs => h h' (S.upd i e hs ?_)) (by simpa using hsz)
  show h'.PlainList l (vs ++ [v]).toArray
  have e : (vs ++ [v]).toArray = vs.toArray.push v := by simp
  rw [e]; exact hp

theorem meth_app {l : Addr} {vs : List Value} {pl : Sem Bool} {Q : Value × List Value → Shared → Prop} (H : s.heap.PlainList l vs.toArray)
    (h : Q (.builtin "list.append", [.ref l]) s) : wpAny (model prog w) A (getMethod (.ref l) "append" pl) Q E s := by
  obtain ⟨n, e⟩ := H
  exact getMethod_list_append e rfl rfl h

end

section
variable {prog : Program} {w : World} {A : Around} {E : Value → Shared → Prop} {s : Shared}
/-- l[k], the list and the index at hand -/
theorem tail_item {value slice : Expr} {l : Addr} {vs : List Value} {k : Int} {u : Tok} {x : Value} {Q : Value → Shared → Prop} (hl : s.heap.IsList l vs.toArray) (h0 : 0 ≤ k) (hhi : k < 2 ^ 63) (hx : vs[k.toNat]? = some x) (h : Q x s)
    (hs : subscripted slice false (.ref l) (.int k u) = operate [.ref l, .int k u] (getItem (.ref l) (.int k u)) := by with_unfolding_all rfl) :
    wpAny (model prog w) A (subscriptTail value slice (.ref l) (.int k u)) Q E s :=
  tail_any hl.typeIs slot_list_getitem.lookup (wpAny_getItem_list hl h0 hhi (by simpa using hx) h) hs
end

section
variable {prog : Program} {w : World} {A : Around} {E : Value → Shared → Prop} {s : Shared}
theorem len_lst {l : Addr} {vs : List Value} {Q : Value → Shared → Prop} (n : Int) (hl : s.heap.IsList l vs.toArray) (e : (vs.length : Int) = n) (hfit : n < 2 ^ 63)
    (h : Q (.int n (s.toks + 1)) { s with toks := s.toks + 1 + 1 }) : wpAny (model prog w) A (call (.builtin "len") [.ref l]) Q E s := by
  subst e
  exact call_len_list hl (by simpa using hfit) (by simpa using h)
end

theorem St.base {g g' h : Heap} {L : Addr} {m : Str → Option Value} {led : Led} (S : St g' L m led h) (k : Sub g g') : St g L m led h :=
  ⟨S.ns, k.trans S.keep, none_of_new k S.offL, S.ats, fun p hp => ⟨none_of_new k (S.off p hp).1, (S.off p hp).2⟩, S.nodup⟩

section loops
variable {prog : Program} {w : World} {A : Around} {E : Value → Shared → Prop} {s : Shared} {g : Heap} {L : Addr}

/-- what a loop over an iterator needs, behind pyIter -/
def Iterates (prog : Program) (w : World) (A : Around) (hb : Heap) (g : Heap) (L : Addr) (m : Str → Option Value) (led : Led) (n : Nat) (P : Nat → Value → Prop) (it : Value) (s₂ : Shared) : Prop :=
  ∃ I fp wr Sti, it = .ref I ∧ Walks prog w A I fp wr n P Sti ∧ Sti 0 s₂.heap ∧ St g L m led s₂.heap ∧ (∀ b ∈ fp, b ≠ L ∧ b ∉ led.map (·.1)) ∧ (∀ b ∈ wr, g.get? b = none) ∧
    (∀ i h, Sti i h → ∀ b ∈ fp, ∃ o, h.get? b = some o) ∧ Sub hb s₂.heap ∧ (∀ b ∈ wr, hb.get? b = none)

def LoopBack (s : Shared) (g : Heap) (L : Addr) (Inv : (Str → Option Value) → Led → Prop) (Q : Flow → Shared → Prop) (f : Flow) (s' : Shared) : Prop :=
  match f with
  | .next | .cont => ∃ h' tk m' led', s' = { s with heap := h', toks := tk } ∧ St g L m' led' h' ∧ Inv m' led'
  | .brk => Q .next s'
  | .ret v => Q (.ret v) s'

theorem loop_walk {target : Expr} {body : List Stmt} {env : Env} {it : Value} {m : Str → Option Value} {led : Led} {n : Nat} {P : Nat → Value → Prop} {Q : Flow → Shared → Prop}
    (Inv : Nat → (Str → Option Value) → Led → Prop) {hb : Heap} (X : Iterates prog w A hb g L m led n P it s) (h0 : Inv 0 m led)
    (turn : ∀ i v g₁ m₁ led₁ h tk, i < n → P i v → Sub g g₁ → Inv i m₁ led₁ → St g₁ L m₁ led₁ h →
      wpAny (model prog w) A (assign target env v) (fun _ s₂ => wpAny (model prog w) A (execs body env) (LoopBack s g₁ L (Inv (i + 1)) Q) F0 s₂) F0 { s with heap := h, toks := tk })
    (done : ∀ m₁ led₁ h tk, Inv n m₁ led₁ → St g L m₁ led₁ h → Q .next { s with heap := h, toks := tk })
    (ht : ∀ v, letOwnedTupleGo target it v = pure () := by intro _; rfl) :
    codeAny (model prog w) A (.forLoop target it body [] env) (fun r s' => match r with | .ok f => Q f s' | .error e => cameBackBy (model prog w) A env E e s') s := by
  obtain ⟨I, fp, wr, Sti, rfl, W, st0, S0, hfp, hwr, alive, _, _⟩ := X
  refine codeAny_forLoop_any (fun k s' => ∃ i h tk m₁ led₁, s' = { s with heap := h, toks := tk } ∧ i ≤ n ∧ k = n + 1 - i ∧ Sti i h ∧ St g L m₁ led₁ h ∧ Inv i m₁ led₁ ∧
    (∀ b ∈ fp, b ≠ L ∧ b ∉ led₁.map (·.1))) ?_ (n + 1)
    ⟨0, s.heap, s.toks, m, led, rfl, Nat.zero_le _, rfl, st0, S0, h0, hfp⟩
  rintro k s' ⟨i, h, tk, m₁, led₁, rfl, hi, rfl, st, S, hI, hf⟩
  have off : ∀ h', (∀ b o, b ∉ wr → h.get? b = some o → h'.get? b = some o) → St g L m₁ led₁ h' := fun h' k =>
    ⟨S.ns.at' fun o e => k _ o (fun hb => (hf _ (W.sub _ hb)).1 rfl) e, fun b o e => k b o (fun hb => by rw [hwr b hb] at e; cases e) (S.keep b o e), S.offL,
      fun p hp => (S.ats p hp).at fun o e => k _ o (fun hb => (hf _ (W.sub _ hb)).2 (List.mem_map_of_mem hp)) e, S.off, S.nodup⟩
  by_cases hlt : i < n
  · refine W.item i _ _ _ hlt st fun v h₁ tk₁ hP st₁ k₁ => ?_
    have S₁ : St g L m₁ (led₁ ++ []) h₁ := by rw [List.append_nil]; exact off h₁ k₁
    obtain ⟨g₁, sub, S₂, _, get⟩ := S₁.freeze
    refine wpAny_of_eq (ht v) ?_
    refine wpAny_mono (turn i v g₁ m₁ led₁ h₁ tk₁ hlt hP sub hI S₂) (fun _ s₂ h₂ => wpAny_mono h₂ (fun f s₃ h₃ => ?_) fun _ _ x => x.elim) fun _ _ x => x.elim
    have fin : (∃ h' tk m' led', s₃ = { s with heap := h', toks := tk } ∧ St g₁ L m' led' h' ∧ Inv (i + 1) m' led') → ∃ m, m < n + 1 - i ∧ ∃ i h tk m₁ led₁, s₃ = { s with heap := h, toks := tk } ∧ i ≤ n ∧ m = n + 1 - i ∧ Sti i h ∧ St g L m₁ led₁ h ∧ Inv i m₁ led₁ ∧
        (∀ b ∈ fp, b ≠ L ∧ b ∉ led₁.map (·.1)) := by
      rintro ⟨h', tk', m', led', rfl, S₃, hI'⟩
      have inG : ∀ b ∈ fp, ∀ o, h₁.get? b = some o → g₁.get? b = some o := fun b hb o e => get b o e (hf b hb).1 (hf b hb).2
      refine ⟨n + 1 - (i + 1), by omega, i + 1, h', tk', m', led', rfl, hlt, rfl, W.frame _ _ _ st₁ fun b hb o e => S₃.keep b o (inG b hb o e), S₃.base sub, hI', fun b hb => ⟨(hf b hb).1, fun q => ?_⟩⟩
      obtain ⟨p, hp, rfl⟩ := List.mem_map.mp q
      obtain ⟨o, ho⟩ := alive _ _ st₁ _ hb
      have := (S₃.off p hp).1
      rw [inG _ hb o ho] at this; cases this
    cases f with
    | next => exact fin h₃
    | cont => exact fin h₃
    | brk => exact h₃
    | ret v => exact h₃
  · have hin : i = n := by omega
    subst hin
    refine W.done _ _ _ st fun h₁ tk₁ k₁ => ?_
    exact wpAny_execs_nil (done m₁ led₁ h₁ tk₁ hI (off h₁ k₁))

/-- a for over anything that iterates -/
theorem for_walk {target iter : Expr} {body : List Stmt} {env : Env} {pos : Pos} {Q : Flow → Shared → Prop}
    (h : wpAny (model prog w) A (eval iter env) (fun x s₁ => wpAny (model prog w) A (pyIter x) (fun it s₂ =>
      codeAny (model prog w) A (.forLoop target it body [] env) (fun r s' => match r with | .ok f => Q f s' | .error e => cameBackBy (model prog w) A env E e s') s₂) E s₁) E s)
    (hs : ∀ x, foldedSetIterable iter env x = pure x := by intro _; rfl) :
    wpAny (model prog w) A (exec (.For target iter body [] pos) env) Q E s := wpAny_For h hs

/-- pyIter of a range just made -/
theorem iter_range {a b : Int} {t u v : Tok} {r : Addr} {m : Str → Option Value} {led : Led} {Q : Value → Shared → Prop} (hh : A.handled = none) (S : St g L m led s.heap) (hr : IsRange s.heap r a b 1 t u v)
    (ha : -(2 ^ 62) ≤ a) (ha' : a < 2 ^ 62) (hb : -(2 ^ 62) ≤ b) (hb' : b < 2 ^ 62)
    (h : ∀ it h', Sub s.heap h' → Iterates prog w A s.heap g L m led (b - a).toNat (fun i v => ∃ tk, v = .int (a + i) tk) it { s with heap := h' } → Q it { s with heap := h' }) :
    wpAny (model prog w) A (pyIter (.ref r)) Q E s := by
  have W := Walks.range (prog := prog) (w := w) hh s.heap.objs.size a 1 (b - a).toNat
  refine wpAny_pyIter_range hr (small_one ha ha' hb hb') (h _ _ ((Sub.refl _).push _) ⟨s.heap.objs.size, [s.heap.objs.size], [s.heap.objs.size], _, rfl,
    ⟨W.sub, W.frame, fun i s Q E hi st hQ => W.item i s Q E hi st fun v h' tk hp st' hk => hQ v h' tk (by simpa using hp) st' hk, W.done, W.self⟩, ?_, S.push _, ?_, ?_, ?_, (Sub.refl _).push _, fun b hb => by rw [List.mem_singleton.mp hb]; exact new_none _ (Nat.le_refl _)⟩)
  · show IsRangeIter (s.heap.push _) _ _ _ _
    rw [rangeSize_nat]
    have := Heap.get?_push_size s.heap (o := { cls := .type "range_iterator", data := .fields #[rawInt a, rawInt ((b - a).toNat : Int), rawInt 1] }) rfl
    simpa using this
  · intro b hb
    rw [List.mem_singleton.mp hb]
    refine ⟨fun q => absurd S.ns.lt (by rw [q]; exact Nat.lt_irrefl _), fun q => ?_⟩
    obtain ⟨p, hp, e⟩ := List.mem_map.mp q
    exact absurd (S.ats p hp).lt (by rw [e]; exact Nat.lt_irrefl _)
  · intro b hb
    rw [List.mem_singleton.mp hb]
    exact none_of_new S.keep (new_none _ (Nat.le_refl _))
  · intro i h st b hb
    rw [List.mem_singleton.mp hb]
    exact ⟨_, st⟩

/-- pyIter of a list of the frozen part -/
theorem iter_list {l : Addr} {vs : List Value} {m : Str → Option Value} {led : Led} {Q : Value → Shared → Prop} (hh : A.handled = none) (S : St g L m led s.heap) (hl : g.IsList l vs.toArray)
    (h : ∀ it h', Sub s.heap h' → Iterates prog w A s.heap g L m led vs.length (fun i v => vs[i]? = some v) it { s with heap := h' } → Q it { s with heap := h' }) :
    wpAny (model prog w) A (pyIter (.ref l)) Q E s := by
  have hls : s.heap.IsList l vs.toArray := hl.at fun o e => S.keep l o e
  obtain ⟨ol, hol, _⟩ := id hl
  have hne : l ≠ s.heap.objs.size := Nat.ne_of_lt (Heap.lt_size (S.keep _ _ hol))
  have W := Walks.list (prog := prog) (w := w) hh s.heap.objs.size l hne vs.toArray
  have hlen : vs.toArray.size = vs.length := by simp
  rw [hlen] at W
  refine wpAny_pyIter_list hls (h _ _ ((Sub.refl _).push _) ⟨s.heap.objs.size, [s.heap.objs.size, l], [s.heap.objs.size], _, rfl,
    ⟨W.sub, W.frame, fun i s Q E hi st hQ => W.item i s Q E hi st fun v h' tk hp st' hk => hQ v h' tk (by simpa using hp) st' hk, W.done, W.self⟩, ?_, S.push _, ?_, ?_, ?_, (Sub.refl _).push _, fun b hb => by rw [List.mem_singleton.mp hb]; exact new_none _ (Nat.le_refl _)⟩)
  · exact ⟨⟨_, Heap.get?_push_size _ rfl, rfl, rfl⟩, hls.at fun o e => Heap.get?_push_of_some _ e⟩
  · intro b hb
    rcases List.mem_cons.mp hb with rfl | hb
    · refine ⟨fun q => absurd S.ns.lt (by rw [q]; exact Nat.lt_irrefl _), fun q => ?_⟩
      obtain ⟨p, hp, e⟩ := List.mem_map.mp q
      exact absurd (S.ats p hp).lt (by rw [e]; exact Nat.lt_irrefl _)
    · rw [List.mem_singleton.mp hb]
      refine ⟨fun q => ?_, fun q => ?_⟩
      · have := S.offL; rw [← q, hol] at this; cases this
      · obtain ⟨p, hp, e⟩ := List.mem_map.mp q
        have := (S.off p hp).1; rw [e, hol] at this; cases this
  · intro b hb
    rw [List.mem_singleton.mp hb]
    exact none_of_new S.keep (new_none _ (Nat.le_refl _))
  · intro i h st b hb
    rcases List.mem_cons.mp hb with rfl | hb
    · obtain ⟨o, e, _⟩ := st.1; exact ⟨o, e⟩
    · rw [List.mem_singleton.mp hb]
      obtain ⟨o, e, _⟩ := st.2; exact ⟨o, e⟩

end loops
end Mine
namespace Mine
open PySem PySem.Calls PyProof.Rows

theorem St.dropBut {g h h' : Heap} {L a : Addr} {m : Str → Option Value} {x : MO} {led : Led} (S : St g L m ((a, x) :: led) h) (k : Heap.SameBut a h h') : St g L m led h' := by
  have ha := S.off _ (.head _)
  have nd := S.nodup
  simp only [List.map_cons, List.nodup_cons] at nd
  exact ⟨S.ns.sameBut k (Ne.symm ha.2), fun b o e => (k.2 b fun q => by rw [q, ha.1] at e; cases e).trans (S.keep b o e), S.offL,
    fun p hp => (S.ats p (.tail _ hp)).but k fun q => nd.1 (List.mem_map.mpr ⟨p, hp, q⟩), fun p hp => S.off p (.tail _ hp), nd.2⟩

theorem St.adds {g h h' : Heap} {L : Addr} {m : Str → Option Value} {led : Led} (S : St g L m led h) (k : Sub h h') {os : Led} (e : ∀ p ∈ os, h.get? p.1 = none ∧ p.2.At h' p.1) (nd : (os.map (·.1)).Nodup) : St g L m (os ++ led) h' := by
  refine ⟨S.ns.keeps k, S.keep.trans k, S.offL, fun p hp => ?_, fun p hp => ?_, ?_⟩
  · rcases List.mem_append.mp hp with hp | hp
    · exact (e p hp).2
    · exact (S.ats p hp).sub k
  · rcases List.mem_append.mp hp with hp | hp
    · refine ⟨none_of_new S.keep (e p hp).1, fun q => ?_⟩
      obtain ⟨o, _, _, ho, _⟩ := S.ns
      rw [← q, (e p hp).1] at ho; cases ho
    · exact S.off p hp
  · rw [List.map_append, List.nodup_append]
    refine ⟨nd, S.nodup, fun a ha b hb q => ?_⟩
    obtain ⟨p, hp, rfl⟩ := List.mem_map.mp ha
    obtain ⟨p', hp', rfl⟩ := List.mem_map.mp hb
    obtain ⟨o, ho⟩ := (S.ats p' hp').obj
    rw [← q, (e p hp).1] at ho; cases ho

/-- a value handed on by an element: what is new with it -/
def Handed (s : Shared) (h : Heap) (F : Value → Led → Prop) (y : Value) (s₄ : Shared) : Prop :=
  ∃ h' tk os, s₄ = { s with heap := h', toks := tk } ∧ Sub h h' ∧ F y os ∧ (∀ p ∈ os, h.get? p.1 = none ∧ p.2.At h' p.1) ∧ (os.map (·.1)).Nodup

section
variable {prog : Program} {w : World} {A : Around} {E : Value → Shared → Prop} {s : Shared} {g : Heap} {L : Addr}

theorem comp_core {elt iter : Expr} {x : Str} {px : Pos} {csc : Scope} {cl : List (Str × Addr)} {pos : Pos} {env : Env} {it : Value} {m : Str → Option Value} {led : Led} {n : Nat} {P : Nat → Value → Prop}
    {RR : Value → Addr → Result → Shared → Prop} (F : Nat → Value → Led → Prop) {hb : Heap} (X : Iterates prog w A hb g L m led n P it s)
    (hcell : ∀ y ∈ csc.names, y.2 ≠ .cell) (hkind : csc.kind = .function) (hx : csc.names.lookup x = some .local) (hsz : n ≤ sizeLine)
    (helt : ∀ i v C g₁ m₁ h tk, i < n → P i v → Sub g g₁ → (∀ p ∈ led, p.2.At g₁ p.1) → St g₁ C m₁ [] h → m₁ x = some v →
      wpAny (model prog w) A (eval elt (compEnvC csc cl C env)) (Handed s h (F i)) F0 { s with heap := h, toks := tk })
    (fin : ∀ D C o h' tk ys oss, (∃ m', h'.Ns C m') → List.length ys = n → List.length oss = n → (∀ i y os, ys[i]? = some y → oss[i]? = some os → F i y os) →
      St g L m ((C, .raw o) :: (D, .lst ys) :: (oss.flatten ++ led)) h' → Sub hb h' → hb.get? C = none → RR (.ref D) C (.ok .next) { s with heap := h', toks := tk }) :
    wpAny (model prog w) A (newList []) (fun acc s₃ => wpAny (model prog w) A (newFunctionEnv csc env.globals cl [] env.qual none .none (some env)) (fun cenv s₄ =>
      codeAny (model prog w) A (.compStart (.ListComp elt [⟨.Name x px, iter, [], 0⟩] csc pos) 0 it acc { cenv with scope := relabel csc env }) (RR acc cenv.locals) s₄) E s₃) E s := by
  obtain ⟨I, fp, wr, Sti, rfl, Wk, st0, S0, hfp, hwr, alive, hbS, hbw⟩ := X
  refine wpAny_newObj_type (wpAny_newFunctionEnv hcell (by intro y hy; simp at hy) (fun h₁ hns₁ hsb₁ => ?_) hkind)
  dsimp only at hns₁ hsb₁ ⊢
  generalize hH2 : s.heap.push { cls := .type "list", dict := none, data := .seq ([] : List Value).toArray } = H2 at hns₁ hsb₁ ⊢
  have hC : H2.objs.size = s.heap.objs.size + 1 := by rw [← hH2, Heap.size_push]
  have old : Sub s.heap h₁ := fun b o e => hsb₁.extBut b o (by rw [hC]; exact Nat.ne_of_lt (Nat.lt_succ_of_lt (Heap.lt_size e))) (Heap.get?_push_of_some _ (hH2 ▸ Heap.get?_push_of_some _ e))
  let g₀ := W.hideAll s.heap wr
  have sub0 : Sub g₀ s.heap := fun b o e => W.of_hideAll _ e
  have T0 : St g₀ H2.objs.size (fun _ => none) ((s.heap.objs.size, .lst []) :: ([] : List Led).flatten) h₁ := by
    refine ⟨hns₁, sub0.trans old, none_of_new sub0 (new_none _ (by rw [hC]; exact Nat.le_succ _)), fun p hp => ?_, fun p hp => ?_, ?_⟩
    · rw [List.flatten_nil] at hp
      rw [List.mem_singleton.mp hp]
      exact ⟨0, hsb₁.extBut _ _ (by rw [hC]; exact Nat.ne_of_lt (Nat.lt_succ_self _)) (Heap.get?_push_of_some _ (hH2 ▸ Heap.get?_push_size _ rfl))⟩
    · rw [List.flatten_nil] at hp
      rw [List.mem_singleton.mp hp]
      exact ⟨none_of_new sub0 (new_none _ (Nat.le_refl _)), by show s.heap.objs.size ≠ H2.objs.size; rw [hC]; exact Nat.ne_of_lt (Nat.lt_succ_self _)⟩
    · simp
  have inG : ∀ b o, b ∉ wr → s.heap.get? b = some o → g₀.get? b = some o := fun b o hb e => W.hideAll_get _ e hb
  have fpG : ∀ b ∈ fp, b < s.heap.objs.size := fun b hb => let ⟨o, e⟩ := alive _ _ st0 b hb; Heap.lt_size e
  have gg₀ : Sub g g₀ := fun b o e => inG b o (fun hb => by rw [hwr b hb] at e; cases e) (S0.keep b o e)
  have outer : ∀ h', Sub g₀ h' → Sub g h' ∧ (∀ p ∈ led, p.2.At h' p.1) := fun h' k =>
    ⟨gg₀.trans k, fun p hp => (S0.ats p hp).at fun o e => k _ o (inG _ o (fun hb => (hfp _ (Wk.sub _ hb)).2 (List.mem_map_of_mem hp)) e)⟩
  have loop : ∀ s₃ : Shared, s₃ = { s with heap := h₁, toks := s.toks + ([] : List (Str × Value)).length } →
      codeAny (model prog w) A (.compLoop (.ListComp elt [⟨.Name x px, iter, [], 0⟩] csc pos) 0 (.ref I) (.ref s.heap.objs.size) (compEnvC csc cl H2.objs.size env))
        (RR (.ref s.heap.objs.size) H2.objs.size) s₃ := by
    rintro s₃ rfl
    refine codeAny_compLoop_list (fun k s' => ∃ i h tk m' ys, ∃ oss : List Led, s' = { s with heap := h, toks := tk } ∧ i ≤ n ∧ k = n + 1 - i ∧ Sti i h ∧ List.length ys = i ∧ oss.length = i ∧
      (∀ i y os, ys[i]? = some y → oss[i]? = some os → F i y os) ∧ St g₀ H2.objs.size m' ((s.heap.objs.size, .lst ys) :: oss.flatten) h ∧ (∀ p ∈ oss.flatten, p.1 ∉ fp)) ?_ (n + 1)
      ⟨0, h₁, _, _, [], [], rfl, Nat.zero_le _, rfl, Wk.frame _ _ _ st0 fun b _ o e => old b o e, rfl, rfl, by simp, T0, by simp⟩
    rintro k s' ⟨i, h, tk, m', ys, oss, rfl, hi, rfl, st, hys, hoss, hF, T, hlow⟩
    have fpOff : ∀ b ∈ fp, b ≠ H2.objs.size ∧ b ≠ s.heap.objs.size ∧ b ∉ ((s.heap.objs.size, MO.lst ys) :: oss.flatten).map (·.1) := fun b hb => by
      have hlt := fpG b hb
      refine ⟨by rw [hC]; exact Nat.ne_of_lt (Nat.lt_succ_of_lt hlt), Nat.ne_of_lt hlt, fun q => ?_⟩
      obtain ⟨p, hp, e⟩ := List.mem_map.mp q
      rcases List.mem_cons.mp hp with rfl | hp
      · exact absurd e (Nat.ne_of_gt hlt)
      · exact hlow p hp (e ▸ hb)
    have off : ∀ h', (∀ b o, b ∉ wr → h.get? b = some o → h'.get? b = some o) → St g₀ H2.objs.size m' ((s.heap.objs.size, .lst ys) :: oss.flatten) h' := fun h' k =>
      ⟨T.ns.at' fun o e => k _ o (fun hb => (fpOff _ (Wk.sub _ hb)).1 rfl) e, fun b o e => k b o (fun hb => by rw [W.hideAll_none _ hb] at e; cases e) (T.keep b o e), T.offL,
        fun p hp => (T.ats p hp).at fun o e => k _ o (fun hb => (fpOff _ (Wk.sub _ hb)).2.2 (List.mem_map_of_mem hp)) e, T.off, T.nodup⟩
    by_cases hlt : i < n
    · refine Wk.item i _ _ _ hlt st fun v h₂ tk₂ hP st₂ k₂ => ?_
      have T₂ := off h₂ k₂
      refine wpAny_assign_Name (wpAny_storeName_local (env := compEnvC csc cl H2.objs.size env) (lookup_relabel_local hx) T₂.ns (fun h₃ hn₃ hs₃ => ?_) (by simp [compEnvC, relabel, hkind]))
      have T₃ : St g₀ H2.objs.size (fun y => if y = x then some v else m' y) ((s.heap.objs.size, .lst ys) :: oss.flatten) h₃ := T₂.setNs hn₃ hs₃
      obtain ⟨g₁, sub₁, T₄, _, get₁⟩ := St.freeze (led₁ := []) (led₂ := (s.heap.objs.size, .lst ys) :: oss.flatten) T₃
      refine wp0 (wpAny_mono (helt i v H2.objs.size g₁ _ h₃ _ hlt hP (outer g₁ sub₁).1 (outer g₁ sub₁).2 T₄ (by simp)) (fun y s₄ h₄ => ?_) fun _ _ x => x.elim)
      obtain ⟨h₅, tk₅, os, rfl, k₅, hFy, hos, hnd⟩ := h₄
      have T₅ := T₃.adds k₅ hos hnd
      have T₆ : St g₀ H2.objs.size (fun y => if y = x then some v else m' y) ((s.heap.objs.size, .lst ys) :: (oss.flatten ++ os)) h₅ :=
        T₅.perm (List.Perm.trans (List.Perm.cons _ (List.perm_append_comm)) List.perm_middle.symm)
      refine wpAny_list_append_plain (T₆.at (.head _)) (fun h₆ hp₆ hs₆ => ?_) (by simp [hys]; omega)
      have T₇ := T₆.upd 0 rfl hs₆ (x' := .lst (ys ++ [y])) (by show h₆.PlainList _ (ys ++ [y]).toArray; simpa using hp₆)
      refine ⟨n + 1 - (i + 1), by omega, i + 1, h₆, tk₅, (fun y => if y = x then some v else m' y), ys ++ [y], oss ++ [os], rfl, hlt, rfl, ?_, by simp [hys], by simp [hoss], ?_, ?_, ?_⟩
      · exact Wk.frame _ _ _ st₂ fun b hb o e => (hs₆.2 b (fpOff b hb).2.1).trans (k₅ b o ((hs₃.2 b (fpOff b hb).1).trans e))
      · intro j y' os' hj hj'
        by_cases hji : j < i
        · rw [List.getElem?_append_left (by omega)] at hj hj'
          exact hF j y' os' hj hj'
        · by_cases hje : j = i
          · subst hje
            rw [List.getElem?_append_right (by omega)] at hj hj'
            simp [hys] at hj; simp [hoss] at hj'
            rw [← hj, ← hj']; exact hFy
          · rw [List.getElem?_eq_none (by simp; omega)] at hj; cases hj
      · simpa using T₇
      · intro p hp
        rw [List.flatten_append] at hp
        rcases List.mem_append.mp hp with hp | hp
        · exact hlow p hp
        · simp at hp
          intro hb
          obtain ⟨o, e⟩ := alive _ _ st₂ _ hb
          have e3 := (hs₃.2 _ (fpOff _ hb).1).trans e
          rw [(hos p hp).1] at e3; cases e3
    · have hin : i = n := by omega
      subst hin
      refine Wk.done _ _ _ st fun h₂ tk₂ k₂ => ?_
      have T₂ := off h₂ k₂
      obtain ⟨oC, esC, epC, hoC, rC⟩ := id T₂.ns
      refine fin _ _ oC h₂ tk₂ ys oss ⟨_, T₂.ns⟩ hys hoss hF ?_ (fun b o e => T₂.keep b o (inG b o (fun hb => by rw [hbw b hb] at e; cases e) (hbS b o e))) (none_of_new hbS (new_none _ (by rw [hC]; exact Nat.le_succ _)))
      obtain ⟨k1, k2⟩ := outer h₂ T₂.keep
      have Lw : L ∉ wr := fun hb => (hfp _ (Wk.sub _ hb)).1 rfl
      obtain ⟨oL, esL, epL, hoL, rL⟩ := id S0.ns
      have gL : g₀.get? L = some oL := inG L oL Lw hoL
      have gled : ∀ p ∈ led, ∃ o, g₀.get? p.1 = some o := fun p hp => by
        obtain ⟨o, e⟩ := (S0.ats p hp).obj
        exact ⟨o, inG _ o (fun hb => (hfp _ (Wk.sub _ hb)).2 (List.mem_map_of_mem hp)) e⟩
      have newOff : ∀ p ∈ (s.heap.objs.size, MO.lst ys) :: oss.flatten, g.get? p.1 = none ∧ p.1 ≠ L := fun p hp =>
        ⟨none_of_new gg₀ (T₂.off p hp).1, fun q => by have := (T₂.off p hp).1; rw [q, gL] at this; cases this⟩
      have Coff : ∀ b, b < s.heap.objs.size → b ≠ H2.objs.size := fun b hb => by rw [hC]; exact Nat.ne_of_lt (Nat.lt_succ_of_lt hb)
      refine ⟨S0.ns.at' fun o e => T₂.keep _ _ (inG _ _ Lw e), k1, S0.offL, fun p hp => ?_, fun p hp => ?_, ?_⟩
      · rcases List.mem_cons.mp hp with rfl | hp
        · exact hoC
        · rw [← List.cons_append] at hp
          rcases List.mem_append.mp hp with hp | hp
          · exact T₂.ats p hp
          · exact k2 p hp
      · rcases List.mem_cons.mp hp with rfl | hp
        · exact ⟨none_of_new S0.keep (new_none _ (by rw [hC]; exact Nat.le_succ _)), Ne.symm (Coff L (Heap.lt_size hoL))⟩
        · rw [← List.cons_append] at hp
          rcases List.mem_append.mp hp with hp | hp
          · exact newOff p hp
          · exact S0.off p hp
      · rw [← List.cons_append, List.map_cons, List.map_append, List.nodup_cons, List.nodup_append]
        refine ⟨fun q => ?_, T₂.nodup, S0.nodup, fun a ha b hb q => ?_⟩
        · rcases List.mem_append.mp q with q | q
          · obtain ⟨p, hp, e⟩ := List.mem_map.mp q
            exact (T₂.off p hp).2 e
          · obtain ⟨p, hp, e⟩ := List.mem_map.mp q
            exact Coff _ (S0.ats p hp).lt e
        · obtain ⟨p, hp, rfl⟩ := List.mem_map.mp ha
          obtain ⟨p', hp', rfl⟩ := List.mem_map.mp hb
          obtain ⟨o, e⟩ := gled p' hp'
          have := (T₂.off p hp).1
          rw [q, e] at this; cases this
  exact codeAny_compStart_list (loop _ rfl) (Wk.self 0 _ _ _ (Wk.frame _ _ _ st0 fun b _ o e => old b o e) (loop _ rfl))

abbrev cEX (ex : EX) : EX := { ex with func := none }

/-- what is asked behind pyIter: the comprehension as a value -/
inductive CompV (prog : Program) (w : World) (A : Around) (g : Heap) (L : Addr) (elt : Expr) (x : Str) (csc' : Scope) (cl : List (Str × Addr)) (ex : EX) (Q : Value → Shared → Prop) (it : Value) (s₂ : Shared) : Prop where
  | mk (hb : Heap) (m : Str → Option Value) (led : Led) (n : Nat) (P : Nat → Value → Prop) (F : Nat → Value → Led → Prop) (hsz : n ≤ sizeLine) (X : Iterates prog w A hb g L m led n P it s₂)
      (helt : ∀ i v C g₁ m₁ h tk, i < n → P i v → Sub g g₁ → (∀ p ∈ led, p.2.At g₁ p.1) → St g₁ C m₁ [] h → m₁ x = some v →
        wpAny (model prog w) A (eval elt (mkEnv csc' C cl (cEX ex))) (Handed s₂ h (F i)) F0 { s₂ with heap := h, toks := tk })
      (fin : ∀ D h' tk ys oss, List.length ys = n → List.length oss = n → (∀ (i : Nat) y os, ys[i]? = some y → oss[i]? = some os → F i y os) →
        St g L m ((D, .lst ys) :: (oss.flatten ++ led)) h' → Sub hb h' → Q (.ref D) { s₂ with heap := h', toks := tk }) : CompV prog w A g L elt x csc' cl ex Q it s₂
/-- the same, the value assigned to y -/
inductive CompN (prog : Program) (w : World) (A : Around) (g : Heap) (L : Addr) (elt : Expr) (x y : Str) (csc' : Scope) (cl : List (Str × Addr)) (ex : EX) (Q : Flow → Shared → Prop) (it : Value) (s₂ : Shared) : Prop where
  | mk (hb : Heap) (m : Str → Option Value) (led : Led) (n : Nat) (P : Nat → Value → Prop) (F : Nat → Value → Led → Prop) (hsz : n ≤ sizeLine) (X : Iterates prog w A hb g L m led n P it s₂)
      (helt : ∀ i v C g₁ m₁ h tk, i < n → P i v → Sub g g₁ → (∀ p ∈ led, p.2.At g₁ p.1) → St g₁ C m₁ [] h → m₁ x = some v →
        wpAny (model prog w) A (eval elt (mkEnv csc' C cl (cEX ex))) (Handed s₂ h (F i)) F0 { s₂ with heap := h, toks := tk })
      (fin : ∀ D h' tk ys oss, List.length ys = n → List.length oss = n → (∀ (i : Nat) y os, ys[i]? = some y → oss[i]? = some os → F i y os) →
        St g L (set1 m y (.ref D)) ((D, .lst ys) :: (oss.flatten ++ led)) h' → Q .next { s₂ with heap := h', toks := tk }) : CompN prog w A g L elt x y csc' cl ex Q it s₂

/-- a list comprehension (one for, no test) as a value -/
theorem comp_val {elt iter : Expr} {x : Str} {px : Pos} {sc csc csc' : Scope} {cs cl : List (Str × Addr)} {ex : EX} {pos : Pos} {Q : Value → Shared → Prop}
    (hclos : closureFor csc (mkEnv sc L cs ex) = pure cl) (hcell : ∀ y ∈ csc.names, y.2 ≠ .cell) (hkind : csc.kind = .function)
    (hnames : ∀ y ∈ csc.names, y.2 = .local → csc.names.lookup y.1 = some .local) (hx : csc.names.lookup x = some .local) (hrel : relabel csc (mkEnv sc L cs ex) = csc')
    (h : wpAny (model prog w) A (eval iter (mkEnv sc L cs ex)) (fun xv s₁ => wpAny (model prog w) A (pyIter xv) (fun it s₂ => CompV prog w A g L elt x csc' cl ex Q it s₂) E s₁) E s)
    (hs : ∀ x, foldedSetIterable iter (mkEnv sc L cs ex) x = pure x := by intro _; rfl) :
    wpAny (model prog w) A (eval (.ListComp elt [⟨.Name x px, iter, [], 0⟩] csc pos) (mkEnv sc L cs ex)) Q E s := by
  rw [eval_ListComp]
  refine wpAny_comprehension_free (use := none) rfl hs hclos hkind hnames (wpAny_mono h (fun xv s₁ h₁ => wpAny_mono h₁ (fun it s₂ h₂ => ?_) fun _ _ e => e) fun _ _ e => e)
  obtain ⟨hb, m, led, n, P, F, hsz, X, helt, hQ⟩ := h₂
  refine comp_core (RR := fun acc C => compPost (model prog w) A E none Q acc C) F X hcell hkind hx hsz ?_ ?_
  · intro i v C g₁ m₁ h tk hi hP k k2 S hv
    have := helt i v C g₁ m₁ h tk hi hP k k2 S hv
    rw [← hrel] at this
    exact this
  · intro D C o h' tk ys oss hn hl1 hl2 hF S hbh hbC
    obtain ⟨m', hn⟩ := hn
    exact ⟨m', hn, fun h'' hs'' => hQ D h'' tk ys oss hl1 hl2 hF (S.dropBut hs'') fun b o e => (hs''.2 b fun q => by rw [q, hbC] at e; cases e).trans (hbh b o e)⟩

/-- the same, assigned to a local name at once -/
theorem comp_asg {elt iter : Expr} {x y : Str} {px py : Pos} {sc csc csc' : Scope} {cs cl : List (Str × Addr)} {ex : EX} {pos spos : Pos} {Q : Flow → Shared → Prop}
    (hsw : swapsWith (.ListComp elt [⟨.Name x px, iter, [], 0⟩] csc pos) (some (.Name y py)) spos.line (mkEnv sc L cs ex) = pure true)
    (hclos : closureFor csc (mkEnv sc L cs ex) = pure cl) (hcell : ∀ y ∈ csc.names, y.2 ≠ .cell) (hkind : csc.kind = .function)
    (hnames : ∀ y ∈ csc.names, y.2 = .local → csc.names.lookup y.1 = some .local) (hx : csc.names.lookup x = some .local) (hrel : relabel csc (mkEnv sc L cs ex) = csc')
    (hy : sc.names.lookup y = some .local) (hk : sc.kind = .function)
    (h : wpAny (model prog w) A (eval iter (mkEnv sc L cs ex)) (fun xv s₁ => wpAny (model prog w) A (pyIter xv) (fun it s₂ => CompN prog w A g L elt x y csc' cl ex Q it s₂) E s₁) E s)
    (hs : ∀ x, foldedSetIterable iter (mkEnv sc L cs ex) x = pure x := by intro _; rfl) :
    wpAny (model prog w) A (exec (.Assign [.Name y py] (.ListComp elt [⟨.Name x px, iter, [], 0⟩] csc pos) spos) (mkEnv sc L cs ex)) Q E s := by
  rw [exec_Assign_Name_used _ _ _ _ hsw]
  refine wpAny_bind (wpAny_standAt (wpAny_bind ?_))
  show wpAny _ A (do let _ ← comprehension (.ListComp elt [⟨.Name x px, iter, [], 0⟩] csc pos) csc (mkEnv sc L cs ex) _ (newList []) false (eval iter (mkEnv sc L cs ex)) (some (assign (.Name y py) (mkEnv sc L cs ex)))) _ _ s
  refine wpAny_bind (wpAny_mono (wpAny_comprehension_free (use := some (assign (.Name y py) (mkEnv sc L cs ex))) (Q := fun _ s' => Q .next s') rfl hs hclos hkind hnames
    (wpAny_mono h (fun xv s₁ h₁ => wpAny_mono h₁ (fun it s₂ h₂ => ?_) fun _ _ e => e) fun _ _ e => e)) (fun _ s' hq => wpAny_pure (wpAny_pure hq)) fun _ _ e => e)
  obtain ⟨hb, m, led, n, P, F, hsz, X, helt, hQ⟩ := h₂
  refine comp_core (RR := fun acc C => compPost (model prog w) A E (some (assign (.Name y py) (mkEnv sc L cs ex))) (fun _ s' => Q .next s') acc C) F X hcell hkind hx hsz ?_ ?_
  · intro i v C g₁ m₁ h tk hi hP k k2 S hv
    have := helt i v C g₁ m₁ h tk hi hP k k2 S hv
    rw [← hrel] at this
    exact this
  · intro D C o h' tk ys oss hn hl1 hl2 hF S _ _
    obtain ⟨m', hn⟩ := hn
    show wpAny _ A (assign (.Name y py) (mkEnv sc L cs ex) (.ref D)) _ _ _
    have CL : C ≠ L := (S.off _ (.head _)).2
    refine wpAny_assign_Name (wpAny_storeName_local (env := mkEnv sc L cs ex) hy S.ns (fun h₂ hn₂ hs₂ => ?_) (by show (sc.kind == .class || (sc.kind == .module && L != mainGlobals)) = false; rw [hk]; rfl))
    have S₂ := S.setNs hn₂ hs₂
    exact ⟨m', hn.sameBut hs₂ CL, fun h₃ hs₃ => hQ D h₃ _ ys oss hl1 hl2 hF (S₂.dropBut hs₃)⟩
end
end Mine
namespace Mine
open PySem PySem.Calls PyProof.Rows

def stAt (i : Nat) : Stmt := (PySem.Challenge.pw_qu0022_01.main.body[i]?).getD (.Pass ⟨0, 0, 0, 0⟩)
def fnName (i : Nat) : Str := match stAt i with | .FunctionDef n _ _ _ _ _ _ _ _ _ => n | _ => Str.empty
def fnParams (i : Nat) : Arguments := match stAt i with | .FunctionDef _ a _ _ _ _ _ _ _ _ => a | _ => default
def fnBodyU (i : Nat) : List Stmt := match stAt i with | .FunctionDef _ _ b _ _ _ _ _ _ _ => b | _ => []
/-- the body of the i-th statement of the top, shut: no step may look into it by chance -/
@[irreducible] def fnBody (i : Nat) : List Stmt := fnBodyU i
theorem fnBody_eq (i : Nat) : fnBody i = fnBodyU i := by unfold fnBody; rfl
def fnScope (i : Nat) : Scope := match stAt i with | .FunctionDef _ _ _ _ _ _ s _ _ _ => s | _ => default

abbrev fnD (i : Nat) (dV kV doc pm : Value) (an : Option Addr) (cdv ct : Value) : FuncData :=
  W.fnOf (fnName i) (fnName i) (fnParams i) (fnBody i) (fnScope i) dV kV doc pm an cdv ct

def FnAt (h : Heap) (f : Addr) (i : Nat) (kV : Value) : Prop :=
  ∃ oc od osl doc pm an cdv ct, h.get? f = some ⟨oc, od, .func (fnD i .none kV doc pm an cdv ct), osl⟩ ∧ h.CodeRec cdv (fnName i)

theorem FnAt.sub {h h' : Heap} {f : Addr} {i : Nat} {kV : Value} (x : FnAt h f i kV) (k : Sub h h') : FnAt h' f i kV :=
  let ⟨oc, od, osl, doc, pm, an, cdv, ct, e, r⟩ := x; ⟨oc, od, osl, doc, pm, an, cdv, ct, k _ _ e, r.keeps k⟩

def useB : List (Str × Value) := [("len", .builtin "len"), ("range", .type "range"), ("min", .builtin "min"), ("max", .builtin "max"), ("sum", .builtin "sum"), ("sorted", .builtin "sorted"),
  ("zip", .type "zip"), ("list", .type "list"), ("isinstance", .builtin "isinstance"), ("float", .type "float")]
def useF : List Nat := [5, 6, 7, 8, 9, 11, 12, 13, 14]

/-- the dict of quantiles' keyword defaults -/
def KwAt (h : Heap) (kd : Addr) : Prop :=
  ∃ mk, h.Ns kd mk ∧ (∃ t, mk "n" = some (.int 4 t)) ∧ ∃ t, mk "method" = some (.str "exclusive" t)

structure Gl (_w : World) (mg mb : Str → Option Value) (h : Heap) : Prop where
  g : h.Ns mainGlobals mg
  b : h.Ns builtinsNs mb
  nolimit : h.NoLimit
  bi : ∀ p ∈ useB, mg p.1 = none ∧ mb p.1 = some p.2
  fn : ∀ i ∈ useF, ∃ f, mg (fnName i) = some (.ref f) ∧ FnAt h f i .none
  qu : ∃ f kd, mg (fnName 2) = some (.ref f) ∧ FnAt h f 2 (.ref kd) ∧ KwAt h kd

theorem Gl.sub {w : World} {mg mb : Str → Option Value} {h h' : Heap} (G : Gl w mg mb h) (k : Sub h h') : Gl w mg mb h' :=
  ⟨G.g.keeps k, G.b.keeps k, G.nolimit.keeps k, G.bi, fun i hi => let ⟨f, e, x⟩ := G.fn i hi; ⟨f, e, x.sub k⟩,
    let ⟨f, kd, e, x, o, ho, r⟩ := G.qu; ⟨f, kd, e, x.sub k, o, ho.keeps k, r⟩⟩

section
variable {prog : Program} {w : World} {A : Around} {E : Value → Shared → Prop} {s : Shared}

/-- entering one of the text's defs without cells -/
theorem enter {f : Addr} {i : Nat} {kV : Value} {pos : List Value} {kw : List (Str × Value)} {binds : List (Str × Value)} {k : Nat} {Q : Value → Shared → Prop} (hA : AOk A (k + 1)) (X : FnAt s.heap f i kV) (hlim : s.heap.NoLimit)
    (hbind : ∀ doc pm an cdv ct, BindsTo s (fnD i .none kV doc pm an cdv ct) ⟨pos, kw⟩ binds) (hloc : ∀ y ∈ binds, (fnScope i).names.lookup y.1 = some .local)
    (hcell : ∀ x ∈ (fnScope i).names, x.2 ≠ .cell)
    (h : ∀ A' L ex h₁ tk, AOk A' k → St s.heap L (fun y => binds.reverse.lookup y) [] h₁ →
      wpAny (model prog w) A' (execs (fnBody i) (mkEnv (fnScope i) L [] ex)) (fun fl s' => Q (match fl with | .ret v => v | _ => .none) s') F0 { s with heap := h₁, toks := tk })
    (hco : (fnScope i).isCoroutine = false := by rfl) (hgen : (fnScope i).isGenerator = false := by rfl) (hk : (fnScope i).kind = .function := by rfl) :
    wpAny (model prog w) A (call (.ref f) pos kw) Q E s := by
  obtain ⟨oc, od, osl, doc, pm, an, cdv, ct, e, hcd⟩ := X
  refine wpAny_call ?_
  refine codeAny_call_def (fd := fnD i .none kV doc pm an cdv ct) (body := fnBody i) (binds := binds) (by have := hA.depth; omega) e rfl hlim hcd rfl (hbind doc pm an cdv ct) hcell hloc (fun h₁ hns hk₁ => ?_) hco hgen hk
  refine wpAny_mono (h _ s.heap.objs.size ⟨_, _, _, _⟩ h₁ _ (hA.deeper _) ⟨hns, hk₁, new_none _ (Nat.le_refl _), (fun _ hp => nomatch hp), (fun _ hp => nomatch hp), List.nodup_nil⟩) (fun fl s' q => q) fun _ _ x => x.elim

theorem bindC_local {kindOf : Str → Option NameKind} : ∀ {binds : List (Str × Value)} {m : Str → Option Value}, (∀ y ∈ binds, kindOf y.1 = some .local) → bindC kindOf binds m = m
  | [], _, _ => rfl
  | (n, v) :: r, m, h => by
    unfold bindC
    rw [if_pos (h (n, v) (.head _))]
    exact bindC_local fun y hy => h y (.tail _ hy)

/-- the cells of a def, as the ledger bears them -/
theorem enterC {f : Addr} {i : Nat} {kV : Value} {pos : List Value} {binds : List (Str × Value)} {k : Nat} {Q : Value → Shared → Prop} (hA : AOk A (k + 1)) (X : FnAt s.heap f i kV) (hlim : s.heap.NoLimit)
    (hbind : ∀ doc pm an cdv ct, bindArgs (fnD i .none kV doc pm an cdv ct) ⟨pos, []⟩ = pure binds) (hloc : ∀ y ∈ binds, (fnScope i).names.lookup y.1 = some .local)
    (cells : Addr → List (Str × Addr)) (hcells : ∀ L, cellsFrom (L + 1) (fnScope i).names [] = cells L) (hnd : ∀ L, ((cells L).map (·.1)).Nodup)
    (h : ∀ A' L ex h₁ tk, AOk A' k → St s.heap L (bindL (fun n => (fnScope i).names.lookup n) binds fun _ => none) ((cells L).map fun p => (p.2, .cel none)) h₁ →
      wpAny (model prog w) A' (execs (fnBody i) (mkEnv (fnScope i) L (cells L) ex)) (fun fl s' => Q (match fl with | .ret v => v | _ => .none) s') F0 { s with heap := h₁, toks := tk })
    (hco : (fnScope i).isCoroutine = false := by rfl) (hgen : (fnScope i).isGenerator = false := by rfl) (hk : (fnScope i).kind = .function := by rfl) :
    wpAny (model prog w) A (call (.ref f) pos) Q E s := by
  obtain ⟨oc, od, osl, doc, pm, an, cdv, ct, e, hcd⟩ := X
  refine wpAny_call ?_
  refine codeAny_call_cells (fd := fnD i .none kV doc pm an cdv ct) (body := fnBody i) (binds := binds) (by have := hA.depth; omega) e rfl hlim hcd rfl (hbind doc pm an cdv ct) rfl (fun y hy => .inl (hloc y hy)) (fun s₁ C => ?_) hco hgen hk
  have hb : bindC (callEnvC (fnD i .none kV doc pm an cdv ct) s.heap.objs.size f).kindOf binds (fun _ => none) = fun _ => none := bindC_local hloc
  have hcs : (callEnvC (fnD i .none kV doc pm an cdv ct) s.heap.objs.size f).cells = cells s.heap.objs.size := hcells _
  have henv : callEnvC (fnD i .none kV doc pm an cdv ct) s.heap.objs.size f = mkEnv (fnScope i) s.heap.objs.size (cells s.heap.objs.size) ⟨fnName i ++ ".<locals>.", some f, cdv, some s.heap.objs.size⟩ := by
    rw [← hcells]; rfl
  obtain ⟨⟨⟨h₁, tk, rfl⟩, hns, hkeep, hfresh⟩, hcell, hap, habove⟩ := C
  rw [hb] at hcell
  rw [hcs] at hcell hap habove
  rw [henv]
  refine wpAny_mono (h _ s.heap.objs.size _ h₁ tk (hA.deeper _) ⟨hns, hkeep, new_none _ (Nat.le_refl _), fun p hp => ?_, fun p hp => ?_, ?_⟩) (fun fl s' q => q) fun _ _ x => x.elim
  · obtain ⟨q, hq, rfl⟩ := List.mem_map.mp hp
    exact hcell q.1 q.2 (lookup_of_mem_nodup (hnd _) hq)
  · obtain ⟨q, hq, rfl⟩ := List.mem_map.mp hp
    have ha : s.heap.objs.size < q.2 := habove q.1 q.2 hq
    exact ⟨new_none _ (Nat.le_of_lt ha), Nat.ne_of_gt ha⟩
  · rw [List.map_map]
    exact (List.pairwise_map.mpr hap)
end
end Mine
namespace Mine
open PySem PySem.Calls PyProof.Rows
theorem bLen : (Str.ofString "len", Value.builtin "len") ∈ useB := List.mem_of_getElem? (i := 0) rfl
theorem bRange : (Str.ofString "range", Value.type "range") ∈ useB := List.mem_of_getElem? (i := 1) rfl
theorem bMin : (Str.ofString "min", Value.builtin "min") ∈ useB := List.mem_of_getElem? (i := 2) rfl
theorem bMax : (Str.ofString "max", Value.builtin "max") ∈ useB := List.mem_of_getElem? (i := 3) rfl
theorem bSum : (Str.ofString "sum", Value.builtin "sum") ∈ useB := List.mem_of_getElem? (i := 4) rfl
theorem bSorted : (Str.ofString "sorted", Value.builtin "sorted") ∈ useB := List.mem_of_getElem? (i := 5) rfl
theorem bZip : (Str.ofString "zip", Value.type "zip") ∈ useB := List.mem_of_getElem? (i := 6) rfl
theorem bList : (Str.ofString "list", Value.type "list") ∈ useB := List.mem_of_getElem? (i := 7) rfl
theorem bIsinstance : (Str.ofString "isinstance", Value.builtin "isinstance") ∈ useB := List.mem_of_getElem? (i := 8) rfl
theorem bFloat : (Str.ofString "float", Value.type "float") ∈ useB := List.mem_of_getElem? (i := 9) rfl
section
variable {prog : Program} {w : World} {A : Around} {E : Value → Shared → Prop} {s : Shared} {mg mb : Str → Option Value} {g : Heap} {L : Addr} {m : Str → Option Value} {led : Led}
  {sc : Scope} {cs : List (Str × Addr)} {ex : EX} {x : Str} {pos : Pos} {v : Value}
theorem nm_b {Q : Value → Shared → Prop} (G : Gl w mg mb g) (S : St g L m led s.heap) (hm : (x, v) ∈ useB) (hl : sc.names.lookup x = some .globalImplicit) (h : Q v s)
    (hk : sc.kind = .function := by rfl) (hd : (x == ("__debug__" : Str)) = false := by rfl) :
    wpAny (model prog w) A (eval (.Name x pos) (mkEnv sc L cs ex)) Q E s :=
  nm_bui (G.g.keeps S.keep) (G.b.keeps S.keep) hl (G.bi _ hm).1 (G.bi _ hm).2 h hk hd
/-- a def of the text by its name -/
theorem nm_f {Q : Value → Shared → Prop} (i : Nat) (G : Gl w mg mb g) (S : St g L m led s.heap) (hi : i ∈ useF) (hl : sc.names.lookup (fnName i) = some .globalImplicit)
    (h : ∀ f, FnAt g f i .none → Q (.ref f) s) (hk : sc.kind = .function := by rfl) (hd : (fnName i == ("__debug__" : Str)) = false := by rfl) :
    wpAny (model prog w) A (eval (.Name (fnName i) pos) (mkEnv sc L cs ex)) Q E s :=
  let ⟨f, e, x⟩ := G.fn i hi
  nm_glo (G.g.keeps S.keep) hl e (h f x) hk hd
/-- a call of a def of the text, its arguments -/
theorem callF {env : Env} {f : Addr} {i : Nat} {kV : Value} {e : Expr} {rest : List Expr} {Q : Value → Shared → Prop} (X : FnAt g f i kV)
    (h : wpAny (model prog w) A (spliced (backTo pos (starEach (e :: rest) env))) (fun vs s₁ => Sub g s₁.heap ∧ wpAny (model prog w) A (call (.ref f) vs) Q E s₁) E s)
    (he : starEach (e :: rest) env = (false, eval e env) :: starEach rest env := by rfl) :
    wpAny (model prog w) A (callWith pos (.ref f) [] (backTo pos (starEach (e :: rest) env)) []) Q E s := by
  obtain ⟨oc, od, osl, doc, pm, an, cdv, ct, e, hcd⟩ := X
  exact callWith_def rfl (wpAny_mono h (fun vs s₁ h₁ => ⟨h₁.1 _ _ e, h₁.2⟩) fun _ _ x => x) he
end
end Mine
set_option maxRecDepth 100000
namespace Mine
open PySem PySem.Calls PyProof.Rows

/-- the lowest k figures to the base 9, and what is left -/
def figsTo (n : Int) : Nat → List Int × Int
  | 0 => ([], n)
  | k + 1 => ((figsTo n k).1 ++ [(figsTo n k).2.fmod 9], (figsTo n k).2.fdiv 9)

theorem IntsAre.snoc {vs : List Value} {ns : List Int} (x : IntsAre vs ns) (n : Int) (t : Tok) : IntsAre (vs ++ [.int n t]) (ns ++ [n]) := by
  induction x with
  | nil => exact .cons n t .nil
  | cons a u _ ih => exact .cons a u ih

theorem figsTo_length (n : Int) : ∀ k, (figsTo n k).1.length = k
  | 0 => rfl
  | k + 1 => by simp [figsTo, figsTo_length n k]

theorem strsAre_of : ∀ {ys : List Value} {xs : List Str}, ys.length = xs.length → (∀ (i : Nat) y x, ys[i]? = some y → xs[i]? = some x → ∃ t, y = Value.str x t) → StrsAre ys xs
  | [], [], _, _ => .nil
  | y :: ys, x :: xs, hl, h => by
    obtain ⟨t, e⟩ := h 0 y x rfl rfl
    rw [e]
    exact .cons x t (strsAre_of (by simpa using hl) fun i y' x' e1 e2 => h (i + 1) y' x' (by simpa using e1) (by simpa using e2))
  | [], _ :: _, hl, _ => by simp at hl
  | _ :: _, [], hl, _ => by simp at hl
theorem intsAre_of : ∀ {ys : List Value} {xs : List Int}, ys.length = xs.length → (∀ (i : Nat) y x, ys[i]? = some y → xs[i]? = some x → ∃ t, y = Value.int x t) → IntsAre ys xs
  | [], [], _, _ => .nil
  | y :: ys, x :: xs, hl, h => by
    obtain ⟨t, e⟩ := h 0 y x rfl rfl
    rw [e]
    exact .cons x t (intsAre_of (by simpa using hl) fun i y' x' e1 e2 => h (i + 1) y' x' (by simpa using e1) (by simpa using e2))
  | [], _ :: _, hl, _ => by simp at hl
  | _ :: _, [], hl, _ => by simp at hl
theorem getOs {oss : List Led} {ys : List Value} (h : oss.length = ys.length) {i : Nat} {y : Value} (e : ys[i]? = some y) : ∃ os, oss[i]? = some os := by
  have hi : i < ys.length := by
    rcases Nat.lt_or_ge i ys.length with h | h
    · exact h
    · rw [List.getElem?_eq_none h] at e; cases e
  exact ⟨oss[i]'(by omega), List.getElem?_eq_getElem (by omega)⟩
theorem flatten_nil {oss : List Led} (h : ∀ os ∈ oss, os = []) : oss.flatten = [] := by
  induction oss with
  | nil => rfl
  | cons a r ih => rw [List.flatten_cons, h a (.head _), ih fun os ho => h os (.tail _ ho)]; rfl

section
variable {prog : Program} {w : World} {A : Around} {E : Value → Shared → Prop} {s : Shared} {mg mb : Str → Option Value}

theorem figures_body {g : Heap} {L : Addr} {ex : EX} {n : Int} {t u : Tok} {Q : Flow → Shared → Prop} (hA : AOk A 0) (G : Gl w mg mb g)
    (S : St g L (fun y => List.lookup y ([(Str.ofString "number", Value.int n t), (Str.ofString "many", .int 6 u)] : List (Str × Value)).reverse) [] s.heap)
    (h : ∀ h' tk l vs m', St g L m' [(l, .lst vs)] h' → IntsAre vs (figsTo n 6).1 → Q (.ret (.ref l)) { s with heap := h', toks := tk }) :
    wpAny (model prog w) A (execs (fnBody 12) (mkEnv (fnScope 12) L [] ex)) Q E s := by
  rw [fnBody_eq]
  refine wpAny_execs_cons (as_loc (List_ (args_nil (new_list S fun h₁ l S₁ _ _ => ?_))))
  refine st_loc S₁ rfl fun h₂ S₂ => ?_
  refine wpAny_execs_cons (for_walk ?_)
  refine Call_ (nm_b G S₂ bRange rfl ?_)
  refine callWith_type1 (args_cons (nm_loc S₂ rfl rfl (args_nil ?_)))
  refine call_range_1 ?_
  refine iter_range hA.handled (S₂.push _) (IsRange.new ..) (by decide) (by decide) (by decide) (by decide) fun it h₃ _ X => ?_
  refine loop_walk (fun i m led => ∃ vs t, led = [(l, .lst vs)] ∧ IntsAre vs (figsTo n i).1 ∧ m "figures" = some (.ref l) ∧ m "number" = some (.int (figsTo n i).2 t)) X
    ⟨[], t, rfl, .nil, rfl, rfl⟩ ?_ ?_
  · rintro i v g₁ m₁ led₁ h tk hi ⟨tt, rfl⟩ sub ⟨vs, t', rfl, hI, hf, hn⟩ S
    refine wpAny_assign_Name (st_loc S rfl fun h₄ S₄ => ?_)
    refine wpAny_execs_cons (wpAny_Expr (MethodCall_ (nm_loc S₄ rfl hf (meth_app (S₄.at (.head _)) ?_))))
    refine callWith_method1 (args_cons (wpAny_BinOp (nm_loc S₄ rfl hn (wpAny_Constant_int (mod_int (by decide) (args_nil ?_))))))
    refine app_list 0 S₄ rfl (fun h₅ S₅ => ?_) ?_
    · refine wpAny_execs_cons (wpAny_AugAssign_Name (ld_loc S₅ rfl hn (wpAny_Constant_int (ifloordiv_int (by decide) (st_loc S₅ rfl fun h₆ S₆ => ?_) (.inl (PyProof.noPylong_small (by decide)))))))
      exact wpAny_execs_nil ⟨_, _, _, _, rfl, S₆, _, _, rfl, IntsAre.snoc hI _ _, hf, rfl⟩
    · have e := hI.length
      rw [figsTo_length] at e
      rw [e, sizeLine_eq]; omega
  · rintro m₁ led₁ h' tk ⟨vs, t', rfl, hI, hf, hn⟩ S
    exact wpAny_execs_cons (wpAny_Return_some (nm_loc S rfl hf (h _ _ _ _ _ S hI)))

/-- _law_figures(n, 6) -/
theorem figures_call {f : Addr} {n : Int} {t u : Tok} {Q : Value → Shared → Prop} (hA : AOk A 1) (G : Gl w mg mb s.heap) (X : FnAt s.heap f 12 .none)
    (h : ∀ h' tk l vs, Sub s.heap h' → s.heap.get? l = none → h'.PlainList l vs.toArray → IntsAre vs (figsTo n 6).1 → Q (.ref l) { s with heap := h', toks := tk }) :
    wpAny (model prog w) A (call (.ref f) [.int n t, .int 6 u]) Q E s := by
  refine enter hA X G.nolimit (fun _ _ _ _ _ => BindsTo.of_eq (binds := [(Str.ofString "number", .int n t), (Str.ofString "many", .int 6 u)]) rfl) (locs rfl) (by decide +kernel) fun A' L ex h₁ tk hA' S => ?_
  exact figures_body hA' G S fun h' tk l vs m' S' hI => h _ _ _ _ S'.keep (S'.off _ (.head _)).1 (S'.at (.head _)) hI
end
end Mine
set_option maxRecDepth 100000
namespace Mine
open PySem PySem.Calls PyProof.Rows

/-- ints, whatever they are -/
def AllInt (vs : List Value) : Prop := ∀ v ∈ vs, ∃ n t, v = .int n t

theorem AllInt.get {vs : List Value} (x : AllInt vs) {i : Nat} (h : i < vs.length) : ∃ n t, vs[i]? = some (.int n t) := by
  obtain ⟨n, t, e⟩ := x vs[i] (List.getElem_mem h)
  exact ⟨n, t, by rw [List.getElem?_eq_getElem h, e]⟩
theorem AllInt.set {vs : List Value} (x : AllInt vs) (i : Nat) (n : Int) (t : Tok) : AllInt (vs.set i (.int n t)) := fun v hv => by
  rcases List.mem_or_eq_of_mem_set hv with h | h
  · exact x v h
  · exact ⟨n, t, h⟩

section
variable {prog : Program} {w : World} {A : Around} {E : Value → Shared → Prop} {s : Shared} {mg mb : Str → Option Value}

theorem cells_body {g : Heap} {L lf ls : Addr} {ex : EX} {fs vs : List Value} {Q : Flow → Shared → Prop} (hA : AOk A 0) (G : Gl w mg mb g)
    (S : St g L (fun y => List.lookup y ([(Str.ofString "script", Value.ref ls), (Str.ofString "firsts", .ref lf)] : List (Str × Value)).reverse) [] s.heap)
    (hls : g.IsList ls vs.toArray) (hvs : AllInt vs) (hle : vs.length ≤ 63) (hlf : g.IsList lf fs.toArray) (hfs : AllInt fs) (hf5 : fs.length = 5)
    (h : ∀ h' tk l out m', St g L m' [(l, .lsi out)] h' → AllInt out → out.length = 5 → Q (.ret (.ref l)) { s with heap := h', toks := tk }) :
    wpAny (model prog w) A (execs (fnBody 11) (mkEnv (fnScope 11) L [] ex)) Q E s := by
  rw [fnBody_eq]
  have hsl : ∀ {h : Heap}, Sub g h → h.IsList ls vs.toArray := fun k => hls.at fun o e => k _ _ e
  have hfl : ∀ {h : Heap}, Sub g h → h.IsList lf fs.toArray := fun k => hlf.at fun o e => k _ _ e
  refine wpAny_execs_cons (as_loc (Call_ (nm_b G S bList rfl (callWith_type1 (args_cons (nm_loc S rfl rfl (args_nil ?_)))))))
  obtain ⟨o, ho, hc, n0, hd⟩ := hfl S.keep
  refine call_list_seq (hsz := by simp [hf5, sizeLine_eq]) lf (.inl rfl) ho hc hd fun h₁ c' k₁ hD => ?_
  have S₁ : St g L _ ((_, .lsi fs) :: []) h₁ := S.add k₁ (new_none _ (Nat.le_refl _)) (show h₁.IsList _ fs.toArray from ⟨_, hD, rfl, c', rfl⟩)
  generalize s.heap.objs.size = l at S₁ ⊢
  refine st_loc S₁ rfl fun h₂ S₂ => ?_
  refine wpAny_execs_cons (for_walk ?_)
  refine Call_ (nm_b G S₂ bRange rfl (callWith_type1 (args_cons ?_)))
  refine Call_ (nm_b G S₂ bMin rfl (callWith_builtin1 (hplain := plain1) (args_cons ?_)))
  refine Call_ (nm_b G S₂ bLen rfl (callWith_builtin1 (args_cons (nm_loc S₂ rfl rfl (args_nil ?_)))))
  refine len_lst vs.length (hsl S₂.keep) rfl (by omega) ?_
  refine args_cons (wpAny_Constant_int (args_nil ?_))
  refine min_two_ints hA.handled fun h₃ tk₃ k₃ => ?_
  have S₃ := S₂.grow k₃
  generalize hv : (ite ((60 : Int) < _) _ _ : Value) = v
  have hN : ∃ (N : Nat) (tN : Tok), v = .int N tN ∧ N ≤ vs.length ∧ N ≤ 60 := by
    by_cases hc : (60 : Int) < (vs.length : Int)
    · rw [if_pos hc] at hv
      exact ⟨60, _, hv.symm, by omega, by omega⟩
    · rw [if_neg hc] at hv
      exact ⟨vs.length, _, hv.symm, by omega, by omega⟩
  clear hv
  obtain ⟨N, tN, rfl, hN1, hN2⟩ := hN
  refine args_nil (call_range_1 ?_)
  refine iter_range hA.handled (S₃.push _) (IsRange.new ..) (by decide) (by decide) (by omega) (by omega) fun it h₄ _ X => ?_
  refine loop_walk (fun i m led => ∃ out, led = [(l, .lsi out)] ∧ AllInt out ∧ out.length = 5 ∧ m "cells" = some (.ref l) ∧ m "script" = some (.ref ls) ∧ m "firsts" = some (.ref lf)) X
    ⟨fs, rfl, hfs, hf5, rfl, rfl, rfl⟩ ?_ ?_
  · rintro i v g₁ m₁ led₁ h tk hi ⟨tt, rfl⟩ sub ⟨out, rfl, hO, hO5, m1, m2, m3⟩ S
    refine wpAny_assign_Name (st_loc S rfl fun h₄ S₄ => ?_)
    refine wpAny_execs_cons (wpAny_AugAssign_Subscript_any (nm_loc S₄ rfl m1 (wpAny_BinOp (nm_loc S₄ rfl rfl ?_))))
    have G₁ := G.sub sub
    refine Call_ (nm_b G₁ S₄ bLen rfl (callWith_builtin1 (args_cons (nm_loc S₄ rfl m3 (args_nil ?_)))))
    refine len_lst 5 (hfl (sub.trans S₄.keep)) (by rw [hf5]; rfl) (by decide) ?_
    refine mod_int (by decide) ?_
    have hlt := Int.fmod_lt_of_pos (0 + (i : Int)) (show (0 : Int) < 5 by decide)
    have hge := Int.fmod_nonneg_of_pos (0 + (i : Int)) (show (0 : Int) < 5 by decide)
    have hc := hO.get (i := ((0 + (i : Int)).fmod 5).toNat) (by omega)
    obtain ⟨c, ct, hc⟩ := hc
    refine wpAny_getItem_list (S₄.at (x := .lsi out) (.head _)) hge (by omega) (by simpa using hc) ?_
    refine wpAny_BinOp (Subscript_ (nm_loc S₄ rfl m2 (nm_loc S₄ rfl rfl ?_)))
    have hd := hvs.get (i := i) (by simp at hi; omega)
    obtain ⟨d, dt, hd⟩ := hd
    refine tail_item (hsl (sub.trans S₄.keep)) (by omega) (by simp at hi; omega) (x := .int d dt) (by simpa using hd) ?_
    refine wpAny_BinOp (wpAny_Constant_int (wpAny_Constant_int (pow_int_small (by decide) (by decide) (by decide) ?_)))
    refine mod_int (by decide) (iadd_int ?_)
    refine wpAny_setItem_list (S₄.at (x := .lsi out) (.head _)) hge (by omega) (by rw [List.size_toArray]; omega) fun h₅ hl₅ hs₅ => ?_
    refine wpAny_execs_nil ⟨h₅, _, _, _, rfl, S₄.upd 0 rfl hs₅ (x' := .lsi (out.set ((0 + (i : Int)).fmod 5).toNat (.int (c + d.fmod (10 ^ 6)) _))) (by show h₅.IsList _ _; simpa using hl₅), _, rfl, hO.set _ _ _, by simpa using hO5, m1, m2, m3⟩
  · rintro m₁ led₁ h' tk ⟨out, rfl, hO, hO5, m1, m2, m3⟩ S
    exact wpAny_execs_cons (wpAny_Return_some (nm_loc S rfl m1 (h _ _ _ _ _ S hO hO5)))

/-- _law_cells(script, firsts) -/
theorem cells_call {f ls lf : Addr} {fs vs : List Value} {Q : Value → Shared → Prop} (hA : AOk A 1) (G : Gl w mg mb s.heap) (X : FnAt s.heap f 11 .none)
    (hls : s.heap.IsList ls vs.toArray) (hvs : AllInt vs) (hle : vs.length ≤ 63) (hlf : s.heap.IsList lf fs.toArray) (hfs : AllInt fs) (hf5 : fs.length = 5)
    (h : ∀ h' tk l out, Sub s.heap h' → s.heap.get? l = none → h'.IsList l out.toArray → AllInt out → out.length = 5 → Q (.ref l) { s with heap := h', toks := tk }) :
    wpAny (model prog w) A (call (.ref f) [.ref ls, .ref lf]) Q E s := by
  refine enter hA X G.nolimit (fun _ _ _ _ _ => BindsTo.of_eq (binds := [(Str.ofString "script", .ref ls), (Str.ofString "firsts", .ref lf)]) rfl) (locs rfl) (by decide +kernel) fun A' L ex h₁ tk hA' S => ?_
  exact cells_body hA' G S hls hvs hle hlf hfs hf5 fun h' tk l out m' S' hI hl => h _ _ _ _ S'.keep (S'.off _ (.head _)).1 (S'.at (x := .lsi out) (.head _)) hI hl
end
end Mine
set_option maxRecDepth 100000
namespace Mine
open PySem PySem.Calls PyProof.Rows

/-- a written list of written texts -/
inductive Consts : List Expr → List Str → Prop
  | nil : Consts [] []
  | cons {x : Str} {k : Nat} {p : Pos} {es : List Expr} {xs : List Str} : Consts es xs → Consts (.Constant (.str x) k p :: es) (x :: xs)

theorem mem_ne {led : Led} (nd : (led.map (·.1)).Nodup) {p q : Addr × MO} (hp : p ∈ led) (hq : q ∈ led) (hne : p.2 ≠ q.2) : p.1 ≠ q.1 := by
  induction led with
  | nil => cases hp
  | cons r l ih =>
    simp only [List.map_cons, List.nodup_cons] at nd
    rcases List.mem_cons.mp hp with rfl | hp'
    · rcases List.mem_cons.mp hq with rfl | hq'
      · exact absurd rfl hne
      · exact fun e => nd.1 (List.mem_map.mpr ⟨q, hq', e.symm⟩)
    · rcases List.mem_cons.mp hq with rfl | hq'
      · exact fun e => nd.1 (List.mem_map.mpr ⟨p, hp', e⟩)
      · exact ih nd.2 hp' hq'

theorem St.pick {g h : Heap} {L : Addr} {m : Str → Option Value} {led led' : Led} (S : St g L m led h) (k : ∀ p ∈ led', p ∈ led) (nd : (led'.map (·.1)).Nodup) : St g L m led' h :=
  ⟨S.ns, S.keep, S.offL, fun p hp => S.ats p (k p hp), fun p hp => S.off p (k p hp), nd⟩
theorem St.two {g h : Heap} {L : Addr} {m : Str → Option Value} {led : Led} {p q : Addr × MO} (S : St g L m led h) (hp : p ∈ led) (hq : q ∈ led) (hne : p.2 ≠ q.2) : St g L m [p, q] h :=
  S.pick (fun r hr => by
    rcases List.mem_cons.mp hr with rfl | hr
    · exact hp
    · rw [List.mem_singleton.mp hr]; exact hq) (by
    simp only [List.map_cons, List.map_nil, List.nodup_cons, List.mem_singleton, List.not_mem_nil, not_false_eq_true, List.nodup_nil, and_true]
    exact mem_ne S.nodup hp hq hne)

section
variable {prog : Program} {w : World} {A : Around} {E : Value → Shared → Prop} {s : Shared} {mg mb : Str → Option Value} {g : Heap} {L : Addr} {m : Str → Option Value} {led : Led} {env : Env}

theorem consts_spliced {pos : Pos} {es : List Expr} {xs : List Str} (C : Consts es xs) : ∀ {s : Shared} {Q : List Value → Shared → Prop}, (∀ tk vs, StrsAre vs xs → Q vs { s with toks := tk }) →
    wpAny (model prog w) A (spliced (backTo pos (starEach es env))) Q E s := by
  induction C with
  | nil => exact fun h => args_nil (h _ _ .nil)
  | cons _ ih => exact fun h => args_cons (wpAny_Constant_str (ih fun tk vs hv => h _ _ (.cons _ _ hv)))

/-- rows of figures in the heap -/
inductive RowsAre (h : Heap) : List Value → List (List Int) → Prop
  | nil : RowsAre h [] []
  | cons {r : Addr} {vs : List Value} {ns : List Int} {rest : List Value} {nss : List (List Int)} : h.IsList r vs.toArray → IntsAre vs ns → RowsAre h rest nss → RowsAre h (.ref r :: rest) (ns :: nss)
theorem RowsAre.sub {h h' : Heap} (k : Sub h h') {vs : List Value} {nss : List (List Int)} (x : RowsAre h vs nss) : RowsAre h' vs nss := by
  induction x with
  | nil => exact .nil
  | cons a b _ ih => exact .cons (a.at fun o e => k _ _ e) b ih
theorem RowsAre.length {h : Heap} {vs : List Value} {nss : List (List Int)} (x : RowsAre h vs nss) : vs.length = nss.length := by
  induction x with
  | nil => rfl
  | cons _ _ _ ih => simp [ih]
theorem RowsAre.at {h : Heap} {vs : List Value} {nss : List (List Int)} (x : RowsAre h vs nss) : ∀ {i : Nat} {v : Value}, vs[i]? = some v → ∃ r ws ns, v = .ref r ∧ h.IsList r ws.toArray ∧ IntsAre ws ns ∧ nss[i]? = some ns := by
  induction x with
  | nil => intro i v e; simp at e
  | cons a b _ ih =>
    intro i v e
    cases i with
    | zero => simp at e; exact ⟨_, _, _, e.symm, a, b, by simp⟩
    | succ i => simp at e; simpa using ih e

def sgTab : List (List Str) := [["&amp;", "&lt;", "&gt;", "\"", "\r", "\n", "\t", "a", ""], ["&amp;", "&lt;", "&gt;", "&quot;", "&#13;", "&#10;", "&#09;", "a", ""], ["&amp;", "<", "&gt;", "&quot;", "\r", "\n", "\t", "a", ""],
  ["&amp;", "&lt;", "&gt;", "\"", "&#xD;", "\n", "\t", "a", ""], ["&amp;", "&lt;", ">", "&quot;", "&#xD;", "&#xA;", "&#x9;", "a", ""], ["&", "<", ">", "\"", "\r", "\n", "\t", "a", ""]]
def sgRow (w : Nat) : List Str := sgTab.getD w []
def sg (w : Nat) (f : Int) : Str := (sgRow w).getD f.toNat Str.empty
def rowText (w : Nat) (r : List Int) : Str := Txt.join (Str.ofString "") (r.map (sg w))

abbrev rel (csc sc : Scope) : Scope := { csc with names := csc.names.map fun (n, k) => if (k == .free && sc.kind == .function && sc.names.lookup n == some .cell) then (n, .cell) else (n, k) }

theorem sg_le {w : Nat} (hw : w < 6) (f : Int) : (sg w f).length ≤ 8 := by
  have key : ∀ x ∈ sgRow w, x.length ≤ 8 := by
    rcases (by omega : w = 0 ∨ w = 1 ∨ w = 2 ∨ w = 3 ∨ w = 4 ∨ w = 5) with rfl | rfl | rfl | rfl | rfl | rfl <;> decide +kernel
  unfold sg
  rw [List.getD_eq_getElem?_getD]
  cases e : (sgRow w)[f.toNat]? with
  | none => exact Nat.zero_le _
  | some x => exact key x (List.mem_of_getElem? e)
theorem sum_sg_le {w : Nat} (hw : w < 6) : ∀ ns : List Int, ((ns.map (sg w)).map (·.length)).sum ≤ ns.length * 8
  | [] => Nat.le_refl _
  | f :: r => by
    have h1 := sg_le hw f
    have h2 := sum_sg_le hw r
    simp only [List.map_cons, List.sum_cons, List.length_cons]
    omega

theorem len9 {i : Nat} {vs : List Value} (X : StrsAre vs (sgRow i)) : vs.length ≤ sizeLine := by
  rw [X.length, sizeLine_eq]
  by_cases h : i < 6
  · rcases (by omega : i = 0 ∨ i = 1 ∨ i = 2 ∨ i = 3 ∨ i = 4 ∨ i = 5) with rfl | rfl | rfl | rfl | rfl | rfl <;> exact Nat.le_of_ble_eq_true rfl
  · have e : sgRow i = [] := by unfold sgRow; rw [List.getD_eq_getElem?_getD, List.getElem?_eq_none (by simp [sgTab]; omega)]; rfl
    rw [e]; exact Nat.zero_le _
theorem len6 {a b c d e f : Value} : [a, b, c, d, e, f].length ≤ sizeLine := by rw [sizeLine_eq]; exact Nat.le_of_ble_eq_true rfl

def txE : Expr := match (fnBodyU 13).getD 1 (.Pass default) with | .Return (some e) _ => e | _ => .Constant .none 0 default
def txElt : Expr := match txE with | .ListComp a _ _ _ => a | _ => .Constant .none 0 default
def txSc : Scope := match txE with | .ListComp _ _ s _ => s | _ => default
theorem sgRow9 {wh : Nat} (hw : wh < 6) : (sgRow wh).length = 9 := by
  rcases (by omega : wh = 0 ∨ wh = 1 ∨ wh = 2 ∨ wh = 3 ∨ wh = 4 ∨ wh = 5) with rfl | rfl | rfl | rfl | rfl | rfl <;> rfl
theorem sgRow_at {wh : Nat} (hw : wh < 6) {f : Int} (h : 0 ≤ f ∧ f < 9) : (sgRow wh)[f.toNat]? = some (sg wh f) := by
  have h9 := sgRow9 hw
  unfold sg
  rw [List.getD_eq_getElem?_getD, List.getElem?_eq_getElem (by omega)]; rfl
theorem strs_col {wh : Nat} {ns : List Int} {ys : List Value} {oss : List Led} (hys : ys.length = ns.length) (hoss : oss.length = ys.length) (hF : ∀ (i : Nat) y os, ys[i]? = some y → oss[i]? = some os → os = [] ∧ ∃ t, y = Value.str (sg wh (ns.getD i 0)) t) : StrsAre ys (ns.map (sg wh)) := by
  refine strsAre_of (by rw [hys, List.length_map]) fun i y x e1 e2 => ?_
  obtain ⟨os, e3⟩ := getOs hoss e1
  obtain ⟨_, t, e4⟩ := hF i y os e1 e3
  rw [List.getElem?_map] at e2
  have hi : i < ns.length := by
    rcases Nat.lt_or_ge i ns.length with h | h
    · exact h
    · rw [List.getElem?_eq_none h] at e2; cases e2
  rw [List.getElem?_eq_getElem hi] at e2
  rw [List.getD_eq_getElem?_getD, List.getElem?_eq_getElem hi] at e4
  cases e2
  exact ⟨t, e4⟩
/-- ''.join([signs[figure] for figure in figures]) -/
theorem texts_elt {r l c : Addr} {ex : EX} {m : Str → Option Value} {ws vs : List Value} {ns : List Int} {wh : Nat} {Q : Value → Shared → Prop} (hA : AOk A 0)
    (S : St g L m [] s.heap) (hm : m "figures" = some (.ref r)) (hcell : g.IsCell c (some (.ref l))) (hlst : g.IsList l vs.toArray) (X : StrsAre vs (sgRow wh)) (hw : wh < 6)
    (hrl : g.IsList r ws.toArray) (hri : IntsAre ws ns) (hfn : ns.length ≤ 6 ∧ ∀ f ∈ ns, 0 ≤ f ∧ f < 9)
    (h : ∀ h' tk t, Sub s.heap h' → Q (.str (rowText wh ns) t) { s with heap := h', toks := tk }) :
    wpAny (model prog w) A (eval txElt (mkEnv (rel txSc (fnScope 13)) L [(Str.ofString "signs", c)] (cEX ex))) Q E s := by
  show wpAny (model prog w) A (eval (.Call _ _ _ _) _) Q E s
  refine MethodCall_ ?_
  refine wpAny_Constant_str ?_
  refine GM.join ?_
  refine callWith_method1 ?_
  refine args_cons ?_
  refine comp_val (g := g) (csc' := rel _ (rel _ (fnScope 13))) (cl := [(Str.ofString "signs", c)]) rfl (by decide +kernel) rfl (by decide +kernel) rfl rfl ?_
  refine nm_loc S rfl hm ?_
  refine iter_list hA.handled S hrl ?_
  intro it₂ h₁₀ k₁₀ X₁₀
  refine ⟨_, _, _, _, _, fun i v os => os = [] ∧ ∃ t, v = .str (sg wh (ns.getD i 0)) t, ?_, X₁₀, ?_, ?_⟩
  · rw [hri.length, sizeLine_eq]; omega
  · intro j u C₂ g₂ m₂ h₁₁ tk₁₁ hj hu sub₂ hled₂ S₁₁ hm₂
    have hlt : j < ns.length := by rw [← hri.length]; exact hj
    have hget := hri.get j ns[j] (by simp [hlt])
    obtain ⟨tj, hgj⟩ := hget
    rw [hu] at hgj
    cases hgj
    have hb := hfn.2 ns[j] (List.getElem_mem hlt)
    refine Subscript_ ?_
    refine nm_cel ((hcell.keeps sub₂).keeps S₁₁.keep) rfl rfl ?_
    refine nm_loc S₁₁ rfl hm₂ ?_
    have hX := X.get _ _ (sgRow_at hw hb)
    obtain ⟨tx, hX⟩ := hX
    refine tail_item (hlst.at fun o e => S₁₁.keep _ _ (sub₂ _ _ e)) hb.1 (by omega) hX ?_
    refine ⟨_, _, [], rfl, fun _ _ e => e, ⟨rfl, tx, ?_⟩, (fun p hp => nomatch hp), List.nodup_nil⟩
    rw [List.getD_eq_getElem?_getD, List.getElem?_eq_getElem hlt]; rfl
  intro D h₁₂ tk₁₂ ys oss hys hoss hF S₁₂ k₁₂
  refine args_nil ?_
  have hSt : StrsAre ys (ns.map (sg wh)) := strs_col (by rw [hys, hri.length]) (by rw [hoss, hys]) hF
  refine join_list (S₁₂.at (x := .lst ys) (.head _)).isList (by simpa using hSt) ?_ fun t' k => ?_
  · have hsum : ((ns.map (sg wh)).map (·.length)).sum ≤ ns.length * 8 := sum_sg_le hw ns
    have e0 : (Str.ofString "").length = 0 := rfl
    rw [e0]; simp only [Nat.mul_zero, Nat.add_zero]
    omega
  · exact h _ _ _ k₁₂

/-- the return of _law_texts -/
theorem texts_ret {lr l c : Addr} {ex : EX} {m : Str → Option Value} {rs vs : List Value} {rows : List (List Int)} {wh : Nat} {Q : Flow → Shared → Prop} (hA : AOk A 0)
    (T : St g L m [(c, .cel (some (.ref l))), (l, .lst vs)] s.heap) (hm : m "rows" = some (.ref lr)) (X : StrsAre vs (sgRow wh)) (hw : wh < 6)
    (hlr : g.IsList lr rs.toArray) (hrs : RowsAre g rs rows) (hfig : ∀ r ∈ rows, r.length ≤ 6 ∧ ∀ f ∈ r, 0 ≤ f ∧ f < 9) (hrl : rows.length ≤ 8)
    (h : ∀ h' tk l out m' led', St g L m' ((l, .lst out) :: led') h' → StrsAre out (rows.map (rowText wh)) → Q (.ret (.ref l)) { s with heap := h', toks := tk }) :
    wpAny (model prog w) A (execs ((fnBodyU 13).drop 1) (mkEnv (fnScope 13) L [(Str.ofString "signs", c)] ex)) Q E s := by
  show wpAny (model prog w) A (execs (.Return (some (.ListComp txElt [⟨.Name _ _, _, [], 0⟩] txSc _)) _ :: _) _) Q E s
  refine wpAny_execs_cons ?_
  refine wpAny_Return_some ?_
  refine comp_val (g := g) (csc' := rel _ (fnScope 13)) (cl := [(Str.ofString "signs", c)]) rfl (by decide +kernel) rfl (by decide +kernel) rfl rfl ?_
  refine nm_loc T rfl hm ?_
  refine iter_list hA.handled T hlr ?_
  intro it h₈ k₈ X₈
  refine ⟨_, _, _, _, _, fun i v os => os = [] ∧ ∃ r t, rows[i]? = some r ∧ v = .str (rowText wh r) t, ?_, X₈, ?_, ?_⟩
  · rw [hrs.length, sizeLine_eq]; omega
  · intro i v C g₁ m₁ h₉ tk₉ hi hv sub hled S₉ hm
    have hr := hrs.at hv
    obtain ⟨r, ws, ns, rfl, hrl, hri, hrn⟩ := hr
    have hcell : g₁.IsCell c (some (.ref l)) := hled (c, .cel (some (.ref l))) (.head _)
    have hlst : g₁.IsList l vs.toArray := (hled (l, .lst vs) (.tail _ (.head _)) : (MO.lst vs).At g₁ l).isList
    have hrl' : g₁.IsList r ws.toArray := hrl.at fun o e => sub _ _ e
    have hfg := hfig ns (List.mem_of_getElem? hrn)
    refine texts_elt hA S₉ hm hcell hlst X hw hrl' hri hfg ?_
    intro h' tk t' k
    exact ⟨_, _, [], rfl, k, ⟨rfl, ns, t', hrn, rfl⟩, (fun p hp => nomatch hp), List.nodup_nil⟩
  intro D h₁₂ tk₁₂ ys oss hys hoss hF S₁₂ _
  refine h _ _ _ _ _ _ S₁₂ ?_
  refine strsAre_of (by rw [hys, hrs.length, List.length_map]) fun i y x e1 e2 => ?_
  obtain ⟨os, e3⟩ := getOs (by rw [hoss, hys]) e1
  obtain ⟨_, r, t, e4, e5⟩ := hF i y os e1 e3
  rw [List.getElem?_map, e4] at e2
  cases e2
  exact ⟨t, e5⟩

theorem texts_body {lr c : Addr} {ex : EX} {rs : List Value} {rows : List (List Int)} {wh : Nat} {t : Tok} {Q : Flow → Shared → Prop} (hA : AOk A 0)
    (S : St g L (bindL (fun n => (fnScope 13).names.lookup n) [(Str.ofString "rows", Value.ref lr), (Str.ofString "which", .int wh t)] fun _ => none) [(c, .cel none)] s.heap)
    (hlr : g.IsList lr rs.toArray) (hrs : RowsAre g rs rows) (hfig : ∀ r ∈ rows, r.length ≤ 6 ∧ ∀ f ∈ r, 0 ≤ f ∧ f < 9) (hrl : rows.length ≤ 8) (hw : wh < 6)
    (h : ∀ h' tk l out m' led', St g L m' ((l, .lst out) :: led') h' → StrsAre out (rows.map (rowText wh)) → Q (.ret (.ref l)) { s with heap := h', toks := tk }) :
    wpAny (model prog w) A (execs (fnBody 13) (mkEnv (fnScope 13) L [(Str.ofString "signs", c)] ex)) Q E s := by
  rw [fnBody_eq]
  show wpAny (model prog w) A (execs (_ :: (fnBodyU 13).drop 1) _) Q E s
  refine wpAny_execs_cons ?_
  refine as_loc ?_
  refine Subscript_ ?_
  refine List_ ?_
  refine args_cons ?_
  refine List_ ?_
  refine consts_spliced (xs := sgRow 0) ?_ ?_
  · exact .cons (.cons (.cons (.cons (.cons (.cons (.cons (.cons (.cons .nil))))))))
  intro tk₀ v₀ X₀
  refine new_list S (fun h₀ l₀ S₀ _ _ => ?_) (len9 X₀)
  refine args_cons ?_
  refine List_ ?_
  refine consts_spliced (xs := sgRow 1) ?_ ?_
  · exact .cons (.cons (.cons (.cons (.cons (.cons (.cons (.cons (.cons .nil))))))))
  intro tk₁ v₁ X₁
  refine new_list S₀ (fun h₁ l₁ S₁ _ _ => ?_) (len9 X₁)
  refine args_cons ?_
  refine List_ ?_
  refine consts_spliced (xs := sgRow 2) ?_ ?_
  · exact .cons (.cons (.cons (.cons (.cons (.cons (.cons (.cons (.cons .nil))))))))
  intro tk₂ v₂ X₂
  refine new_list S₁ (fun h₂ l₂ S₂ _ _ => ?_) (len9 X₂)
  refine args_cons ?_
  refine List_ ?_
  refine consts_spliced (xs := sgRow 3) ?_ ?_
  · exact .cons (.cons (.cons (.cons (.cons (.cons (.cons (.cons (.cons .nil))))))))
  intro tk₃ v₃ X₃
  refine new_list S₂ (fun h₃ l₃ S₃ _ _ => ?_) (len9 X₃)
  refine args_cons ?_
  refine List_ ?_
  refine consts_spliced (xs := sgRow 4) ?_ ?_
  · exact .cons (.cons (.cons (.cons (.cons (.cons (.cons (.cons (.cons .nil))))))))
  intro tk₄ v₄ X₄
  refine new_list S₃ (fun h₄ l₄ S₄ _ _ => ?_) (len9 X₄)
  refine args_cons ?_
  refine List_ ?_
  refine consts_spliced (xs := sgRow 5) ?_ ?_
  · exact .cons (.cons (.cons (.cons (.cons (.cons (.cons (.cons (.cons .nil))))))))
  intro tk₅ v₅ X₅
  refine new_list S₄ (fun h₅ l₅ S₅ _ _ => ?_) (len9 X₅)
  refine args_nil ?_
  refine new_list S₅ (fun h₆ l₆ S₆ _ _ => ?_) len6
  show wpAny (model prog w) A _ _ _ { s with heap := h₆, toks := _ }
  have pick : ∃ l vs, ([.ref l₀, .ref l₁, .ref l₂, .ref l₃, .ref l₄, .ref l₅] : List Value)[wh]? = some (.ref l) ∧ (∀ y z, (l, MO.lst vs) ∈ [z, (l₅, MO.lst v₅), (l₄, .lst v₄), (l₃, .lst v₃), (l₂, .lst v₂), (l₁, .lst v₁), (l₀, .lst v₀), (c, y)]) ∧ StrsAre vs (sgRow wh) := by
    rcases (by omega : wh = 0 ∨ wh = 1 ∨ wh = 2 ∨ wh = 3 ∨ wh = 4 ∨ wh = 5) with rfl | rfl | rfl | rfl | rfl | rfl
    · exact ⟨l₀, v₀, rfl, fun _ _ => List.mem_of_getElem? (i := 6) rfl, X₀⟩
    · exact ⟨l₁, v₁, rfl, fun _ _ => List.mem_of_getElem? (i := 5) rfl, X₁⟩
    · exact ⟨l₂, v₂, rfl, fun _ _ => List.mem_of_getElem? (i := 4) rfl, X₂⟩
    · exact ⟨l₃, v₃, rfl, fun _ _ => List.mem_of_getElem? (i := 3) rfl, X₃⟩
    · exact ⟨l₄, v₄, rfl, fun _ _ => List.mem_of_getElem? (i := 2) rfl, X₄⟩
    · exact ⟨l₅, v₅, rfl, fun _ _ => List.mem_of_getElem? (i := 1) rfl, X₅⟩
  obtain ⟨l, vs, e1, e2, X⟩ := pick
  refine nm_loc S₆ rfl rfl (tail_item (S₆.at (x := .lst _) (.head _)).isList (by omega) (by omega) (by simpa using e1) ?_)
  refine st_cel 7 S₆ rfl rfl rfl fun h₇ S₇ => ?_
  have T := S₇.two (p := (c, .cel (some (.ref l)))) (q := (l, .lst vs)) (List.mem_of_getElem? (i := 7) rfl) (e2 _ _) (by simp)
  refine texts_ret hA T rfl X hw hlr hrs hfig hrl ?_
  intro h' tk l out m' led' S' hI
  exact h _ _ _ _ _ _ S' hI

/-- _law_texts(rows, which) -/
theorem texts_call {f lr : Addr} {rs : List Value} {rows : List (List Int)} {wh : Nat} {t : Tok} {Q : Value → Shared → Prop} (hA : AOk A 1) (G : Gl w mg mb s.heap) (X : FnAt s.heap f 13 .none)
    (hlr : s.heap.IsList lr rs.toArray) (hrs : RowsAre s.heap rs rows) (hfig : ∀ r ∈ rows, r.length ≤ 6 ∧ ∀ f ∈ r, 0 ≤ f ∧ f < 9) (hrl : rows.length ≤ 8) (hw : wh < 6)
    (h : ∀ h' tk l out, Sub s.heap h' → s.heap.get? l = none → h'.PlainList l out.toArray → StrsAre out (rows.map (rowText wh)) → Q (.ref l) { s with heap := h', toks := tk }) :
    wpAny (model prog w) A (call (.ref f) [.ref lr, .int wh t]) Q E s := by
  refine enterC hA X G.nolimit (binds := [(Str.ofString "rows", .ref lr), (Str.ofString "which", .int wh t)]) (fun _ _ _ _ _ => rfl) (locs rfl) (fun L => [(Str.ofString "signs", L + 1)]) (fun _ => rfl) (fun _ => by simp) fun A' L ex h₁ tk hA' S => ?_
  refine texts_body hA' S hlr hrs hfig hrl hw ?_
  intro h' tk l out m' led' S' hI
  exact h _ _ _ _ S'.keep (S'.off _ (.head _)).1 (S'.at (x := .lst out) (.head _)) hI
end
end Mine
set_option maxRecDepth 100000
namespace Mine
open PySem PySem.Calls PyProof.Rows

/-- the signs of a text -/
abbrev cp (x : Str) : List Nat := x.cps.toList
theorem cp_inj {x y : Str} (h : cp x = cp y) : x = y := by
  cases x; cases y
  simp only [Str.mk.injEq]
  exact Array.toList_inj.mp h
theorem cp_append (x y : Str) : cp (x ++ y) = cp x ++ cp y := by simp only [cp, Str.cps_append, Array.toList_append]
theorem cp_length (x : Str) : (cp x).length = x.length := by simp [cp, Str.length]

def repL (c : Nat) (r l : List Nat) : List Nat := l.flatMap fun d => if d = c then r else [d]
theorem repL_append (c : Nat) (r a b : List Nat) : repL c r (a ++ b) = repL c r a ++ repL c r b := by unfold repL; rw [List.flatMap_append]
theorem repL_free (c : Nat) (r : List Nat) : ∀ l : List Nat, c ∉ l → repL c r l = l
  | [], _ => rfl
  | d :: l, h => by
    have h1 : ¬ d = c := fun e => h (e ▸ List.mem_cons_self ..)
    have ih := repL_free c r l fun m => h (List.mem_cons_of_mem _ m)
    unfold repL at ih ⊢
    rw [List.flatMap_cons, if_neg h1, ih]; rfl
theorem repL_one (c : Nat) (r : List Nat) : repL c r [c] = r := by simp [repL]

theorem rep_join (c : Nat) (z : Str) : ∀ parts : List Str, (∀ p ∈ parts, c ∉ cp p) → repL c (cp z) (cp (Str.join ⟨#[c]⟩ parts)) = cp (Str.join z parts)
  | [], _ => rfl
  | [p], h => repL_free c _ _ (h p (List.mem_singleton.mpr rfl))
  | p :: q :: r, h => by
    have ih := rep_join c z (q :: r) fun a ha => h a (List.mem_cons_of_mem _ ha)
    show repL c (cp z) (cp (p ++ ⟨#[c]⟩ ++ Str.join ⟨#[c]⟩ (q :: r))) = cp (p ++ z ++ Str.join z (q :: r))
    rw [cp_append, cp_append, cp_append, cp_append, repL_append, repL_append, ih, repL_free c _ _ (h p (List.mem_cons_self ..))]
    show cp p ++ repL c (cp z) [c] ++ _ = _
    rw [repL_one]

theorem replace_list (x z : Str) (c : Nat) : cp (Txt.replace x ⟨#[c]⟩ z) = repL c (cp z) (cp x) := by
  have h := rep_join c z _ (StrLaws.split_free x c)
  rw [StrLaws.join_split] at h
  rw [StrLaws.replace_one, h]

/-- lists of signs, one sign between each two -/
def joinL (c : Nat) : List (List Nat) → List Nat
  | [] => []
  | [p] => p
  | p :: q :: r => p ++ c :: joinL c (q :: r)

theorem cp_join (c : Nat) : ∀ ps : List Str, cp (Str.join ⟨#[c]⟩ ps) = joinL c (ps.map cp)
  | [] => rfl
  | [p] => rfl
  | p :: q :: r => by
    have ih := cp_join c (q :: r)
    show cp (p ++ ⟨#[c]⟩ ++ Str.join ⟨#[c]⟩ (q :: r)) = cp p ++ c :: joinL c ((q :: r).map cp)
    rw [cp_append, cp_append, ih]
    simp [cp]
theorem cp_join0 : ∀ ps : List Str, cp (Str.join (Str.ofString "") ps) = (ps.map cp).flatten
  | [] => rfl
  | [p] => by simp [Str.join]
  | p :: q :: r => by
    have ih := cp_join0 (q :: r)
    show cp (p ++ Str.ofString "" ++ Str.join (Str.ofString "") (q :: r)) = _
    rw [cp_append, cp_append, ih]
    have e : cp (Str.ofString "") = [] := rfl
    rw [e]; simp

theorem cut_unique {c : Nat} : ∀ {p q a b : List Nat}, c ∉ p → c ∉ q → p ++ c :: a = q ++ c :: b → p = q ∧ a = b
  | [], [], _, _, _, _, h => by simp at h; exact ⟨rfl, h⟩
  | [], y :: q, _, _, _, hq, h => by simp at h; exact absurd (h.1 ▸ List.mem_cons_self ..) hq
  | x :: p, [], _, _, hp, _, h => by simp at h; exact absurd (h.1 ▸ List.mem_cons_self ..) hp
  | x :: p, y :: q, _, _, hp, hq, h => by
    simp only [List.cons_append, List.cons.injEq] at h
    have := cut_unique (fun m => hp (List.mem_cons_of_mem _ m)) (fun m => hq (List.mem_cons_of_mem _ m)) h.2
    exact ⟨by rw [h.1, this.1], this.2⟩

theorem joinL_inj {c : Nat} : ∀ {ps qs : List (List Nat)}, ps ≠ [] → qs ≠ [] → (∀ p ∈ ps, c ∉ p) → (∀ q ∈ qs, c ∉ q) → joinL c ps = joinL c qs → ps = qs
  | [], _, h, _, _, _, _ => absurd rfl h
  | _, [], _, h, _, _, _ => absurd rfl h
  | [p], [q], _, _, _, _, h => by simpa [joinL] using h
  | [p], q :: q' :: r, _, _, hp, _, h => by
    have : c ∈ p := by
      have e : p = q ++ c :: joinL c (q' :: r) := h
      rw [e]; simp
    exact absurd this (hp p (.head _))
  | p :: p' :: r, [q], _, _, _, hq, h => by
    have : c ∈ q := by
      have e : p ++ c :: joinL c (p' :: r) = q := h
      rw [← e]; simp
    exact absurd this (hq q (.head _))
  | p :: p' :: r, q :: q' :: r', _, _, hp, hq, h => by
    have h' : p ++ c :: joinL c (p' :: r) = q ++ c :: joinL c (q' :: r') := h
    obtain ⟨e1, e2⟩ := cut_unique (hp p (.head _)) (hq q (.head _)) h'
    have ih := joinL_inj (ps := p' :: r) (qs := q' :: r') (by simp) (by simp) (fun a ha => hp a (.tail _ ha)) (fun a ha => hq a (.tail _ ha)) e2
    rw [e1, ih]

theorem split_ne (x : Str) (c : Nat) : Txt.split x ⟨#[c]⟩ ≠ [] := fun e => by
  have := StrLaws.join_split x ⟨#[c]⟩
  rw [e] at this
  unfold Txt.split at e
  split at e
  · cases e
  · split at e
    · cases e
    · rw [← this] at e
      rename_i h1 h2
      apply h1
      rw [← this]
      rfl

/-- the parts of a text that was glued of parts without the sign -/
theorem split_parts {x : Str} {c : Nat} {ps : List (List Nat)} (hx : cp x = joinL c ps) (hne : ps ≠ []) (hf : ∀ p ∈ ps, c ∉ p) : (Txt.split x ⟨#[c]⟩).map cp = ps := by
  refine joinL_inj (by simpa using split_ne x c) hne (fun p hp => ?_) hf ?_
  · obtain ⟨y, hy, rfl⟩ := List.mem_map.mp hp
    exact StrLaws.split_free x c y hy
  · rw [← cp_join, StrLaws.join_split, hx]
end Mine
set_option maxRecDepth 100000
namespace Mine
open PySem PySem.Calls PyProof.Rows

def repAll (ps : List (Nat × List Nat)) (l : List Nat) : List Nat := ps.foldl (fun l p => repL p.1 p.2 l) l

section
variable {prog : Program} {w : World} {A : Around} {E : Value → Shared → Prop} {s : Shared} {g : Heap} {L : Addr} {m : Str → Option Value} {sc : Scope} {ex : EX}

theorem replace_eq {env : Env} {x nm : Str} {p5 p6 p7 p8 p9 : Pos} {C Z : Str} {k2 k3 : Nat} (hpos : (p6.endLine == p9.line) = true) :
    eval (.Call (.Attribute (.Name x p5) nm p6) [.Constant (.str C) k2 p7, .Constant (.str Z) k3 p8] [] p9) env = (do
      let ov ← eval (.Name x p5) env
      standAt p6.atName
      let (f, first) ← holding [ov] (getMethod ov nm (do return (← importBound (.Name x p5) env).getD true))
      callWith p9 f first (backTo p9 (starEach [.Constant (.str C) k2 p7, .Constant (.str Z) k3 p8] env)) []) := by
  have e : methodCallPos true (.Name x p5) env p6 p9 = pure p9 := by unfold methodCallPos; rw [hpos]; rfl
  show (do
      let ov ← eval (.Name x p5) env
      standAt p6.atName
      let (f, first) ← holding [ov] (getMethod ov nm (do return (← importBound (.Name x p5) env).getD true))
      let callPos ← methodCallPos true (.Name x p5) env p6 p9
      callWith callPos f first (backTo p9 (starEach [.Constant (.str C) k2 p7, .Constant (.str Z) k3 p8] env)) []) = _
  rw [e]; rfl

/-- if c in text: text = text.replace(c, z) -/
theorem esc_step {C Z x : Str} {c : Nat} {t : Tok} {k1 k2 k3 : Nat} {p1 p2 p3 p4 p5 p6 p7 p8 p9 p10 p11 : Pos} {Q : Flow → Shared → Prop}
    (S : St g L m [] s.heap) (hm : m "text" = some (.str x t)) (hl : sc.names.lookup (Str.ofString "text") = some .local) (hk : sc.kind = .function)
    (hpos : (p6.endLine == p9.line) = true) (hC : C = ⟨#[c]⟩) (hCZ : (C == Z) = false) (hx : x.length ≤ 1048576) (hZ : Z.length ≤ 14)
    (h : ∀ h' tk m' y t', St g L m' [] h' → m' "text" = some (.str y t') → cp y = repL c (cp Z) (cp x) → Q .next { s with heap := h', toks := tk }) :
    wpAny (model prog w) A (exec (.If (.Compare (.Constant (.str C) k1 p1) [.In] [.Name (Str.ofString "text") p2] p3)
      [.Assign [.Name (Str.ofString "text") p4] (.Call (.Attribute (.Name (Str.ofString "text") p5) (Str.ofString "replace") p6) [.Constant (.str C) k2 p7, .Constant (.str Z) k3 p8] [] p9) p10] [] p11) (mkEnv sc L [] ex)) Q E s := by
  refine wpAny_If ?_
  refine wpAny_isTrue_Compare1 ?_
  refine wpAny_Constant_str ?_
  refine nm_loc S hl hm ?_ hk
  refine SB.contains ?_
  refine wpAny_truthy_bool ?_
  by_cases hb : Txt.contains x C = true
  · rw [if_pos hb]
    refine wpAny_execs_cons ?_
    refine as_loc ?_
    refine MethodCall_ ?_ (replace_eq hpos)
    refine nm_loc S hl hm ?_ hk
    refine GM.replace ?_
    refine callWith_method1 (hplain := plain1) ?_
    refine args_cons ?_
    refine wpAny_Constant_str ?_
    refine args_cons ?_
    refine wpAny_Constant_str ?_
    refine args_nil ?_
    refine SC.replaceW (by simp) (by simp) (by simp) hCZ hx hZ fun t' k => ?_
    refine st_loc S hl (fun h' S' => ?_) hk
    refine wpAny_execs_nil ?_
    refine h _ _ _ _ t' S' rfl ?_
    subst hC
    exact replace_list x Z c
  · rw [if_neg hb]
    refine wpAny_execs_nil ?_
    refine h _ _ _ _ _ S hm ?_
    subst hC
    have hn : c ∉ cp x := fun hin => by
      apply hb
      unfold Txt.contains
      rw [StrLaws.found_one]
      exact decide_eq_true hin
    exact (repL_free c _ _ hn).symm

/-- the suite of an escape's try -/
inductive EscBody : List Stmt → List (Nat × List Nat) → Prop
  | nil {p1 p2 : Pos} : EscBody [.Return (some (.Name (Str.ofString "text") p1)) p2] []
  | cons {C Z : Str} {c : Nat} {k1 k2 k3 : Nat} {p1 p2 p3 p4 p5 p6 p7 p8 p9 p10 p11 : Pos} {rest : List Stmt} {ps : List (Nat × List Nat)} :
      (p6.endLine == p9.line) = true → C = ⟨#[c]⟩ → (C == Z) = false → Z.length ≤ 14 → EscBody rest ps →
      EscBody (.If (.Compare (.Constant (.str C) k1 p1) [.In] [.Name (Str.ofString "text") p2] p3)
      [.Assign [.Name (Str.ofString "text") p4] (.Call (.Attribute (.Name (Str.ofString "text") p5) (Str.ofString "replace") p6) [.Constant (.str C) k2 p7, .Constant (.str Z) k3 p8] [] p9) p10] [] p11 :: rest) ((c, cp Z) :: ps)

theorem esc_run {body : List Stmt} {ps : List (Nat × List Nat)} (X : EscBody body ps) (hl : sc.names.lookup (Str.ofString "text") = some .local) (hk : sc.kind = .function) :
    ∀ {s : Shared} {m : Str → Option Value} {x : Str} {t : Tok} {Q : Flow → Shared → Prop}, St g L m [] s.heap → m "text" = some (.str x t) → (∀ k, (repAll (ps.take k) (cp x)).length ≤ 1048576) →
      (∀ h' tk y t', Sub g h' → cp y = repAll ps (cp x) → Q (.ret (.str y t')) { s with heap := h', toks := tk }) →
      wpAny (model prog w) A (execs body (mkEnv sc L [] ex)) Q E s := by
  induction X with
  | nil =>
    intro s m x t Q S hm _ h
    refine wpAny_execs_cons ?_
    refine wpAny_Return_some ?_
    refine nm_loc S hl hm ?_ hk
    exact h _ _ _ _ S.keep rfl
  | @cons C Z c _ _ _ _ _ _ _ _ _ _ _ _ _ _ rest ps hpos hC hCZ hZ _ ih =>
    intro s m x t Q S hm hB h
    refine wpAny_execs_cons ?_
    refine esc_step S hm hl hk hpos hC hCZ (by have := hB 0; rw [List.take_zero] at this; rw [← cp_length]; exact this) hZ ?_
    intro h' tk m' y t' S' hm' hy
    refine ih S' hm' (fun k => ?_) fun h'' tk'' z t'' k'' hz => ?_
    · have := hB (k + 1)
      rw [List.take_succ_cons] at this
      rw [hy]; exact this
    · refine h _ _ _ _ k'' ?_
      rw [hz, hy]; rfl

theorem repAll_append (ps : List (Nat × List Nat)) : ∀ a b : List Nat, repAll ps (a ++ b) = repAll ps a ++ repAll ps b := by
  induction ps with
  | nil => intro a b; rfl
  | cons p ps ih => intro a b; show repAll ps (repL p.1 p.2 (a ++ b)) = repAll ps (repL p.1 p.2 a) ++ repAll ps (repL p.1 p.2 b); rw [repL_append, ih]
theorem repAll_nil (ps : List (Nat × List Nat)) : repAll ps [] = [] := by
  induction ps with
  | nil => rfl
  | cons p ps ih => exact ih
theorem repAll_flat (ps : List (Nat × List Nat)) : ∀ l : List Nat, repAll ps l = l.flatMap fun c => repAll ps [c]
  | [] => repAll_nil ps
  | c :: l => by
    have : c :: l = [c] ++ l := rfl
    rw [this, repAll_append, repAll_flat ps l]; simp

/-- the signs that the law's texts are made of, and the bar -/
def sigma : List Nat := [38, 60, 62, 34, 13, 10, 9, 97, 124]
def prs (w : Nat) : List (Nat × List Nat) := match w with
  | 0 => [(38, cp "&amp;"), (60, cp "&lt;"), (62, cp "&gt;")]
  | 1 => [(38, cp "&amp;"), (60, cp "&lt;"), (62, cp "&gt;"), (34, cp "&quot;"), (13, cp "&#13;"), (10, cp "&#10;"), (9, cp "&#09;")]
  | 2 => [(38, cp "&amp;"), (62, cp "&gt;"), (34, cp "&quot;")]
  | 3 => [(38, cp "&amp;"), (60, cp "&lt;"), (62, cp "&gt;"), (13, cp "&#xD;")]
  | _ => [(38, cp "&amp;"), (60, cp "&lt;"), (34, cp "&quot;"), (9, cp "&#x9;"), (10, cp "&#xA;"), (13, cp "&#xD;")]
def escOf (w c : Nat) : List Nat := repAll (prs w) [c]

theorem take_le {w : Nat} (hw : w < 5) (k : Nat) : ∀ c ∈ sigma, (repAll ((prs w).take k) [c]).length ≤ 8 := by
  have key : ∀ k, k ≤ 7 → ∀ c ∈ sigma, (repAll ((prs w).take k) [c]).length ≤ 8 := by
    intro k hk
    rcases (by omega : w = 0 ∨ w = 1 ∨ w = 2 ∨ w = 3 ∨ w = 4) with rfl | rfl | rfl | rfl | rfl <;>
      rcases (by omega : k = 0 ∨ k = 1 ∨ k = 2 ∨ k = 3 ∨ k = 4 ∨ k = 5 ∨ k = 6 ∨ k = 7) with rfl | rfl | rfl | rfl | rfl | rfl | rfl | rfl <;> decide +kernel
  by_cases hk : k ≤ 7
  · exact key k hk
  · have hlen : (prs w).length ≤ 7 := by
      rcases (by omega : w = 0 ∨ w = 1 ∨ w = 2 ∨ w = 3 ∨ w = 4) with rfl | rfl | rfl | rfl | rfl <;> decide
    have e : (prs w).take k = (prs w).take 7 := by rw [List.take_of_length_le (by omega), List.take_of_length_le hlen]
    rw [e]; exact key 7 (Nat.le_refl _)
theorem flat_le {f : Nat → List Nat} {B : Nat} : ∀ {l : List Nat}, (∀ c ∈ l, (f c).length ≤ B) → (l.flatMap f).length ≤ l.length * B
  | [], _ => Nat.zero_le _
  | c :: l, h => by
    have h1 := h c (.head _)
    have h2 := flat_le (f := f) (l := l) fun d hd => h d (.tail _ hd)
    rw [List.flatMap_cons, List.length_append, List.length_cons, Nat.add_mul]; omega

variable {mg mb : Str → Option Value}
/-- any of the five escapes on a text of the law's -/
theorem esc_call {f : Addr} {wh : Nat} {x : Str} {t : Tok} {Q : Value → Shared → Prop} (hA : AOk A 1) (G : Gl w mg mb s.heap) (hw : wh < 5) (X : FnAt s.heap f (wh + 5) .none)
    (hx : ∀ c ∈ cp x, c ∈ sigma) (hlen : x.length ≤ 1000)
    (h : ∀ h' tk y t', Sub s.heap h' → cp y = (cp x).flatMap (escOf wh) → Q (.str y t') { s with heap := h', toks := tk }) :
    wpAny (model prog w) A (call (.ref f) [.str x t]) Q E s := by
  have hB : ∀ k, (repAll ((prs wh).take k) (cp x)).length ≤ 1048576 := fun k => by
    rw [repAll_flat]
    have := flat_le (f := fun c => repAll ((prs wh).take k) [c]) (B := 8) (l := cp x) fun c hc => take_le hw k c (hx c hc)
    rw [cp_length] at this
    omega
  have fin : ∀ h' tk y t', Sub s.heap h' → cp y = repAll (prs wh) (cp x) → Q (.str y t') { s with heap := h', toks := tk } := fun h' tk y t' k e => h h' tk y t' k (by rw [e, repAll_flat]; rfl)
  have run : ∀ {i : Nat} {body : List Stmt} {hs : List ExceptHandler} {h₀ : ExceptHandler} {p : Pos}, FnAt s.heap f i .none → fnBodyU i = [.Try body (h₀ :: hs) [] [] p] → EscBody body (prs wh) → (fnScope i).names.lookup (Str.ofString "text") = some .local →
      (∀ doc pm an cdv ct, bindArgs (fnD i .none .none doc pm an cdv ct) ⟨[.str x t], []⟩ = pure [(Str.ofString "text", .str x t)]) → (∀ y ∈ (fnScope i).names, y.2 ≠ .cell) → (fnScope i).isCoroutine = false → (fnScope i).isGenerator = false → (fnScope i).kind = .function →
      wpAny (model prog w) A (call (.ref f) [.str x t]) Q E s := by
    intro i body hs h₀ p X hb Y hl hbi hc h1 h2 h3
    refine enter hA X G.nolimit (fun d1 d2 d3 d4 d5 => BindsTo.of_eq (hbi d1 d2 d3 d4 d5)) (fun y hy => by rw [List.mem_singleton.mp hy]; exact hl) hc ?_ h1 h2 h3
    intro A' L ex h₁ tk hA' S
    rw [fnBody_eq, hb]
    refine wpAny_execs_cons ?_
    refine wpAny_Try_except ?_
    refine wp0 ?_
    refine esc_run Y hl h3 S (t := t) (x := x) (by simp) hB ?_
    intro h' tk' y t' k e
    exact fin h' tk' y t' k e
  rcases (by omega : wh = 0 ∨ wh = 1 ∨ wh = 2 ∨ wh = 3 ∨ wh = 4) with rfl | rfl | rfl | rfl | rfl
  · exact run X rfl (.cons rfl rfl rfl (by decide) (.cons rfl rfl rfl (by decide) (.cons rfl rfl rfl (by decide) .nil))) rfl (fun _ _ _ _ _ => rfl) (by decide +kernel) rfl rfl rfl
  · exact run X rfl (.cons rfl rfl rfl (by decide) (.cons rfl rfl rfl (by decide) (.cons rfl rfl rfl (by decide) (.cons rfl rfl rfl (by decide) (.cons rfl rfl rfl (by decide) (.cons rfl rfl rfl (by decide) (.cons rfl rfl rfl (by decide) .nil))))))) rfl (fun _ _ _ _ _ => rfl) (by decide +kernel) rfl rfl rfl
  · exact run X rfl (.cons rfl rfl rfl (by decide) (.cons rfl rfl rfl (by decide) (.cons rfl rfl rfl (by decide) .nil))) rfl (fun _ _ _ _ _ => rfl) (by decide +kernel) rfl rfl rfl
  · exact run X rfl (.cons rfl rfl rfl (by decide) (.cons rfl rfl rfl (by decide) (.cons rfl rfl rfl (by decide) (.cons rfl rfl rfl (by decide) .nil)))) rfl (fun _ _ _ _ _ => rfl) (by decide +kernel) rfl rfl rfl
  · exact run X rfl (.cons rfl rfl rfl (by decide) (.cons rfl rfl rfl (by decide) (.cons rfl rfl rfl (by decide) (.cons rfl rfl rfl (by decide) (.cons rfl rfl rfl (by decide) (.cons rfl rfl rfl (by decide) .nil)))))) rfl (fun _ _ _ _ _ => rfl) (by decide +kernel) rfl rfl rfl
end
end Mine
set_option maxRecDepth 100000
namespace Mine
open PySem PySem.Calls PyProof.Rows

section
variable {prog : Program} {w : World} {A : Around} {E : Value → Shared → Prop} {s : Shared} {g : Heap} {C D : Addr}

abbrev twoFor (elt : Expr) (x₀ : Str) (p₀ : Pos) (i₀ : Expr) (x₁ : Str) (p₁ : Pos) (i₁ : Expr) (csc : Scope) (pos : Pos) : Expr :=
  .ListComp elt [⟨.Name x₀ p₀, i₀, [], 0⟩, ⟨.Name x₁ p₁, i₁, [], 0⟩] csc pos

theorem turn1_eq {elt i₀ i₁ : Expr} {x₀ x₁ : Str} {p₀ p₁ pos : Pos} {csc : Scope} {it acc : Value} {env : Env} :
    compTurn (twoFor elt x₀ p₀ i₀ x₁ p₁ i₁ csc pos) 1 it acc env = (standAt i₁.pos >>= fun _ => pyNext it >>= fun r => match r with
      | none => pure (.done .next)
      | some v => letOwnedTupleGo (.Name x₁ p₁) it v >>= fun _ => assign (.Name x₁ p₁) env v >>= fun _ =>
        (eval elt env >>= fun x => call (.builtin "list.append") [acc, x] >>= fun _ => pure ()) >>= fun _ =>
          again (.compLoop (twoFor elt x₀ p₀ i₀ x₁ p₁ i₁ csc pos) 1 it acc env)) := by rfl

theorem turn0_eq {elt i₀ i₁ : Expr} {x₀ x₁ : Str} {p₀ p₁ pos : Pos} {csc : Scope} {it acc : Value} {env : Env} :
    compTurn (twoFor elt x₀ p₀ i₀ x₁ p₁ i₁ csc pos) 0 it acc env = (standAt i₀.pos >>= fun _ => pyNext it >>= fun r => match r with
      | none => pure (.done .next)
      | some v => letOwnedTupleGo (.Name x₀ p₀) it v >>= fun _ => assign (.Name x₀ p₀) env v >>= fun _ =>
        (eval i₁ env >>= fun x => standAt i₁.pos >>= fun _ => foldedSetIterable i₁ env x >>= fun x => holding [x] (pyIter x) >>= fun it₁ =>
          runOwn (.compStart (twoFor elt x₀ p₀ i₀ x₁ p₁ i₁ csc pos) 1 it₁ acc env) env >>= fun _ =>
          again (.compLoop (twoFor elt x₀ p₀ i₀ x₁ p₁ i₁ csc pos) 0 it acc env))) := by rfl

theorem start1 {elt i₀ i₁ : Expr} {x₀ x₁ : Str} {p₀ p₁ pos : Pos} {csc : Scope} {it acc : Value} {env : Env} {R : Result → Shared → Prop}
    (h0 : codeAny (model prog w) A (.compLoop (twoFor elt x₀ p₀ i₀ x₁ p₁ i₁ csc pos) 1 it acc env) R s)
    (h : wpAny (model prog w) A (pyIter it) (fun it' s' => codeAny (model prog w) A (.compLoop (twoFor elt x₀ p₀ i₀ x₁ p₁ i₁ csc pos) 1 it' acc env) R s') F0 s) :
    codeAny (model prog w) A (.compStart (twoFor elt x₀ p₀ i₀ x₁ p₁ i₁ csc pos) 1 it acc env) R s := by
  refine codeAny_of_tree ?_
  show wpAny _ _ ((compStart (twoFor elt x₀ p₀ i₀ x₁ p₁ i₁ csc pos) 1 it acc env).onRaise (fun x => do noteFrame x env; standAt theWindowsPlace)) _ _ s
  refine wpAny_notedAt (wp0 ?_)
  unfold compStart
  show wpAny _ _ (ask >>= _) _ _ s
  refine wpAny_bind (wpAny_askSetting (wpAny_ite ?_))
  split
  · first
      | exact wpAny_bind (wpAny_pure (wpAny_pure (And.intro rfl h0)))
      | exact wpAny_pure (And.intro rfl h0)
  · refine wpAny_bind (wpAny_rule ?_)
    show wpAny _ _ (standAt i₁.pos >>= _) _ _ s
    exact wpAny_bind (wpAny_standAt (wpAny_bind (wpAny_mono h (fun it' s' h' => wpAny_pure (And.intro rfl h')) fun _ _ x => x)))

/-- the inner loop: each turn appends -/
theorem inner_loop {elt i₀ i₁ : Expr} {x₀ x₁ : Str} {p₀ p₁ pos : Pos} {csc sc' : Scope} {cl : List (Str × Addr)} {ex : EX} {it : Value} {m : Str → Option Value} {led : Led} {ys₀ : List Value} {n : Nat} {P : Nat → Value → Prop} {hb : Heap}
    {R : Result → Shared → Prop} (F : Nat → Value → Led → Prop) (X : Iterates prog w A hb g C m ((D, .lst ys₀) :: led) n P it s) (hx : sc'.names.lookup x₁ = some .local) (hk : sc'.kind = .function) (hsz : ys₀.length + n ≤ sizeLine)
    (helt : ∀ i v g₁ m₁ h tk, i < n → P i v → Sub g g₁ → (∀ p ∈ led, p.2.At g₁ p.1) → St g₁ C m₁ [] h → m₁ x₁ = some v → (∀ y, y ≠ x₁ → m₁ y = m y) →
      wpAny (model prog w) A (eval elt (mkEnv sc' C cl ex)) (Handed s h (F i)) F0 { s with heap := h, toks := tk })
    (fin : ∀ h' tk m' zs, List.length zs = n → (∀ i z, zs[i]? = some z → F i (Prod.fst z) z.2) → (∀ y, y ≠ x₁ → m' y = m y) →
      St g C m' ((D, .lst (ys₀ ++ zs.map (·.1))) :: ((zs.map (·.2)).flatten ++ led)) h' → R (.ok .next) { s with heap := h', toks := tk }) :
    codeAny (model prog w) A (.compLoop (twoFor elt x₀ p₀ i₀ x₁ p₁ i₁ csc pos) 1 it (.ref D) (mkEnv sc' C cl ex)) R s := by
  obtain ⟨I, fp, wr, Sti, rfl, Wk, st0, S0, hfp, hwr, alive, _, _⟩ := X
  refine codeAny_loop rfl (fun k s' => ∃ i h tk m', ∃ zs : List (Value × Led), s' = { s with heap := h, toks := tk } ∧ i ≤ n ∧ k = n + 1 - i ∧ Sti i h ∧ zs.length = i ∧ (∀ i z, zs[i]? = some z → F i (Prod.fst z) z.2) ∧
      (∀ y, y ≠ x₁ → m' y = m y) ∧ St g C m' ((D, .lst (ys₀ ++ zs.map (·.1))) :: ((zs.map (·.2)).flatten ++ led)) h ∧ (∀ p ∈ (zs.map (·.2)).flatten, p.1 ∉ fp)) (fun k s' hI => ?_) (n + 1)
    ⟨0, s.heap, s.toks, m, [], rfl, Nat.zero_le _, rfl, st0, rfl, by simp, fun _ _ => rfl, by simpa using S0, by simp⟩
  obtain ⟨i, h, tk, m', zs, rfl, hi, rfl, st, hzs, hF, hm, T, hlow⟩ := hI
  show wpAny _ _ ((compTurn (twoFor elt x₀ p₀ i₀ x₁ p₁ i₁ csc pos) 1 (.ref I) (.ref D) (mkEnv sc' C cl ex)).onRaise (fun x => do noteFrame x (mkEnv sc' C cl ex); theTreesLotGoes x)) _ _ _
  refine wpAny_noted (wp0 ?_)
  rw [turn1_eq]
  have fpOff : ∀ b ∈ fp, b ≠ C ∧ b ≠ D ∧ b ∉ ((D, MO.lst (ys₀ ++ zs.map (·.1))) :: ((zs.map (·.2)).flatten ++ led)).map (·.1) := fun b hb => by
    have h0 := hfp b hb
    simp only [List.map_cons, List.mem_cons, not_or] at h0
    refine ⟨h0.1, h0.2.1, fun q => ?_⟩
    obtain ⟨p, hp, e⟩ := List.mem_map.mp q
    rcases List.mem_cons.mp hp with rfl | hp
    · exact h0.2.1 e.symm
    · rcases List.mem_append.mp hp with hp | hp
      · exact hlow p hp (e ▸ hb)
      · exact h0.2.2 (List.mem_map.mpr ⟨p, hp, e⟩)
  have off : ∀ h', (∀ b o, b ∉ wr → h.get? b = some o → h'.get? b = some o) → St g C m' ((D, .lst (ys₀ ++ zs.map (·.1))) :: ((zs.map (·.2)).flatten ++ led)) h' := fun h' k =>
    ⟨T.ns.at' fun o e => k _ o (fun hb => (fpOff _ (Wk.sub _ hb)).1 rfl) e, fun b o e => k b o (fun hb => by rw [hwr b hb] at e; cases e) (T.keep b o e), T.offL,
      fun p hp => (T.ats p hp).at fun o e => k _ o (fun hb => (fpOff _ (Wk.sub _ hb)).2.2 (List.mem_map_of_mem hp)) e, T.off, T.nodup⟩
  refine wpAny_bind (wpAny_standAt (wpAny_bind ?_))
  by_cases hlt : i < n
  · refine Wk.item i _ _ _ hlt st fun v h₂ tk₂ hP st₂ k₂ => ?_
    have T₂ := off h₂ k₂
    refine wpAny_bind (wpAny_of_eq (a := ()) rfl ?_)
    refine wpAny_bind ?_
    refine wpAny_assign_Name (wpAny_storeName_local (env := mkEnv sc' C cl ex) hx T₂.ns (fun h₃ hn₃ hs₃ => ?_) (by show (sc'.kind == .class || (sc'.kind == .module && C != mainGlobals)) = false; rw [hk]; rfl))
    have T₃ : St g C (set1 m' x₁ v) ((D, .lst (ys₀ ++ zs.map (·.1))) :: ((zs.map (·.2)).flatten ++ led)) h₃ := T₂.setNs hn₃ hs₃
    obtain ⟨g₁, sub₁, T₄, hall, get₁⟩ := St.freeze (led₁ := []) (led₂ := (D, .lst (ys₀ ++ zs.map (·.1))) :: ((zs.map (·.2)).flatten ++ led)) T₃
    refine wpAny_bind (wpAny_bind ?_)
    refine wpAny_mono (helt i v g₁ _ h₃ _ hlt hP sub₁ (fun p hp => hall p (.tail _ (List.mem_append_right _ hp))) T₄ (by simp [set1]) (fun y hy => by simp [set1, hy]; exact hm y hy)) (fun y s₄ h₄ => ?_) fun _ _ x => x.elim
    obtain ⟨h₅, tk₅, os, rfl, k₅, hFy, hos, hnd⟩ := h₄
    have T₅ := T₃.adds k₅ hos hnd
    have T₆ : St g C (set1 m' x₁ v) ((D, .lst (ys₀ ++ zs.map (·.1))) :: ((zs.map (·.2)).flatten ++ os ++ led)) h₅ := by
      refine T₅.perm ?_
      refine List.Perm.trans (List.Perm.cons _ ?_) List.perm_middle.symm
      rw [← List.append_assoc]
      exact List.Perm.append_right _ List.perm_append_comm
    refine wpAny_bind ?_
    refine wpAny_list_append_plain (T₆.at (.head _)) (fun h₆ hp₆ hs₆ => ?_) (by simp [hzs]; omega)
    have T₇ := T₆.upd 0 rfl hs₆ (x' := .lst (ys₀ ++ (zs ++ [(y, os)]).map (·.1))) (by show h₆.PlainList _ (ys₀ ++ (zs ++ [(y, os)]).map (·.1)).toArray; simpa using hp₆)
    refine wpAny_pure (wpAny_pure ⟨rfl, n + 1 - (i + 1), by omega, i + 1, h₆, tk₅, set1 m' x₁ v, zs ++ [(y, os)], rfl, hlt, rfl, ?_, by simp [hzs], ?_, fun y hy => by simp [set1, hy]; exact hm y hy, by simpa using T₇, ?_⟩)
    · exact Wk.frame _ _ _ st₂ fun b hb o e => (hs₆.2 b (fpOff b hb).2.1).trans (k₅ b o ((hs₃.2 b (fpOff b hb).1).trans e))
    · intro j z hj
      by_cases hji : j < i
      · rw [List.getElem?_append_left (by omega)] at hj
        exact hF j z hj
      · by_cases hje : j = i
        · subst hje
          rw [List.getElem?_append_right (by omega)] at hj
          simp [hzs] at hj
          rw [← hj]; exact hFy
        · rw [List.getElem?_eq_none (by simp; omega)] at hj; cases hj
    · intro p hp
      rw [List.map_append, List.flatten_append] at hp
      rcases List.mem_append.mp hp with hp | hp
      · exact hlow p hp
      · simp at hp
        intro hb
        obtain ⟨o, e⟩ := alive _ _ st₂ _ hb
        have e3 := (hs₃.2 _ (fpOff _ hb).1).trans e
        rw [(hos p hp).1] at e3; cases e3
  · have hin : i = n := by omega
    subst hin
    refine Wk.done _ _ _ st fun h₂ tk₂ k₂ => ?_
    exact wpAny_pure (fin h₂ tk₂ m' zs hzs hF hm (off h₂ k₂))

/-- the outer loop: each turn runs an inner one -/
theorem outer_comp {elt i₀ i₁ : Expr} {x₀ x₁ : Str} {p₀ p₁ pos : Pos} {sc csc csc' : Scope} {cs cl : List (Str × Addr)} {ex : EX} {it : Value} {L : Addr} {m : Str → Option Value} {led : Led} {n : Nat} {P : Nat → Value → Prop} {hb : Heap}
    {RR : Value → Addr → Result → Shared → Prop} (N : Nat → Nat) (F : Nat → Nat → Value → Led → Prop) (PP : Nat → Nat → Value → Prop) (X : Iterates prog w A hb g L m led n P it s)
    (hcell : ∀ y ∈ csc.names, y.2 ≠ .cell) (hkind : csc.kind = .function) (hx0 : csc.names.lookup x₀ = some .local) (hx1 : csc.names.lookup x₁ = some .local) (hne : x₀ ≠ x₁) (hrel : relabel csc (mkEnv sc L cs ex) = csc')
    (hN : ∀ i, N i ≤ 100) (hn : n ≤ 1000) (hfold : ∀ env x, foldedSetIterable i₁ env x = pure x)
    (hiter : ∀ i v C g₁ m₁ led₁ h tk (Q₁ : Value → Shared → Prop), i < n → P i v → Sub g g₁ → (∀ p ∈ led, p.2.At g₁ p.1) → St g₁ C m₁ led₁ h → m₁ x₀ = some v →
      (∀ xv h' tk', (∀ (Q₂ : Value → Shared → Prop), (∀ hb' it₁ h'' tk'', Iterates prog w A hb' g₁ C m₁ led₁ (N i) (PP i) it₁ { s with heap := h'', toks := tk'' } → Q₂ it₁ { s with heap := h'', toks := tk'' }) →
        wpAny (model prog w) A (pyIter xv) Q₂ F0 { s with heap := h', toks := tk' }) → Q₁ xv { s with heap := h', toks := tk' }) →
      wpAny (model prog w) A (eval i₁ (mkEnv csc' C cl (cEX ex))) Q₁ F0 { s with heap := h, toks := tk })
    (hself : ∀ hb' it₁ g₁ C m₁ led₁ k (P₁ : Nat → Value → Prop) s₂ (Q₂ : Value → Shared → Prop), Iterates prog w A hb' g₁ C m₁ led₁ k P₁ it₁ s₂ → Q₂ it₁ s₂ → wpAny (model prog w) A (pyIter it₁) Q₂ F0 s₂)
    (helt : ∀ i j v u C g₁ m₁ h tk, i < n → P i v → j < N i → PP i j u → Sub g g₁ → (∀ p ∈ led, p.2.At g₁ p.1) → St g₁ C m₁ [] h → m₁ x₀ = some v → m₁ x₁ = some u →
      wpAny (model prog w) A (eval elt (mkEnv csc' C cl (cEX ex))) (Handed s h (F i j)) F0 { s with heap := h, toks := tk })
    (fin : ∀ D C o h' tk, ∀ zss : List (List (Value × Led)), (∃ m', h'.Ns C m') → zss.length = n → (∀ i zs, zss[i]? = some zs → zs.length = N i ∧ ∀ j z, zs[j]? = some z → F i j (Prod.fst z) z.2) →
      St g L m ((C, .raw o) :: (D, .lst (zss.flatten.map (·.1))) :: ((zss.flatten.map (·.2)).flatten ++ led)) h' → RR (.ref D) C (.ok .next) { s with heap := h', toks := tk }) :
    wpAny (model prog w) A (newList []) (fun acc s₃ => wpAny (model prog w) A (newFunctionEnv csc mainGlobals cl [] ex.qual none .none (some (mkEnv sc L cs ex))) (fun cenv s₄ =>
      codeAny (model prog w) A (.compStart (twoFor elt x₀ p₀ i₀ x₁ p₁ i₁ csc pos) 0 it acc { cenv with scope := relabel csc (mkEnv sc L cs ex) }) (RR acc cenv.locals) s₄) E s₃) E s := by
  obtain ⟨I, fp, wr, Sti, rfl, Wk, st0, S0, hfp, hwr, alive, hbS, hbw⟩ := X
  refine wpAny_newObj_type (wpAny_newFunctionEnv hcell (by intro y hy; simp at hy) (fun h₁ hns₁ hsb₁ => ?_) hkind)
  dsimp only at hns₁ hsb₁ ⊢
  generalize hH2 : s.heap.push { cls := .type "list", dict := none, data := .seq ([] : List Value).toArray } = H2 at hns₁ hsb₁ ⊢
  have hC : H2.objs.size = s.heap.objs.size + 1 := by rw [← hH2, Heap.size_push]
  have old : Sub s.heap h₁ := fun b o e => hsb₁.extBut b o (by rw [hC]; exact Nat.ne_of_lt (Nat.lt_succ_of_lt (Heap.lt_size e))) (Heap.get?_push_of_some _ (hH2 ▸ Heap.get?_push_of_some _ e))
  let g₀ := W.hideAll s.heap wr
  have sub0 : Sub g₀ s.heap := fun b o e => W.of_hideAll _ e
  have T0 : St g₀ H2.objs.size (fun _ => none) [(s.heap.objs.size, .lst [])] h₁ := by
    refine ⟨hns₁, sub0.trans old, none_of_new sub0 (new_none _ (by rw [hC]; exact Nat.le_succ _)), fun p hp => ?_, fun p hp => ?_, ?_⟩
    · rw [List.mem_singleton.mp hp]
      exact ⟨0, hsb₁.extBut _ _ (by rw [hC]; exact Nat.ne_of_lt (Nat.lt_succ_self _)) (Heap.get?_push_of_some _ (hH2 ▸ Heap.get?_push_size _ rfl))⟩
    · rw [List.mem_singleton.mp hp]
      exact ⟨none_of_new sub0 (new_none _ (Nat.le_refl _)), by show s.heap.objs.size ≠ H2.objs.size; rw [hC]; exact Nat.ne_of_lt (Nat.lt_succ_self _)⟩
    · simp
  have inG : ∀ b o, b ∉ wr → s.heap.get? b = some o → g₀.get? b = some o := fun b o hb e => W.hideAll_get _ e hb
  have fpG : ∀ b ∈ fp, b < s.heap.objs.size := fun b hb => let ⟨o, e⟩ := alive _ _ st0 b hb; Heap.lt_size e
  have gg₀ : Sub g g₀ := fun b o e => inG b o (fun hb => by rw [hwr b hb] at e; cases e) (S0.keep b o e)
  have outer : ∀ h', Sub g₀ h' → Sub g h' ∧ (∀ p ∈ led, p.2.At h' p.1) := fun h' k =>
    ⟨gg₀.trans k, fun p hp => (S0.ats p hp).at fun o e => k _ o (inG _ o (fun hb => (hfp _ (Wk.sub _ hb)).2 (List.mem_map_of_mem hp)) e)⟩
  have loop : ∀ s₃ : Shared, s₃ = { s with heap := h₁, toks := s.toks + ([] : List (Str × Value)).length } →
      codeAny (model prog w) A (.compLoop (twoFor elt x₀ p₀ i₀ x₁ p₁ i₁ csc pos) 0 (.ref I) (.ref s.heap.objs.size) (mkEnv csc' H2.objs.size cl (cEX ex)))
        (RR (.ref s.heap.objs.size) H2.objs.size) s₃ := by
    rintro s₃ rfl
    refine codeAny_loop rfl (fun k s' => ∃ i h tk m', ∃ zss : List (List (Value × Led)), s' = { s with heap := h, toks := tk } ∧ i ≤ n ∧ k = n + 1 - i ∧ Sti i h ∧ zss.length = i ∧
      (∀ i zs, zss[i]? = some zs → zs.length = N i ∧ ∀ j z, zs[j]? = some z → F i j (Prod.fst z) z.2) ∧
      St g₀ H2.objs.size m' ((s.heap.objs.size, .lst (zss.flatten.map (·.1))) :: (zss.flatten.map (·.2)).flatten) h ∧ (∀ p ∈ (zss.flatten.map (·.2)).flatten, p.1 ∉ fp) ∧ zss.flatten.length ≤ i * 100) (fun k s' hI => ?_) (n + 1)
      ⟨0, h₁, _, _, [], rfl, Nat.zero_le _, rfl, Wk.frame _ _ _ st0 fun b _ o e => old b o e, rfl, by simp, by simpa using T0, by simp, by simp⟩
    obtain ⟨i, h, tk, m', zss, rfl, hi, rfl, st, hzss, hF, T, hlow, hlen⟩ := hI
    show wpAny _ _ ((compTurn (twoFor elt x₀ p₀ i₀ x₁ p₁ i₁ csc pos) 0 (.ref I) (.ref s.heap.objs.size) (mkEnv csc' H2.objs.size cl (cEX ex))).onRaise (fun x => do noteFrame x (mkEnv csc' H2.objs.size cl (cEX ex)); theTreesLotGoes x)) _ _ _
    refine wpAny_noted (wp0 ?_)
    rw [turn0_eq]
    have hx0' : csc'.names.lookup x₀ = some .local := by rw [← hrel]; exact lookup_relabel_local hx0
    have hx1' : csc'.names.lookup x₁ = some .local := by rw [← hrel]; exact lookup_relabel_local hx1
    have hk' : csc'.kind = .function := by rw [← hrel]; exact hkind
    have fpOff : ∀ b ∈ fp, b ≠ H2.objs.size ∧ b ≠ s.heap.objs.size ∧ b ∉ ((s.heap.objs.size, MO.lst (zss.flatten.map (·.1))) :: (zss.flatten.map (·.2)).flatten).map (·.1) := fun b hb => by
      have hlt := fpG b hb
      refine ⟨by rw [hC]; exact Nat.ne_of_lt (Nat.lt_succ_of_lt hlt), Nat.ne_of_lt hlt, fun q => ?_⟩
      obtain ⟨p, hp, e⟩ := List.mem_map.mp q
      rcases List.mem_cons.mp hp with rfl | hp
      · exact absurd e (Nat.ne_of_gt hlt)
      · exact hlow p hp (e ▸ hb)
    have off : ∀ h', (∀ b o, b ∉ wr → h.get? b = some o → h'.get? b = some o) → St g₀ H2.objs.size m' ((s.heap.objs.size, .lst (zss.flatten.map (·.1))) :: (zss.flatten.map (·.2)).flatten) h' := fun h' k =>
      ⟨T.ns.at' fun o e => k _ o (fun hb => (fpOff _ (Wk.sub _ hb)).1 rfl) e, fun b o e => k b o (fun hb => by rw [W.hideAll_none _ hb] at e; cases e) (T.keep b o e), T.offL,
        fun p hp => (T.ats p hp).at fun o e => k _ o (fun hb => (fpOff _ (Wk.sub _ hb)).2.2 (List.mem_map_of_mem hp)) e, T.off, T.nodup⟩
    refine wpAny_bind (wpAny_standAt (wpAny_bind ?_))
    by_cases hlt : i < n
    · refine Wk.item i _ _ _ hlt st fun v h₂ tk₂ hP st₂ k₂ => ?_
      have T₂ := off h₂ k₂
      refine wpAny_bind (wpAny_of_eq (a := ()) rfl ?_)
      refine wpAny_bind ?_
      refine wpAny_assign_Name (wpAny_storeName_local (env := mkEnv csc' H2.objs.size cl (cEX ex)) hx0' T₂.ns (fun h₃ hn₃ hs₃ => ?_) (by show (csc'.kind == .class || (csc'.kind == .module && H2.objs.size != mainGlobals)) = false; rw [hk']; rfl))
      have T₃ : St g₀ H2.objs.size (set1 m' x₀ v) (((s.heap.objs.size, .lst (zss.flatten.map (·.1))) :: (zss.flatten.map (·.2)).flatten) ++ []) h₃ := by rw [List.append_nil]; exact T₂.setNs hn₃ hs₃
      obtain ⟨g₁, sub₁, T₄, _, get₁⟩ := T₃.freeze
      have inG₁ : ∀ b ∈ fp, ∀ o, h₃.get? b = some o → g₁.get? b = some o := fun b hb o e => get₁ b o e (fpOff b hb).1 (fpOff b hb).2.2
      refine wpAny_bind ?_
      refine hiter i v H2.objs.size g₁ (set1 m' x₀ v) _ h₃ _ _ hlt hP (outer g₁ sub₁).1 (outer g₁ sub₁).2 T₄ (by simp [set1]) ?_
      intro xv h₄ tk₄ hpy
      refine wpAny_bind (wpAny_standAt (wpAny_bind (wpAny_of_eq (hfold _ _) (wpAny_bind (wpAny_holding ?_)))))
      refine hpy _ ?_
      intro hb' it₁ h₅ tk₅ X₅
      refine wpAny_bind (wpAny_runOwn ?_)
      have inner : codeAny (model prog w) A (.compLoop (twoFor elt x₀ p₀ i₀ x₁ p₁ i₁ csc pos) 1 it₁ (.ref s.heap.objs.size) (mkEnv csc' H2.objs.size cl (cEX ex)))
          (fun r s' => match r with
            | .ok f => wpAny (model prog w) A (again (.compLoop (twoFor elt x₀ p₀ i₀ x₁ p₁ i₁ csc pos) 0 (.ref I) (.ref s.heap.objs.size) (mkEnv csc' H2.objs.size cl (cEX ex)))) (fun fin s' => match fin with | .done f => RR (.ref s.heap.objs.size) H2.objs.size (.ok f) s' | .again c' => c' = .compLoop (twoFor elt x₀ p₀ i₀ x₁ p₁ i₁ csc pos) 0 (.ref I) (.ref s.heap.objs.size) (mkEnv csc' H2.objs.size cl (cEX ex)) ∧ ∃ m, m < n + 1 - i ∧ (∃ i h tk m', ∃ zss : List (List (Value × Led)), s' = { s with heap := h, toks := tk } ∧ i ≤ n ∧ m = n + 1 - i ∧ Sti i h ∧ zss.length = i ∧
      (∀ i zs, zss[i]? = some zs → zs.length = N i ∧ ∀ j z, zs[j]? = some z → F i j (Prod.fst z) z.2) ∧
      St g₀ H2.objs.size m' ((s.heap.objs.size, .lst (zss.flatten.map (·.1))) :: (zss.flatten.map (·.2)).flatten) h ∧ (∀ p ∈ (zss.flatten.map (·.2)).flatten, p.1 ∉ fp) ∧ zss.flatten.length ≤ i * 100)) F0 s'
            | .error e => cameBackBy (model prog w) A (mkEnv csc' H2.objs.size cl (cEX ex)) F0 e s') { s with heap := h₅, toks := tk₅ } := by
        refine inner_loop (F i) X₅ hx1' hk' ?_ ?_ ?_
        · rw [sizeLine_eq, List.length_map]
          have := hN i
          omega
        · intro j u g₂ m₂ h₆ tk₆ hj hPj sub₂ _ S₆ hm₂ hmm
          exact helt i j v u H2.objs.size g₂ m₂ h₆ tk₆ hlt hP hj hPj ((outer g₁ sub₁).1.trans sub₂) (fun p hp => ((outer g₁ sub₁).2 p hp).sub sub₂) S₆ ((hmm x₀ hne).trans (by simp [set1])) hm₂
        · intro h₇ tk₇ m₇ zs hzs hFz _ S₇
          have S₈ := S₇.base sub₁
          refine wpAny_pure ⟨rfl, n + 1 - (i + 1), by omega, i + 1, h₇, tk₇, m₇, zss ++ [zs], rfl, hlt, rfl, ?_, by simp [hzss], ?_, ?_, ?_, ?_⟩
          · exact Wk.frame _ _ _ st₂ fun b hb o e => S₇.keep b o (inG₁ b hb o ((hs₃.2 b (fpOff b hb).1).trans e))
          · intro j zs' hj
            by_cases hji : j < i
            · rw [List.getElem?_append_left (by omega)] at hj
              exact hF j zs' hj
            · by_cases hje : j = i
              · subst hje
                rw [List.getElem?_append_right (by omega)] at hj
                simp [hzss] at hj
                rw [← hj]; exact ⟨hzs, hFz⟩
              · rw [List.getElem?_eq_none (by simp; omega)] at hj; cases hj
          · have e1 : (zss ++ [zs]).flatten.map (·.1) = zss.flatten.map (·.1) ++ zs.map (·.1) := by simp
            have e2 : ((zss ++ [zs]).flatten.map (·.2)).flatten = (zss.flatten.map (·.2)).flatten ++ (zs.map (·.2)).flatten := by simp
            rw [e1, e2]
            exact S₈.perm (List.Perm.cons _ List.perm_append_comm)
          · intro p hp
            have e2 : ((zss ++ [zs]).flatten.map (·.2)).flatten = (zss.flatten.map (·.2)).flatten ++ (zs.map (·.2)).flatten := by simp
            rw [e2] at hp
            intro hb
            obtain ⟨o, e⟩ := alive _ _ st₂ _ hb
            have e3 := inG₁ _ hb o ((hs₃.2 _ (fpOff _ hb).1).trans e)
            have := (S₇.off p (.tail _ (List.mem_append.mpr ((List.mem_append.mp hp).symm)))).1
            rw [e3] at this; cases this
          · have := hN i
            simp only [List.flatten_append, List.length_append, List.flatten_cons, List.flatten_nil, List.append_nil, hzs]
            omega
      exact start1 inner (hself _ _ _ _ _ _ _ _ _ _ X₅ inner)
    · have hin : i = n := by omega
      subst hin
      refine Wk.done _ _ _ st fun h₂ tk₂ k₂ => ?_
      have T₂ := off h₂ k₂
      obtain ⟨oC, esC, epC, hoC, rC⟩ := id T₂.ns
      refine wpAny_pure (fin _ _ oC h₂ tk₂ zss ⟨_, T₂.ns⟩ hzss hF ?_)
      obtain ⟨k1, k2⟩ := outer h₂ T₂.keep
      have Lw : L ∉ wr := fun hb => (hfp _ (Wk.sub _ hb)).1 rfl
      obtain ⟨oL, esL, epL, hoL, rL⟩ := id S0.ns
      have gL : g₀.get? L = some oL := inG L oL Lw hoL
      have gled : ∀ p ∈ led, ∃ o, g₀.get? p.1 = some o := fun p hp => by
        obtain ⟨o, e⟩ := (S0.ats p hp).obj
        exact ⟨o, inG _ o (fun hb => (hfp _ (Wk.sub _ hb)).2 (List.mem_map_of_mem hp)) e⟩
      have newOff : ∀ p ∈ (s.heap.objs.size, MO.lst (zss.flatten.map (·.1))) :: (zss.flatten.map (·.2)).flatten, g.get? p.1 = none ∧ p.1 ≠ L := fun p hp =>
        ⟨none_of_new gg₀ (T₂.off p hp).1, fun q => by have := (T₂.off p hp).1; rw [q, gL] at this; cases this⟩
      have Coff : ∀ b, b < s.heap.objs.size → b ≠ H2.objs.size := fun b hb => by rw [hC]; exact Nat.ne_of_lt (Nat.lt_succ_of_lt hb)
      refine ⟨S0.ns.at' fun o e => T₂.keep _ _ (inG _ _ Lw e), k1, S0.offL, fun p hp => ?_, fun p hp => ?_, ?_⟩
      · rcases List.mem_cons.mp hp with rfl | hp
        · exact hoC
        · rw [← List.cons_append] at hp
          rcases List.mem_append.mp hp with hp | hp
          · exact T₂.ats p hp
          · exact k2 p hp
      · rcases List.mem_cons.mp hp with rfl | hp
        · exact ⟨none_of_new S0.keep (new_none _ (by rw [hC]; exact Nat.le_succ _)), Ne.symm (Coff L (Heap.lt_size hoL))⟩
        · rw [← List.cons_append] at hp
          rcases List.mem_append.mp hp with hp | hp
          · exact newOff p hp
          · exact S0.off p hp
      · rw [← List.cons_append, List.map_cons, List.map_append, List.nodup_cons, List.nodup_append]
        refine ⟨fun q => ?_, T₂.nodup, S0.nodup, fun a ha b hb q => ?_⟩
        · rcases List.mem_append.mp q with q | q
          · obtain ⟨p, hp, e⟩ := List.mem_map.mp q
            exact (T₂.off p hp).2 e
          · obtain ⟨p, hp, e⟩ := List.mem_map.mp q
            exact Coff _ (S0.ats p hp).lt e
        · obtain ⟨p, hp, rfl⟩ := List.mem_map.mp ha
          obtain ⟨p', hp', rfl⟩ := List.mem_map.mp hb
          obtain ⟨o, e⟩ := gled p' hp'
          have := (T₂.off p hp).1
          rw [q, e] at this; cases this
  have start0 := codeAny_compStart_list (loop _ rfl) (Wk.self 0 _ _ _ (Wk.frame _ _ _ st0 fun b _ o e => old b o e) (loop _ rfl))
  rw [← hrel] at start0
  exact start0
end
end Mine
set_option maxRecDepth 100000
namespace Mine
open PySem PySem.Calls PyProof.Rows

/-- the orders: the n-th thing set in at each place -/
def ordersTo : Nat → List (List Int)
  | 0 => [[]]
  | n + 1 => (ordersTo n).flatMap fun o => (List.range (o.length + 1)).map fun k => o.take k ++ [(n : Int)] ++ o.drop k

/-- rows in the ledger -/
def RowsIn (led : Led) (vs : List Value) (nss : List (List Int)) : Prop :=
  vs.length = nss.length ∧ ∀ (i : Nat) v ns, vs[i]? = some v → nss[i]? = some ns → ∃ r ws, v = Value.ref r ∧ (r, MO.lst ws) ∈ led ∧ IntsAre ws ns

theorem RowsIn.append {led : Led} {a b : List Value} {as bs : List (List Int)} (x : RowsIn led a as) (y : RowsIn led b bs) : RowsIn led (a ++ b) (as ++ bs) := by
  refine ⟨by simp [x.1, y.1], fun i v ns e1 e2 => ?_⟩
  by_cases hi : i < a.length
  · rw [List.getElem?_append_left hi] at e1
    rw [List.getElem?_append_left (by rw [← x.1]; exact hi)] at e2
    exact x.2 i v ns e1 e2
  · rw [List.getElem?_append_right (by omega)] at e1
    rw [List.getElem?_append_right (by rw [← x.1]; omega), ← x.1] at e2
    exact y.2 _ v ns e1 e2
theorem rowsIn_flat (led : Led) (ins : List Int → Nat → List Int) : ∀ (zss : List (List (Value × Led))) (os : List (List Int)), zss.length = os.length →
    (∀ (i : Nat) zs o, zss[i]? = some zs → os[i]? = some o → zs.length = o.length + 1 ∧ ∀ (j : Nat) z, zs[j]? = some z → ∃ D ws', z.1 = Value.ref D ∧ (D, MO.lst ws') ∈ led ∧ IntsAre ws' (ins o j)) →
    RowsIn led (zss.flatten.map (·.1)) (os.flatMap fun o => (List.range (o.length + 1)).map (ins o))
  | [], [], _, _ => ⟨rfl, fun i v ns e => by simp at e⟩
  | zs :: zss, o :: os, hl, h => by
    have h0 := h 0 zs o rfl rfl
    have ih := rowsIn_flat led ins zss os (by simpa using hl) fun i zs' o' e1 e2 => h (i + 1) zs' o' (by simpa using e1) (by simpa using e2)
    rw [List.flatten_cons, List.map_append, List.flatMap_cons]
    refine RowsIn.append ⟨by simp [h0.1], fun j v ns e1 e2 => ?_⟩ ih
    rw [List.getElem?_map] at e1 e2
    cases ez : zs[j]? with
    | none => rw [ez] at e1; cases e1
    | some z =>
      rw [ez] at e1
      cases e1
      obtain ⟨D, ws', h1, h2, h3⟩ := h0.2 j z ez
      have hj : j < o.length + 1 := by
        rw [← h0.1]
        rcases Nat.lt_or_ge j zs.length with h | h
        · exact h
        · rw [List.getElem?_eq_none h] at ez; cases ez
      rw [List.getElem?_range hj] at e2
      cases e2
      exact ⟨D, ws', h1, h2, h3⟩
  | [], _ :: _, hl, _ => by simp at hl
  | _ :: _, [], hl, _ => by simp at hl

theorem ordersTo_short : ∀ n, ∀ o ∈ ordersTo n, o.length = n
  | 0, o, h => by simp [ordersTo] at h; simp [h]
  | n + 1, o, h => by
    simp only [ordersTo, List.mem_flatMap, List.mem_map, List.mem_range] at h
    obtain ⟨a, ha, k, hk, rfl⟩ := h
    have := ordersTo_short n a ha
    simp [List.length_take, List.length_drop]; omega
theorem ordersTo_len : ∀ n, n ≤ 4 → (ordersTo n).length ≤ 24 := by
  intro n hn
  rcases (by omega : n = 0 ∨ n = 1 ∨ n = 2 ∨ n = 3 ∨ n = 4) with rfl | rfl | rfl | rfl | rfl <;> decide +kernel

section
variable {prog : Program} {w : World} {A : Around} {E : Value → Shared → Prop} {s : Shared} {g : Heap} {L : Addr}

theorem iter_rangeN {a b : Int} {t u v : Tok} {r : Addr} {m : Str → Option Value} {led : Led} {Q : Value → Shared → Prop} (n : Nat) (hn : (b - a).toNat = n) (hh : A.handled = none) (S : St g L m led s.heap) (hr : IsRange s.heap r a b 1 t u v)
    (ha : -(2 ^ 62) ≤ a) (ha' : a < 2 ^ 62) (hb : -(2 ^ 62) ≤ b) (hb' : b < 2 ^ 62)
    (h : ∀ it h', Sub s.heap h' → Iterates prog w A s.heap g L m led n (fun i v => ∃ tk, v = .int (a + i) tk) it { s with heap := h' } → Q it { s with heap := h' }) :
    wpAny (model prog w) A (pyIter (.ref r)) Q E s := by
  subst hn
  exact iter_range hh S hr ha ha' hb hb' h

theorem iterates_self {hb' : Heap} {it₁ : Value} {g₁ : Heap} {C : Addr} {m₁ : Str → Option Value} {led₁ : Led} {k : Nat} {P₁ : Nat → Value → Prop} {s₂ : Shared} {Q₂ : Value → Shared → Prop}
    (X : Iterates prog w A hb' g₁ C m₁ led₁ k P₁ it₁ s₂) (h : Q₂ it₁ s₂) : wpAny (model prog w) A (pyIter it₁) Q₂ F0 s₂ := by
  obtain ⟨I, fp, wr, Sti, rfl, Wk, st0, _⟩ := X
  exact Wk.self 0 _ _ _ st0 h

/-- what is asked behind pyIter: the comprehension of two fors, assigned to y -/
inductive Comp2 (prog : Program) (w : World) (A : Around) (g : Heap) (L : Addr) (elt i₁ : Expr) (x₀ x₁ y : Str) (csc' : Scope) (cl : List (Str × Addr)) (ex : EX) (Q : Flow → Shared → Prop) (it : Value) (s₂ : Shared) : Prop where
  | mk (hb : Heap) (m : Str → Option Value) (led : Led) (n : Nat) (P : Nat → Value → Prop) (N : Nat → Nat) (F : Nat → Nat → Value → Led → Prop) (PP : Nat → Nat → Value → Prop)
      (X : Iterates prog w A hb g L m led n P it s₂) (hN : ∀ i, N i ≤ 100) (hn : n ≤ 1000)
      (hiter : ∀ i v C g₁ m₁ led₁ h tk (Q₁ : Value → Shared → Prop), i < n → P i v → Sub g g₁ → (∀ p ∈ led, p.2.At g₁ p.1) → St g₁ C m₁ led₁ h → m₁ x₀ = some v →
        (∀ xv h' tk', (∀ (Q₂ : Value → Shared → Prop), (∀ hb' it₁ h'' tk'', Iterates prog w A hb' g₁ C m₁ led₁ (N i) (PP i) it₁ { s₂ with heap := h'', toks := tk'' } → Q₂ it₁ { s₂ with heap := h'', toks := tk'' }) →
          wpAny (model prog w) A (pyIter xv) Q₂ F0 { s₂ with heap := h', toks := tk' }) → Q₁ xv { s₂ with heap := h', toks := tk' }) →
        wpAny (model prog w) A (eval i₁ (mkEnv csc' C cl (cEX ex))) Q₁ F0 { s₂ with heap := h, toks := tk })
      (helt : ∀ i j v u C g₁ m₁ h tk, i < n → P i v → j < N i → PP i j u → Sub g g₁ → (∀ p ∈ led, p.2.At g₁ p.1) → St g₁ C m₁ [] h → m₁ x₀ = some v → m₁ x₁ = some u →
        wpAny (model prog w) A (eval elt (mkEnv csc' C cl (cEX ex))) (Handed s₂ h (F i j)) F0 { s₂ with heap := h, toks := tk })
      (fin : ∀ D h' tk, ∀ zss : List (List (Value × Led)), zss.length = n → (∀ (i : Nat) zs, zss[i]? = some zs → zs.length = N i ∧ ∀ (j : Nat) z, zs[j]? = some z → F i j (Prod.fst z) z.2) →
        St g L (set1 m y (.ref D)) ((D, .lst (zss.flatten.map (·.1))) :: ((zss.flatten.map (·.2)).flatten ++ led)) h' → Q .next { s₂ with heap := h', toks := tk }) : Comp2 prog w A g L elt i₁ x₀ x₁ y csc' cl ex Q it s₂

/-- a comprehension of two fors, assigned to a local name at once -/
theorem comp2_asg {elt i₀ i₁ : Expr} {x₀ x₁ y : Str} {p₀ p₁ py pos spos : Pos} {sc csc csc' : Scope} {cs cl : List (Str × Addr)} {ex : EX} {Q : Flow → Shared → Prop}
    (hsw : swapsWith (twoFor elt x₀ p₀ i₀ x₁ p₁ i₁ csc pos) (some (.Name y py)) spos.line (mkEnv sc L cs ex) = pure true)
    (hclos : closureFor csc (mkEnv sc L cs ex) = pure cl) (hcell : ∀ y ∈ csc.names, y.2 ≠ .cell) (hkind : csc.kind = .function)
    (hnames : ∀ y ∈ csc.names, y.2 = .local → csc.names.lookup y.1 = some .local) (hx0 : csc.names.lookup x₀ = some .local) (hx1 : csc.names.lookup x₁ = some .local) (hne : x₀ ≠ x₁) (hrel : relabel csc (mkEnv sc L cs ex) = csc')
    (hy : sc.names.lookup y = some .local) (hk : sc.kind = .function) (hfold : ∀ env x, foldedSetIterable i₁ env x = pure x) (hs : ∀ x, foldedSetIterable i₀ (mkEnv sc L cs ex) x = pure x)
    (h : wpAny (model prog w) A (eval i₀ (mkEnv sc L cs ex)) (fun xv s₁ => wpAny (model prog w) A (pyIter xv) (fun it s₂ => Comp2 prog w A g L elt i₁ x₀ x₁ y csc' cl ex Q it s₂) E s₁) E s) :
    wpAny (model prog w) A (exec (.Assign [.Name y py] (twoFor elt x₀ p₀ i₀ x₁ p₁ i₁ csc pos) spos) (mkEnv sc L cs ex)) Q E s := by
  rw [exec_Assign_Name_used _ _ _ _ hsw]
  refine wpAny_bind (wpAny_standAt (wpAny_bind ?_))
  show wpAny _ A (do let _ ← comprehension (twoFor elt x₀ p₀ i₀ x₁ p₁ i₁ csc pos) csc (mkEnv sc L cs ex) _ (newList []) false (eval i₀ (mkEnv sc L cs ex)) (some (assign (.Name y py) (mkEnv sc L cs ex)))) _ _ s
  refine wpAny_bind (wpAny_mono (wpAny_comprehension_free (use := some (assign (.Name y py) (mkEnv sc L cs ex))) (Q := fun _ s' => Q .next s') rfl hs hclos hkind hnames
    (wpAny_mono h (fun xv s₁ h₁ => wpAny_mono h₁ (fun it s₂ h₂ => ?_) fun _ _ e => e) fun _ _ e => e)) (fun _ s' hq => wpAny_pure (wpAny_pure hq)) fun _ _ e => e)
  obtain ⟨hb, m, led, n, P, N, F, PP, X, hN, hn, hiter, helt, hQ⟩ := h₂
  refine outer_comp (RR := fun acc C => compPost (model prog w) A E (some (assign (.Name y py) (mkEnv sc L cs ex))) (fun _ s' => Q .next s') acc C) N F PP X hcell hkind hx0 hx1 hne hrel hN hn hfold hiter (fun _ _ _ _ _ _ _ _ _ _ X h => iterates_self X h) helt ?_
  intro D C o h' tk zss hn hl hF S
  obtain ⟨m', hn⟩ := hn
  show wpAny _ A (assign (.Name y py) (mkEnv sc L cs ex) (.ref D)) _ _ _
  have CL : C ≠ L := (S.off _ (.head _)).2
  refine wpAny_assign_Name (wpAny_storeName_local (env := mkEnv sc L cs ex) hy S.ns (fun h₂ hn₂ hs₂ => ?_) (by show (sc.kind == .class || (sc.kind == .module && L != mainGlobals)) = false; rw [hk]; rfl))
  have S₂ := S.setNs hn₂ hs₂
  exact ⟨m', hn.sameBut hs₂ CL, fun h₃ hs₃ => hQ D h₃ _ zss hl hF (S₂.dropBut hs₃)⟩

theorem add_lst {l b : Addr} {vs ws : List Value} {Q : Value → Shared → Prop} (hl : s.heap.IsList l vs.toArray) (hb : s.heap.IsList b ws.toArray)
    (h : ∀ h' D, Sub s.heap h' → s.heap.get? D = none → h'.PlainList D (vs ++ ws).toArray → Q (.ref D) { s with heap := h' }) (hsz : vs.length + ws.length ≤ sizeLine) :
    wpAny (model prog w) A (binaryOp .Add (.ref l) (.ref b)) Q E s := by
  obtain ⟨⟨cls, dd, data, sl⟩, ho, hc, n, hd⟩ := id hl
  obtain ⟨⟨cls2, dd2, data2, sl2⟩, ho2, hc2, n2, hd2⟩ := id hb
  simp only at hc hd hc2 hd2
  subst hc hd hc2 hd2
  have e : vs.toArray ++ ws.toArray = (vs ++ ws).toArray := by simp
  refine concat_meets ⟨_, ho, rfl⟩ ⟨_, ho2, rfl⟩ noFill_list_add seq_list_add PySem.F.slot_list_add PySem.F.entry_list_add (PySem.F.args_list_add_2 _ _) (list_addW l b vs.toArray ws.toArray n n2 dd dd2 sl sl2 (by simpa using hsz)) ⟨ho, ho2, ?_⟩
  rw [e]
  exact h _ _ ((Sub.refl _).push _) (new_none _ (Nat.le_refl _)) ⟨0, Heap.get?_push_size _ rfl⟩

/-- value[:k] -/
theorem sl_to {env : Env} {value e : Expr} {p pos : Pos} {Q : Value → Shared → Prop}
    (h : wpAny (model prog w) A (eval value env) (fun o s₁ => wpAny (model prog w) A (eval e env) (fun vu s₃ => ∃ l vs, ∃ (k : Nat), ∃ t, o = .ref l ∧ vu = .int k t ∧ s₃.heap.IsList l (List.toArray vs) ∧ k ≤ vs.length ∧ vs.length ≤ sizeLine ∧
      (∀ h' D, Sub s₃.heap h' → s₃.heap.get? D = none → h'.PlainList D (vs.take k).toArray → Q (.ref D) { s₃ with heap := h' })) E s₁) E s)
    (ht : ∀ o r, letTemporaryGo value o r = pure () := by intro _ _; rfl) :
    wpAny (model prog w) A (eval (.Subscript value (.Slice none (some e) none p) pos) env) Q E s := by
  refine wpAny_Subscript_list_slice (wpAny_mono h (fun o s₁ h₁ => ?_) fun _ _ x => x) ht
  rw [evalPart_none, evalPart_some]
  refine wpAny_pure (wpAny_mono h₁ (fun vu s₃ h₃ => ?_) fun _ _ x => x)
  obtain ⟨l, vs, k, t, rfl, rfl, hl, hk, hsz, hQ⟩ := h₃
  refine ⟨l, vs.toArray, none, some k, rfl, hl, by simpa using hsz, .none, .int _ _, ?_⟩
  have e2 : ((s₃.heap.push { cls := .type "slice", data := .fields #[.none, .int (k : Int) t, .none] })).objs.size = s₃.heap.objs.size + 1 := Heap.size_push ..
  refine hQ _ _ (((Sub.refl _).push _).push _) (new_none _ (Nat.le_succ _)) ⟨0, ?_⟩
  rw [slicePick_upto _ _ (by simpa using hk), ← e2]
  exact Heap.get?_push_size _ rfl
/-- value[k:] -/
theorem sl_from {env : Env} {value e : Expr} {p pos : Pos} {Q : Value → Shared → Prop}
    (h : wpAny (model prog w) A (eval value env) (fun o s₁ => wpAny (model prog w) A (eval e env) (fun vu s₃ => ∃ l vs, ∃ (k : Nat), ∃ t, o = .ref l ∧ vu = .int k t ∧ s₃.heap.IsList l (List.toArray vs) ∧ k ≤ vs.length ∧ vs.length ≤ sizeLine ∧
      (∀ h' D, Sub s₃.heap h' → s₃.heap.get? D = none → h'.PlainList D (vs.drop k).toArray → Q (.ref D) { s₃ with heap := h' })) E s₁) E s)
    (ht : ∀ o r, letTemporaryGo value o r = pure () := by intro _ _; rfl) :
    wpAny (model prog w) A (eval (.Subscript value (.Slice (some e) none none p) pos) env) Q E s := by
  refine wpAny_Subscript_list_slice (wpAny_mono h (fun o s₁ h₁ => ?_) fun _ _ x => x) ht
  rw [evalPart_some]
  refine wpAny_mono h₁ (fun vu s₃ h₃ => ?_) fun _ _ x => x
  rw [evalPart_none]
  refine wpAny_pure ?_
  obtain ⟨l, vs, k, t, rfl, rfl, hl, hk, hsz, hQ⟩ := h₃
  refine ⟨l, vs.toArray, some k, none, rfl, hl, by simpa using hsz, .int _ _, .none, ?_⟩
  have e2 : ((s₃.heap.push { cls := .type "slice", data := .fields #[.int (k : Int) t, .none, .none] })).objs.size = s₃.heap.objs.size + 1 := Heap.size_push ..
  refine hQ _ _ (((Sub.refl _).push _).push _) (new_none _ (Nat.le_succ _)) ⟨0, ?_⟩
  rw [slicePick_from _ _ (by simpa using hk), ← e2]
  exact Heap.get?_push_size _ rfl

variable {mg mb : Str → Option Value}

/-- order[:k] + [thing] + order[k:] -/
theorem orders_elt {csc' : Scope} {C c r : Addr} {ex : EX} {m₁ : Str → Option Value} {ws : List Value} {o : List Int} {k : Nat} {t t2 : Tok} {th : Int} {p1 p2 p3 p4 p5 p6 p7 p8 p9 p10 p11 p12 : Pos} {h : Heap} {tk : Nat}
    (hlo : csc'.names.lookup (Str.ofString "order") = some .local) (hlk : csc'.names.lookup (Str.ofString "k") = some .local) (hlt : csc'.names.lookup (Str.ofString "thing") = some .cell) (hk : csc'.kind = .function)
    (S : St g C m₁ [] h) (ho : m₁ "order" = some (.ref r)) (hkk : m₁ "k" = some (.int k t)) (hc : g.IsCell c (some (.int th t2))) (hr : g.IsList r ws.toArray) (hws : IntsAre ws o) (hkl : k ≤ o.length) (hol : o.length ≤ 100) :
    wpAny (model prog w) A (eval (.BinOp (.BinOp (.Subscript (.Name (Str.ofString "order") p1) (.Slice none (some (.Name (Str.ofString "k") p2)) none p3) p4) .Add (.List [.Name (Str.ofString "thing") p5] p6) p7) .Add
      (.Subscript (.Name (Str.ofString "order") p8) (.Slice (some (.Name (Str.ofString "k") p9)) none none p10) p11) p12) (mkEnv csc' C [(Str.ofString "thing", c)] ex))
      (Handed s h fun y os => ∃ D ws', y = .ref D ∧ os = [(D, .lst ws')] ∧ IntsAre ws' (o.take k ++ [th] ++ o.drop k)) F0 { s with heap := h, toks := tk } := by
  have hwl : ws.length = o.length := hws.length
  refine wpAny_BinOp ?_
  refine wpAny_BinOp ?_
  refine sl_to ?_
  refine nm_loc S hlo ho ?_ hk
  refine nm_loc S hlk hkk ?_ hk
  refine ⟨r, ws, k, t, rfl, rfl, hr.at fun o e => S.keep _ _ e, by omega, by rw [sizeLine_eq]; omega, fun h₁ D₁ k₁ n₁ P₁ => ?_⟩
  have S₁ := S.add (x := .lst (ws.take k)) k₁ n₁ P₁
  refine List_ ?_
  refine args_cons ?_
  refine nm_cel ((hc.keeps S.keep).keeps k₁) hlt rfl ?_ hk
  refine args_nil ?_
  refine new_list S₁ (fun h₂ D₂ S₂ k₂ n₂ => ?_) (by rw [sizeLine_eq]; exact Nat.le_of_ble_eq_true rfl)
  refine add_lst (S₂.at (x := .lst _) (.tail _ (.head _))).isList (S₂.at (x := .lst _) (.head _)).isList (fun h₃ D₃ k₃ n₃ P₃ => ?_) (by simp [sizeLine_eq, List.length_take]; omega)
  have S₃ := S₂.add (x := .lst (ws.take k ++ [Value.int th t2])) k₃ n₃ P₃
  refine sl_from ?_
  refine nm_loc S₃ hlo ho ?_ hk
  refine nm_loc S₃ hlk hkk ?_ hk
  refine ⟨r, ws, k, t, rfl, rfl, hr.at fun o e => S₃.keep _ _ e, by omega, by rw [sizeLine_eq]; omega, fun h₄ D₄ k₄ n₄ P₄ => ?_⟩
  have S₄ := S₃.add (x := .lst (ws.drop k)) k₄ n₄ P₄
  refine add_lst (S₄.at (x := .lst _) (.tail _ (.head _))).isList (S₄.at (x := .lst _) (.head _)).isList (fun h₅ D₅ k₅ n₅ P₅ => ?_) (by simp [sizeLine_eq, List.length_take]; omega)
  have kk : Sub h h₅ := (((k₁.trans k₂).trans k₃).trans k₄).trans k₅
  refine ⟨h₅, _, [(D₅, .lst (ws.take k ++ [Value.int th t2] ++ ws.drop k))], rfl, kk, ⟨D₅, _, rfl, rfl, ?_⟩, fun p hp => ?_, by simp⟩
  · exact (IntsAre.append (IntsAre.append (hws.take k) (.cons th t2 .nil)) (hws.drop k))
  · rw [List.mem_singleton.mp hp]
    exact ⟨none_of_new (((k₁.trans k₂).trans k₃).trans k₄) n₅, P₅⟩

set_option maxHeartbeats 1000000 in
theorem orders_body {c : Addr} {ex : EX} {m₀ : Str → Option Value} {Q : Flow → Shared → Prop} (hA : AOk A 0) (G : Gl w mg mb g) (S : St g L m₀ [(c, .cel none)] s.heap)
    (h : ∀ h' tk l vs m' rest, St g L m' ((l, .lst vs) :: rest) h' → RowsIn rest vs (ordersTo 4) → Q (.ret (.ref l)) { s with heap := h', toks := tk }) :
    wpAny (model prog w) A (execs (fnBody 14) (mkEnv (fnScope 14) L [(Str.ofString "thing", c)] ex)) Q E s := by
  rw [fnBody_eq]
  refine wpAny_execs_cons ?_
  refine as_loc ?_
  refine List_ ?_
  refine args_cons ?_
  refine List_ ?_
  refine args_nil ?_
  refine new_list S (fun h₁ l₁ S₁ _ _ => ?_) (by rw [sizeLine_eq]; exact Nat.zero_le _)
  refine args_nil ?_
  refine new_list S₁ (fun h₂ l₂ S₂ _ _ => ?_) (by rw [sizeLine_eq]; exact Nat.le_of_ble_eq_true rfl)
  refine st_loc S₂ rfl fun h₃ S₃ => ?_
  refine wpAny_execs_cons ?_
  refine for_walk ?_
  refine Call_ ?_
  refine nm_b G S₃ bRange rfl ?_
  refine PyProof.Rows.callWith_type1 ?_
  refine args_cons ?_
  refine wpAny_Constant_int ?_
  refine args_nil ?_
  refine call_range_1 ?_
  refine iter_range hA.handled (S₃.push _) (IsRange.new ..) (by decide) (by decide) (by decide) (by decide) fun it h₅ _ X => ?_
  refine loop_walk (fun i m led => ∃ lo vs cv rest, led.Perm ((c, MO.cel cv) :: (lo, .lst vs) :: rest) ∧ RowsIn rest vs (ordersTo i) ∧ m "orders" = some (.ref lo)) X
    ⟨l₂, [.ref l₁], none, [(l₁, .lst [])], ?_, ⟨rfl, ?_⟩, rfl⟩ ?_ ?_
  · exact (List.perm_middle (l₁ := [(l₂, MO.lst [.ref l₁]), (l₁, .lst [])]) (l₂ := []))
  · intro i v ns e1 e2
    cases i with
    | zero =>
      simp at e1
      have e3 : ns = [] := by simpa [ordersTo] using e2.symm
      exact ⟨l₁, [], e1.symm, .head _, e3 ▸ .nil⟩
    | succ i => simp at e1
  · rintro i v g₁ m₁ led₁ h tk hi ⟨tt, rfl⟩ sub ⟨lo, vs, cv, rest, hperm, hR, hmo⟩ S
    have S' := S.perm hperm.symm
    refine wpAny_assign_Name ?_
    refine st_cel 0 S' rfl rfl rfl fun h₆ S₆ => ?_
    have S₆' : St g₁ L m₁ ([(c, .cel (some (.int (0 + (i : Int)) tt)))] ++ ((lo, .lst vs) :: rest)) h₆ := S₆
    obtain ⟨g₂, sub₂, S₇, hall, _⟩ := S₆'.freeze
    have hlo : g₂.IsList lo vs.toArray := (hall (lo, .lst vs) (.head _) : (MO.lst vs).At g₂ lo).isList
    have G₂ : Gl w mg mb g₂ := G.sub (sub.trans sub₂)
    refine wpAny_execs_cons ?_
    refine comp2_asg (g := g₂) (cl := [(Str.ofString "thing", c)]) (csc' := rel _ (fnScope 14)) rfl rfl (by decide +kernel) rfl (by decide +kernel) rfl rfl (by decide +kernel) rfl rfl rfl (fun _ _ => rfl) (fun _ => rfl) ?_
    refine nm_loc S₇ rfl hmo ?_
    refine iter_list hA.handled S₇ hlo fun it₂ h₈ k₈ X₈ => ?_
    have hi4 : i < 4 := by simpa using hi
    have hlen : vs.length ≤ 24 := by rw [hR.1]; exact ordersTo_len i (by omega)
    have row : ∀ j v, j < vs.length → vs[j]? = some v → ∃ r ws, v = .ref r ∧ g₂.IsList r ws.toArray ∧ IntsAre ws ((ordersTo i).getD j []) ∧ ((ordersTo i).getD j []).length = i := by
      intro j v hj e
      have hj' : j < (ordersTo i).length := by rw [← hR.1]; exact hj
      have e2 : (ordersTo i)[j]? = some (ordersTo i)[j] := List.getElem?_eq_getElem hj'
      obtain ⟨r, ws, e3, e4, e5⟩ := hR.2 j v _ e e2
      have e6 : (ordersTo i).getD j [] = (ordersTo i)[j] := by rw [List.getD_eq_getElem?_getD, e2]; rfl
      rw [e6]
      exact ⟨r, ws, e3, (hall (r, .lst ws) (.tail _ e4) : (MO.lst ws).At g₂ r).isList, e5, ordersTo_short i _ (List.getElem_mem hj')⟩
    refine ⟨_, _, _, _, _, fun i' => ((ordersTo i).getD i' []).length + 1, fun i' j y os => ∃ D ws', y = .ref D ∧ os = [(D, .lst ws')] ∧ IntsAre ws' (((ordersTo i).getD i' []).take j ++ [(i : Int)] ++ ((ordersTo i).getD i' []).drop j),
      fun i' j u => ∃ tk, u = .int (0 + (j : Int)) tk, X₈, ?_, ?_, ?_, ?_, ?_⟩
    · intro i'
      show ((ordersTo i).getD i' []).length + 1 ≤ 100
      by_cases hj : i' < (ordersTo i).length
      · have e6 : (ordersTo i).getD i' [] = (ordersTo i)[i'] := by rw [List.getD_eq_getElem?_getD, List.getElem?_eq_getElem hj]; rfl
        rw [e6, ordersTo_short i _ (List.getElem_mem hj)]; omega
      · have e6 : (ordersTo i).getD i' [] = [] := by rw [List.getD_eq_getElem?_getD, List.getElem?_eq_none (by omega)]; rfl
        rw [e6]; exact Nat.le_of_ble_eq_true rfl
    · omega
    · intro i' v C g₃ m₃ led₃ h₉ tk₉ Q₁ hi' hv sub₃ hled S₉ hm₃ hQ₁
      obtain ⟨r, ws, rfl, hr, hws, hlen'⟩ := row i' v hi' hv
      refine Call_ ?_
      refine nm_b (G₂.sub sub₃) S₉ bRange rfl ?_
      refine PyProof.Rows.callWith_type1 ?_
      refine args_cons ?_
      refine wpAny_BinOp ?_
      refine Call_ ?_
      refine nm_b (G₂.sub sub₃) S₉ bLen rfl ?_
      refine PyProof.Rows.callWith_builtin1 ?_
      refine args_cons ?_
      refine nm_loc S₉ rfl hm₃ ?_
      refine args_nil ?_
      refine len_lst (((ordersTo i).getD i' []).length : Int) (hr.at fun o e => S₉.keep _ _ (sub₃ _ _ e)) (by rw [hws.length]) (by omega) ?_
      refine wpAny_Constant_int ?_
      refine add_int ?_
      refine args_nil ?_
      refine call_range_1 ?_
      refine hQ₁ _ _ _ ?_
      intro Q₂ hQ₂
      refine iter_rangeN (((ordersTo i).getD i' []).length + 1) (by omega) hA.handled (S₉.push _) (IsRange.new ..) (by decide) (by decide) (by omega) (by omega) fun it₃ h₁₀ _ X₁₀ => ?_
      exact hQ₂ _ _ _ _ X₁₀
    · intro i' j v u C g₃ m₃ h₉ tk₉ hi' hv hj hu sub₃ hled S₉ hm₃ hm₄
      obtain ⟨r, ws, rfl, hr, hws, hlen'⟩ := row i' v hi' hv
      obtain ⟨tu, rfl⟩ := hu
      have hj' : j < ((ordersTo i).getD i' []).length + 1 := hj
      have hcell : g₃.IsCell c (some (.int (0 + (i : Int)) tt)) := hled (c, .cel (some (.int (0 + (i : Int)) tt))) (.head _)
      have ej : (0 + (j : Int)) = ((j : Nat) : Int) := by omega
      rw [ej] at hm₄
      refine orders_elt (t2 := tt) ?_ ?_ ?_ ?_ ?_ hm₃ hm₄ ?_ (hr.at fun o e => sub₃ _ _ e) hws ?_ ?_
      · rfl
      · rfl
      · rfl
      · rfl
      · exact S₉
      · rw [Int.zero_add] at hcell; exact hcell
      · omega
      · omega
    · intro D h₉ tk₉ zss hz hF S₉
      refine wpAny_execs_nil ?_
      refine ⟨h₉, tk₉, _, _, rfl, S₉.base sub₂, D, zss.flatten.map (·.1), some (.int (0 + (i : Int)) tt), (zss.flatten.map (·.2)).flatten, ?_, ?_, rfl⟩
      · have := List.perm_middle (a := (c, MO.cel (some (.int (0 + (i : Int)) tt)))) (l₁ := (D, MO.lst (zss.flatten.map (·.1))) :: (zss.flatten.map (·.2)).flatten) (l₂ := [])
        rw [List.append_nil] at this
        exact this
      · refine rowsIn_flat _ _ zss (ordersTo i) (by rw [hz, hR.1]) fun i' zs o e1 e2 => ?_
        obtain ⟨hl, hFz⟩ := hF i' zs e1
        have e6 : (ordersTo i).getD i' [] = o := by rw [List.getD_eq_getElem?_getD, e2]; rfl
        have hl' : zs.length = ((ordersTo i).getD i' []).length + 1 := hl
        rw [e6] at hl'
        refine ⟨hl', fun j z ez => ?_⟩
        obtain ⟨D', ws', h1, h2, h3⟩ := hFz j z ez
        rw [e6] at h3
        refine ⟨D', ws', h1, ?_, h3⟩
        refine List.mem_flatten.mpr ⟨z.2, List.mem_map.mpr ⟨z, List.mem_flatten.mpr ⟨zs, List.mem_of_getElem? e1, List.mem_of_getElem? ez⟩, rfl⟩, ?_⟩
        rw [h2]; exact .head _
  · rintro m₁ led₁ h' tk ⟨lo, vs, cv, rest, hperm, hR, hmo⟩ S
    have S' := S.perm hperm.symm
    refine wpAny_execs_cons ?_
    refine wpAny_Return_some ?_
    refine nm_loc S' rfl hmo ?_
    exact h _ _ _ _ _ _ (S'.sublist (.cons _ (List.Sublist.refl _))) hR

/-- _law_orders() -/
theorem orders_call {f : Addr} {Q : Value → Shared → Prop} (hA : AOk A 1) (G : Gl w mg mb s.heap) (X : FnAt s.heap f 14 .none)
    (h : ∀ h' tk l vs rest, Sub s.heap h' → (∀ p ∈ (l, MO.lst vs) :: rest, s.heap.get? p.1 = none ∧ p.2.At h' p.1) → (((l, MO.lst vs) :: rest).map (·.1)).Nodup → RowsIn rest vs (ordersTo 4) → Q (.ref l) { s with heap := h', toks := tk }) :
    wpAny (model prog w) A (call (.ref f) []) Q E s := by
  refine enterC hA X G.nolimit (binds := []) (fun _ _ _ _ _ => rfl) (fun _ h => nomatch h) (fun L => [(Str.ofString "thing", L + 1)]) (fun _ => rfl) (fun _ => by simp) fun A' L ex h₁ tk hA' S => ?_
  refine orders_body hA' G S ?_
  intro h' tk l vs m' rest S' hR
  exact h _ _ _ _ rest S'.keep (fun p hp => ⟨(S'.off p hp).1, S'.ats p hp⟩) S'.nodup hR
end
end Mine
set_option maxRecDepth 100000
namespace Mine
open PySem PySem.Calls PyProof.Rows
set_option linter.unusedSimpArgs false
theorem qp1 : (fnParams 2).posonlyargs = [] := rfl
theorem qp2 : (fnParams 2).args.map (·.arg) = [Str.ofString "data"] := rfl
theorem qp3 : (fnParams 2).kwonlyargs.map (·.arg) = [Str.ofString "n", Str.ofString "method"] := rfl
theorem qp4 : (fnParams 2).vararg = none := rfl
theorem qp5 : (fnParams 2).kwarg = none := rfl
theorem qe1 : (Str.ofString "n" == Str.ofString "data") = false := by decide +kernel
theorem qe2 : (Str.ofString "method" == Str.ofString "data") = false := by decide +kernel
theorem qe3 : (Str.ofString "method" == Str.ofString "n") = false := by decide +kernel
theorem qe4 : (Str.ofString "n" == Str.ofString "method") = false := by decide +kernel
theorem qbind6 {s : Shared} {kd l : Addr} {doc pm cdv ct : Value} {an : Option Addr} {t tm : Tok} {mk : Str → Option Value} (hn : s.heap.Ns kd mk) (hm : mk "method" = some (.str "exclusive" tm)) :
    BindsTo s (fnD 2 .none (.ref kd) doc pm an cdv ct) ⟨[.ref l], [(Str.ofString "n", .int 6 t)]⟩ [(Str.ofString "data", .ref l), (Str.ofString "n", .int 6 t), (Str.ofString "method", .str "exclusive" tm)] := by
  intro M A E Q hq
  unfold bindArgs
  simp only [qp1, qp2, qp3, qp4, qp5, List.map_nil, List.nil_append, List.zip_cons_cons, List.zip_nil_right, List.forIn_cons, List.forIn_nil, List.contains_cons, qe1, qe2, qe3, qe4, beq_self_eq_true, Bool.or_true, Bool.true_or, Bool.false_or, if_true, List.lookup_cons, List.lookup_nil, Option.isSome_none, Bool.false_eq_true, if_false, pure_bind, bind_pure_comp, List.length_cons, List.length_nil, List.contains_nil, Bool.or_false,
    show seqItems? Value.none = pure none from rfl, Option.getD_none, List.drop_nil, List.cons_append, Option.isNone_some, Option.isNone_none, Nat.zero_add, Nat.sub_zero, List.take_succ_cons, List.take_zero, List.filter_cons, List.filter_nil, List.isEmpty_nil, Bool.not_true, List.drop_succ_cons, List.drop_zero, Nat.lt_irrefl, gt_iff_lt, decide_false, Bool.false_and, List.isEmpty_cons, Bool.not_false]
  refine wpAny_bind (wpAny_bind (wpAny_bind (wpAny_nsGet hn ?_)))
  rw [hm]
  refine wpAny_pure (wpAny_pure ?_)
  exact wpAny_pure hq
theorem qbind4 {s : Shared} {kd l : Addr} {doc pm cdv ct : Value} {an : Option Addr} {t tm : Tok} {mk : Str → Option Value} (hn : s.heap.Ns kd mk) (h4 : mk "n" = some (.int 4 t)) (hm : mk "method" = some (.str "exclusive" tm)) :
    BindsTo s (fnD 2 .none (.ref kd) doc pm an cdv ct) ⟨[.ref l], []⟩ [(Str.ofString "data", .ref l), (Str.ofString "n", .int 4 t), (Str.ofString "method", .str "exclusive" tm)] := by
  intro M A E Q hq
  unfold bindArgs
  simp only [qp1, qp2, qp3, qp4, qp5, List.map_nil, List.nil_append, List.zip_cons_cons, List.zip_nil_right, List.forIn_cons, List.forIn_nil, List.contains_cons, qe1, qe2, qe3, qe4, beq_self_eq_true, Bool.or_true, Bool.true_or, Bool.false_or, if_true, List.lookup_cons, List.lookup_nil, Option.isSome_none, Bool.false_eq_true, if_false, pure_bind, bind_pure_comp, List.length_cons, List.length_nil, List.contains_nil, Bool.or_false,
    show seqItems? Value.none = pure none from rfl, Option.getD_none, List.drop_nil, List.cons_append, Option.isNone_some, Option.isNone_none, Nat.zero_add, Nat.sub_zero, List.take_succ_cons, List.take_zero, List.filter_cons, List.filter_nil, List.isEmpty_nil, Bool.not_true, List.drop_succ_cons, List.drop_zero, Nat.lt_irrefl, gt_iff_lt, decide_false, Bool.false_and, List.isEmpty_cons, Bool.not_false]
  refine wpAny_bind (wpAny_bind (wpAny_bind (wpAny_nsGet hn ?_)))
  rw [h4]
  refine wpAny_pure ?_
  refine wpAny_bind (wpAny_bind (wpAny_nsGet hn ?_))
  rw [hm]
  refine wpAny_pure (wpAny_pure ?_)
  exact wpAny_pure hq
end Mine
set_option maxRecDepth 100000
namespace Mine
open PySem PySem.Float64

/-- the unit: one half, in the library's scale -/
@[irreducible] def HH : Nat := 2 ^ 1073
theorem HH_eq : HH = 2 ^ 1073 := by unfold HH; rfl
theorem HH_two : 2 * HH = 2 ^ 1074 := by rw [HH_eq, Nat.mul_comm, ← Nat.pow_succ]
theorem HH_pos : 0 < HH := by rw [HH_eq]; exact Nat.two_pow_pos _

/-- x is the finite double k/2 -/
def HV (x : UInt64) (k : Int) : Prop := ∃ a m e, decode x = .fin a m e ∧ val x = k * (HH : Int)

theorem V_half {K : Nat} (hK : K < 2 ^ 52) : ∃ t, V t = K * HH := by
  by_cases h0 : K = 0
  · exact ⟨0, by rw [h0, Nat.zero_mul]; exact V_zero⟩
  · have hb : K.log2 < 52 := (Nat.log2_lt h0).mpr hK
    have h1 : 2 ^ K.log2 ≤ K := Nat.log2_self_le h0
    have h2 : K < 2 ^ (K.log2 + 1) := Nat.lt_log2_self
    generalize K.log2 = b at *
    have e1 : (2 : Nat) ^ 52 = 2 ^ b * 2 ^ (52 - b) := by rw [← Nat.pow_add]; congr 1; omega
    have e2 : (2 : Nat) ^ 53 = 2 ^ (b + 1) * 2 ^ (52 - b) := by rw [← Nat.pow_add]; congr 1; omega
    refine ⟨(1021 + b) * 2 ^ 52 + K * 2 ^ (52 - b), ?_⟩
    rw [V_at (k := 1021 + b) (q := K * 2 ^ (52 - b)) (by rw [e2]; exact Nat.mul_le_mul_right _ (Nat.le_of_lt h2)) (.inl (by rw [e1]; exact Nat.mul_le_mul_right _ h1))]
    rw [Nat.mul_assoc, ← Nat.pow_add, HH_eq]
    congr 2; omega

theorem dist_zero {a b : Nat} (h : Float64.dist a b = 0) : a = b := by unfold Float64.dist at h; omega
theorem dist_self (a : Nat) : Float64.dist a a = 0 := by unfold Float64.dist; omega

theorem exact_of {r : UInt64} {neg : Bool} {W D K : Nat} (R : Right r neg W D) (hD : 0 < D) (hW : W = D * (K * HH)) (hK : K < 2 ^ 52) : ∃ m e, decode r = .fin neg m e ∧ val r = sgn neg (K * HH) := by
  obtain ⟨t, rfl, hle, hov, hr⟩ := R
  have hlt : t < infMag := by
    refine Nat.lt_of_le_of_ne hle fun e => ?_
    have h := hov.mp e
    rw [hW] at h
    have h2 : D * ((2 ^ 54 - 1) * 2 ^ 2045) ≤ D * (2 * (K * HH)) := by
      have : 2 * (D * (K * HH)) = D * (2 * (K * HH)) := by ac_rfl
      rw [← this]; exact h
    have h3 := Nat.le_of_mul_le_mul_left h2 hD
    have h4 : 2 * (K * HH) < 2 ^ 52 * (2 * HH) := by
      have : 2 * (K * HH) = K * (2 * HH) := by ac_rfl
      rw [this]
      exact Nat.mul_lt_mul_of_pos_right hK (Nat.mul_pos (by decide) HH_pos)
    rw [HH_two, ← Nat.pow_add] at h4
    have h5 : (2 : Nat) ^ (52 + 1074) ≤ (2 ^ 54 - 1) * 2 ^ 2045 := by
      have : (2 : Nat) ^ (52 + 1074) ≤ 2 ^ 2045 := Nat.pow_le_pow_right (by decide) (by decide)
      exact Nat.le_trans this (Nat.le_mul_of_pos_left _ (by decide))
    exact Nat.lt_irrefl _ (Nat.lt_of_lt_of_le h4 (Nat.le_trans h5 h3))
  obtain ⟨t', ht'⟩ := V_half hK
  have h := (hr hlt t').1
  rw [ht', ← hW, dist_self] at h
  have hV : D * V t = D * (K * HH) := by rw [← hW]; exact (dist_zero (Nat.le_zero.mp h)).symm
  have hV' := Nat.eq_of_mul_eq_mul_left hD hV
  obtain ⟨m, e, hd, hv⟩ := decode_pack neg hlt
  exact ⟨m, e, hd, by rw [val_pack neg hlt, hV']⟩

theorem sgn_abs (k : Int) : sgn (decide (k < 0)) k.natAbs = k := by
  unfold sgn
  by_cases h : k < 0
  · rw [if_pos (decide_eq_true h)]; omega
  · rw [if_neg (by simpa using h)]; omega

theorem HV_of {r : UInt64} {k : Int} {W D : Nat} (R : Right r (decide (k < 0)) W D) (hD : 0 < D) (hW : W = D * (k.natAbs * HH)) (hK : k.natAbs < 2 ^ 52) : HV r k := by
  obtain ⟨m, e, hd, hv⟩ := exact_of R hD hW hK
  refine ⟨_, m, e, hd, ?_⟩
  rw [hv, sgn_mul, sgn_abs]

theorem HV_zero (b : Bool) : HV (zero b) 0 := by
  have h : (0 : Nat) < infMag := by decide
  obtain ⟨m, e, hd, hv⟩ := decode_pack b h
  refine ⟨b, m, e, hd, ?_⟩
  have := val_pack b h
  unfold zero
  rw [this, V_zero, Int.zero_mul]
  cases b <;> rfl

theorem HV_add {x y : UInt64} {i j : Int} (hx : HV x i) (hy : HV y j) (hb : (i + j).natAbs < 2 ^ 52) : HV (add x y) (i + j) := by
  obtain ⟨a, m, e, dx, vx⟩ := hx
  obtain ⟨b, k, f, dy, vy⟩ := hy
  have h := add_right dx dy
  have hv : val x + val y = (i + j) * (HH : Int) := by rw [vx, vy, Int.add_mul]
  have hp : (0 : Int) < (HH : Int) := by have := HH_pos; omega
  by_cases h0 : i + j = 0
  · rw [h.1 (by rw [hv, h0, Int.zero_mul]), h0]; exact HV_zero _
  · have R := h.2 (by rw [hv]; exact fun q => by rcases Int.mul_eq_zero.mp q with q | q <;> omega)
    have hs : decide (val x + val y < 0) = decide (i + j < 0) := by
      rw [hv]
      by_cases hn : i + j < 0
      · rw [decide_eq_true hn, decide_eq_true (Int.mul_neg_of_neg_of_pos hn hp)]
      · rw [decide_eq_false hn, decide_eq_false (Int.not_lt.mpr (Int.mul_nonneg (by omega) (by omega)))]
    rw [hs] at R
    refine HV_of R (by decide) ?_ hb
    rw [hv, Int.natAbs_mul, Int.natAbs_natCast, Nat.one_mul]

theorem HV_neg {x : UInt64} {i : Int} (hx : HV x i) : HV (neg x) (-i) := by
  obtain ⟨a, m, e, dx, vx⟩ := hx
  exact ⟨_, m, e, neg_decode dx, by rw [neg_val dx, vx, Int.neg_mul]⟩
theorem HV_sub {x y : UInt64} {i j : Int} (hx : HV x i) (hy : HV y j) (hb : (i - j).natAbs < 2 ^ 52) : HV (sub x y) (i - j) := by
  have : i - j = i + -j := by omega
  unfold Float64.sub
  rw [this]
  exact HV_add hx (HV_neg hy) (by rw [← this]; exact hb)

theorem compare_mul {p q K : Int} (hK : 0 < K) : compare (p * K) (q * K) = compare p q := by
  rcases Int.lt_trichotomy p q with h | h | h
  · have h' : p * K < q * K := Int.mul_lt_mul_of_pos_right h hK
    simp only [compare, compareOfLessAndEq, if_pos h, if_pos h']
  · subst h; simp [compare, compareOfLessAndEq]
  · have h' : q * K < p * K := Int.mul_lt_mul_of_pos_right h hK
    have n1 : ¬ p < q := by omega
    have n2 : ¬ p = q := by omega
    have n3 : ¬ p * K < q * K := by omega
    have n4 : ¬ p * K = q * K := by omega
    simp only [compare, compareOfLessAndEq, if_neg n1, if_neg n2, if_neg n3, if_neg n4]

theorem HV_cmp {x y : UInt64} {i j : Int} (hx : HV x i) (hy : HV y j) : cmp x y = some (compare i j) := by
  obtain ⟨a, m, e, dx, vx⟩ := hx
  obtain ⟨b, k, f, dy, vy⟩ := hy
  rw [cmp_right dx dy, vx, vy, compare_mul (by have := HH_pos; omega)]
theorem HV_cmpInt {x : UInt64} {i n : Int} (hx : HV x i) : cmpInt x n = some (compare i (2 * n)) := by
  obtain ⟨a, m, e, dx, vx⟩ := hx
  have e2 : n * 2 ^ 1074 = (2 * n) * (HH : Int) := by
    have : ((2 ^ 1074 : Nat) : Int) = ((2 * HH : Nat) : Int) := by rw [HH_two]
    have h1 : (2 : Int) ^ 1074 = ((2 ^ 1074 : Nat) : Int) := by rw [Int.natCast_pow]; rfl
    rw [h1, this, Int.natCast_mul]
    show n * (2 * (HH : Int)) = _
    ac_rfl
  rw [cmpInt_right dx, vx, e2, compare_mul (by have := HH_pos; omega)]

/-- a quotient of ints that comes to k/2 -/
theorem HV_div {a k : Int} {N : Nat} (hN : 0 < N) (h : 2 * a = k * (N : Int)) (hb : k.natAbs < 2 ^ 52) : HV (ofFrac (decide (a < 0) != decide ((N : Int) < 0)) a.natAbs (N : Int).natAbs) k := by
  have hs : (decide (a < 0) != decide ((N : Int) < 0)) = decide (k < 0) := by
    rw [decide_eq_false (by omega : ¬ (N : Int) < 0), Bool.bne_false]
    by_cases hk : k < 0
    · have : k * (N : Int) < 0 := Int.mul_neg_of_neg_of_pos hk (by omega)
      rw [decide_eq_true hk, decide_eq_true (by omega)]
    · have : 0 ≤ k * (N : Int) := Int.mul_nonneg (by omega) (by omega)
      rw [decide_eq_false hk, decide_eq_false (by omega)]
  rw [hs, Int.natAbs_natCast]
  refine HV_of (W := k.natAbs * HH) (D := 1) (ofFrac_right hN ?_ (by decide)) (by decide) (by rw [Nat.one_mul]) hb
  have h2 : 2 * a.natAbs = k.natAbs * N := by
    have := congrArg Int.natAbs h
    rw [Int.natAbs_mul, Int.natAbs_mul, Int.natAbs_natCast] at this
    exact this
  rw [Nat.mul_one, ← HH_two]
  have : a.natAbs * (2 * HH) = (2 * a.natAbs) * HH := by ac_rfl
  rw [this, h2]; ac_rfl

theorem HV_int {n : Int} (hb : n.natAbs < 2 ^ 51) : HV (ofInt n) (2 * n) := by
  have hs : decide (n < 0) = decide (2 * n < 0) := by by_cases h : n < 0 <;> simp [h] <;> omega
  have R := ofInt_right n
  rw [hs] at R
  refine HV_of R (by decide) ?_ (by omega)
  rw [Nat.one_mul, ← HH_two, Int.natAbs_mul]
  show n.natAbs * (2 * HH) = 2 * n.natAbs * HH
  ac_rfl

theorem HV_inf {x : UInt64} {k : Int} (h : HV x k) : isInf x = false ∧ isNaN x = false ∧ isFinite x = true := by
  obtain ⟨a, m, e, dx, _⟩ := h
  unfold isInf isNaN isFinite
  rw [dx]; exact ⟨rfl, rfl, rfl⟩
theorem HV_isZero {x : UInt64} (h : HV x 0) : isZero x = true := by
  obtain ⟨a, m, e, dx, vx⟩ := h
  have : m = 0 := by
    have h1 := val_natAbs dx
    rw [vx, Int.zero_mul] at h1
    have h2 : m * 2 ^ (e + 1074).toNat = 0 := h1.symm
    rcases Nat.mul_eq_zero.mp h2 with h | h
    · exact h
    · exact absurd h (Nat.ne_of_gt (Nat.two_pow_pos _))
  subst this
  unfold isZero
  rw [dx]; rfl
theorem HV_inj {x : UInt64} {i j : Int} (h : HV x i) (h' : HV x j) : i = j := by
  obtain ⟨_, _, _, _, vx⟩ := h
  obtain ⟨_, _, _, _, vx'⟩ := h'
  rw [vx] at vx'
  exact Int.eq_of_mul_eq_mul_right (by have := HH_pos; omega) vx'

/-- twice a double -/
theorem HV_two {x : UInt64} {k : Int} (hx : HV x k) (hb : (2 * k).natAbs < 2 ^ 52) : HV (mul (ofInt 2) x) (2 * k) := by
  have h2 : HV (ofInt 2) (2 * 2) := HV_int (by decide)
  obtain ⟨a, m, e, dx, vx⟩ := h2
  obtain ⟨b, q, f, dy, vy⟩ := hx
  have R := mul_right dx dy
  have ha : a = false := by
    have := ofInt_right 2
    obtain ⟨t, ht, hle, hov, _⟩ := this
    have h1 := val_eq dx
    cases a with
    | false => rfl
    | true =>
      exfalso
      rw [vx] at h1
      unfold sgn at h1
      rw [if_pos rfl] at h1
      have := HH_pos
      have h3 : (0 : Int) ≤ ((m * 2 ^ (e + 1074).toNat : Nat) : Int) := Int.natCast_nonneg _
      have h4 : (0 : Int) < 2 * 2 * (HH : Int) := by omega
      omega
  obtain ⟨m', e', hd, hv⟩ := exact_of (K := (2 * k).natAbs) R (Nat.two_pow_pos _) (by
    rw [vx, vy, Int.natAbs_mul (2 * 2) (HH : Int), Int.natAbs_mul k (HH : Int), Int.natAbs_natCast, ← HH_two, Int.natAbs_mul 2 k]
    show 4 * HH * (k.natAbs * HH) = 2 * HH * (2 * k.natAbs * HH)
    have : 4 * HH * (k.natAbs * HH) = 4 * (HH * (k.natAbs * HH)) := by ac_rfl
    have h' : 2 * HH * (2 * k.natAbs * HH) = (2 * 2) * (HH * (k.natAbs * HH)) := by ac_rfl
    rw [this, h']) hb
  refine ⟨_, m', e', hd, ?_⟩
  rw [hv, sgn_mul]
  have hk : sgn (a != b) (2 * k).natAbs = 2 * k := by
    rw [ha]
    by_cases hz : k = 0
    · subst hz; cases b <;> rfl
    · have hb' : b = decide (k < 0) := by
        have h1 := val_eq dy
        rw [vy] at h1
        have hp := HH_pos
        have hn : (0 : Int) ≤ ((q * 2 ^ (f + 1074).toNat : Nat) : Int) := Int.natCast_nonneg _
        unfold sgn at h1
        by_cases hk : k < 0
        · have : k * (HH : Int) < 0 := Int.mul_neg_of_neg_of_pos hk (by omega)
          cases b with
          | true => rw [decide_eq_true hk]
          | false => rw [if_neg (by decide)] at h1; omega
        · have : 0 < k * (HH : Int) := Int.mul_pos (by omega) (by omega)
          cases b with
          | false => rw [decide_eq_false hk]
          | true => rw [if_pos rfl] at h1; omega
      subst hb'
      show sgn (false != decide (k < 0)) (2 * k).natAbs = 2 * k
      rw [Bool.false_bne]
      have : decide (k < 0) = decide (2 * k < 0) := by by_cases h : k < 0 <;> simp [h] <;> omega
      rw [this]; exact sgn_abs _
  rw [hk]

open PySem.Flt
/-- the sum of doubles, each a half of an int, comes out exactly -/
theorem HV_sumBits : ∀ (bs : List UInt64) (ks : List Int) (t c : UInt64) (T : Int), bs.length = ks.length → (∀ (i : Nat) b k, bs[i]? = some b → ks[i]? = some k → HV b k ∧ k.natAbs ≤ 1000000) → HV t T → HV c 0 →
    T.natAbs + ks.length * 1000000 < 2 ^ 50 → HV (sumBits bs t c) (T + ks.sum)
  | [], [], t, c, T, _, _, ht, hc, _ => by
    unfold sumBits PySem.W.Num.settled
    rw [HV_isZero hc]
    simpa using ht
  | x :: bs, k :: ks, t, c, T, hl, h, ht, hc, hB => by
    have hx := h 0 x k rfl rfl
    have hlen : (k :: ks).length = ks.length + 1 := rfl
    rw [hlen] at hB
    have h1 := hx.2
    have hs : HV (Float64.add t x) (T + k) := HV_add ht hx.1 (by omega)
    have hlost : HV (if (Float64.cmp (Float64.abs t) (Float64.abs x) == some .lt || Float64.isNaN t || Float64.isNaN x) = true then Float64.add (Float64.sub x (Float64.add t x)) t else Float64.add (Float64.sub t (Float64.add t x)) x) 0 := by
      split
      · have a1 : HV (Float64.sub x (Float64.add t x)) (k - (T + k)) := HV_sub hx.1 hs (by omega)
        have a2 := HV_add a1 ht (by omega)
        have e : k - (T + k) + T = 0 := by omega
        rw [e] at a2; exact a2
      · have a1 : HV (Float64.sub t (Float64.add t x)) (T - (T + k)) := HV_sub ht hs (by omega)
        have a2 := HV_add a1 hx.1 (by omega)
        have e : T - (T + k) + k = 0 := by omega
        rw [e] at a2; exact a2
    have hc' := HV_add hc hlost (by decide)
    have ih := HV_sumBits bs ks _ _ (T + k) (by simpa using hl) (fun i b k' e1 e2 => h (i + 1) b k' (by simpa using e1) (by simpa using e2)) hs hc' (by omega)
    show HV (sumBits bs _ _) _
    have e : T + (k :: ks).sum = T + k + ks.sum := by rw [List.sum_cons]; omega
    rw [e]; exact ih
  | [], _ :: _, _, _, _, hl, _, _, _, _ => by simp at hl
  | _ :: _, [], _, _, _, hl, _, _, _, _ => by simp at hl
theorem HV_sumOf {bs : List UInt64} {ks : List Int} (hl : bs.length = ks.length) (hne : bs.length ≠ 0) (hle : ks.length ≤ 1000) (h : ∀ (i : Nat) b k, bs[i]? = some b → ks[i]? = some k → HV b k ∧ k.natAbs ≤ 1000000) : HV (sumOf bs) ks.sum := by
  cases bs with
  | nil => exact absurd rfl hne
  | cons x bs =>
    cases ks with
    | nil => simp at hl
    | cons k ks =>
      have hx := h 0 x k rfl rfl
      have h1 := hx.2
      have h0 : HV (Float64.add (Float64.ofInt 0) x) (2 * 0 + k) := HV_add (HV_int (by decide)) hx.1 (by omega)
      have hlen : (k :: ks).length = ks.length + 1 := rfl
      have := HV_sumBits bs ks _ 0 _ (by simpa using hl) (fun i b k' e1 e2 => h (i + 1) b k' (by simpa using e1) (by simpa using e2)) h0 (HV_zero false) (by omega)
      have e : (k :: ks).sum = 2 * 0 + k + ks.sum := by rw [List.sum_cons]; omega
      rw [e]; exact this
end Mine
set_option maxRecDepth 100000
namespace Mine
open PySem PySem.Calls PyProof.Rows

theorem ite_no {c : Prop} [Decidable c] {a b : Prop} (h : ¬c) (hb : b) : if c then a else b := by rw [if_neg h]; exact hb
theorem ite_yes {c : Prop} [Decidable c] {a b : Prop} (h : c) (ha : a) : if c then a else b := by rw [if_pos h]; exact ha
theorem mulOk {a b : Int} (h : a.natAbs < 2 ^ 60) : IntMulOk a b := IntMulOk.of_left (intBits_le_64 (by omega) (by omega))
theorem mulOkR {a b : Int} (h : b.natAbs < 2 ^ 60) : IntMulOk a b := IntMulOk.of_right (intBits_le_64 (by omega) (by omega))

/-- floats, each the half of an int -/
def HVs (vs : List Value) (ks : List Int) : Prop := vs.length = ks.length ∧ ∀ (i : Nat) v k, vs[i]? = some v → ks[i]? = some k → ∃ x t, v = Value.float x t ∧ HV x k
theorem HVs.nil : HVs [] [] := ⟨rfl, fun i v k e => by simp at e⟩
theorem HVs.snoc {vs : List Value} {ks : List Int} (x : HVs vs ks) {b : UInt64} {t : Tok} {k : Int} (h : HV b k) : HVs (vs ++ [.float b t]) (ks ++ [k]) := by
  refine ⟨by simp [x.1], fun i v k' e1 e2 => ?_⟩
  by_cases hi : i < vs.length
  · rw [List.getElem?_append_left hi] at e1
    rw [List.getElem?_append_left (by rw [← x.1]; exact hi)] at e2
    exact x.2 i v k' e1 e2
  · rw [List.getElem?_append_right (by omega)] at e1
    rw [List.getElem?_append_right (by rw [← x.1]; omega), ← x.1] at e2
    cases hj : i - vs.length with
    | zero => rw [hj] at e1 e2; cases e1; cases e2; exact ⟨_, _, rfl, h⟩
    | succ j => rw [hj] at e1; simp at e1

/-- which place quantiles reads, 5 data points -/
def qJ (N i : Int) : Int := if (i * 6).fdiv N < 1 then 1 else if 5 - 1 < (i * 6).fdiv N then 5 - 1 else (i * 6).fdiv N
theorem qJ_lo (N i : Int) : 1 ≤ qJ N i := by unfold qJ; split <;> (try split) <;> omega
theorem qJ_hi (N i : Int) : qJ N i ≤ 4 := by unfold qJ; split <;> (try split) <;> omega
def qN (ds : List Int) (N i : Int) : Int := ds.getD (qJ N i - 1).toNat 0 * (N - (i * 6 - qJ N i * N)) + ds.getD (qJ N i).toNat 0 * (i * 6 - qJ N i * N)

section
variable {prog : Program} {w : World} {A : Around} {E : Value → Shared → Prop} {s : Shared} {mg mb : Str → Option Value} {g : Heap} {L : Addr}

theorem sorted_lst {l : Addr} {vs : List Value} {ns : List Int} {Q : Value → Shared → Prop} (hl : s.heap.IsList l vs.toArray) (hI : IntsAre vs ns) (h64 : vs.length < 64)
    (h : ∀ h' D ws ns', Sub s.heap h' → s.heap.get? D = none → h'.PlainList D (List.toArray ws) → IntsAre ws ns' → ns'.Perm ns → ns'.Pairwise (· ≤ ·) → Q (.ref D) { s with heap := h' }) :
    wpAny (model prog w) A (call (.builtin "sorted") [.ref l]) Q E s := by
  refine sorted_ints hl hI h64 fun out ns' a1 a2 a3 => ?_
  obtain ⟨e, he⟩ := sortedAll_at s.heap vs out
  exact h _ _ out.toList ns' (fun b o hb => sortedAll_old hb) (new_none _ (Nat.le_succ _)) ⟨e, by simpa using he⟩ a1 a2 a3

theorem intAt {vs : List Value} {ns : List Int} (x : IntsAre vs ns) {j : Nat} (hj : j < ns.length) : ∃ t, vs[j]? = some (.int (ns.getD j 0) t) := by
  induction x generalizing j with
  | nil => simp at hj
  | cons n t _ ih =>
    cases j with
    | zero => exact ⟨t, rfl⟩
    | succ j => exact ih (by simpa using hj)

theorem div_half {a k : Int} {N : Nat} {t u : Tok} {Q : Value → Shared → Prop} (hN : 0 < N) (hk : 2 * a = k * (N : Int)) (hb : k.natAbs < 2 ^ 52) (h : ∀ x t, HV x k → Q (.float x t) { s with toks := s.toks + 1 }) :
    wpAny (model prog w) A (binaryOp .Div (.int a t) (.int N u)) Q E s := by
  have hv := HV_div hN hk hb
  refine AutoIntOps.truediv_2 ?_ ?_ ?_
  · simp; omega
  · rw [(HV_inf hv).1]; decide
  · exact h _ _ hv
end
end Mine
set_option maxRecDepth 100000
namespace Mine
open PySem PySem.Calls PyProof.Rows
def forBody (s : Stmt) : List Stmt := match s with | .For _ _ b _ _ => b | _ => []
def ifBody (s : Stmt) : List Stmt := match s with | .If _ b _ _ => b | _ => []
def qTurn : List Stmt := forBody ((ifBody ((fnBodyU 2).getD 5 (.Pass default))).getD 2 (.Pass default))
section
variable {prog : Program} {w : World} {A : Around} {E : Value → Shared → Prop} {s : Shared} {mg mb : Str → Option Value} {g : Heap} {L : Addr}

theorem q_jay {ex : EX} {m : Str → Option Value} {led : Led} {sc : Scope} {N i : Int} {tl : Tok} {Q : Value → Shared → Prop} {p1 p2 p3 p4 p5 p6 p7 p8 p9 p10 p11 p12 p13 p14 : Pos} {k1 k2 k3 k4 : Nat}
    (S : St g L m led s.heap) (hj : ∃ tj, m "j" = some (.int ((i * 6).fdiv N) tj)) (hl : m "ld" = some (.int 5 tl)) (sj : sc.names.lookup (Str.ofString "j") = some .local) (sl : sc.names.lookup (Str.ofString "ld") = some .local) (hk : sc.kind = .function)
    (h : ∀ tk t, Q (.int (qJ N i) t) { s with toks := tk }) :
    wpAny (model prog w) A (eval (.IfExp (.Compare (.Name (Str.ofString "j") p1) [.Lt] [.Constant (.int 1) k1 p2] p3) (.Constant (.int 1) k2 p4)
      (.IfExp (.Compare (.Name (Str.ofString "j") p5) [.Gt] [.BinOp (.Name (Str.ofString "ld") p6) .Sub (.Constant (.int 1) k3 p7) p8] p9) (.BinOp (.Name (Str.ofString "ld") p10) .Sub (.Constant (.int 1) k4 p11) p12) (.Name (Str.ofString "j") p13) p14) p14) (mkEnv sc L [] ex)) Q E s := by
  obtain ⟨tj, hj⟩ := hj
  refine wpAny_IfExp ?_
  refine wpAny_isTrue_Compare1 ?_
  refine nm_loc S sj hj ?_ hk
  refine wpAny_Constant_int ?_
  refine lt_int ?_
  refine wpAny_truthy_bool ?_
  by_cases h1 : (i * 6).fdiv N < 1
  · refine ite_yes (decide_eq_true h1) ?_
    refine wpAny_Constant_int ?_
    have e : qJ N i = 1 := by unfold qJ; rw [if_pos h1]
    have := h
    rw [e] at this
    exact this _ _
  · refine ite_no (by simpa using h1) ?_
    refine wpAny_IfExp ?_
    refine wpAny_isTrue_Compare1 ?_
    refine nm_loc S sj hj ?_ hk
    refine wpAny_BinOp ?_
    refine nm_loc S sl hl ?_ hk
    refine wpAny_Constant_int ?_
    refine sub_int ?_
    refine gt_int ?_
    refine wpAny_truthy_bool ?_
    by_cases h2 : 5 - 1 < (i * 6).fdiv N
    · refine ite_yes (decide_eq_true h2) ?_
      refine wpAny_BinOp ?_
      refine nm_loc S sl hl ?_ hk
      refine wpAny_Constant_int ?_
      refine sub_int ?_
      have e : qJ N i = 5 - 1 := by unfold qJ; rw [if_neg h1, if_pos h2]
      have := h
      rw [e] at this
      exact this _ _
    · refine ite_no (by simpa using h2) ?_
      refine nm_loc S sj hj ?_ hk
      have e : qJ N i = (i * 6).fdiv N := by unfold qJ; rw [if_neg h1, if_neg h2]
      have := h
      rw [e] at this
      exact this _ _

def qRest : List Stmt := qTurn.drop 3
set_option maxHeartbeats 1000000 in
theorem q_turn2 {ex : EX} {m : Str → Option Value} {res dl : Addr} {vs ws : List Value} {ds : List Int} {N : Nat} {i k : Int} {tn tl tm : Tok} {Q : Flow → Shared → Prop}
    (hN : 0 < N) (hN9 : N < 10) (hi : 0 ≤ i) (hi9 : i < 10) (hd : ds.length = 5) (hI : IntsAre ws ds) (hk : 2 * qN ds N i = k * (N : Int)) (hb : k.natAbs < 2 ^ 52) (hvs : vs.length ≤ 100)
    (S : St g L m [(res, .lst vs), (dl, .lst ws)] s.heap) (hmj : ∃ tj, m "j" = some (.int (qJ N i) tj)) (hmde : ∃ td, m "delta" = some (.int (i * 6 - qJ N i * N) td)) (hmn : m "n" = some (.int N tn)) (hml : m "ld" = some (.int 5 tl)) (hmm : m "m" = some (.int 6 tm)) (hmd : m "data" = some (.ref dl)) (hmr : m "result" = some (.ref res))
    (h : ∀ h' tk m' b t, St g L m' [(res, .lst (vs ++ [.float b t])), (dl, .lst ws)] h' → HV b k → m' "n" = some (.int N tn) → m' "ld" = some (.int 5 tl) → m' "m" = some (.int 6 tm) → m' "data" = some (.ref dl) → m' "result" = some (.ref res) →
      Q .next { s with heap := h', toks := tk }) : wpAny (model prog w) A (execs qRest (mkEnv (fnScope 2) L [] ex)) Q E s := by
  obtain ⟨tj, hmj⟩ := hmj
  obtain ⟨td, hmde⟩ := hmde
  have j1 := qJ_lo N i
  have j4 := qJ_hi N i
  have jn0 : 0 ≤ qJ N i * (N : Int) := Int.mul_nonneg (by omega) (by omega)
  have jn1 : qJ N i * (N : Int) ≤ 4 * 9 := Int.mul_le_mul j4 (by omega) (by omega) (by omega)
  have hws : s.heap.IsList dl ws.toArray := (S.at (x := .lst ws) (.tail _ (.head _))).isList
  have i1 := intAt hI (j := (qJ N i - 1).toNat) (by omega)
  have i2 := intAt hI (j := (qJ N i).toNat) (by omega)
  obtain ⟨t1, i1⟩ := i1
  obtain ⟨t2, i2⟩ := i2
  show wpAny (model prog w) A (execs (_ :: _) _) Q E s
  refine wpAny_execs_cons ?_
  refine as_loc ?_
  refine wpAny_BinOp ?_
  refine wpAny_BinOp ?_
  refine wpAny_BinOp ?_
  refine Subscript_ ?_
  refine nm_loc S rfl hmd ?_
  refine wpAny_BinOp ?_
  refine nm_loc S rfl hmj ?_
  refine wpAny_Constant_int ?_
  refine sub_int ?_
  refine tail_item hws ?_ ?_ i1 ?_
  · omega
  · omega
  refine wpAny_BinOp ?_
  refine nm_loc S rfl hmn ?_
  refine nm_loc S rfl hmde ?_
  refine sub_int ?_
  refine mul_int ?_ ?_
  rotate_left
  · exact mulOkR (by omega)
  refine wpAny_BinOp ?_
  refine Subscript_ ?_
  refine nm_loc S rfl hmd ?_
  refine nm_loc S rfl hmj ?_
  refine tail_item hws ?_ ?_ i2 ?_
  · omega
  · omega
  refine nm_loc S rfl hmde ?_
  refine mul_int ?_ ?_
  rotate_left
  · exact mulOkR (by omega)
  refine add_int ?_
  refine nm_loc S rfl hmn ?_
  refine div_half hN hk hb fun x t hv => ?_
  refine st_loc S rfl fun h₄ S₄ => ?_
  refine wpAny_execs_cons ?_
  refine wpAny_Expr ?_
  refine MethodCall_ ?_
  refine nm_loc S₄ rfl hmr ?_
  refine meth_app (S₄.at (.head _)) ?_
  refine callWith_method1 ?_
  refine args_cons ?_
  refine nm_loc S₄ rfl rfl ?_
  refine args_nil ?_
  refine app_list 0 S₄ rfl (fun h₅ S₅ => ?_) (by rw [sizeLine_eq]; omega)
  refine wpAny_execs_nil ?_
  exact h _ _ _ _ _ S₅ hv hmn hml hmm hmd hmr

set_option maxHeartbeats 1000000 in
/-- one turn of the loop in quantiles, behind the store of i -/
theorem q_turn {ex : EX} {m : Str → Option Value} {res dl : Addr} {vs ws : List Value} {ds : List Int} {N : Nat} {i k : Int} {ti tn tl tm : Tok} {Q : Flow → Shared → Prop}
    (hN : 0 < N) (hN9 : N < 10) (hi : 0 ≤ i) (hi9 : i < 10) (hd : ds.length = 5) (hI : IntsAre ws ds) (hk : 2 * qN ds N i = k * (N : Int)) (hb : k.natAbs < 2 ^ 52) (hvs : vs.length ≤ 100)
    (S : St g L m [(res, .lst vs), (dl, .lst ws)] s.heap) (hmi : m "i" = some (.int i ti)) (hmn : m "n" = some (.int N tn)) (hml : m "ld" = some (.int 5 tl)) (hmm : m "m" = some (.int 6 tm)) (hmd : m "data" = some (.ref dl)) (hmr : m "result" = some (.ref res))
    (h : ∀ h' tk m' b t, St g L m' [(res, .lst (vs ++ [.float b t])), (dl, .lst ws)] h' → HV b k → m' "n" = some (.int N tn) → m' "ld" = some (.int 5 tl) → m' "m" = some (.int 6 tm) → m' "data" = some (.ref dl) → m' "result" = some (.ref res) →
      Q .next { s with heap := h', toks := tk }) : wpAny (model prog w) A (execs qTurn (mkEnv (fnScope 2) L [] ex)) Q E s := by
  show wpAny (model prog w) A (execs (_ :: _) _) Q E s
  refine wpAny_execs_cons ?_
  refine as_loc ?_
  refine wpAny_BinOp ?_
  refine wpAny_BinOp ?_
  refine nm_loc S rfl hmi ?_
  refine nm_loc S rfl hmm ?_
  refine mul_int ?_ ?_
  rotate_left
  · exact mulOk (by omega)
  refine nm_loc S rfl hmn ?_
  refine floordiv_int ?_ ?_ ?_
  · omega
  rotate_left
  · exact .inl (PyProof.noPylong_small (by omega))
  refine st_loc S rfl fun h₁ S₁ => ?_
  refine wpAny_execs_cons ?_
  refine as_loc ?_
  refine q_jay (N := N) (i := i) (tl := tl) S₁ ?_ ?_ ?_ ?_ ?_ ?_
  · exact ⟨_, rfl⟩
  · exact hml
  · rfl
  · rfl
  · rfl
  intro tk₁ t₁
  refine st_loc S₁ rfl fun h₂ S₂ => ?_
  have j1 := qJ_lo N i
  have j4 := qJ_hi N i
  refine wpAny_execs_cons ?_
  refine as_loc ?_
  refine wpAny_BinOp ?_
  refine wpAny_BinOp ?_
  refine nm_loc S₂ rfl hmi ?_
  refine nm_loc S₂ rfl hmm ?_
  refine mul_int ?_ ?_
  rotate_left
  · exact mulOk (by omega)
  refine wpAny_BinOp ?_
  refine nm_loc S₂ rfl rfl ?_
  refine nm_loc S₂ rfl hmn ?_
  refine mul_int ?_ ?_
  rotate_left
  · exact mulOk (by omega)
  refine sub_int ?_
  refine st_loc S₂ rfl fun h₃ S₃ => ?_
  refine q_turn2 (i := i) (tn := tn) (tl := tl) (tm := tm) hN hN9 hi hi9 hd hI hk hb hvs S₃ ?_ ?_ ?_ ?_ ?_ ?_ ?_ ?_
  · exact ⟨_, rfl⟩
  · exact ⟨_, rfl⟩
  · exact hmn
  · exact hml
  · exact hmm
  · exact hmd
  · exact hmr
  · intro h' tk m' b t S' hv a1 a2 a3 a4 a5
    exact h h' tk m' b t S' hv a1 a2 a3 a4 a5

def qMain : List Stmt := ifBody ((fnBodyU 2).getD 5 (.Pass default))
set_option maxHeartbeats 1000000 in
theorem q_main {ex : EX} {m : Str → Option Value} {dl : Addr} {ws : List Value} {ds ks : List Int} {N : Nat} {tn : Tok} {Q : Flow → Shared → Prop} (hA : AOk A 0) (G : Gl w mg mb g)
    (hN : 1 < N) (hN9 : N < 10) (hd : ds.length = 5) (hI : IntsAre ws ds) (hkl : ks.length = N - 1) (hk : ∀ (i : Nat) k, ks[i]? = some k → 2 * qN ds N ((i : Int) + 1) = k * (N : Int) ∧ k.natAbs < 2 ^ 52)
    (S : St g L m [(dl, .lst ws)] s.heap) (hmn : m "n" = some (.int N tn)) (hml : ∃ tl, m "ld" = some (.int 5 tl)) (hmd : m "data" = some (.ref dl))
    (h : ∀ h' tk m' r rs, St g L m' [(r, .lst rs), (dl, .lst ws)] h' → HVs rs ks → Q (.ret (.ref r)) { s with heap := h', toks := tk }) :
    wpAny (model prog w) A (execs qMain (mkEnv (fnScope 2) L [] ex)) Q E s := by
  obtain ⟨tl, hml⟩ := hml
  show wpAny (model prog w) A (execs (_ :: _) _) Q E s
  refine wpAny_execs_cons ?_
  refine as_loc ?_
  refine wpAny_BinOp ?_
  refine nm_loc S rfl hml ?_
  refine wpAny_Constant_int ?_
  refine add_int ?_
  refine st_loc S rfl fun h₁ S₁ => ?_
  refine wpAny_execs_cons ?_
  refine as_loc ?_
  refine List_ ?_
  refine args_nil ?_
  refine new_list S₁ (fun h₂ r S₂ _ _ => ?_) (by rw [sizeLine_eq]; exact Nat.zero_le _)
  refine st_loc S₂ rfl fun h₃ S₃ => ?_
  refine wpAny_execs_cons ?_
  refine for_walk ?_
  refine Call_ ?_
  refine nm_b G S₃ bRange rfl ?_
  refine PyProof.Rows.callWith_type1 (hplain := plain1) ?_
  refine args_cons ?_
  refine wpAny_Constant_int ?_
  refine args_cons ?_
  refine nm_loc S₃ rfl hmn ?_
  refine args_nil ?_
  refine call_range_2 ?_
  refine iter_rangeN (N - 1) (by omega) hA.handled (S₃.push _) (IsRange.new ..) (by decide) (by decide) (by omega) (by omega) fun it h₄ _ X => ?_
  refine loop_walk (fun i m led => ∃ vs tm, led = [(r, .lst vs), (dl, .lst ws)] ∧ HVs vs (ks.take i) ∧ m "n" = some (.int N tn) ∧ m "ld" = some (.int 5 tl) ∧ m "m" = some (.int 6 tm) ∧ m "data" = some (.ref dl) ∧ m "result" = some (.ref r)) X
    ⟨[], _, rfl, HVs.nil, hmn, hml, rfl, hmd, rfl⟩ ?_ ?_
  · rintro i v g₁ m₁ led₁ h' tk hi ⟨tt, rfl⟩ sub ⟨vs, tm, rfl, hH, a1, a2, a3, a4, a5⟩ S
    refine wpAny_assign_Name ?_
    refine st_loc S rfl fun h₅ S₅ => ?_
    have hil : i < ks.length := by omega
    have ek : ks[i]? = some ks[i] := List.getElem?_eq_getElem hil
    have hki := hk i _ ek
    have e1 : (i : Int) + 1 = 1 + (i : Int) := by omega
    rw [e1] at hki
    have hvl : vs.length = i := by rw [hH.1, List.length_take]; omega
    refine q_turn (i := 1 + (i : Int)) (k := ks[i]) (ti := tt) (tn := tn) (tl := tl) (tm := tm) (by omega) hN9 (by omega) (by omega) hd hI hki.1 hki.2 (by omega) S₅ ?_ ?_ ?_ ?_ ?_ ?_ ?_
    · rfl
    · exact a1
    · exact a2
    · exact a3
    · exact a4
    · exact a5
    · intro h₆ tk₆ m₆ b t S₆ hv b1 b2 b3 b4 b5
      refine ⟨h₆, tk₆, _, _, rfl, S₆, _, tm, rfl, ?_, b1, b2, b3, b4, b5⟩
      rw [List.take_add_one, ek]
      exact hH.snoc hv
  · rintro m₁ led₁ h' tk ⟨vs, tm, rfl, hH, a1, a2, a3, a4, a5⟩ S
    refine wpAny_execs_cons ?_
    refine wpAny_Return_some ?_
    refine nm_loc S rfl a5 ?_
    rw [List.take_of_length_le (by omega)] at hH
    exact h _ _ _ _ _ S hH

set_option maxHeartbeats 1000000 in
theorem q_body {ex : EX} {l : Addr} {vs : List Value} {ns : List Int} {N : Nat} {tn tmt : Tok} {ksf : List Int → List Int} {Q : Flow → Shared → Prop} (hA : AOk A 0) (G : Gl w mg mb g)
    (S : St g L (fun y => List.lookup y ([(Str.ofString "data", Value.ref l), (Str.ofString "n", .int N tn), (Str.ofString "method", .str (Str.ofString "exclusive") tmt)] : List (Str × Value)).reverse) [] s.heap)
    (hl : g.IsList l vs.toArray) (hI : IntsAre vs ns) (hn5 : ns.length = 5) (hN : 1 < N) (hN9 : N < 10)
    (hks : ∀ ds, ds.Perm ns → ds.Pairwise (· ≤ ·) → (ksf ds).length = N - 1 ∧ ∀ (i : Nat) k, (ksf ds)[i]? = some k → 2 * qN ds N ((i : Int) + 1) = k * (N : Int) ∧ k.natAbs < 2 ^ 52)
    (h : ∀ h' tk r rs m' ds rest, St g L m' ((r, .lst rs) :: rest) h' → ds.Perm ns → ds.Pairwise (· ≤ ·) → HVs rs (ksf ds) → Q (.ret (.ref r)) { s with heap := h', toks := tk }) :
    wpAny (model prog w) A (execs (fnBody 2) (mkEnv (fnScope 2) L [] ex)) Q E s := by
  rw [fnBody_eq]
  have hvl : vs.length = 5 := by rw [hI.length]; exact hn5
  refine wpAny_execs_cons ?_
  refine wpAny_If ?_
  refine wpAny_isTrue_Compare1 ?_
  refine nm_loc S rfl rfl ?_
  refine wpAny_Constant_int ?_
  refine lt_int ?_
  refine wpAny_truthy_bool ?_
  refine ite_no ?_ ?_
  · simp; omega
  refine wpAny_execs_nil ?_
  refine wpAny_execs_cons ?_
  refine as_loc ?_
  refine Call_ ?_
  refine nm_b G S bSorted rfl ?_
  refine PyProof.Rows.callWith_builtin1 ?_
  refine args_cons ?_
  refine nm_loc S rfl rfl ?_
  refine args_nil ?_
  refine sorted_lst (hl.at fun o e => S.keep _ _ e) hI (by omega) fun h₁ D ws ds k₁ n₁ P₁ hI₁ hp hs => ?_
  have S₁ := S.add (x := .lst ws) k₁ n₁ P₁
  have hd5 : ds.length = 5 := by rw [hp.length_eq]; exact hn5
  refine st_loc S₁ rfl fun h₂ S₂ => ?_
  refine wpAny_execs_cons ?_
  refine as_loc ?_
  refine Call_ ?_
  refine nm_b G S₂ bLen rfl ?_
  refine PyProof.Rows.callWith_builtin1 ?_
  refine args_cons ?_
  refine nm_loc S₂ rfl rfl ?_
  refine args_nil ?_
  refine len_lst 5 (S₂.at (x := .lst ws) (.head _)).isList (by rw [hI₁.length, hd5]; rfl) (by decide) ?_
  refine st_loc S₂ rfl fun h₃ S₃ => ?_
  refine wpAny_execs_cons ?_
  refine wpAny_If ?_
  refine wpAny_isTrue_Compare1 ?_
  refine nm_loc S₃ rfl rfl ?_
  refine wpAny_Constant_int ?_
  refine lt_int ?_
  refine wpAny_truthy_bool ?_
  refine ite_no (by decide) ?_
  refine wpAny_execs_nil ?_
  refine wpAny_execs_cons ?_
  refine wpAny_If ?_
  refine wpAny_isTrue_Compare1 ?_
  refine nm_loc S₃ rfl rfl ?_
  refine wpAny_Constant_str ?_
  refine eq_str ?_
  refine wpAny_truthy_bool ?_
  refine ite_no (by decide +kernel) ?_
  refine wpAny_execs_nil ?_
  refine wpAny_execs_cons ?_
  refine wpAny_If ?_
  refine wpAny_isTrue_Compare1 ?_
  refine nm_loc S₃ rfl rfl ?_
  refine wpAny_Constant_str ?_
  refine eq_str ?_
  refine wpAny_truthy_bool ?_
  refine ite_yes (by decide +kernel) ?_
  have hk := hks ds hp hs
  refine q_main (ks := ksf ds) (tn := tn) hA G hN hN9 hd5 hI₁ hk.1 hk.2 S₃ ?_ ?_ ?_ ?_
  · rfl
  · exact ⟨_, rfl⟩
  · rfl
  · intro h' tk m' r rs S' hH
    exact h _ _ _ _ _ _ _ S' hp hs hH

/-- quantiles(leads, n=6) -/
theorem q6_call {f kd l : Addr} {vs : List Value} {ns : List Int} {t : Tok} {Q : Value → Shared → Prop} (hA : AOk A 1) (G : Gl w mg mb s.heap) (X : FnAt s.heap f 2 (.ref kd)) (K : KwAt s.heap kd)
    (hl : s.heap.IsList l vs.toArray) (hI : IntsAre vs ns) (hn5 : ns.length = 5) (hb : ∀ n ∈ ns, n.natAbs < 2 ^ 50)
    (h : ∀ h' tk r rs (ds : List Int), Sub s.heap h' → s.heap.get? r = none → h'.PlainList r (List.toArray rs) → ds.Perm ns → ds.Pairwise (· ≤ ·) → HVs rs (ds.map (2 * ·)) → Q (.ref r) { s with heap := h', toks := tk }) :
    wpAny (model prog w) A (call (.ref f) [.ref l] [(Str.ofString "n", .int 6 t)]) Q E s := by
  obtain ⟨mk, hmk, _, tm, hm⟩ := K
  refine enter hA X G.nolimit (fun _ _ _ _ _ => qbind6 hmk hm) (locs rfl) (by decide +kernel) fun A' L ex h₁ tk hA' S => ?_
  refine q_body (N := 6) (ksf := fun ds => ds.map (2 * ·)) hA' G S hl hI hn5 (by decide) (by decide) ?_ ?_
  · intro ds hp hs
    have hd5 : ds.length = 5 := by rw [hp.length_eq]; exact hn5
    refine ⟨by simp [hd5], fun i k e => ?_⟩
    rw [List.getElem?_map] at e
    cases ed : ds[i]? with
    | none => rw [ed] at e; cases e
    | some d =>
      rw [ed] at e; cases e
      have hdb := hb d (hp.subset (List.mem_of_getElem? ed))
      refine ⟨?_, by show (2 * d).natAbs < 2 ^ 52; omega⟩
      obtain ⟨a, b, c, d', e', rfl⟩ : ∃ a b c d e, ds = [a, b, c, d, e] := by
        match ds, hd5 with
        | [a, b, c, d, e], _ => exact ⟨a, b, c, d, e, rfl⟩
      have hi : i < 5 := by
        rcases Nat.lt_or_ge i 5 with h | h
        · exact h
        · rw [List.getElem?_eq_none (by simpa using h)] at ed; cases ed
      rcases (by omega : i = 0 ∨ i = 1 ∨ i = 2 ∨ i = 3 ∨ i = 4) with rfl | rfl | rfl | rfl | rfl <;>
        · simp at ed; subst ed
          simp [qN, show qJ 6 1 = 1 by decide, show qJ 6 2 = 2 by decide, show qJ 6 3 = 3 by decide, show qJ 6 4 = 4 by decide, show qJ 6 5 = 4 by decide]
          omega
  · intro h' tk r rs m' ds rest S' hp hs hH
    exact h _ _ _ _ _ S'.keep (S'.off _ (.head _)).1 (S'.at (.head _)) hp hs hH

def q4 : List Int → List Int
  | [a, b, c, d, e] => [a + b, 2 * c, d + e]
  | _ => []
/-- quantiles(leads) -/
theorem q4_call {f kd l : Addr} {vs : List Value} {ns : List Int} {Q : Value → Shared → Prop} (hA : AOk A 1) (G : Gl w mg mb s.heap) (X : FnAt s.heap f 2 (.ref kd)) (K : KwAt s.heap kd)
    (hl : s.heap.IsList l vs.toArray) (hI : IntsAre vs ns) (hn5 : ns.length = 5) (hb : ∀ n ∈ ns, n.natAbs < 2 ^ 50)
    (h : ∀ h' tk r rs (ds : List Int), Sub s.heap h' → s.heap.get? r = none → h'.PlainList r (List.toArray rs) → ds.Perm ns → ds.Pairwise (· ≤ ·) → HVs rs (q4 ds) → Q (.ref r) { s with heap := h', toks := tk }) :
    wpAny (model prog w) A (call (.ref f) [.ref l]) Q E s := by
  obtain ⟨mk, hmk, ⟨t4, h4⟩, tm, hm⟩ := K
  refine enter hA X G.nolimit (fun _ _ _ _ _ => qbind4 hmk h4 hm) (locs rfl) (by decide +kernel) fun A' L ex h₁ tk hA' S => ?_
  refine q_body (N := 4) (ksf := q4) hA' G S hl hI hn5 (by decide) (by decide) ?_ ?_
  · intro ds hp hs
    have hd5 : ds.length = 5 := by rw [hp.length_eq]; exact hn5
    have hB : ∀ d ∈ ds, d.natAbs < 2 ^ 50 := fun d hd => hb d (hp.subset hd)
    obtain ⟨a, b, c, d, e, rfl⟩ : ∃ a b c d e, ds = [a, b, c, d, e] := by
      match ds, hd5 with
      | [a, b, c, d, e], _ => exact ⟨a, b, c, d, e, rfl⟩
    have ba := hB a (by simp)
    have bb := hB b (by simp)
    have bc := hB c (by simp)
    have bd := hB d (by simp)
    have be := hB e (by simp)
    refine ⟨rfl, fun i k ek => ?_⟩
    have hi : i < 3 := by
      rcases Nat.lt_or_ge i 3 with h | h
      · exact h
      · rw [List.getElem?_eq_none (by simpa [q4] using h)] at ek; cases ek
    rcases (by omega : i = 0 ∨ i = 1 ∨ i = 2) with rfl | rfl | rfl <;>
      · simp [q4] at ek; subst ek
        simp [qN, show qJ 4 1 = 1 by decide, show qJ 4 2 = 3 by decide, show qJ 4 3 = 4 by decide]
        omega
  · intro h' tk r rs m' ds rest S' hp hs hH
    exact h _ _ _ _ _ S'.keep (S'.off _ (.head _)).1 (S'.at (.head _)) hp hs hH
end
end Mine
set_option maxRecDepth 100000
namespace Mine

/-! Wendel's rule for four steps: plain, no program in sight. -/
def cf (i m : Nat) : Int := if m.testBit i then 1 else 0
def SS (X : Nat → Int) (m : Nat) : Int := cf 0 m * X 0 + cf 1 m * X 1 + cf 2 m * X 2 + cf 3 m * X 3
def lin (d a b e : Nat) : Bool := decide (cf 0 d = cf 0 a + cf 0 b - cf 0 e) && decide (cf 1 d = cf 1 a + cf 1 b - cf 1 e) && decide (cf 2 d = cf 2 a + cf 2 b - cf 2 e) && decide (cf 3 d = cf 3 a + cf 3 b - cf 3 e)
theorem SS_lin {X : Nat → Int} {d a b e : Nat} (h : lin d a b e = true) : SS X d = SS X a + SS X b - SS X e := by
  unfold lin at h
  simp only [Bool.and_eq_true, decide_eq_true_eq] at h
  obtain ⟨⟨⟨h0, h1⟩, h2⟩, h3⟩ := h
  unfold SS
  rw [h0, h1, h2, h3]
  simp only [Int.sub_mul, Int.add_mul]
  omega

def ins {α : Type} (le : α → α → Bool) (a : α) : List α → List α
  | [] => [a]
  | b :: l => if le a b then a :: b :: l else b :: ins le a l
def isrt {α : Type} (le : α → α → Bool) : List α → List α
  | [] => []
  | a :: l => ins le a (isrt le l)
theorem ins_perm {α : Type} (le : α → α → Bool) (a : α) : ∀ l, (ins le a l).Perm (a :: l)
  | [] => .refl _
  | b :: l => by
    unfold ins
    split
    · exact .refl _
    · exact ((ins_perm le a l).cons b).trans (.swap a b l)
theorem isrt_perm {α : Type} (le : α → α → Bool) : ∀ l, (isrt le l).Perm l
  | [] => .refl _
  | a :: l => (ins_perm le a _).trans ((isrt_perm le l).cons a)
theorem ins_map {α β : Type} (f : α → β) {le : α → α → Bool} {le' : β → β → Bool} (a : α) : ∀ l, (∀ b ∈ l, le' (f a) (f b) = le a b) → (ins le a l).map f = ins le' (f a) (l.map f)
  | [], _ => rfl
  | b :: l, h => by
    show (if le a b then a :: b :: l else b :: ins le a l).map f = if le' (f a) (f b) then f a :: f b :: l.map f else f b :: ins le' (f a) (l.map f)
    rw [h b (.head _)]
    split
    · rfl
    · rw [List.map_cons, ins_map f a l fun b hb => h b (.tail _ hb)]
theorem isrt_map {α β : Type} (f : α → β) {le : α → α → Bool} {le' : β → β → Bool} : ∀ l : List α, l.Pairwise (fun a b => le' (f a) (f b) = le a b) → (isrt le l).map f = isrt le' (l.map f)
  | [], _ => rfl
  | a :: l, h => by
    obtain ⟨h1, h2⟩ := List.pairwise_cons.mp h
    show (ins le a (isrt le l)).map f = ins le' (f a) (isrt le' (l.map f))
    rw [ins_map f a _ fun b hb => h1 b ((isrt_perm le l).subset hb), isrt_map f l h2]
abbrev leI (a b : Int) : Bool := decide (a ≤ b)
theorem ins_sorted (a : Int) : ∀ l : List Int, l.Pairwise (· ≤ ·) → (ins leI a l).Pairwise (· ≤ ·)
  | [], _ => by simp [ins]
  | b :: l, h => by
    obtain ⟨h1, h2⟩ := List.pairwise_cons.mp h
    unfold ins
    split
    · rename_i hab
      have hab := of_decide_eq_true hab
      refine List.pairwise_cons.mpr ⟨fun c hc => ?_, h⟩
      rcases List.mem_cons.mp hc with rfl | hc
      · exact hab
      · exact Int.le_trans hab (h1 c hc)
    · rename_i hab
      have hab : ¬ a ≤ b := fun q => hab (decide_eq_true q)
      refine List.pairwise_cons.mpr ⟨fun c hc => ?_, ins_sorted a l h2⟩
      rcases List.mem_cons.mp ((ins_perm leI a l).subset hc) with rfl | hc
      · omega
      · exact h1 c hc
theorem isrt_sorted : ∀ l : List Int, (isrt leI l).Pairwise (· ≤ ·)
  | [] => .nil
  | a :: l => ins_sorted a _ (isrt_sorted l)

def sel {α : Type} (pick : α → α → α) : α → List α → α
  | a, [] => a
  | a, b :: l => sel pick (pick a b) l
theorem sel_map {α β : Type} (f : α → β) {pick : α → α → α} {pick' : β → β → β} (hp : ∀ a b, pick a b = a ∨ pick a b = b) : ∀ (l : List α) (a : α), (a :: l).Pairwise (fun a b => f (pick a b) = pick' (f a) (f b)) → f (sel pick a l) = sel pick' (f a) (l.map f)
  | [], _, _ => rfl
  | b :: l, a, h => by
    obtain ⟨h1, h2⟩ := List.pairwise_cons.mp h
    obtain ⟨h3, h4⟩ := List.pairwise_cons.mp h2
    show f (sel pick (pick a b) l) = sel pick' (pick' (f a) (f b)) (l.map f)
    rw [← h1 b (.head _)]
    refine sel_map f hp l _ (List.pairwise_cons.mpr ⟨fun c hc => ?_, h4⟩)
    rcases hp a b with e | e
    · rw [e]; exact h1 c (.tail _ hc)
    · rw [e]; exact h3 c hc
def hsel {α : Type} (d : α) (pick : α → α → α) : List α → α
  | [] => d
  | a :: l => sel pick a l

/-- the sums on the way -/
def runs : Int → List Int → List Int
  | a, [] => [a]
  | a, x :: l => a :: runs (a + x) l
def chain : Nat → List Int → List Nat
  | m, [] => [m]
  | m, i :: l => m :: chain (m + 2 ^ i.toNat) l
def chainOk : Nat → List Int → Bool
  | _, [] => true
  | m, i :: l => lin (m + 2 ^ i.toNat) m (2 ^ i.toNat) 0 && decide (i.toNat < 4) && chainOk (m + 2 ^ i.toNat) l
theorem SS_zero (X : Nat → Int) : SS X 0 = 0 := by simp [SS, cf]
theorem SS_one (X : Nat → Int) (i : Nat) (h : i < 4) : SS X (2 ^ i) = X i := by
  rcases (by omega : i = 0 ∨ i = 1 ∨ i = 2 ∨ i = 3) with rfl | rfl | rfl | rfl <;> simp [SS, show cf 0 1 = 1 by decide, show cf 0 2 = 0 by decide, show cf 0 4 = 0 by decide, show cf 0 8 = 0 by decide, show cf 1 1 = 0 by decide, show cf 1 2 = 1 by decide, show cf 1 4 = 0 by decide, show cf 1 8 = 0 by decide, show cf 2 1 = 0 by decide, show cf 2 2 = 0 by decide, show cf 2 4 = 1 by decide, show cf 2 8 = 0 by decide, show cf 3 1 = 0 by decide, show cf 3 2 = 0 by decide, show cf 3 4 = 0 by decide, show cf 3 8 = 1 by decide]
theorem runs_chain {X : Nat → Int} : ∀ (o : List Int) (m : Nat), chainOk m o = true → runs (SS X m) (o.map fun i => X i.toNat) = (chain m o).map (SS X)
  | [], _, _ => rfl
  | i :: o, m, h => by
    unfold chainOk at h
    simp only [Bool.and_eq_true, decide_eq_true_eq] at h
    obtain ⟨⟨h1, h2⟩, h3⟩ := h
    have ih := runs_chain (X := X) o _ h3
    have e := SS_lin (X := X) h1
    rw [SS_one X _ h2, SS_zero] at e
    show SS X m :: runs (SS X m + X i.toNat) (o.map fun i => X i.toNat) = SS X m :: (chain (m + 2 ^ i.toNat) o).map (SS X)
    rw [← ih, e]
    congr 2; omega

theorem hsel_mem {α : Type} (d : α) {pick : α → α → α} (hp : ∀ a b, pick a b = a ∨ pick a b = b) : ∀ l : List α, l ≠ [] → hsel d pick l ∈ l
  | [], h => absurd rfl h
  | a :: l, _ => by
    show sel pick a l ∈ a :: l
    have key : ∀ (l : List α) (a : α), sel pick a l ∈ a :: l := by
      intro l
      induction l with
      | nil => intro a; exact .head _
      | cons b l ih =>
        intro a
        rcases List.mem_cons.mp (ih (pick a b)) with e | e
        · show sel pick (pick a b) l ∈ _
          rw [e]
          rcases hp a b with e | e <;> rw [e] <;> simp
        · exact .tail _ (.tail _ e)
    exact key l a

/-- bit d of the signs -/
def sbit (sg d : Nat) : Bool := Nat.beq (Nat.land (Nat.shiftRight sg d) 1) 1
theorem sbit_eq (sg d : Nat) : sbit sg d = sg.testBit d := by
  unfold sbit Nat.testBit
  have e : (1 &&& sg >>> d) = Nat.land (Nat.shiftRight sg d) 1 := Nat.and_comm _ _
  rw [e]
  have h2 : Nat.land (Nat.shiftRight sg d) 1 = Nat.shiftRight sg d % 2 := Nat.and_one_is_mod _
  rw [h2]
  rcases Nat.mod_two_eq_zero_or_one (Nat.shiftRight sg d) with h | h <;> rw [h] <;> rfl
def leM (sg a b : Nat) : Bool := sbit sg (Nat.sub b a)
def mxM (sg a b : Nat) : Nat := bif sbit sg (Nat.sub b a) then b else a
def mnM (sg a b : Nat) : Nat := bif sbit sg (Nat.sub b a) then a else b
def wM (sg : Nat) (ch : List Nat) (k : Nat) : Nat := Nat.sub (Nat.add (hsel 0 (mxM sg) (ch.take (k + 1))) (hsel 0 (mnM sg) (ch.drop k))) (ch.getD k 0)
def chains : List (List Nat) := (ordersTo 4).map (chain 0)
def chainsL : List (List Nat) := [[0, 8, 12, 14, 15], [0, 4, 12, 14, 15], [0, 4, 6, 14, 15], [0, 4, 6, 7, 15], [0, 8, 10, 14, 15], [0, 2, 10, 14, 15], [0, 2, 6, 14, 15], [0, 2, 6, 7, 15], [0, 8, 10, 11, 15], [0, 2, 10, 11, 15], [0, 2, 3, 11, 15], [0, 2, 3, 7, 15], [0, 8, 12, 13, 15], [0, 4, 12, 13, 15], [0, 4, 5, 13, 15], [0, 4, 5, 7, 15], [0, 8, 9, 13, 15], [0, 1, 9, 13, 15], [0, 1, 5, 13, 15], [0, 1, 5, 7, 15], [0, 8, 9, 11, 15], [0, 1, 9, 11, 15], [0, 1, 3, 11, 15], [0, 1, 3, 7, 15]]
theorem chains_lit : chains = chainsL := by decide +kernel
def fp : List Nat → Nat
  | [] => 0
  | j :: l => Nat.add (Nat.pow 32 j) (fp l)
def okAll (sg : Nat) : Bool := (List.range 5).all fun k => Nat.beq (fp (chainsL.map fun ch => (isrt (leM sg) ch).getD k 0)) (fp (chainsL.map fun ch => wM sg ch k))
/-- n is a with one of its steps put one further -/
def up (a n : Nat) : Bool := (List.range 3).any fun i => Nat.beq n (Nat.add a (Nat.pow 2 i)) && (sbit a i && !sbit a (Nat.add i 1))
def can (n sg : Nat) (b : Bool) : Bool := ((List.range n).all fun a => Nat.beq a 0 || !(Nat.beq (Nat.land a n) a) || (sbit sg a != sbit sg (Nat.sub n a)) || (b == sbit sg a)) && (b || (List.range n).all fun a => !(up a n && sbit sg a))
def tree (leaf : Nat → Bool) : Nat → Nat → Nat → Bool
  | 0, _, sg => leaf sg
  | k + 1, n, sg => (!can n sg true || tree leaf k (n + 1) (2 ^ n + sg)) && (!can n sg false || tree leaf k (n + 1) sg)

theorem up_zero : ∀ n, up 0 n = false := by
  intro n
  have e : ∀ i, sbit 0 i = false := fun i => by rw [sbit_eq]; exact Nat.zero_testBit i
  unfold up
  rw [List.any_eq_false]
  intro i _
  rw [e i]; simp
theorem up_lin : ∀ n ∈ List.range 16, ∀ a ∈ List.range n, up a n = true → (List.range 3).any (fun i => lin n a (2 ^ (i + 1)) (2 ^ i)) = true := by decide +kernel
/-- neighbours changed -/
def tr (j i : Nat) : Nat := if i = j then j + 1 else if i = j + 1 then j else i
theorem tr_orders : ∀ j ∈ List.range 3, ((ordersTo 4).map fun o => o.map fun i => ((tr j i.toNat : Nat) : Int)).Perm (ordersTo 4) := by decide +kernel
theorem chains_ok : ∀ o ∈ ordersTo 4, chainOk 0 o = true := by decide +kernel
theorem chains_up : ∀ ch ∈ chains, ch.Pairwise fun a b => lin b a (b - a) 0 = true ∧ 0 < b - a ∧ b - a < 16 := by decide +kernel
theorem chains_lin : ∀ ch ∈ chains, ∀ k ∈ List.range 5, ∀ a ∈ ch.take (k + 1), ∀ b ∈ ch.drop k, lin (a + b - ch.getD k 0) a b (ch.getD k 0) = true := by decide +kernel
end Mine
set_option maxRecDepth 100000
namespace Mine
def pre : List Nat := [254, 252, 244, 212, 84, 240, 112, 80, 16, 0]
theorem pre_ok : tree (fun p => pre.contains p) 7 1 0 = true := by decide +kernel
theorem sub0 : tree okAll 8 8 254 = true := by decide +kernel
theorem sub1 : tree okAll 8 8 252 = true := by decide +kernel
theorem sub2 : tree okAll 8 8 244 = true := by decide +kernel
theorem sub3 : tree okAll 8 8 212 = true := by decide +kernel
theorem sub4 : tree okAll 8 8 84 = true := by decide +kernel
theorem sub5 : tree okAll 8 8 240 = true := by decide +kernel
theorem sub6 : tree okAll 8 8 112 = true := by decide +kernel
theorem sub7 : tree okAll 8 8 80 = true := by decide +kernel
theorem sub8 : tree okAll 8 8 16 = true := by decide +kernel
theorem sub9 : tree okAll 8 8 0 = true := by decide +kernel
end Mine
set_option maxRecDepth 100000
namespace Mine
theorem tree_sound {leaf : Nat → Bool} {F : Nat → Bool} (hF : ∀ n a, 0 < a → a < n → n < 16 → Nat.land a n = a → F a = F (n - a) → F n = F a)
    (hM : ∀ n a, a < n → n < 16 → up a n = true → F a = true → F n = true) :
    ∀ k n sg, 1 ≤ n → n + k ≤ 16 → sg < 2 ^ n → (∀ m, 1 ≤ m → m < n → sg.testBit m = F m) → tree leaf k n sg = true →
      ∃ sg', sg' < 2 ^ (n + k) ∧ (∀ m, 1 ≤ m → m < n + k → sg'.testBit m = F m) ∧ leaf sg' = true
  | 0, n, sg, _, _, hlt, hm, ht => ⟨sg, hlt, hm, ht⟩
  | k + 1, n, sg, h1, hk, hlt, hm, ht => by
    have hcan1 : ((List.range n).all fun a => Nat.beq a 0 || !(Nat.beq (Nat.land a n) a) || (sbit sg a != sbit sg (Nat.sub n a)) || (F n == sbit sg a)) = true := by
      rw [List.all_eq_true]
      intro a ha
      have han := List.mem_range.mp ha
      by_cases h0 : a = 0
      · subst h0; rfl
      · by_cases hl : Nat.land a n = a
        · have e1 : sbit sg a = F a := by rw [sbit_eq]; exact hm a (by omega) han
          have e2 : sbit sg (Nat.sub n a) = F (n - a) := by rw [sbit_eq]; exact hm (n - a) (by omega) (by omega)
          rw [e1, e2]
          by_cases he : F a = F (n - a)
          · rw [hF n a (by omega) han (by omega) hl he]; simp
          · have : (F a != F (n - a)) = true := by simpa using he
            rw [this]; simp
        · have : Nat.beq (Nat.land a n) a = false := by
            cases hb : Nat.beq (Nat.land a n) a with
            | false => rfl
            | true => exact absurd (Nat.eq_of_beq_eq_true hb) hl
          rw [this]; simp
    have hcan2 : (F n || (List.range n).all fun a => !(up a n && sbit sg a)) = true := by
      cases hFn : F n with
      | true => rfl
      | false =>
        rw [Bool.false_or, List.all_eq_true]
        intro a ha
        have han := List.mem_range.mp ha
        cases hu : up a n with
        | false => rfl
        | true =>
          have h0 : a ≠ 0 := fun q => by rw [q, up_zero] at hu; cases hu
          have e1 : sbit sg a = F a := by rw [sbit_eq]; exact hm a (by omega) han
          rw [e1]
          cases hFa : F a with
          | false => rfl
          | true => rw [hM n a han (by omega) hu hFa] at hFn; cases hFn
    have hcan : can n sg (F n) = true := by
      unfold can
      rw [hcan1, hcan2]; rfl
    unfold tree at ht
    rw [Bool.and_eq_true] at ht
    have hp : n + (k + 1) = n + 1 + k := by omega
    rw [hp]
    have h2 : (2 : Nat) ^ (n + 1) = 2 ^ n + 2 ^ n := by rw [Nat.pow_succ]; omega
    cases hFn : F n with
    | true =>
      rw [hFn] at hcan
      have ht1 := ht.1
      rw [hcan] at ht1
      refine tree_sound hF hM k (n + 1) (2 ^ n + sg) (by omega) (by omega) (by omega) ?_ (by simpa using ht1)
      intro m hm1 hm2
      by_cases e : m = n
      · subst e
        rw [Nat.testBit_two_pow_add_eq, Nat.testBit_lt_two_pow hlt, hFn]; rfl
      · rw [Nat.testBit_two_pow_add_gt (by omega)]
        exact hm m hm1 (by omega)
    | false =>
      rw [hFn] at hcan
      have ht1 := ht.2
      rw [hcan] at ht1
      refine tree_sound hF hM k (n + 1) sg (by omega) (by omega) (by omega) ?_ (by simpa using ht1)
      intro m hm1 hm2
      by_cases e : m = n
      · subst e
        rw [Nat.testBit_lt_two_pow hlt, hFn]
      · exact hm m hm1 (by omega)

def dn : List Nat → List Nat
  | [] => []
  | 0 :: l => dn l
  | (j + 1) :: l => j :: dn l
theorem fp_dn : ∀ l, fp l = l.count 0 + 32 * fp (dn l)
  | [] => rfl
  | 0 :: l => by
    have ih := fp_dn l
    show Nat.pow 32 0 + fp l = (0 :: l).count 0 + 32 * fp (dn l)
    rw [List.count_cons_self, ih]
    show 1 + _ = _
    omega
  | (j + 1) :: l => by
    have ih := fp_dn l
    show 32 ^ (j + 1) + fp l = ((j + 1) :: l).count 0 + 32 * (32 ^ j + fp (dn l))
    rw [List.count_cons_of_ne (by omega), ih, Nat.pow_succ]
    omega
theorem count_dn (j : Nat) : ∀ l : List Nat, l.count (j + 1) = (dn l).count j
  | [] => rfl
  | 0 :: l => by
    show (0 :: l).count (j + 1) = (dn l).count j
    rw [List.count_cons_of_ne (by omega)]; exact count_dn j l
  | (i + 1) :: l => by
    show ((i + 1) :: l).count (j + 1) = (i :: dn l).count j
    rw [List.count_cons, List.count_cons, count_dn j l]
    congr 1
    by_cases h : i = j
    · subst h; simp
    · simp [h]
theorem dn_lt {B : Nat} : ∀ {l : List Nat}, (∀ j ∈ l, j < B + 1) → ∀ j ∈ dn l, j < B
  | [], _, _, h => nomatch h
  | 0 :: l, h, j, hj => dn_lt (fun j hj => h j (.tail _ hj)) j hj
  | (i + 1) :: l, h, j, hj => by
    rcases List.mem_cons.mp (show j ∈ i :: dn l from hj) with rfl | hj
    · have := h (j + 1) (.head _); omega
    · exact dn_lt (fun j hj => h j (.tail _ hj)) j hj
theorem fp_inj : ∀ (B : Nat) (l r : List Nat), (∀ j ∈ l, j < B) → (∀ j ∈ r, j < B) → (∀ j, l.count j < 32) → (∀ j, r.count j < 32) → fp l = fp r → ∀ j, l.count j = r.count j
  | 0, l, r, hl, hr, _, _, _ => by
    have e1 : l = [] := List.eq_nil_iff_forall_not_mem.mpr fun j hj => absurd (hl j hj) (by omega)
    have e2 : r = [] := List.eq_nil_iff_forall_not_mem.mpr fun j hj => absurd (hr j hj) (by omega)
    intro j; rw [e1, e2]
  | B + 1, l, r, hl, hr, cl, cr, h => by
    rw [fp_dn l, fp_dn r] at h
    have c1 := cl 0
    have c2 := cr 0
    have ih := fp_inj B (dn l) (dn r) (dn_lt hl) (dn_lt hr) (fun j => by rw [← count_dn]; exact cl _) (fun j => by rw [← count_dn]; exact cr _) (by omega)
    intro j
    cases j with
    | zero => omega
    | succ j => rw [count_dn, count_dn]; exact ih j

theorem bound : ∀ l : List Nat, ∃ B, ∀ j ∈ l, j < B
  | [] => ⟨0, fun _ h => nomatch h⟩
  | a :: l => by
    obtain ⟨B, h⟩ := bound l
    refine ⟨B + a + 1, fun j hj => ?_⟩
    rcases List.mem_cons.mp hj with rfl | hj
    · omega
    · have := h j hj; omega
theorem fp_perm {l r : List Nat} (hl : l.length < 32) (hr : r.length < 32) (h : fp l = fp r) : l.Perm r := by
  obtain ⟨B, hB⟩ := bound l
  obtain ⟨C, hC⟩ := bound r
  exact List.perm_iff_count.mpr fun j => fp_inj (B + C) l r (fun j hj => Nat.lt_of_lt_of_le (hB j hj) (Nat.le_add_right _ _)) (fun j hj => Nat.lt_of_lt_of_le (hC j hj) (Nat.le_add_left _ _))
    (fun _ => Nat.lt_of_le_of_lt List.count_le_length hl) (fun _ => Nat.lt_of_le_of_lt List.count_le_length hr) h j

theorem subs_ok : ∀ p ∈ pre, tree okAll 8 8 p = true := by
  intro p hp
  simp only [pre, List.mem_cons, List.not_mem_nil, or_false] at hp
  rcases hp with rfl | rfl | rfl | rfl | rfl | rfl | rfl | rfl | rfl | rfl
  · exact sub0
  · exact sub1
  · exact sub2
  · exact sub3
  · exact sub4
  · exact sub5
  · exact sub6
  · exact sub7
  · exact sub8
  · exact sub9
def mxI (a b : Int) : Int := if a ≤ b then b else a
def mnI (a b : Int) : Int := if a ≤ b then a else b
/-- max(ls[:k+1]) + min(ls[k:]) - ls[k] -/
def wI (ls : List Int) (k : Nat) : Int := hsel 0 mxI (ls.take (k + 1)) + hsel 0 mnI (ls.drop k) - ls.getD k 0

theorem land_lin : ∀ n ∈ List.range 16, ∀ a ∈ List.range n, Nat.land a n = a → lin n a (n - a) 0 = true := by decide +kernel

theorem SS_up {X : Nat → Int} (s1 : X 0 ≤ X 1) (s2 : X 1 ≤ X 2) (s3 : X 2 ≤ X 3) {n a : Nat} (han : a < n) (hn : n < 16) (hu : up a n = true) : SS X a ≤ SS X n := by
  obtain ⟨i, hi, hl⟩ := List.any_eq_true.mp (up_lin n (List.mem_range.mpr hn) a (List.mem_range.mpr han) hu)
  have hi3 := List.mem_range.mp hi
  have e := SS_lin (X := X) hl
  rw [SS_one X (i + 1) (by omega), SS_one X i (by omega)] at e
  rcases (by omega : i = 0 ∨ i = 1 ∨ i = 2) with rfl | rfl | rfl
  · have e' : SS X n = SS X a + X 1 - X 0 := e
    omega
  · have e' : SS X n = SS X a + X 2 - X 1 := e
    omega
  · have e' : SS X n = SS X a + X 3 - X 2 := e
    omega
theorem signs_of (X : Nat → Int) (s1 : X 0 ≤ X 1) (s2 : X 1 ≤ X 2) (s3 : X 2 ≤ X 3) : ∃ sg, (∀ m, 1 ≤ m → m < 16 → sbit sg m = decide (0 ≤ SS X m)) ∧ okAll sg = true := by
  have hF : ∀ n a, 0 < a → a < n → n < 16 → Nat.land a n = a → decide (0 ≤ SS X a) = decide (0 ≤ SS X (n - a)) → decide (0 ≤ SS X n) = decide (0 ≤ SS X a) := by
    intro n a h0 hn h16 hl he
    have e := SS_lin (X := X) (land_lin n (List.mem_range.mpr h16) a (List.mem_range.mpr hn) hl)
    rw [SS_zero] at e
    have he' : 0 ≤ SS X a ↔ 0 ≤ SS X (n - a) := by simpa using he
    have : 0 ≤ SS X n ↔ 0 ≤ SS X a := by omega
    simpa using this
  have hM : ∀ n a, a < n → n < 16 → up a n = true → decide (0 ≤ SS X a) = true → decide (0 ≤ SS X n) = true := by
    intro n a han hn hu ha
    have h1 := SS_up s1 s2 s3 han hn hu
    have h2 : 0 ≤ SS X a := of_decide_eq_true ha
    exact decide_eq_true (by omega)
  obtain ⟨p, hp1, hp2, hp3⟩ := tree_sound hF hM 7 1 0 (by decide) (by decide) (by decide) (fun m a b => absurd a (by omega)) pre_ok
  have hp3' : p ∈ pre := by simpa using hp3
  obtain ⟨sg, _, h2, h3⟩ := tree_sound hF hM 8 8 p (by decide) (by decide) hp1 hp2 (subs_ok p hp3')
  exact ⟨sg, fun m a b => by rw [sbit_eq]; exact h2 m a b, h3⟩

theorem getD_map {f : Nat → Int} (h0 : f 0 = 0) (l : List Nat) (k : Nat) : (l.map f).getD k 0 = f (l.getD k 0) := by
  rw [List.getD_eq_getElem?_getD, List.getD_eq_getElem?_getD, List.getElem?_map]
  cases l[k]? with
  | none => exact h0.symm
  | some x => rfl
theorem hsel_map {f : Nat → Int} (h0 : f 0 = 0) {pick : Nat → Nat → Nat} {pick' : Int → Int → Int} (hp : ∀ a b, pick a b = a ∨ pick a b = b) : ∀ l : List Nat, l.Pairwise (fun a b => f (pick a b) = pick' (f a) (f b)) → hsel 0 pick' (l.map f) = f (hsel 0 pick l)
  | [], _ => h0.symm
  | a :: l, h => (sel_map f hp l a h).symm

theorem chain_len : ∀ ch ∈ chains, ch.length = 5 := by decide +kernel
theorem wendel_up (X : Nat → Int) (s1 : X 0 ≤ X 1) (s2 : X 1 ≤ X 2) (s3 : X 2 ≤ X 3) (k : Nat) (hk : k < 5) :
    ((ordersTo 4).map fun o => (isrt leI (runs 0 (o.map fun i => X i.toNat))).getD k 0).Perm ((ordersTo 4).map fun o => wI (runs 0 (o.map fun i => X i.toNat)) k) := by
  obtain ⟨sg, hsg, hok⟩ := signs_of X s1 s2 s3
  have hS0 := SS_zero X
  have hle : ∀ ch ∈ chains, ch.Pairwise fun a b => sbit sg (Nat.sub b a) = decide (SS X a ≤ SS X b) := fun ch hc => (chains_up ch hc).imp fun {a b} h => by
    have e := SS_lin (X := X) h.1
    rw [hS0] at e
    rw [hsg (Nat.sub b a) h.2.1 h.2.2]
    have : Nat.sub b a = b - a := rfl
    rw [this]
    have : 0 ≤ SS X (b - a) ↔ SS X a ≤ SS X b := by omega
    simpa using this
  have h1 : ∀ o ∈ ordersTo 4, (isrt leI (runs 0 (o.map fun i => X i.toNat))).getD k 0 = SS X ((isrt (leM sg) (chain 0 o)).getD k 0) := fun o ho => by
    have hr := runs_chain (X := X) o 0 (chains_ok o ho)
    rw [hS0] at hr
    have hc : chain 0 o ∈ chains := List.mem_map_of_mem ho
    rw [hr, ← isrt_map (SS X) (le := leM sg) (le' := leI) (chain 0 o) ((hle _ hc).imp fun h => h.symm), getD_map hS0]
  have h2 : ∀ o ∈ ordersTo 4, wI (runs 0 (o.map fun i => X i.toNat)) k = SS X (wM sg (chain 0 o) k) := fun o ho => by
    have hr := runs_chain (X := X) o 0 (chains_ok o ho)
    rw [hS0] at hr
    have hc : chain 0 o ∈ chains := List.mem_map_of_mem ho
    have pmx : ∀ a b, mxM sg a b = a ∨ mxM sg a b = b := fun a b => by unfold mxM; cases sbit sg (Nat.sub b a) <;> simp
    have pmn : ∀ a b, mnM sg a b = a ∨ mnM sg a b = b := fun a b => by unfold mnM; cases sbit sg (Nat.sub b a) <;> simp
    have qmx : (chain 0 o).Pairwise fun a b => SS X (mxM sg a b) = mxI (SS X a) (SS X b) := (hle _ hc).imp fun {a b} h => by
      unfold mxM mxI; rw [h]; by_cases q : SS X a ≤ SS X b <;> simp [q]
    have qmn : (chain 0 o).Pairwise fun a b => SS X (mnM sg a b) = mnI (SS X a) (SS X b) := (hle _ hc).imp fun {a b} h => by
      unfold mnM mnI; rw [h]; by_cases q : SS X a ≤ SS X b <;> simp [q]
    have hlen := chain_len _ hc
    have m1 := hsel_mem 0 pmx ((chain 0 o).take (k + 1)) (fun q => by have := congrArg List.length q; rw [List.length_take, hlen, List.length_nil] at this; omega)
    have m2 := hsel_mem 0 pmn ((chain 0 o).drop k) (fun q => by have := congrArg List.length q; rw [List.length_drop, hlen, List.length_nil] at this; omega)
    have hl := SS_lin (X := X) (chains_lin _ hc k (List.mem_range.mpr hk) _ m1 _ m2)
    unfold wI
    rw [hr, ← List.map_take, ← List.map_drop, hsel_map hS0 pmx _ (qmx.sublist (List.take_sublist _ _)), hsel_map hS0 pmn _ (qmn.sublist (List.drop_sublist _ _)), getD_map hS0]
    exact hl.symm
  rw [List.map_congr_left h1, List.map_congr_left h2]
  have e1 : ((ordersTo 4).map fun o => SS X ((isrt (leM sg) (chain 0 o)).getD k 0)) = (chains.map fun ch => (isrt (leM sg) ch).getD k 0).map (SS X) := by unfold chains; rw [List.map_map, List.map_map]; rfl
  have e2 : ((ordersTo 4).map fun o => SS X (wM sg (chain 0 o) k)) = (chains.map fun ch => wM sg ch k).map (SS X) := by unfold chains; rw [List.map_map, List.map_map]; rfl
  rw [e1, e2]
  refine List.Perm.map _ ?_
  rw [chains_lit]
  unfold okAll at hok
  have := List.all_eq_true.mp hok k (List.mem_range.mpr hk)
  exact fp_perm (by rw [List.length_map]; decide) (by rw [List.length_map]; decide) (Nat.eq_of_beq_eq_true this)
/-- the rule's word for one k -/
def WP (X : Nat → Int) (k : Nat) : Prop :=
  ((ordersTo 4).map fun o => (isrt leI (runs 0 (o.map fun i => X i.toNat))).getD k 0).Perm ((ordersTo 4).map fun o => wI (runs 0 (o.map fun i => X i.toNat)) k)
theorem swp_map (X : Nat → Int) {j : Nat} (hj : j < 3) (F : List Int → Int) : ((ordersTo 4).map fun o => F (o.map fun i => X (tr j i.toNat))).Perm ((ordersTo 4).map fun o => F (o.map fun i => X i.toNat)) := by
  have h := (tr_orders j (List.mem_range.mpr hj)).map fun o => F (o.map fun i => X i.toNat)
  rw [List.map_map] at h
  have e : (ordersTo 4).map ((fun o : List Int => F (o.map fun i => X i.toNat)) ∘ fun o => o.map fun i => ((tr j i.toNat : Nat) : Int)) = (ordersTo 4).map fun o => F (o.map fun i => X (tr j i.toNat)) := by
    refine List.map_congr_left fun o _ => ?_
    show F ((o.map fun i => ((tr j i.toNat : Nat) : Int)).map fun i => X i.toNat) = _
    rw [List.map_map]; rfl
  rw [e] at h
  exact h
theorem WP.swap {X : Nat → Int} {k : Nat} (j : Nat) (hj : j < 3) (h : WP (fun n => X (tr j n)) k) : WP X k :=
  ((swp_map X hj fun l => (isrt leI (runs 0 l)).getD k 0).symm.trans h).trans (swp_map X hj fun l => wI (runs 0 l) k)
theorem wendel (X : Nat → Int) (k : Nat) (hk : k < 5) :
    ((ordersTo 4).map fun o => (isrt leI (runs 0 (o.map fun i => X i.toNat))).getD k 0).Perm ((ordersTo 4).map fun o => wI (runs 0 (o.map fun i => X i.toNat)) k) := by
  have f2 : ∀ X : Nat → Int, X 0 ≤ X 1 → X 1 ≤ X 2 → X 1 ≤ X 3 → WP X k := fun X a b c => by
    by_cases q : X 2 ≤ X 3
    · exact wendel_up X a b q k hk
    · refine WP.swap 2 (by decide) (wendel_up (fun n => X (tr 2 n)) ?_ ?_ ?_ k hk)
      · exact a
      · exact c
      · show X 3 ≤ X 2; omega
  have f1 : ∀ X : Nat → Int, X 0 ≤ X 1 → X 0 ≤ X 2 → X 2 ≤ X 3 → WP X k := fun X a b c => by
    by_cases q : X 1 ≤ X 2
    · exact wendel_up X a q c k hk
    · refine WP.swap 1 (by decide) (f2 (fun n => X (tr 1 n)) ?_ ?_ ?_)
      · exact b
      · show X 2 ≤ X 1; omega
      · exact c
  have e1 : ∀ X : Nat → Int, X 1 ≤ X 2 → X 2 ≤ X 3 → WP X k := fun X a b => by
    by_cases q : X 0 ≤ X 1
    · exact wendel_up X q a b k hk
    · refine WP.swap 0 (by decide) (f1 (fun n => X (tr 0 n)) ?_ ?_ ?_)
      · show X 1 ≤ X 0; omega
      · exact a
      · exact b
  have g1 : ∀ X : Nat → Int, X 1 ≤ X 2 → X 1 ≤ X 3 → WP X k := fun X a b => by
    by_cases q : X 2 ≤ X 3
    · exact e1 X a q
    · refine WP.swap 2 (by decide) (e1 (fun n => X (tr 2 n)) ?_ ?_)
      · exact b
      · show X 3 ≤ X 2; omega
  have e2 : ∀ X : Nat → Int, X 2 ≤ X 3 → WP X k := fun X a => by
    by_cases q : X 1 ≤ X 2
    · exact e1 X q a
    · refine WP.swap 1 (by decide) (g1 (fun n => X (tr 1 n)) ?_ ?_)
      · show X 2 ≤ X 1; omega
      · exact a
  show WP X k
  by_cases q : X 2 ≤ X 3
  · exact e2 X q
  · refine WP.swap 2 (by decide) (e2 (fun n => X (tr 2 n)) ?_)
    show X 3 ≤ X 2; omega
end Mine
set_option maxRecDepth 100000
namespace Mine
open PySem PySem.Calls PyProof.Rows PySem.Float64 PySem.Flt

/-- finite floats by their worth -/
@[reducible] def fltKind : KeyKind where
  α := Int
  blt a b := decide (a < b)
  irrefl a := by simp
  trans a b c h1 h2 := by simp only [decide_eq_true_eq] at *; omega
  negTrans a b c h := by simp only [decide_eq_true_eq] at *; omega
  total a b h1 h2 := by simp only [decide_eq_false_iff_not] at *; omega
  keyOf v := match v with
    | .float x _ => if isFinite x = true then some (val x) else none
    | _ => none
  dflt := 0

section
variable {prog : Program} {w : World} {A : Around} {E : Value → Shared → Prop} {s : Shared}
theorem oneLt_flt {a b : UInt64} {t u : Tok} {Q : Bool → Shared → Prop} (h : Q (cmp a b == some Ordering.lt) s) : wpAny (model prog w) A (oneLt' true (.float a t) (.float b u)) Q E s := by
  rw [oneLt'_eq]
  simp only [if_true]
  refine wpAny_bind (wpAny_cRoomFor_byValue rfl ?_)
  refine wpAny_bind (wpAny_callSpecialIfBound?_slot (AutoFloatOps.typeIs_float s a t) F.slot_float_lt ?_)
  exact call_gives F.slot_float_lt (AutoFloatOps.typeIs_float s a t) F.entry_float_lt (F.args_float_lt_2 _ _) (AutoFloatG5.float___lt___float_float_0 a t b u) (wpAny_truthy_bool h)
end

theorem compare_lt_iff {a b : Int} : (compare a b == Ordering.lt) = decide (a < b) := by
  simp only [compare, compareOfLessAndEq]
  by_cases h : a < b
  · rw [if_pos h]; simp [h]
  · rw [if_neg h]
    by_cases h' : a = b
    · rw [if_pos h']; simp [h]
    · rw [if_neg h']; simp [h]
theorem compare_eq_iff' {a b : Int} : (compare a b == Ordering.eq) = decide (a = b) := by
  simp only [compare, compareOfLessAndEq]
  by_cases h : a < b
  · rw [if_pos h]
    have : ¬ a = b := by omega
    simp [this]
  · rw [if_neg h]
    by_cases h' : a = b
    · rw [if_pos h']; simp [h']
    · rw [if_neg h']; simp [h']
theorem fltKind_oneLt : fltKind.OneLt := by
  intro prog w A E s x y a b Q ha hb h
  cases x <;> simp only [fltKind, reduceCtorEq] at ha
  cases y <;> simp only [fltKind, reduceCtorEq] at hb
  rename_i x t y u
  by_cases hx : isFinite x = true
  · by_cases hy : isFinite y = true
    · rw [if_pos hx] at ha
      rw [if_pos hy] at hb
      cases ha; cases hb
      refine oneLt_flt ?_
      unfold isFinite at hx hy
      cases dx : decode x with
      | fin p m e =>
        cases dy : decode y with
        | fin q m' e' =>
          rw [cmp_right dx dy]
          have : (some (compare (val x) (val y)) == some Ordering.lt) = decide (val x < val y) := by
            rw [← compare_lt_iff]; rfl
          rw [this]; exact h
        | _ => rw [dy] at hy; cases hy
      | _ => rw [dx] at hx; cases hx
    · rw [if_neg hy] at hb; cases hb
  · rw [if_neg hx] at ha; cases ha

/-- twice the worth of a float that is the half of an int -/
def hNum (v : Value) : Int := match v with
  | .float x _ => val x / (HH : Int)
  | _ => 0
theorem hNum_eq {x : UInt64} {t : Tok} {k : Int} (h : HV x k) : hNum (.float x t) = k := by
  obtain ⟨_, _, _, _, vx⟩ := h
  show val x / (HH : Int) = k
  rw [vx, Int.mul_ediv_cancel _ (by have := HH_pos; omega)]
def AllH (vs : List Value) : Prop := ∀ v ∈ vs, ∃ x t, v = Value.float x t ∧ HV x (hNum v)
theorem HVs.all {vs : List Value} {ks : List Int} (h : HVs vs ks) : AllH vs := fun v hv => by
  obtain ⟨i, hi, rfl⟩ := List.getElem_of_mem hv
  obtain ⟨x, t, e, hx⟩ := h.2 i vs[i] (ks[i]'(by rw [← h.1]; exact hi)) (List.getElem?_eq_getElem hi) (List.getElem?_eq_getElem _)
  refine ⟨x, t, e, ?_⟩
  rw [e, hNum_eq hx]; exact hx
theorem HVs.nums {vs : List Value} {ks : List Int} (h : HVs vs ks) : vs.map hNum = ks := by
  refine List.ext_getElem (by rw [List.length_map]; exact h.1) fun i h1 h2 => ?_
  rw [List.length_map] at h1
  obtain ⟨x, t, e, hx⟩ := h.2 i vs[i] ks[i] (List.getElem?_eq_getElem h1) (List.getElem?_eq_getElem h2)
  rw [List.getElem_map, e, hNum_eq hx]
theorem AllH.hvs {vs : List Value} (h : AllH vs) : HVs vs (vs.map hNum) := by
  refine ⟨by rw [List.length_map], fun i v k e1 e2 => ?_⟩
  rw [List.getElem?_map, e1] at e2
  cases e2
  exact h v (List.mem_of_getElem? e1)
theorem AllH.keysOf {vs : List Value} (h : AllH vs) : KeysOf fltKind (pairsOf vs) := by
  intro p hp
  rw [pairsOf_toList] at hp
  obtain ⟨x, t, e, hx⟩ := h _ (mem_zip_self hp).2
  exact ⟨val x, by rw [e]; simp only [fltKind, (HV_inf hx).2.2, if_true]⟩
theorem KK_flt {xs : Array Keyed} {i : Nat} (hi : i < xs.size) {x : UInt64} {t : Tok} {q : Value} {k : Int} (hx : xs[i] = (.float x t, q)) (hk : HV x k) : KK fltKind xs i = k * (HH : Int) := by
  unfold KK
  rw [getElem?_pos xs i hi, hx]
  simp only [fltKind, (HV_inf hk).2.2, if_true, Option.getD_some]
  exact hk.choose_spec.choose_spec.choose_spec.2
theorem mapM_first_flts : ∀ {vs : List Value}, AllH vs → vs.mapM firstOfTuple' = pure (vs.map fun _ => none)
  | [], _ => by simp
  | v :: vs, h => by
    obtain ⟨x, t, e, _⟩ := h v (.head _)
    have e1 : firstOfTuple' v = pure none := by rw [e]; rfl
    rw [List.mapM_cons, e1, mapM_first_flts (fun v hv => h v (.tail _ hv))]; simp
theorem mapM_typeOf_flts : ∀ {vs : List Value}, AllH vs → vs.mapM typeOf = pure (vs.map fun _ => Value.type "float")
  | [], _ => by simp
  | v :: vs, h => by
    obtain ⟨x, t, e, _⟩ := h v (.head _)
    have e1 : typeOf v = pure (Value.type "float") := by rw [e]; rfl
    rw [List.mapM_cons, e1, mapM_typeOf_flts (fun v hv => h v (.tail _ hv))]; simp
theorem keyKind_flts {v₁ v₂ : Value} {vs : List Value} (hS : AllH (v₁ :: v₂ :: vs)) : keyKind' (v₁ :: v₂ :: vs).toArray = pure oneType' := by
  rw [keyKind'_eq, List.mapM_toArray, mapM_first_flts hS]
  simp only [map_pure, pure_bind]
  rw [if_neg (by simp), if_neg (by simp), oneTypeOnly'_eq, List.mapM_toArray, mapM_typeOf_flts hS]
  simp only [map_pure, pure_bind]
  have hall : ((List.map (fun _ => Value.type "float") (v₁ :: v₂ :: vs)).toArray.all fun x => x == Value.type "float") = true := by
    simp only [List.all_toArray, List.all_map, List.all_eq_true]
    intro _ _; rfl
  have h0 : (List.map (fun _ => Value.type "float") (v₁ :: v₂ :: vs)).toArray[0]? = some (Value.type "float") := by simp
  rw [h0]
  simp only [hall, if_true, pure_bind, Option.isSome_some]
theorem sorted_out_flt {vs : List Value} (hS : AllH vs) {xs : Array Keyed} (hp : xs.Perm (pairsOf vs)) (hs : SortedToK fltKind xs (pairsOf vs).size) :
    AllH (xs.map (·.2)).toList ∧ (xs.map (·.2)).toList.Perm vs ∧ ((xs.map (·.2)).toList.map hNum).Pairwise (· ≤ ·) := by
  have hl : xs.toList.Perm (vs.zip vs) := by rw [← pairsOf_toList]; exact Array.perm_iff_toList_perm.mp hp
  have hmem : ∀ p, p ∈ xs.toList → p.1 = p.2 ∧ p.1 ∈ vs := fun p hp' => mem_zip_self (hl.mem_iff.mp hp')
  have e : (xs.map (·.2)).toList = xs.toList.map (·.1) := by
    rw [Array.toList_map]; exact List.map_congr_left fun p hp' => (hmem p hp').1.symm
  have hperm : (xs.map (·.2)).toList.Perm vs := by
    rw [e]
    have := hl.map Prod.fst
    rwa [List.map_fst_zip (Nat.le_refl _)] at this
  refine ⟨fun v hv => hS v (hperm.subset hv), hperm, ?_⟩
  rw [e, List.map_map, List.pairwise_iff_getElem]
  intro i j hi hj hij
  have hi' : i < xs.size := by simpa using hi
  have hj' : j < xs.size := by simpa using hj
  have h1 := hs i j (Nat.le_of_lt hij) (by rw [← hp.size_eq]; exact hj')
  obtain ⟨x, t, ex, hx⟩ := hS _ (hmem xs[i] (by simp)).2
  obtain ⟨y, u, ey, hy⟩ := hS _ (hmem xs[j] (by simp)).2
  rw [KK_flt hi' (x := x) (t := t) (q := xs[i].2) (Prod.ext ex rfl) hx, KK_flt hj' (x := y) (t := u) (q := xs[j].2) (Prod.ext ey rfl) hy] at h1
  change decide (_ < _) = false at h1
  simp only [List.getElem_map, Array.getElem_toList, Function.comp]
  have h2 : hNum xs[i].1 * (HH : Int) ≤ hNum xs[j].1 * (HH : Int) := by simpa using h1
  exact Int.le_of_mul_le_mul_right h2 (by have := HH_pos; omega)
section
variable {prog : Program} {w : World} {A : Around} {E : Value → Shared → Prop} {s : Shared}
theorem sorted_flt {l : Addr} {vs : List Value} {ks : List Int} {Q : Value → Shared → Prop} (hl : s.heap.IsList l vs.toArray) (hI : HVs vs ks) (h64 : vs.length < 64)
    (h : ∀ h' D ws ks', Sub s.heap h' → s.heap.get? D = none → h'.PlainList D (List.toArray ws) → HVs ws ks' → ks'.Perm ks → ks'.Pairwise (· ≤ ·) → Q (.ref D) { s with heap := h' }) :
    wpAny (model prog w) A (call (.builtin "sorted") [.ref l]) Q E s := by
  refine sortedK fltKind_oneLt hl hI.all.keysOf (fun v₁ v₂ rest e => keyKind_flts (by rw [← e]; exact hI.all)) h64 fun st' hp hs => ?_
  obtain ⟨h1, h2, h3⟩ := sorted_out_flt hI.all hp hs
  obtain ⟨e, he⟩ := sortedAll_at s.heap vs ((arrOf st').map (·.2))
  refine h _ _ ((arrOf st').map (·.2)).toList _ (fun b o hb => sortedAll_old hb) (new_none _ (Nat.le_succ _)) ⟨e, by rw [Array.toArray_toList]; exact he⟩ h1.hvs ?_ h3
  rw [← hI.nums]
  exact h2.map _

theorem eq_half {B : Around} {x : UInt64} {k n : Int} {t u : Tok} (h : HV x k) : PySem.SeqAt.EqAt B s (.float x t) (.int n u) (decide (k = 2 * n)) := fun prog w E Q hq => by
  unfold eqBool
  refine wpAny_holding ?_
  refine wpAny_ite_split (fun hab => absurd (eq_of_beq hab) nofun) (fun _ => ?_)
  refine wpAny_bind (wpAny_richCompare_left (AutoFloatOps.typeIs_float s x t) (typeIs_int s n u) (by decide) F.sub_int_float F.slot_float_eq
    (call_gives F.slot_float_eq (AutoFloatOps.typeIs_float s x t) F.entry_float_eq (F.args_float_eq_2 _ _) (AutoFloatG6.float___eq___float_int_0 x t n u) ⟨nofun, wpAny_truthy_bool ?_⟩))
  have : (cmpInt x n == some Ordering.eq) = decide (k = 2 * n) := by
    rw [HV_cmpInt h, ← compare_eq_iff']; rfl
  show Q (cmpInt x n == some Ordering.eq) s
  rw [this]; exact hq

theorem pair_at {vs ws : List Value} {ks ns : List Int} (hv : HVs vs ks) (hw : IntsAre ws ns) (e : ks = ns.map (2 * ·)) {B : Around} :
    ∀ j (h1 : j < vs.toArray.size) (h2 : j < ws.toArray.size), PySem.SeqAt.EqAt B s vs.toArray[j] ws.toArray[j] true := fun j h1 h2 => by
  have h1' : j < vs.length := by simpa using h1
  have h2' : j < ws.length := by simpa using h2
  have hj : j < ns.length := by rw [← hw.length]; exact h2'
  obtain ⟨t, e2⟩ := intAt hw hj
  rw [List.getElem?_eq_getElem h2'] at e2
  have e3 : ws[j] = .int (ns.getD j 0) t := Option.some.inj e2
  obtain ⟨x, u, e4, hx⟩ := hv.2 j vs[j] (2 * ns.getD j 0) (List.getElem?_eq_getElem h1') (by rw [e, List.getElem?_map, List.getD_eq_getElem?_getD, List.getElem?_eq_getElem hj]; rfl)
  have := eq_half (s := s) (B := B) (t := u) (u := t) (n := ns.getD j 0) hx
  rw [decide_eq_true rfl] at this
  simp only [List.getElem_toArray]
  rw [e3, e4]; exact this
theorem eq_halves {l b : Addr} {vs ws : List Value} {ks ns : List Int} {Q : Value → Shared → Prop} (hl : s.heap.IsList l vs.toArray) (hb : s.heap.IsList b ws.toArray) (hv : HVs vs ks) (hw : IntsAre ws ns) (e : ks = ns.map (2 * ·))
    (hu : A.units < cLine) (h : Q (.bool true) s) : wpAny (model prog w) A (compareOp .Eq (.ref l) (.ref b)) Q E s := by
  refine PySem.SeqAt.eq_listAt (e := fun _ => true) hl hb ?_ hu (pair_at hv hw e) ?_
  · simp only [List.size_toArray]; rw [hv.1, hw.length, e, List.length_map]
  · have : ((List.range vs.toArray.size).all fun _ => true) = true := by simp
    rw [this]; exact h
theorem ne_halves {l b : Addr} {vs ws : List Value} {ks ns : List Int} {Q : Value → Shared → Prop} (hl : s.heap.IsList l vs.toArray) (hb : s.heap.IsList b ws.toArray) (hv : HVs vs ks) (hw : IntsAre ws ns) (e : ks = ns.map (2 * ·))
    (hu : A.units < cLine) (h : Q (.bool false) s) : wpAny (model prog w) A (compareOp .NotEq (.ref l) (.ref b)) Q E s := by
  refine PySem.SeqAt.RcNeAt.lists (e := fun _ => true) hl hb ?_ hu (pair_at hv hw e) prog w E Q ?_
  · simp only [List.size_toArray]; rw [hv.1, hw.length, e, List.length_map]
  · have : (!(List.range vs.toArray.size).all fun _ => true) = false := by simp
    rw [this]; exact h
theorem ne_nils {l b : Addr} {Q : Value → Shared → Prop} (hl : s.heap.IsList l #[]) (hb : s.heap.IsList b #[]) (hu : A.units < cLine) (h : Q (.bool false) s) :
    wpAny (model prog w) A (compareOp .NotEq (.ref l) (.ref b)) Q E s :=
  PySem.SeqAt.RcNeAt.lists (e := fun _ => true) hl hb rfl hu (fun _ h1 => absurd h1 (Nat.not_lt_zero _)) prog w E Q h

theorem max_lst {l : Addr} {vs : List Value} {ns : List Int} {Q : Value → Shared → Prop} (hh : A.handled = none) (hl : s.heap.IsList l vs.toArray) (hi : IntsAre vs ns) (hne : 0 < ns.length)
    (h : ∀ h' M t tk, Sub s.heap h' → M ∈ ns → (∀ a ∈ ns, a ≤ M) → Q (.int M t) { s with heap := h', toks := tk }) :
    wpAny (model prog w) A (call (.builtin "max") [.ref l]) Q E s := by
  obtain ⟨xs, e⟩ := hi.allInts.items
  have hns : ns = xs.toList.map (·.1) := by rw [← hi.numsOf, ← nums_intItems, ← e]
  have hsz : 0 < xs.size := by
    have h3 := hne; rw [hns, List.length_map, Array.length_toList] at h3; exact h3
  rw [e] at hl
  refine max_intList hh hl hsz fun v h' tk hv hk => ?_
  obtain ⟨t, rfl⟩ := intItems_at hv
  obtain ⟨h1, h2⟩ := argBest_gt (numAt xs) (xs.size - 1)
  refine h _ _ t tk hk ?_ fun a ha => ?_
  · rw [hns, numAt_eq]; exact getD_mem (by rw [List.length_map, Array.length_toList]; omega)
  · rw [hns] at ha
    obtain ⟨j, hj, rfl⟩ := mem_getD ha
    rw [List.length_map, Array.length_toList] at hj
    rw [← numAt_eq]; exact h2 j (by omega)
theorem min_lst {l : Addr} {vs : List Value} {ns : List Int} {Q : Value → Shared → Prop} (hh : A.handled = none) (hl : s.heap.IsList l vs.toArray) (hi : IntsAre vs ns) (hne : 0 < ns.length)
    (h : ∀ h' M t tk, Sub s.heap h' → M ∈ ns → (∀ a ∈ ns, M ≤ a) → Q (.int M t) { s with heap := h', toks := tk }) :
    wpAny (model prog w) A (call (.builtin "min") [.ref l]) Q E s := by
  obtain ⟨xs, e⟩ := hi.allInts.items
  have hns : ns = xs.toList.map (·.1) := by rw [← hi.numsOf, ← nums_intItems, ← e]
  have hsz : 0 < xs.size := by
    have h3 := hne; rw [hns, List.length_map, Array.length_toList] at h3; exact h3
  rw [e] at hl
  refine min_intList hh hl hsz fun v h' tk hv hk => ?_
  obtain ⟨t, rfl⟩ := intItems_at hv
  obtain ⟨h1, h2⟩ := argBest_lt (numAt xs) (xs.size - 1)
  refine h _ _ t tk hk ?_ fun a ha => ?_
  · rw [hns, numAt_eq]; exact getD_mem (by rw [List.length_map, Array.length_toList]; omega)
  · rw [hns] at ha
    obtain ⟨j, hj, rfl⟩ := mem_getD ha
    rw [List.length_map, Array.length_toList] at hj
    rw [← numAt_eq]; exact h2 j (by omega)
theorem sum_lst {l : Addr} {vs : List Value} {ns : List Int} {Q : Value → Shared → Prop} (hh : A.handled = none) (hl : s.heap.IsList l vs.toArray) (hi : IntsAre vs ns)
    (h : ∀ h' tk t, Sub s.heap h' → Q (.int ns.sum t) { s with heap := h', toks := tk }) :
    wpAny (model prog w) A (call (.builtin "sum") [.ref l]) Q E s := by
  obtain ⟨xs, e⟩ := hi.allInts.items
  have hns : ns = xs.toList.map (·.1) := by rw [← hi.numsOf, ← nums_intItems, ← e]
  rw [e] at hl
  refine sum_intListG hh hl fun h' tk t' hk => ?_
  have e2 : preSum (numAt xs) xs.size = ns.sum := by
    rw [preSum_eq, List.take_of_length_le (by simp), hns]
  rw [e2]
  exact h h' tk t' hk
def bOf (v : Value) : UInt64 := match v with
  | .float x _ => x
  | _ => 0
theorem floatsAre_of : ∀ {vs : List Value}, AllH vs → FloatsAre vs (vs.map bOf)
  | [], _ => .nil
  | v :: vs, h => by
    obtain ⟨x, t, e, _⟩ := h v (.head _)
    rw [List.map_cons, e]
    exact .cons x t (floatsAre_of fun v hv => h v (.tail _ hv))
theorem sum_flt {l : Addr} {vs : List Value} {ks : List Int} {Q : Value → Shared → Prop} (hh : A.handled = none) (hl : s.heap.IsList l vs.toArray) (hf : HVs vs ks) (hne : vs.length ≠ 0) (hle : ks.length ≤ 1000) (hb : ∀ k ∈ ks, k.natAbs ≤ 1000000)
    (h : ∀ h' tk x t, Sub s.heap h' → HV x ks.sum → Q (.float x t) { s with heap := h', toks := tk }) :
    wpAny (model prog w) A (call (.builtin "sum") [.ref l]) Q E s := by
  have hF := floatsAre_of hf.all
  have c : (vs.map bOf).length ≠ 0 := by rw [List.length_map]; exact hne
  refine call_sum_walkF (sumInts_map c) (PySem.Flt.iter_list_ hl fun s₂ e st hfp hlI => ?_)
  subst e
  have W := (Walks.list (prog := prog) (w := w) (A := A.in1) hh _ l hlI vs.toArray).toS
  have hlen : vs.toArray.size = ((vs.map bOf).map PySem.W.WData.float).length := by simp
  rw [hlen] at W
  refine ⟨_, _, _, _, _, _, rfl, W, st, hfp, fun i v hP => ?_, fun s' v hv hm => ?_⟩
  · obtain ⟨b, t, rfl, e⟩ := hF.at i v (by simpa using hP)
    exact ⟨.float b, by rw [List.getElem?_map, e]; rfl, .float b t⟩
  · obtain ⟨hp, g, d, tk, os⟩ := s'
    have kp := PySem.Flt.kept_iter hm.heap
    have e1 : g = s.gens := hm.gens
    have e2 : d = s.drawn := hm.drawn
    have e3 : os = s.os := hm.os
    subst e1 e2 e3
    cases hv
    refine h hp tk _ _ kp (HV_sumOf (by rw [List.length_map]; exact hf.1) c hle fun i b k q1 q2 => ?_)
    rw [List.getElem?_map] at q1
    cases ev : vs[i]? with
    | none => rw [ev] at q1; cases q1
    | some v =>
      rw [ev] at q1; cases q1
      obtain ⟨x, t, rfl, hx⟩ := hf.2 i v k ev q2
      exact ⟨hx, hb k (List.mem_of_getElem? q2)⟩
end
end Mine
namespace Mine
open PySem PySem.Calls PyProof.Rows
section
variable {prog : Program} {w : World} {A : Around} {E : Value → Shared → Prop} {s : Shared} {g : Heap} {L : Addr}
theorem nfe_cell {csc : Scope} {cl : List (Str × Addr)} {env : Env} {x : Str} {Q : Env → Shared → Prop}
    (hcell : ∀ a (r : List (Str × Addr)), cellsFrom a csc.names r = (x, a) :: r) (hpush : ∀ h, pushCells h csc.names = h.push { cls := .type "cell", data := .cell none })
    (h : Q (newEnv csc s.heap.objs.size env.globals ((x, s.heap.objs.size + 1) :: cl) env.qual none .none (some env) builtinsNs) { s with heap := (s.heap.push { cls := .type "dict", data := .dict #[] }).push { cls := .type "cell", data := .cell none } }) :
    wpAny (model prog w) A (newFunctionEnv csc env.globals cl [] env.qual none .none (some env)) Q E s := by
  simp only [newFunctionEnv, Option.isSome_some, if_true]
  refine wpAny_bind (wpAny_alloc ?_)
  refine wpAny_bind (wpAny_layCells _ (fun name kind cells => by cases hkc : kind == NameKind.cell <;> simp [hkc]) _ _ _ _ ?_)
  rw [show ({ s with heap := s.heap.push { cls := .type "dict", data := .dict #[] } } : Shared).heap.objs.size = s.heap.objs.size + 1 from Heap.size_push ..]
  rw [hcell]
  show wpAny _ _ _ _ _ { s with heap := pushCells (s.heap.push { cls := .type "dict", data := .dict #[] }) csc.names }
  rw [hpush, List.forIn_nil]
  exact wpAny_bind (wpAny_pure (wpAny_pure h))
theorem comp_coreC {elt iter : Expr} {x : Str} {px : Pos} {csc : Scope} {cl : List (Str × Addr)} {pos : Pos} {env : Env} {it : Value} {m : Str → Option Value} {led : Led} {n : Nat} {P : Nat → Value → Prop}
    {RR : Value → Addr → Result → Shared → Prop} (F : Nat → Value → Led → Prop) {hb : Heap} (X : Iterates prog w A hb g L m led n P it s)
    (hcell : ∀ a (r : List (Str × Addr)), cellsFrom a csc.names r = (x, a) :: r) (hpush : ∀ h, pushCells h csc.names = h.push { cls := .type "cell", data := .cell none }) (hkind : csc.kind = .function) (hx : (relabel csc env).names.lookup x = some .cell) (hsz : n ≤ sizeLine)
    (helt : ∀ i v C K g₁ m₁ h tk, i < n → P i v → Sub g g₁ → (∀ p ∈ led, p.2.At g₁ p.1) → St g₁ C m₁ [] h → g₁.IsCell K (some v) →
      wpAny (model prog w) A (eval elt (compEnvC csc ((x, K) :: cl) C env)) (Handed s h (F i)) F0 { s with heap := h, toks := tk })
    (fin : ∀ D C o h' tk ys oss, (∃ m', h'.Ns C m') → List.length ys = n → List.length oss = n → (∀ i y os, ys[i]? = some y → oss[i]? = some os → F i y os) →
      St g L m ((C, .raw o) :: (D, .lst ys) :: (oss.flatten ++ led)) h' → Sub hb h' → hb.get? C = none → RR (.ref D) C (.ok .next) { s with heap := h', toks := tk }) :
    wpAny (model prog w) A (newList []) (fun acc s₃ => wpAny (model prog w) A (newFunctionEnv csc env.globals cl [] env.qual none .none (some env)) (fun cenv s₄ =>
      codeAny (model prog w) A (.compStart (.ListComp elt [⟨.Name x px, iter, [], 0⟩] csc pos) 0 it acc { cenv with scope := relabel csc env }) (RR acc cenv.locals) s₄) E s₃) E s := by
  obtain ⟨I, fp, wr, Sti, rfl, Wk, st0, S0, hfp, hwr, alive, hbS, hbw⟩ := X
  refine wpAny_newObj_type (nfe_cell hcell hpush ?_)
  dsimp only
  generalize hH2 : s.heap.push { cls := .type "list", dict := none, data := .seq ([] : List Value).toArray } = H2
  have hC : H2.objs.size = s.heap.objs.size + 1 := by rw [← hH2, Heap.size_push]
  have hH3 : (H2.push { cls := .type "dict", data := .dict #[] }).objs.size = H2.objs.size + 1 := Heap.size_push ..
  generalize hK : H2.objs.size + 1 = K at hH3 ⊢
  have hns₁ : ((H2.push { cls := .type "dict", data := .dict #[] }).push { cls := .type "cell", data := .cell none }).Ns H2.objs.size (fun _ => none) := (Heap.Ns.new H2 (.type "dict")).keeps fun b o e => Heap.get?_push_of_some _ e
  have hcK : ((H2.push { cls := .type "dict", data := .dict #[] }).push { cls := .type "cell", data := .cell none }).IsCell K none := ⟨_, by rw [← hH3]; exact Heap.get?_push_size _ rfl, rfl⟩
  have old2 : Sub H2 ((H2.push { cls := .type "dict", data := .dict #[] }).push { cls := .type "cell", data := .cell none }) := fun b o e => Heap.get?_push_of_some _ (Heap.get?_push_of_some _ e)
  generalize (H2.push { cls := .type "dict", data := .dict #[] }).push { cls := .type "cell", data := .cell none } = h₁ at hns₁ hcK old2 ⊢
  have old : Sub s.heap h₁ := fun b o e => old2 b o (hH2 ▸ Heap.get?_push_of_some _ e)
  have DC : s.heap.objs.size ≠ H2.objs.size := by rw [hC]; exact Nat.ne_of_lt (Nat.lt_succ_self _)
  have DK : s.heap.objs.size ≠ K := by rw [← hK, hC]; exact Nat.ne_of_lt (Nat.lt_succ_of_lt (Nat.lt_succ_self _))
  have KC : K ≠ H2.objs.size := by rw [← hK]; exact Nat.ne_of_gt (Nat.lt_succ_self _)
  have leK : s.heap.objs.size ≤ K := by rw [← hK, hC]; exact Nat.le_succ_of_le (Nat.le_succ _)
  let g₀ := W.hideAll s.heap wr
  have sub0 : Sub g₀ s.heap := fun b o e => W.of_hideAll _ e
  have T0 : St g₀ H2.objs.size (fun _ => none) ((s.heap.objs.size, .lst []) :: (K, .cel none) :: ([] : List Led).flatten) h₁ := by
    refine ⟨hns₁, sub0.trans old, none_of_new sub0 (new_none _ (by rw [hC]; exact Nat.le_succ _)), fun p hp => ?_, fun p hp => ?_, ?_⟩
    · rw [List.flatten_nil] at hp
      rcases List.mem_cons.mp hp with rfl | hp
      · exact ⟨0, old2 _ _ (hH2 ▸ Heap.get?_push_size _ rfl)⟩
      · rw [List.mem_singleton.mp hp]; exact hcK
    · rw [List.flatten_nil] at hp
      rcases List.mem_cons.mp hp with rfl | hp
      · exact ⟨none_of_new sub0 (new_none _ (Nat.le_refl _)), DC⟩
      · rw [List.mem_singleton.mp hp]
        exact ⟨none_of_new sub0 (new_none _ leK), KC⟩
    · rw [List.flatten_nil]
      simp only [List.map_cons, List.map_nil, List.nodup_cons, List.mem_singleton, List.not_mem_nil, not_false_eq_true, List.nodup_nil, and_true]
      exact DK
  have inG : ∀ b o, b ∉ wr → s.heap.get? b = some o → g₀.get? b = some o := fun b o hb e => W.hideAll_get _ e hb
  have fpG : ∀ b ∈ fp, b < s.heap.objs.size := fun b hb => let ⟨o, e⟩ := alive _ _ st0 b hb; Heap.lt_size e
  have gg₀ : Sub g g₀ := fun b o e => inG b o (fun hb => by rw [hwr b hb] at e; cases e) (S0.keep b o e)
  have outer : ∀ h', Sub g₀ h' → Sub g h' ∧ (∀ p ∈ led, p.2.At h' p.1) := fun h' k =>
    ⟨gg₀.trans k, fun p hp => (S0.ats p hp).at fun o e => k _ o (inG _ o (fun hb => (hfp _ (Wk.sub _ hb)).2 (List.mem_map_of_mem hp)) e)⟩
  have loop : ∀ s₃ : Shared, s₃ = { s with heap := h₁ } →
      codeAny (model prog w) A (.compLoop (.ListComp elt [⟨.Name x px, iter, [], 0⟩] csc pos) 0 (.ref I) (.ref s.heap.objs.size) (compEnvC csc ((x, K) :: cl) H2.objs.size env))
        (RR (.ref s.heap.objs.size) H2.objs.size) s₃ := by
    rintro s₃ rfl
    refine codeAny_compLoop_list (fun k s' => ∃ i h tk m' ys, ∃ (oss : List Led) (cv : Option Value), s' = { s with heap := h, toks := tk } ∧ i ≤ n ∧ k = n + 1 - i ∧ Sti i h ∧ List.length ys = i ∧ oss.length = i ∧
      (∀ i y os, ys[i]? = some y → oss[i]? = some os → F i y os) ∧ St g₀ H2.objs.size m' ((s.heap.objs.size, .lst ys) :: (K, .cel cv) :: oss.flatten) h ∧ (∀ p ∈ oss.flatten, p.1 ∉ fp)) ?_ (n + 1)
      ⟨0, h₁, _, _, [], [], none, rfl, Nat.zero_le _, rfl, Wk.frame _ _ _ st0 fun b _ o e => old b o e, rfl, rfl, by simp, T0, by simp⟩
    rintro k s' ⟨i, h, tk, m', ys, oss, cv, rfl, hi, rfl, st, hys, hoss, hF, T, hlow⟩
    have fpOff : ∀ b ∈ fp, b ≠ H2.objs.size ∧ b ≠ s.heap.objs.size ∧ b ∉ ((s.heap.objs.size, MO.lst ys) :: (K, .cel cv) :: oss.flatten).map (·.1) := fun b hb => by
      have hlt := fpG b hb
      refine ⟨by rw [hC]; exact Nat.ne_of_lt (Nat.lt_succ_of_lt hlt), Nat.ne_of_lt hlt, fun q => ?_⟩
      obtain ⟨p, hp, e⟩ := List.mem_map.mp q
      rcases List.mem_cons.mp hp with rfl | hp
      · exact absurd e (Nat.ne_of_gt hlt)
      · rcases List.mem_cons.mp hp with rfl | hp
        · exact absurd e (Nat.ne_of_gt (Nat.lt_of_lt_of_le hlt leK))
        · exact hlow p hp (e ▸ hb)
    have fpK : ∀ b ∈ fp, b ≠ K := fun b hb => Nat.ne_of_lt (Nat.lt_of_lt_of_le (fpG b hb) leK)
    have off : ∀ h', (∀ b o, b ∉ wr → h.get? b = some o → h'.get? b = some o) → St g₀ H2.objs.size m' ((s.heap.objs.size, .lst ys) :: (K, .cel cv) :: oss.flatten) h' := fun h' k =>
      ⟨T.ns.at' fun o e => k _ o (fun hb => (fpOff _ (Wk.sub _ hb)).1 rfl) e, fun b o e => k b o (fun hb => by rw [W.hideAll_none _ hb] at e; cases e) (T.keep b o e), T.offL,
        fun p hp => (T.ats p hp).at fun o e => k _ o (fun hb => (fpOff _ (Wk.sub _ hb)).2.2 (List.mem_map_of_mem hp)) e, T.off, T.nodup⟩
    by_cases hlt : i < n
    · refine Wk.item i _ _ _ hlt st fun v h₂ tk₂ hP st₂ k₂ => ?_
      have T₂ := off h₂ k₂
      refine wpAny_assign_Name (wpAny_storeName_cell (env := compEnvC csc ((x, K) :: cl) H2.objs.size env) hkind hx (by simp [compEnvC]) (T₂.at (x := .cel cv) (.tail _ (.head _))) (fun h₃ hc₃ hs₃ => ?_))
      have T₃ : St g₀ H2.objs.size m' ((s.heap.objs.size, .lst ys) :: (K, .cel (some v)) :: oss.flatten) h₃ := T₂.upd 1 rfl hs₃ hc₃
      obtain ⟨g₁, sub₁, T₄, hall₁, get₁⟩ := St.freeze (led₁ := []) (led₂ := (s.heap.objs.size, .lst ys) :: (K, .cel (some v)) :: oss.flatten) T₃
      refine wp0 (wpAny_mono (helt i v H2.objs.size K g₁ _ h₃ _ hlt hP (outer g₁ sub₁).1 (outer g₁ sub₁).2 T₄ (hall₁ (K, .cel (some v)) (.tail _ (.head _)))) (fun y s₄ h₄ => ?_) fun _ _ x => x.elim)
      obtain ⟨h₅, tk₅, os, rfl, k₅, hFy, hos, hnd⟩ := h₄
      have T₅ := T₃.adds k₅ hos hnd
      have T₆ : St g₀ H2.objs.size m' ((s.heap.objs.size, .lst ys) :: (K, .cel (some v)) :: (oss.flatten ++ os)) h₅ :=
        T₅.perm (List.perm_append_comm (l₁ := (s.heap.objs.size, MO.lst ys) :: (K, .cel (some v)) :: oss.flatten) (l₂ := os))
      refine wpAny_list_append_plain (T₆.at (.head _)) (fun h₆ hp₆ hs₆ => ?_) (by simp [hys]; omega)
      have T₇ := T₆.upd 0 rfl hs₆ (x' := .lst (ys ++ [y])) (by show h₆.PlainList _ (ys ++ [y]).toArray; simpa using hp₆)
      refine ⟨n + 1 - (i + 1), by omega, i + 1, h₆, tk₅, m', ys ++ [y], oss ++ [os], some v, rfl, hlt, rfl, ?_, by simp [hys], by simp [hoss], ?_, ?_, ?_⟩
      · exact Wk.frame _ _ _ st₂ fun b hb o e => (hs₆.2 b (fpOff b hb).2.1).trans (k₅ b o ((hs₃.2 b (fpK b hb)).trans e))
      · intro j y' os' hj hj'
        by_cases hji : j < i
        · rw [List.getElem?_append_left (by omega)] at hj hj'
          exact hF j y' os' hj hj'
        · by_cases hje : j = i
          · subst hje
            rw [List.getElem?_append_right (by omega)] at hj hj'
            simp [hys] at hj; simp [hoss] at hj'
            rw [← hj, ← hj']; exact hFy
          · rw [List.getElem?_eq_none (by simp; omega)] at hj; cases hj
      · simpa using T₇
      · intro p hp
        rw [List.flatten_append] at hp
        rcases List.mem_append.mp hp with hp | hp
        · exact hlow p hp
        · simp at hp
          intro hb
          obtain ⟨o, e⟩ := alive _ _ st₂ _ hb
          have e3 := (hs₃.2 _ (fpK _ hb)).trans e
          rw [(hos p hp).1] at e3; cases e3
    · have hin : i = n := by omega
      subst hin
      refine Wk.done _ _ _ st fun h₂ tk₂ k₂ => ?_
      have T₂ := (off h₂ k₂).sublist (led' := (s.heap.objs.size, .lst ys) :: oss.flatten) (.cons_cons _ (.cons _ (List.Sublist.refl _)))
      obtain ⟨oC, esC, epC, hoC, rC⟩ := id T₂.ns
      refine fin _ _ oC h₂ tk₂ ys oss ⟨_, T₂.ns⟩ hys hoss hF ?_ (fun b o e => T₂.keep b o (inG b o (fun hb => by rw [hbw b hb] at e; cases e) (hbS b o e))) (none_of_new hbS (new_none _ (by rw [hC]; exact Nat.le_succ _)))
      obtain ⟨k1, k2⟩ := outer h₂ T₂.keep
      have Lw : L ∉ wr := fun hb => (hfp _ (Wk.sub _ hb)).1 rfl
      obtain ⟨oL, esL, epL, hoL, rL⟩ := id S0.ns
      have gL : g₀.get? L = some oL := inG L oL Lw hoL
      have gled : ∀ p ∈ led, ∃ o, g₀.get? p.1 = some o := fun p hp => by
        obtain ⟨o, e⟩ := (S0.ats p hp).obj
        exact ⟨o, inG _ o (fun hb => (hfp _ (Wk.sub _ hb)).2 (List.mem_map_of_mem hp)) e⟩
      have newOff : ∀ p ∈ (s.heap.objs.size, MO.lst ys) :: oss.flatten, g.get? p.1 = none ∧ p.1 ≠ L := fun p hp =>
        ⟨none_of_new gg₀ (T₂.off p hp).1, fun q => by have := (T₂.off p hp).1; rw [q, gL] at this; cases this⟩
      have Coff : ∀ b, b < s.heap.objs.size → b ≠ H2.objs.size := fun b hb => by rw [hC]; exact Nat.ne_of_lt (Nat.lt_succ_of_lt hb)
      refine ⟨S0.ns.at' fun o e => T₂.keep _ _ (inG _ _ Lw e), k1, S0.offL, fun p hp => ?_, fun p hp => ?_, ?_⟩
      · rcases List.mem_cons.mp hp with rfl | hp
        · exact hoC
        · rw [← List.cons_append] at hp
          rcases List.mem_append.mp hp with hp | hp
          · exact T₂.ats p hp
          · exact k2 p hp
      · rcases List.mem_cons.mp hp with rfl | hp
        · exact ⟨none_of_new S0.keep (new_none _ (by rw [hC]; exact Nat.le_succ _)), Ne.symm (Coff L (Heap.lt_size hoL))⟩
        · rw [← List.cons_append] at hp
          rcases List.mem_append.mp hp with hp | hp
          · exact newOff p hp
          · exact S0.off p hp
      · rw [← List.cons_append, List.map_cons, List.map_append, List.nodup_cons, List.nodup_append]
        refine ⟨fun q => ?_, T₂.nodup, S0.nodup, fun a ha b hb q => ?_⟩
        · rcases List.mem_append.mp q with q | q
          · obtain ⟨p, hp, e⟩ := List.mem_map.mp q
            exact (T₂.off p hp).2 e
          · obtain ⟨p, hp, e⟩ := List.mem_map.mp q
            exact Coff _ (S0.ats p hp).lt e
        · obtain ⟨p, hp, rfl⟩ := List.mem_map.mp ha
          obtain ⟨p', hp', rfl⟩ := List.mem_map.mp hb
          obtain ⟨o, e⟩ := gled p' hp'
          have := (T₂.off p hp).1
          rw [q, e] at this; cases this
  exact codeAny_compStart_list (loop _ rfl) (Wk.self 0 _ _ _ (Wk.frame _ _ _ st0 fun b _ o e => old b o e) (loop _ rfl))

/-- what is asked behind pyIter: the comprehension whose name x is a cell, assigned to y -/
inductive CompC (prog : Program) (w : World) (A : Around) (g : Heap) (L : Addr) (elt : Expr) (x y : Str) (csc' : Scope) (cl : List (Str × Addr)) (ex : EX) (Q : Flow → Shared → Prop) (it : Value) (s₂ : Shared) : Prop where
  | mk (hb : Heap) (m : Str → Option Value) (led : Led) (n : Nat) (P : Nat → Value → Prop) (F : Nat → Value → Led → Prop) (hsz : n ≤ sizeLine) (X : Iterates prog w A hb g L m led n P it s₂)
      (helt : ∀ i v C K g₁ m₁ h tk, i < n → P i v → Sub g g₁ → (∀ p ∈ led, p.2.At g₁ p.1) → St g₁ C m₁ [] h → g₁.IsCell K (some v) →
        wpAny (model prog w) A (eval elt (mkEnv csc' C ((x, K) :: cl) (cEX ex))) (Handed s₂ h (F i)) F0 { s₂ with heap := h, toks := tk })
      (fin : ∀ D h' tk ys oss, List.length ys = n → List.length oss = n → (∀ (i : Nat) y os, ys[i]? = some y → oss[i]? = some os → F i y os) →
        St g L (set1 m y (.ref D)) ((D, .lst ys) :: (oss.flatten ++ led)) h' → Q .next { s₂ with heap := h', toks := tk }) : CompC prog w A g L elt x y csc' cl ex Q it s₂

/-- a comprehension whose name is a cell, assigned to a local name at once -/
theorem comp_asgC {elt iter : Expr} {x y : Str} {px py : Pos} {sc csc csc' : Scope} {cs cl : List (Str × Addr)} {ex : EX} {pos spos : Pos} {Q : Flow → Shared → Prop}
    (hsw : swapsWith (.ListComp elt [⟨.Name x px, iter, [], 0⟩] csc pos) (some (.Name y py)) spos.line (mkEnv sc L cs ex) = pure true)
    (hclos : closureFor csc (mkEnv sc L cs ex) = pure cl) (hcell : ∀ a (r : List (Str × Addr)), cellsFrom a csc.names r = (x, a) :: r) (hpush : ∀ h, pushCells h csc.names = h.push { cls := .type "cell", data := .cell none }) (hkind : csc.kind = .function)
    (hnames : ∀ y ∈ csc.names, y.2 = .local → csc.names.lookup y.1 = some .local) (hx : csc'.names.lookup x = some .cell) (hrel : relabel csc (mkEnv sc L cs ex) = csc')
    (hy : sc.names.lookup y = some .local) (hk : sc.kind = .function)
    (h : wpAny (model prog w) A (eval iter (mkEnv sc L cs ex)) (fun xv s₁ => wpAny (model prog w) A (pyIter xv) (fun it s₂ => CompC prog w A g L elt x y csc' cl ex Q it s₂) E s₁) E s)
    (hs : ∀ x, foldedSetIterable iter (mkEnv sc L cs ex) x = pure x := by intro _; rfl) :
    wpAny (model prog w) A (exec (.Assign [.Name y py] (.ListComp elt [⟨.Name x px, iter, [], 0⟩] csc pos) spos) (mkEnv sc L cs ex)) Q E s := by
  rw [exec_Assign_Name_used _ _ _ _ hsw]
  refine wpAny_bind (wpAny_standAt (wpAny_bind ?_))
  show wpAny _ A (do let _ ← comprehension (.ListComp elt [⟨.Name x px, iter, [], 0⟩] csc pos) csc (mkEnv sc L cs ex) _ (newList []) false (eval iter (mkEnv sc L cs ex)) (some (assign (.Name y py) (mkEnv sc L cs ex)))) _ _ s
  refine wpAny_bind (wpAny_mono (wpAny_comprehension_free (use := some (assign (.Name y py) (mkEnv sc L cs ex))) (Q := fun _ s' => Q .next s') rfl hs hclos hkind hnames
    (wpAny_mono h (fun xv s₁ h₁ => wpAny_mono h₁ (fun it s₂ h₂ => ?_) fun _ _ e => e) fun _ _ e => e)) (fun _ s' hq => wpAny_pure (wpAny_pure hq)) fun _ _ e => e)
  obtain ⟨hb, m, led, n, P, F, hsz, X, helt, hQ⟩ := h₂
  refine comp_coreC (RR := fun acc C => compPost (model prog w) A E (some (assign (.Name y py) (mkEnv sc L cs ex))) (fun _ s' => Q .next s') acc C) F X hcell hpush hkind (by rw [hrel]; exact hx) hsz ?_ ?_
  · intro i v C K g₁ m₁ h tk hi hP k k2 S hv
    have := helt i v C K g₁ m₁ h tk hi hP k k2 S hv
    rw [← hrel] at this
    exact this
  · intro D C o h' tk ys oss hn hl1 hl2 hF S _ _
    obtain ⟨m', hn⟩ := hn
    show wpAny _ A (assign (.Name y py) (mkEnv sc L cs ex) (.ref D)) _ _ _
    have CL : C ≠ L := (S.off _ (.head _)).2
    refine wpAny_assign_Name (wpAny_storeName_local (env := mkEnv sc L cs ex) hy S.ns (fun h₂ hn₂ hs₂ => ?_) (by show (sc.kind == .class || (sc.kind == .module && L != mainGlobals)) = false; rw [hk]; rfl))
    have S₂ := S.setNs hn₂ hs₂
    exact ⟨m', hn.sameBut hs₂ CL, fun h₃ hs₃ => hQ D h₃ _ ys oss hl1 hl2 hF (S₂.dropBut hs₃)⟩
end
end Mine
set_option maxRecDepth 100000
namespace Mine
open PySem PySem.Calls PyProof.Rows
/-- the rest of law, from statement n on -/
def lawFrom (n : Nat) : List Stmt := (fnBodyU 15).drop n
abbrev lawCs (c1 c2 c3 c4 c5 c6 c7 c8 : Addr) : List (Str × Addr) :=
  [(Str.ofString "leads", c1), (Str.ofString "k", c2), (Str.ofString "quarters", c3), (Str.ofString "due", c4), (Str.ofString "right_due", c5), (Str.ofString "left_due", c6), (Str.ofString "rights", c7), (Str.ofString "lefts", c8)]
theorem AllInt.cons {n : Int} {t : Tok} {vs : List Value} (h : AllInt vs) : AllInt (.int n t :: vs) := fun v hv => by
  rcases List.mem_cons.mp hv with rfl | hv
  · exact ⟨_, _, rfl⟩
  · exact h v hv
/-- the five hands -/
def Hands (h : Heap) (fs : List Value) : Prop := fs.length = 5 ∧ ∀ (i : Nat) v, fs[i]? = some v → ∃ f, v = .ref f ∧ FnAt h f (i + 5) .none
section
variable {prog : Program} {w : World} {A : Around} {E : Value → Shared → Prop} {s : Shared} {mg mb : Str → Option Value} {g : Heap} {L : Addr}
set_option maxHeartbeats 1000000 in
theorem law_0 {c1 c2 c3 c4 c5 c6 c7 c8 ls : Addr} {led : Led} {ex : EX} {m : Str → Option Value} {vs : List Value} {Q : Flow → Shared → Prop} (hA : AOk A 1) (G : Gl w mg mb g)
    (S : St g L m led s.heap) (hms : m "script" = some (.ref ls)) (hls : g.IsList ls vs.toArray) (hvs : AllInt vs) (hle : vs.length ≤ 63)
    (h : ∀ h' tk ln out, St g L (set1 m (Str.ofString "numbers") (.ref ln)) ((ln, .lsi out) :: led) h' → AllInt out → out.length = 5 →
      wpAny (model prog w) A (execs (lawFrom 1) (mkEnv (fnScope 15) L (lawCs c1 c2 c3 c4 c5 c6 c7 c8) ex)) Q E { s with heap := h', toks := tk }) :
    wpAny (model prog w) A (execs (lawFrom 0) (mkEnv (fnScope 15) L (lawCs c1 c2 c3 c4 c5 c6 c7 c8) ex)) Q E s := by
  show wpAny (model prog w) A (execs (_ :: _) _) Q E s
  refine wpAny_execs_cons ?_
  refine as_loc ?_
  refine Call_ ?_
  refine nm_f 11 G S (by decide) rfl ?_
  intro f X
  refine callF X ?_
  refine args_cons ?_
  refine nm_loc S rfl hms ?_
  refine args_cons ?_
  refine List_ ?_
  refine args_cons ?_
  refine wpAny_Constant_int ?_
  refine args_cons ?_
  refine wpAny_Constant_int ?_
  refine args_cons ?_
  refine wpAny_Constant_int ?_
  refine args_cons ?_
  refine wpAny_Constant_int ?_
  refine args_cons ?_
  refine wpAny_Constant_int ?_
  refine args_nil ?_
  refine new_list S ?_ (by rw [sizeLine_eq]; exact Nat.le_of_ble_eq_true rfl)
  intro h₁ l₁ S₁ k₁ n₁
  refine args_nil ?_
  refine ⟨S₁.keep, ?_⟩
  refine cells_call hA (G.sub S₁.keep) (X.sub S₁.keep) (hls.at fun o e => S₁.keep _ _ e) hvs hle (S₁.at (x := .lst _) (.head _)).isList ?_ ?_ ?_
  · exact AllInt.cons (AllInt.cons (AllInt.cons (AllInt.cons (AllInt.cons fun _ hv => nomatch hv))))
  · rfl
  intro h₂ tk₂ ln out k₂ n₂ P₂ hI hl
  have S₂ := (S₁.sublist (.cons _ (List.Sublist.refl _))).add (x := .lsi out) k₂ n₂ P₂
  refine st_loc S₂ rfl ?_
  intro h₃ S₃
  exact h _ _ _ _ S₃ hI hl

set_option maxHeartbeats 1000000 in
theorem law_1 {c1 c2 c3 c4 c5 c6 c7 c8 ln : Addr} {led : Led} {ex : EX} {m : Str → Option Value} {out : List Value} {Q : Flow → Shared → Prop} (G : Gl w mg mb g)
    (S : St g L m ((ln, .lsi out) :: led) s.heap) (hmn : m "numbers" = some (.ref ln)) (hvs : AllInt out) (hl5 : out.length = 5)
    (h : ∀ h' tk hl fs m' (one other : Nat) to tt, St g L m' ((hl, .lst fs) :: (ln, .lsi out) :: led) h' → Hands g fs → one < 5 → other < 5 → m' "numbers" = some (.ref ln) → m' "hands" = some (.ref hl) → m' "one" = some (.int one to) → m' "other" = some (.int other tt) →
      wpAny (model prog w) A (execs (lawFrom 4) (mkEnv (fnScope 15) L (lawCs c1 c2 c3 c4 c5 c6 c7 c8) ex)) Q E { s with heap := h', toks := tk }) :
    wpAny (model prog w) A (execs (lawFrom 1) (mkEnv (fnScope 15) L (lawCs c1 c2 c3 c4 c5 c6 c7 c8) ex)) Q E s := by
  obtain ⟨n4, t4, e4⟩ := hvs.get (i := 4) (by omega)
  show wpAny (model prog w) A (execs (_ :: _) _) Q E s
  refine wpAny_execs_cons ?_
  refine as_loc ?_
  refine List_ ?_
  refine args_cons ?_
  refine nm_f 5 G S (by decide) rfl ?_
  intro f5 X5
  refine args_cons ?_
  refine nm_f 6 G S (by decide) rfl ?_
  intro f6 X6
  refine args_cons ?_
  refine nm_f 7 G S (by decide) rfl ?_
  intro f7 X7
  refine args_cons ?_
  refine nm_f 8 G S (by decide) rfl ?_
  intro f8 X8
  refine args_cons ?_
  refine nm_f 9 G S (by decide) rfl ?_
  intro f9 X9
  refine args_nil ?_
  refine new_list S ?_ (by rw [sizeLine_eq]; exact Nat.le_of_ble_eq_true rfl)
  intro h₁ l₁ S₁ k₁ n₁
  refine st_loc S₁ rfl ?_
  intro h₂ S₂
  refine wpAny_execs_cons ?_
  refine as_loc ?_
  refine wpAny_BinOp ?_
  refine Subscript_ ?_
  refine nm_loc S₂ rfl hmn ?_
  refine wpAny_Constant_int ?_
  refine tail_item (S₂.at (x := .lsi out) (.tail _ (.head _))) (by decide) (by decide) e4 ?_
  refine wpAny_Constant_int ?_
  refine mod_int (by decide) ?_
  refine st_loc S₂ rfl ?_
  intro h₃ S₃
  refine wpAny_execs_cons ?_
  refine as_loc ?_
  refine wpAny_BinOp ?_
  refine wpAny_BinOp ?_
  refine Subscript_ ?_
  refine nm_loc S₃ rfl hmn ?_
  refine wpAny_Constant_int ?_
  refine tail_item (S₃.at (x := .lsi out) (.tail _ (.head _))) (by decide) (by decide) e4 ?_
  refine wpAny_Constant_int ?_
  refine floordiv_int (by decide) ?_ (.inl (PyProof.noPylong_small (by decide)))
  refine wpAny_Constant_int ?_
  refine mod_int (by decide) ?_
  refine st_loc S₃ rfl ?_
  intro h₄ S₄
  have b1 : 0 ≤ n4.fmod 5 ∧ n4.fmod 5 < 5 := ⟨Int.fmod_nonneg_of_pos _ (by decide), Int.fmod_lt_of_pos _ (by decide)⟩
  have b2 : 0 ≤ (n4.fdiv 5).fmod 5 ∧ (n4.fdiv 5).fmod 5 < 5 := ⟨Int.fmod_nonneg_of_pos _ (by decide), Int.fmod_lt_of_pos _ (by decide)⟩
  have e1 : n4.fmod 5 = ((n4.fmod 5).toNat : Int) := by omega
  have e2 : (n4.fdiv 5).fmod 5 = (((n4.fdiv 5).fmod 5).toNat : Int) := by omega
  refine h h₄ _ l₁ _ _ (n4.fmod 5).toNat ((n4.fdiv 5).fmod 5).toNat _ _ S₄ ?_ (by omega) (by omega) hmn rfl (by rw [← e1]; rfl) (by rw [← e2]; rfl)
  refine ⟨rfl, fun i v e => ?_⟩
  rcases (by omega : i = 0 ∨ i = 1 ∨ i = 2 ∨ i = 3 ∨ i = 4 ∨ 5 ≤ i) with rfl | rfl | rfl | rfl | rfl | hi
  · cases e; exact ⟨f5, rfl, X5⟩
  · cases e; exact ⟨f6, rfl, X6⟩
  · cases e; exact ⟨f7, rfl, X7⟩
  · cases e; exact ⟨f8, rfl, X8⟩
  · cases e; exact ⟨f9, rfl, X9⟩
  · rw [List.getElem?_eq_none (by simpa using hi)] at e; cases e
end
end Mine
set_option maxRecDepth 100000
namespace Mine
open PySem PySem.Calls PyProof.Rows
theorem figs_bound (n : Int) : ∀ k, ∀ f ∈ (figsTo n k).1, 0 ≤ f ∧ f < 9
  | 0, f, h => by simp [figsTo] at h
  | k + 1, f, h => by
    simp only [figsTo, List.mem_append, List.mem_singleton] at h
    rcases h with h | rfl
    · exact figs_bound n k f h
    · exact ⟨Int.fmod_nonneg_of_pos _ (by decide), Int.fmod_lt_of_pos _ (by decide)⟩
/-- four rows of six figures -/
def Six (rows : List (List Int)) : Prop := rows.length = 4 ∧ ∀ r ∈ rows, r.length = 6 ∧ ∀ f ∈ r, 0 ≤ f ∧ f < 9
section
variable {prog : Program} {w : World} {A : Around} {E : Value → Shared → Prop} {s : Shared} {mg mb : Str → Option Value} {g : Heap} {L : Addr}
/-- pyIter of a list that the ledger does not hold -/
theorem iter_free {l : Addr} {vs : List Value} {m : Str → Option Value} {led : Led} {Q : Value → Shared → Prop} (hh : A.handled = none) (S : St g L m led s.heap) (hls : s.heap.IsList l vs.toArray) (hL : l ≠ L) (hnl : l ∉ led.map (·.1))
    (h : ∀ it h', Sub s.heap h' → Iterates prog w A s.heap g L m led vs.length (fun i v => vs[i]? = some v) it { s with heap := h' } → Q it { s with heap := h' }) :
    wpAny (model prog w) A (pyIter (.ref l)) Q E s := by
  obtain ⟨ol, hol, _⟩ := id hls
  have hne : l ≠ s.heap.objs.size := Nat.ne_of_lt (Heap.lt_size hol)
  have W := Walks.list (prog := prog) (w := w) hh s.heap.objs.size l hne vs.toArray
  have hlen : vs.toArray.size = vs.length := by simp
  rw [hlen] at W
  refine wpAny_pyIter_list hls (h _ _ ((Sub.refl _).push _) ⟨s.heap.objs.size, [s.heap.objs.size, l], [s.heap.objs.size], _, rfl,
    ⟨W.sub, W.frame, fun i s Q E hi st hQ => W.item i s Q E hi st fun v h' tk hp st' hk => hQ v h' tk (by simpa using hp) st' hk, W.done, W.self⟩, ?_, S.push _, ?_, ?_, ?_, (Sub.refl _).push _, fun b hb => by rw [List.mem_singleton.mp hb]; exact new_none _ (Nat.le_refl _)⟩)
  · exact ⟨⟨_, Heap.get?_push_size _ rfl, rfl, rfl⟩, hls.at fun o e => Heap.get?_push_of_some _ e⟩
  · intro b hb
    rcases List.mem_cons.mp hb with rfl | hb
    · refine ⟨fun q => absurd S.ns.lt (by rw [q]; exact Nat.lt_irrefl _), fun q => ?_⟩
      obtain ⟨p, hp, e⟩ := List.mem_map.mp q
      exact absurd (S.ats p hp).lt (by rw [e]; exact Nat.lt_irrefl _)
    · rw [List.mem_singleton.mp hb]
      exact ⟨hL, hnl⟩
  · intro b hb
    rw [List.mem_singleton.mp hb]
    exact none_of_new S.keep (new_none _ (Nat.le_refl _))
  · intro i h st b hb
    rcases List.mem_cons.mp hb with rfl | hb
    · obtain ⟨o, e, _⟩ := st.1; exact ⟨o, e⟩
    · rw [List.mem_singleton.mp hb]
      obtain ⟨o, e, _⟩ := st.2; exact ⟨o, e⟩
/-- a list just made, and not taken into the ledger -/
theorem iter_new {l : Addr} {vs : List Value} {h₀ : Heap} {m : Str → Option Value} {led : Led} {Q : Value → Shared → Prop} (hh : A.handled = none) (S : St g L m led h₀) (k : Sub h₀ s.heap) (hn : h₀.get? l = none) (hls : s.heap.IsList l vs.toArray)
    (h : ∀ it h', Sub s.heap h' → Iterates prog w A s.heap g L m led vs.length (fun i v => vs[i]? = some v) it { s with heap := h' } → Q it { s with heap := h' }) :
    wpAny (model prog w) A (pyIter (.ref l)) Q E s := by
  refine iter_free hh (S.grow k) hls ?_ ?_ h
  · intro q
    obtain ⟨o, _, _, e, _⟩ := S.ns
    rw [← q, hn] at e; cases e
  · intro q
    obtain ⟨p, hp, e⟩ := List.mem_map.mp q
    obtain ⟨o, e2⟩ := MO.At.obj (S.ats p hp)
    rw [e, hn] at e2; cases e2
set_option maxHeartbeats 1000000 in
theorem law_4 {c1 c2 c3 c4 c5 c6 c7 c8 ln hl : Addr} {led : Led} {ex : EX} {m : Str → Option Value} {out fs : List Value} {Q : Flow → Shared → Prop} (hA : AOk A 1) (G : Gl w mg mb g)
    (S : St g L m ((hl, .lst fs) :: (ln, .lsi out) :: led) s.heap) (hmn : m "numbers" = some (.ref ln)) (hvs : AllInt out) (hl5 : out.length = 5)
    (h : ∀ g' h' tk lr rs rows, Sub g g' → St g' L (set1 m (Str.ofString "rounds") (.ref lr)) led h' → g'.IsList hl fs.toArray → g'.IsList lr (List.toArray rs) → RowsAre g' rs rows → Six rows →
      wpAny (model prog w) A (execs (lawFrom 5) (mkEnv (fnScope 15) L (lawCs c1 c2 c3 c4 c5 c6 c7 c8) ex)) Q E { s with heap := h', toks := tk }) :
    wpAny (model prog w) A (execs (lawFrom 4) (mkEnv (fnScope 15) L (lawCs c1 c2 c3 c4 c5 c6 c7 c8) ex)) Q E s := by
  show wpAny (model prog w) A (execs (_ :: _) _) Q E s
  refine wpAny_execs_cons ?_
  have S' : St g L m (led ++ [(hl, .lst fs), (ln, .lsi out)]) s.heap := S.perm (List.perm_append_comm (l₁ := led) (l₂ := [(hl, .lst fs), (ln, .lsi out)]))
  obtain ⟨g₁, sub₁, S₁, hall, _⟩ := S'.freeze
  have hhl : g₁.IsList hl fs.toArray := (hall (hl, .lst fs) (.head _) : (MO.lst fs).At g₁ hl).isList
  have hln : g₁.IsList ln out.toArray := hall (ln, .lsi out) (.tail _ (.head _))
  have hA1 := hA
  refine comp_asg (g := g₁) (csc' := rel _ (fnScope 15)) (cl := []) rfl rfl (by decide +kernel) rfl (by decide +kernel) rfl rfl rfl rfl ?_
  refine sl_to ?_
  refine nm_loc S₁ rfl hmn ?_
  refine wpAny_Constant_int ?_
  refine ⟨ln, out, 4, _, rfl, rfl, hln.at fun o e => S₁.keep _ _ e, by omega, by rw [sizeLine_eq]; omega, ?_⟩
  intro h₂ D k₂ n₂ P₂
  refine iter_new hA.handled S₁ k₂ n₂ P₂.isList ?_
  intro it h₃ k₃ X₃
  refine ⟨_, _, _, _, _, fun i v os => ∃ r ws n, v = .ref r ∧ os = [(r, .lst ws)] ∧ IntsAre ws (figsTo n 6).1, ?_, X₃, ?_, ?_⟩
  · rw [List.length_take, sizeLine_eq]; omega
  · intro i v C g₂ m₂ h₄ tk₄ hi hv sub₂ hled S₄ hm₂
    have hvi := hvs v (List.mem_of_mem_take (List.mem_of_getElem? hv))
    obtain ⟨n, t, rfl⟩ := hvi
    refine Call_ ?_
    refine nm_f 12 (G.sub (sub₁.trans sub₂)) S₄ (by decide) rfl ?_
    intro f X
    refine callF X ?_
    refine args_cons ?_
    refine nm_loc S₄ rfl hm₂ ?_
    refine args_cons ?_
    refine wpAny_Constant_int ?_
    refine args_nil ?_
    refine ⟨S₄.keep, ?_⟩
    refine figures_call hA (G.sub ((sub₁.trans sub₂).trans S₄.keep)) (X.sub S₄.keep) ?_
    intro h₅ tk₅ l vs k₅ n₅ P₅ hI
    refine ⟨h₅, tk₅, [(l, .lst vs)], rfl, k₅, ⟨l, vs, n, rfl, rfl, hI⟩, fun p hp => ?_, by simp⟩
    rw [List.mem_singleton.mp hp]
    exact ⟨n₅, P₅⟩
  · intro D₂ h₄ tk₄ ys oss hys hoss hF S₄
    have S₅ : St g₁ L (set1 m (Str.ofString "rounds") (.ref D₂)) (led ++ ((D₂, .lst ys) :: oss.flatten)) h₄ := S₄.perm (List.perm_append_comm (l₁ := led) (l₂ := (D₂, .lst ys) :: oss.flatten))
    obtain ⟨g₂, sub₂, S₆, hall₂, _⟩ := S₅.freeze
    have h4 : (out.take 4).length = 4 := by rw [List.length_take]; omega
    have key : ∀ (ys : List Value) (oss : List Led), ys.length = oss.length → (∀ (i : Nat) y os, ys[i]? = some y → oss[i]? = some os → ∃ r ws n, y = Value.ref r ∧ os = [(r, MO.lst ws)] ∧ IntsAre ws (figsTo n 6).1) → (∀ p ∈ oss.flatten, p.2.At g₂ p.1) →
        ∃ rows, RowsAre g₂ ys rows ∧ rows.length = ys.length ∧ ∀ r ∈ rows, r.length = 6 ∧ ∀ f ∈ r, 0 ≤ f ∧ f < 9 := by
      intro ys
      induction ys with
      | nil => exact fun _ _ _ _ => ⟨[], .nil, rfl, fun _ h => nomatch h⟩
      | cons y ys ih =>
        intro oss hl hF hat
        cases oss with
        | nil => simp at hl
        | cons os oss =>
          obtain ⟨r, ws, n, rfl, rfl, hI⟩ := hF 0 y os rfl rfl
          obtain ⟨rows, a1, a2, a3⟩ := ih oss (by simpa using hl) (fun i y os e1 e2 => hF (i + 1) y os (by simpa using e1) (by simpa using e2)) (fun p hp => hat p (by rw [List.flatten_cons]; exact List.mem_append_right _ hp))
          refine ⟨(figsTo n 6).1 :: rows, .cons ((hat (r, .lst ws) (by rw [List.flatten_cons]; exact List.mem_append_left _ (.head _)) : (MO.lst ws).At g₂ r).isList) hI a1, by simp [a2], fun q hq => ?_⟩
          rcases List.mem_cons.mp hq with rfl | hq
          · exact ⟨figsTo_length n 6, figs_bound n 6⟩
          · exact a3 q hq
    obtain ⟨rows, a1, a2, a3⟩ := key ys oss (by rw [hys, hoss]) hF (fun p hp => hall₂ p (.tail _ hp))
    exact h g₂ h₄ tk₄ D₂ ys rows (sub₁.trans sub₂) S₆ (hhl.at fun o e => sub₂ _ _ e) ((hall₂ (D₂, .lst ys) (.head _) : (MO.lst ys).At g₂ D₂).isList) a1 ⟨by rw [a2, hys, h4], a3⟩
end
end Mine
set_option maxRecDepth 100000
namespace Mine
open PySem PySem.Calls PyProof.Rows
theorem rows_of {g₂ : Heap} {fn : List Int → List Int} : ∀ (rows : List (List Int)) (ys : List Value) (oss : List Led), ys.length = rows.length → ys.length = oss.length →
    (∀ (i : Nat) y os, ys[i]? = some y → oss[i]? = some os → ∃ r ws ns, y = Value.ref r ∧ os = [(r, MO.lst ws)] ∧ rows[i]? = some ns ∧ IntsAre ws (fn ns)) → (∀ p ∈ oss.flatten, p.2.At g₂ p.1) → RowsAre g₂ ys (rows.map fn)
  | [], [], _, _, _, _, _ => .nil
  | r :: rows, y :: ys, [], _, hl, _, _ => by simp at hl
  | r :: rows, y :: ys, os :: oss, hl, hl2, hF, hat => by
    obtain ⟨a, ws, ns, rfl, rfl, e, hI⟩ := hF 0 y os rfl rfl
    cases e
    exact .cons ((hat (a, .lst ws) (by rw [List.flatten_cons]; exact List.mem_append_left _ (.head _)) : (MO.lst ws).At g₂ a).isList) hI
      (rows_of rows ys oss (by simpa using hl) (by simpa using hl2) (fun i y os e1 e2 => hF (i + 1) y os (by simpa using e1) (by simpa using e2)) (fun p hp => hat p (by rw [List.flatten_cons]; exact List.mem_append_right _ hp)))
  | [], _ :: _, _, hl, _, _, _ => by simp at hl
  | _ :: _, [], _, hl, _, _, _ => by simp at hl
section
variable {prog : Program} {w : World} {A : Around} {E : Value → Shared → Prop} {s : Shared} {mg mb : Str → Option Value} {g : Heap} {L : Addr}

set_option maxHeartbeats 1000000 in
theorem law_5 {c1 c2 c3 c4 c5 c6 c7 c8 lr : Addr} {v1 v2 v3 v4 v5 v6 v7 v8 : Option Value} {ex : EX} {m : Str → Option Value} {rs : List Value} {rows : List (List Int)} {Q : Flow → Shared → Prop} (hA : AOk A 1) (G : Gl w mg mb g)
    (S : St g L m [(c1, .cel v1), (c2, .cel v2), (c3, .cel v3), (c4, .cel v4), (c5, .cel v5), (c6, .cel v6), (c7, .cel v7), (c8, .cel v8)] s.heap) (hmr : m "rounds" = some (.ref lr)) (hlr : g.IsList lr rs.toArray) (hrs : RowsAre g rs rows) (h6 : Six rows)
    (h : ∀ g' h' tk l vs, Sub g g' → St g' L m ([(c1, .cel v1), (c2, .cel v2), (c3, .cel v3), (c4, .cel v4), (c5, .cel v5), (c6, .cel v6), (c7, .cel v7), (c8, .cel v8)].set 7 (c8, .cel (some (.ref l)))) h' → g'.IsList l (List.toArray vs) → StrsAre vs ((rows.map (List.take 3)).map (rowText 5)) →
      wpAny (model prog w) A (execs (lawFrom 6) (mkEnv (fnScope 15) L (lawCs c1 c2 c3 c4 c5 c6 c7 c8) ex)) Q E { s with heap := h', toks := tk }) :
    wpAny (model prog w) A (execs (lawFrom 5) (mkEnv (fnScope 15) L (lawCs c1 c2 c3 c4 c5 c6 c7 c8) ex)) Q E s := by
  show wpAny (model prog w) A (execs (_ :: _) _) Q E s
  refine wpAny_execs_cons ?_
  refine as_loc ?_
  refine Call_ ?_
  refine nm_f 13 G S (by decide) rfl ?_
  intro f X
  refine callF X ?_
  refine args_cons ?_
  refine comp_val (g := g) (csc' := rel _ (fnScope 15)) (cl := []) rfl (by decide +kernel) rfl (by decide +kernel) rfl rfl ?_
  refine nm_loc S rfl hmr ?_
  refine iter_list hA.handled S hlr ?_
  intro it h₁ k₁ X₁
  refine ⟨_, _, _, _, _, fun i v os => ∃ r ws ns, v = .ref r ∧ os = [(r, .lst ws)] ∧ rows[i]? = some ns ∧ IntsAre ws (ns.take 3), ?_, X₁, ?_, ?_⟩
  · rw [hrs.length, h6.1, sizeLine_eq]; omega
  · intro i v C g₂ m₂ h₄ tk₄ hi hv sub₂ hled S₄ hm₂
    have hr := hrs.at hv
    obtain ⟨r, ws, ns, rfl, hrl, hws, hrn⟩ := hr
    have h6n := h6.2 ns (List.mem_of_getElem? hrn)
    have hwl : ws.length = 6 := by rw [hws.length]; exact h6n.1
    refine sl_to ?_
    refine nm_loc S₄ rfl hm₂ ?_
    refine wpAny_Constant_int ?_
    refine ⟨r, ws, 3, _, rfl, rfl, hrl.at fun o e => S₄.keep _ _ (sub₂ _ _ e), by omega, by rw [sizeLine_eq]; omega, ?_⟩
    intro h₅ D k₅ n₅ P₅
    refine ⟨h₅, _, [(D, .lst (ws.take 3))], rfl, k₅, ⟨D, _, ns, rfl, rfl, hrn, hws.take 3⟩, fun p hp => ?_, by simp⟩
    rw [List.mem_singleton.mp hp]
    exact ⟨n₅, P₅⟩
  intro D h₂ tk₂ ys oss hys hoss hF S₂ k₂
  refine args_cons ?_
  refine wpAny_Constant_int ?_
  refine args_nil ?_
  refine ⟨S₂.keep, ?_⟩
  have hR : RowsAre h₂ ys (rows.map (List.take 3)) := rows_of rows ys oss (by rw [hys, hrs.length]) (by rw [hys, hoss]) hF fun p hp => S₂.ats p (.tail _ (List.mem_append_left _ hp))
  refine texts_call (wh := 5) hA (G.sub S₂.keep) (X.sub S₂.keep) (S₂.at (x := .lst ys) (.head _)).isList hR ?_ ?_ ?_ ?_
  · intro q hq
    obtain ⟨r, hr, rfl⟩ := List.mem_map.mp hq
    have := h6.2 r hr
    refine ⟨by rw [List.length_take]; omega, fun f hf => this.2 f (List.mem_of_mem_take hf)⟩
  · rw [List.length_map, h6.1]; decide
  · omega
  intro h₃ tk₃ l out k₃ n₃ P₃ hSt
  have S₃ := S₂.add (x := .lst out) k₃ n₃ P₃
  have S₄ := S₃.sublist (led' := [(l, MO.lst out), (c1, .cel v1), (c2, .cel v2), (c3, .cel v3), (c4, .cel v4), (c5, .cel v5), (c6, .cel v6), (c7, .cel v7), (c8, .cel v8)]) (.cons_cons _ (.cons _ (List.sublist_append_right _ _)))
  refine st_cel 8 S₄ rfl rfl rfl ?_
  intro h₅ S₅
  have S₆ := S₅.perm (List.perm_append_comm (l₁ := [(c1, MO.cel v1), (c2, .cel v2), (c3, .cel v3), (c4, .cel v4), (c5, .cel v5), (c6, .cel v6), (c7, .cel v7), (c8, .cel v8)].set 7 (c8, .cel (some (.ref l)))) (l₂ := [(l, MO.lst out)]))
  obtain ⟨g₂, sub₂, S₇, hall, _⟩ := S₆.freeze
  exact h g₂ h₅ _ l out sub₂ S₇ ((hall (l, .lst out) (.head _) : (MO.lst out).At g₂ l).isList) hSt

set_option maxHeartbeats 1000000 in
theorem law_6 {c1 c2 c3 c4 c5 c6 c7 c8 lr : Addr} {v1 v2 v3 v4 v5 v6 v7 v8 : Option Value} {ex : EX} {m : Str → Option Value} {rs : List Value} {rows : List (List Int)} {Q : Flow → Shared → Prop} (hA : AOk A 1) (G : Gl w mg mb g)
    (S : St g L m [(c1, .cel v1), (c2, .cel v2), (c3, .cel v3), (c4, .cel v4), (c5, .cel v5), (c6, .cel v6), (c7, .cel v7), (c8, .cel v8)] s.heap) (hmr : m "rounds" = some (.ref lr)) (hlr : g.IsList lr rs.toArray) (hrs : RowsAre g rs rows) (h6 : Six rows)
    (h : ∀ g' h' tk l vs, Sub g g' → St g' L m ([(c1, .cel v1), (c2, .cel v2), (c3, .cel v3), (c4, .cel v4), (c5, .cel v5), (c6, .cel v6), (c7, .cel v7), (c8, .cel v8)].set 6 (c7, .cel (some (.ref l)))) h' → g'.IsList l (List.toArray vs) → StrsAre vs ((rows.map (List.drop 3)).map (rowText 5)) →
      wpAny (model prog w) A (execs (lawFrom 7) (mkEnv (fnScope 15) L (lawCs c1 c2 c3 c4 c5 c6 c7 c8) ex)) Q E { s with heap := h', toks := tk }) :
    wpAny (model prog w) A (execs (lawFrom 6) (mkEnv (fnScope 15) L (lawCs c1 c2 c3 c4 c5 c6 c7 c8) ex)) Q E s := by
  show wpAny (model prog w) A (execs (_ :: _) _) Q E s
  refine wpAny_execs_cons ?_
  refine as_loc ?_
  refine Call_ ?_
  refine nm_f 13 G S (by decide) rfl ?_
  intro f X
  refine callF X ?_
  refine args_cons ?_
  refine comp_val (g := g) (csc' := rel _ (fnScope 15)) (cl := []) rfl (by decide +kernel) rfl (by decide +kernel) rfl rfl ?_
  refine nm_loc S rfl hmr ?_
  refine iter_list hA.handled S hlr ?_
  intro it h₁ k₁ X₁
  refine ⟨_, _, _, _, _, fun i v os => ∃ r ws ns, v = .ref r ∧ os = [(r, .lst ws)] ∧ rows[i]? = some ns ∧ IntsAre ws (ns.drop 3), ?_, X₁, ?_, ?_⟩
  · rw [hrs.length, h6.1, sizeLine_eq]; omega
  · intro i v C g₂ m₂ h₄ tk₄ hi hv sub₂ hled S₄ hm₂
    have hr := hrs.at hv
    obtain ⟨r, ws, ns, rfl, hrl, hws, hrn⟩ := hr
    have h6n := h6.2 ns (List.mem_of_getElem? hrn)
    have hwl : ws.length = 6 := by rw [hws.length]; exact h6n.1
    refine sl_from ?_
    refine nm_loc S₄ rfl hm₂ ?_
    refine wpAny_Constant_int ?_
    refine ⟨r, ws, 3, _, rfl, rfl, hrl.at fun o e => S₄.keep _ _ (sub₂ _ _ e), by omega, by rw [sizeLine_eq]; omega, ?_⟩
    intro h₅ D k₅ n₅ P₅
    refine ⟨h₅, _, [(D, .lst (ws.drop 3))], rfl, k₅, ⟨D, _, ns, rfl, rfl, hrn, hws.drop 3⟩, fun p hp => ?_, by simp⟩
    rw [List.mem_singleton.mp hp]
    exact ⟨n₅, P₅⟩
  intro D h₂ tk₂ ys oss hys hoss hF S₂ k₂
  refine args_cons ?_
  refine wpAny_Constant_int ?_
  refine args_nil ?_
  refine ⟨S₂.keep, ?_⟩
  have hR : RowsAre h₂ ys (rows.map (List.drop 3)) := rows_of rows ys oss (by rw [hys, hrs.length]) (by rw [hys, hoss]) hF fun p hp => S₂.ats p (.tail _ (List.mem_append_left _ hp))
  refine texts_call (wh := 5) hA (G.sub S₂.keep) (X.sub S₂.keep) (S₂.at (x := .lst ys) (.head _)).isList hR ?_ ?_ ?_ ?_
  · intro q hq
    obtain ⟨r, hr, rfl⟩ := List.mem_map.mp hq
    have := h6.2 r hr
    refine ⟨by rw [List.length_drop]; omega, fun f hf => this.2 f (List.mem_of_mem_drop hf)⟩
  · rw [List.length_map, h6.1]; decide
  · omega
  intro h₃ tk₃ l out k₃ n₃ P₃ hSt
  have S₃ := S₂.add (x := .lst out) k₃ n₃ P₃
  have S₄ := S₃.sublist (led' := [(l, MO.lst out), (c1, .cel v1), (c2, .cel v2), (c3, .cel v3), (c4, .cel v4), (c5, .cel v5), (c6, .cel v6), (c7, .cel v7), (c8, .cel v8)]) (.cons_cons _ (.cons _ (List.sublist_append_right _ _)))
  refine st_cel 7 S₄ rfl rfl rfl ?_
  intro h₅ S₅
  have S₆ := S₅.perm (List.perm_append_comm (l₁ := [(c1, MO.cel v1), (c2, .cel v2), (c3, .cel v3), (c4, .cel v4), (c5, .cel v5), (c6, .cel v6), (c7, .cel v7), (c8, .cel v8)].set 6 (c7, .cel (some (.ref l)))) (l₂ := [(l, MO.lst out)]))
  obtain ⟨g₂, sub₂, S₇, hall, _⟩ := S₆.freeze
  exact h g₂ h₅ _ l out sub₂ S₇ ((hall (l, .lst out) (.head _) : (MO.lst out).At g₂ l).isList) hSt

set_option maxHeartbeats 1000000 in
theorem law_7 {c1 c2 c3 c4 c5 c6 c7 c8 lr : Addr} {v1 v2 v3 v4 v5 v6 v7 v8 : Option Value} {ex : EX} {m : Str → Option Value} {rs : List Value} {rows : List (List Int)} {one : Nat} {tw : Tok} {Q : Flow → Shared → Prop} (hA : AOk A 1) (G : Gl w mg mb g)
    (S : St g L m [(c1, .cel v1), (c2, .cel v2), (c3, .cel v3), (c4, .cel v4), (c5, .cel v5), (c6, .cel v6), (c7, .cel v7), (c8, .cel v8)] s.heap) (hmr : m "rounds" = some (.ref lr)) (hlr : g.IsList lr rs.toArray) (hrs : RowsAre g rs rows) (h6 : Six rows) (hmw : m "one" = some (.int one tw)) (hwh : one < 5)
    (h : ∀ g' h' tk l vs, Sub g g' → St g' L m ([(c1, .cel v1), (c2, .cel v2), (c3, .cel v3), (c4, .cel v4), (c5, .cel v5), (c6, .cel v6), (c7, .cel v7), (c8, .cel v8)].set 5 (c6, .cel (some (.ref l)))) h' → g'.IsList l (List.toArray vs) → StrsAre vs ((rows.map (List.take 3)).map (rowText one)) →
      wpAny (model prog w) A (execs (lawFrom 8) (mkEnv (fnScope 15) L (lawCs c1 c2 c3 c4 c5 c6 c7 c8) ex)) Q E { s with heap := h', toks := tk }) :
    wpAny (model prog w) A (execs (lawFrom 7) (mkEnv (fnScope 15) L (lawCs c1 c2 c3 c4 c5 c6 c7 c8) ex)) Q E s := by
  show wpAny (model prog w) A (execs (_ :: _) _) Q E s
  refine wpAny_execs_cons ?_
  refine as_loc ?_
  refine Call_ ?_
  refine nm_f 13 G S (by decide) rfl ?_
  intro f X
  refine callF X ?_
  refine args_cons ?_
  refine comp_val (g := g) (csc' := rel _ (fnScope 15)) (cl := []) rfl (by decide +kernel) rfl (by decide +kernel) rfl rfl ?_
  refine nm_loc S rfl hmr ?_
  refine iter_list hA.handled S hlr ?_
  intro it h₁ k₁ X₁
  refine ⟨_, _, _, _, _, fun i v os => ∃ r ws ns, v = .ref r ∧ os = [(r, .lst ws)] ∧ rows[i]? = some ns ∧ IntsAre ws (ns.take 3), ?_, X₁, ?_, ?_⟩
  · rw [hrs.length, h6.1, sizeLine_eq]; omega
  · intro i v C g₂ m₂ h₄ tk₄ hi hv sub₂ hled S₄ hm₂
    have hr := hrs.at hv
    obtain ⟨r, ws, ns, rfl, hrl, hws, hrn⟩ := hr
    have h6n := h6.2 ns (List.mem_of_getElem? hrn)
    have hwl : ws.length = 6 := by rw [hws.length]; exact h6n.1
    refine sl_to ?_
    refine nm_loc S₄ rfl hm₂ ?_
    refine wpAny_Constant_int ?_
    refine ⟨r, ws, 3, _, rfl, rfl, hrl.at fun o e => S₄.keep _ _ (sub₂ _ _ e), by omega, by rw [sizeLine_eq]; omega, ?_⟩
    intro h₅ D k₅ n₅ P₅
    refine ⟨h₅, _, [(D, .lst (ws.take 3))], rfl, k₅, ⟨D, _, ns, rfl, rfl, hrn, hws.take 3⟩, fun p hp => ?_, by simp⟩
    rw [List.mem_singleton.mp hp]
    exact ⟨n₅, P₅⟩
  intro D h₂ tk₂ ys oss hys hoss hF S₂ k₂
  refine args_cons ?_
  refine nm_loc S₂ rfl hmw ?_
  refine args_nil ?_
  refine ⟨S₂.keep, ?_⟩
  have hR : RowsAre h₂ ys (rows.map (List.take 3)) := rows_of rows ys oss (by rw [hys, hrs.length]) (by rw [hys, hoss]) hF fun p hp => S₂.ats p (.tail _ (List.mem_append_left _ hp))
  refine texts_call (wh := one) hA (G.sub S₂.keep) (X.sub S₂.keep) (S₂.at (x := .lst ys) (.head _)).isList hR ?_ ?_ ?_ ?_
  · intro q hq
    obtain ⟨r, hr, rfl⟩ := List.mem_map.mp hq
    have := h6.2 r hr
    refine ⟨by rw [List.length_take]; omega, fun f hf => this.2 f (List.mem_of_mem_take hf)⟩
  · rw [List.length_map, h6.1]; decide
  · omega
  intro h₃ tk₃ l out k₃ n₃ P₃ hSt
  have S₃ := S₂.add (x := .lst out) k₃ n₃ P₃
  have S₄ := S₃.sublist (led' := [(l, MO.lst out), (c1, .cel v1), (c2, .cel v2), (c3, .cel v3), (c4, .cel v4), (c5, .cel v5), (c6, .cel v6), (c7, .cel v7), (c8, .cel v8)]) (.cons_cons _ (.cons _ (List.sublist_append_right _ _)))
  refine st_cel 6 S₄ rfl rfl rfl ?_
  intro h₅ S₅
  have S₆ := S₅.perm (List.perm_append_comm (l₁ := [(c1, MO.cel v1), (c2, .cel v2), (c3, .cel v3), (c4, .cel v4), (c5, .cel v5), (c6, .cel v6), (c7, .cel v7), (c8, .cel v8)].set 5 (c6, .cel (some (.ref l)))) (l₂ := [(l, MO.lst out)]))
  obtain ⟨g₂, sub₂, S₇, hall, _⟩ := S₆.freeze
  exact h g₂ h₅ _ l out sub₂ S₇ ((hall (l, .lst out) (.head _) : (MO.lst out).At g₂ l).isList) hSt

set_option maxHeartbeats 1000000 in
theorem law_8 {c1 c2 c3 c4 c5 c6 c7 c8 lr : Addr} {v1 v2 v3 v4 v5 v6 v7 v8 : Option Value} {ex : EX} {m : Str → Option Value} {rs : List Value} {rows : List (List Int)} {other : Nat} {tw : Tok} {Q : Flow → Shared → Prop} (hA : AOk A 1) (G : Gl w mg mb g)
    (S : St g L m [(c1, .cel v1), (c2, .cel v2), (c3, .cel v3), (c4, .cel v4), (c5, .cel v5), (c6, .cel v6), (c7, .cel v7), (c8, .cel v8)] s.heap) (hmr : m "rounds" = some (.ref lr)) (hlr : g.IsList lr rs.toArray) (hrs : RowsAre g rs rows) (h6 : Six rows) (hmw : m "other" = some (.int other tw)) (hwh : other < 5)
    (h : ∀ g' h' tk l vs, Sub g g' → St g' L m ([(c1, .cel v1), (c2, .cel v2), (c3, .cel v3), (c4, .cel v4), (c5, .cel v5), (c6, .cel v6), (c7, .cel v7), (c8, .cel v8)].set 4 (c5, .cel (some (.ref l)))) h' → g'.IsList l (List.toArray vs) → StrsAre vs ((rows.map (List.drop 3)).map (rowText other)) →
      wpAny (model prog w) A (execs (lawFrom 9) (mkEnv (fnScope 15) L (lawCs c1 c2 c3 c4 c5 c6 c7 c8) ex)) Q E { s with heap := h', toks := tk }) :
    wpAny (model prog w) A (execs (lawFrom 8) (mkEnv (fnScope 15) L (lawCs c1 c2 c3 c4 c5 c6 c7 c8) ex)) Q E s := by
  show wpAny (model prog w) A (execs (_ :: _) _) Q E s
  refine wpAny_execs_cons ?_
  refine as_loc ?_
  refine Call_ ?_
  refine nm_f 13 G S (by decide) rfl ?_
  intro f X
  refine callF X ?_
  refine args_cons ?_
  refine comp_val (g := g) (csc' := rel _ (fnScope 15)) (cl := []) rfl (by decide +kernel) rfl (by decide +kernel) rfl rfl ?_
  refine nm_loc S rfl hmr ?_
  refine iter_list hA.handled S hlr ?_
  intro it h₁ k₁ X₁
  refine ⟨_, _, _, _, _, fun i v os => ∃ r ws ns, v = .ref r ∧ os = [(r, .lst ws)] ∧ rows[i]? = some ns ∧ IntsAre ws (ns.drop 3), ?_, X₁, ?_, ?_⟩
  · rw [hrs.length, h6.1, sizeLine_eq]; omega
  · intro i v C g₂ m₂ h₄ tk₄ hi hv sub₂ hled S₄ hm₂
    have hr := hrs.at hv
    obtain ⟨r, ws, ns, rfl, hrl, hws, hrn⟩ := hr
    have h6n := h6.2 ns (List.mem_of_getElem? hrn)
    have hwl : ws.length = 6 := by rw [hws.length]; exact h6n.1
    refine sl_from ?_
    refine nm_loc S₄ rfl hm₂ ?_
    refine wpAny_Constant_int ?_
    refine ⟨r, ws, 3, _, rfl, rfl, hrl.at fun o e => S₄.keep _ _ (sub₂ _ _ e), by omega, by rw [sizeLine_eq]; omega, ?_⟩
    intro h₅ D k₅ n₅ P₅
    refine ⟨h₅, _, [(D, .lst (ws.drop 3))], rfl, k₅, ⟨D, _, ns, rfl, rfl, hrn, hws.drop 3⟩, fun p hp => ?_, by simp⟩
    rw [List.mem_singleton.mp hp]
    exact ⟨n₅, P₅⟩
  intro D h₂ tk₂ ys oss hys hoss hF S₂ k₂
  refine args_cons ?_
  refine nm_loc S₂ rfl hmw ?_
  refine args_nil ?_
  refine ⟨S₂.keep, ?_⟩
  have hR : RowsAre h₂ ys (rows.map (List.drop 3)) := rows_of rows ys oss (by rw [hys, hrs.length]) (by rw [hys, hoss]) hF fun p hp => S₂.ats p (.tail _ (List.mem_append_left _ hp))
  refine texts_call (wh := other) hA (G.sub S₂.keep) (X.sub S₂.keep) (S₂.at (x := .lst ys) (.head _)).isList hR ?_ ?_ ?_ ?_
  · intro q hq
    obtain ⟨r, hr, rfl⟩ := List.mem_map.mp hq
    have := h6.2 r hr
    refine ⟨by rw [List.length_drop]; omega, fun f hf => this.2 f (List.mem_of_mem_drop hf)⟩
  · rw [List.length_map, h6.1]; decide
  · omega
  intro h₃ tk₃ l out k₃ n₃ P₃ hSt
  have S₃ := S₂.add (x := .lst out) k₃ n₃ P₃
  have S₄ := S₃.sublist (led' := [(l, MO.lst out), (c1, .cel v1), (c2, .cel v2), (c3, .cel v3), (c4, .cel v4), (c5, .cel v5), (c6, .cel v6), (c7, .cel v7), (c8, .cel v8)]) (.cons_cons _ (.cons _ (List.sublist_append_right _ _)))
  refine st_cel 5 S₄ rfl rfl rfl ?_
  intro h₅ S₅
  have S₆ := S₅.perm (List.perm_append_comm (l₁ := [(c1, MO.cel v1), (c2, .cel v2), (c3, .cel v3), (c4, .cel v4), (c5, .cel v5), (c6, .cel v6), (c7, .cel v7), (c8, .cel v8)].set 4 (c5, .cel (some (.ref l)))) (l₂ := [(l, MO.lst out)]))
  obtain ⟨g₂, sub₂, S₇, hall, _⟩ := S₆.freeze
  exact h g₂ h₅ _ l out sub₂ S₇ ((hall (l, .lst out) (.head _) : (MO.lst out).At g₂ l).isList) hSt
end
end Mine
set_option maxRecDepth 100000
namespace Mine
open PySem PySem.Calls PyProof.Rows
section
variable {prog : Program} {w : World} {A : Around} {E : Value → Shared → Prop} {s : Shared} {mg mb : Str → Option Value} {g : Heap} {L : Addr}
set_option maxHeartbeats 1000000 in
theorem law_9 {c1 c2 c3 c4 c5 c6 c7 c8 : Addr} {v1 v2 v3 v4 v5 v6 v7 v8 : Option Value} {ex : EX} {m : Str → Option Value} {Q : Flow → Shared → Prop}
    (S : St g L m [(c1, .cel v1), (c2, .cel v2), (c3, .cel v3), (c4, .cel v4), (c5, .cel v5), (c6, .cel v6), (c7, .cel v7), (c8, .cel v8)] s.heap)
    (h : ∀ g' h' tk lt ld lq, Sub g g' → St g' L (set1 m (Str.ofString "told") (.ref lt)) [(c1, .cel v1), (c2, .cel v2), (c3, .cel (some (.ref lq))), (c4, .cel (some (.ref ld))), (lt, .lst []), (ld, .lst []), (lq, .lst [])] h' →
      g'.IsCell c5 v5 → g'.IsCell c6 v6 → g'.IsCell c7 v7 → g'.IsCell c8 v8 →
      wpAny (model prog w) A (execs (lawFrom 12) (mkEnv (fnScope 15) L (lawCs c1 c2 c3 c4 c5 c6 c7 c8) ex)) Q E { s with heap := h', toks := tk }) :
    wpAny (model prog w) A (execs (lawFrom 9) (mkEnv (fnScope 15) L (lawCs c1 c2 c3 c4 c5 c6 c7 c8) ex)) Q E s := by
  show wpAny (model prog w) A (execs (_ :: _) _) Q E s
  refine wpAny_execs_cons ?_
  refine as_loc ?_
  refine List_ ?_
  refine args_nil ?_
  refine new_list S ?_ (by rw [sizeLine_eq]; exact Nat.zero_le _)
  intro h₁ lt S₁ _ _
  refine st_loc S₁ rfl ?_
  intro h₂ S₂
  refine wpAny_execs_cons ?_
  refine as_loc ?_
  refine List_ ?_
  refine args_nil ?_
  refine new_list S₂ ?_ (by rw [sizeLine_eq]; exact Nat.zero_le _)
  intro h₃ ld S₃ _ _
  refine st_cel 5 S₃ rfl rfl rfl ?_
  intro h₄ S₄
  refine wpAny_execs_cons ?_
  refine as_loc ?_
  refine List_ ?_
  refine args_nil ?_
  refine new_list S₄ ?_ (by rw [sizeLine_eq]; exact Nat.zero_le _)
  intro h₅ lq S₅ _ _
  refine st_cel 5 S₅ rfl rfl rfl ?_
  intro h₆ S₆
  have S₇ : St g L (set1 m (Str.ofString "told") (.ref lt)) ([(c1, .cel v1), (c2, .cel v2), (c3, .cel (some (.ref lq))), (c4, .cel (some (.ref ld))), (lt, .lst []), (ld, .lst []), (lq, .lst [])] ++ [(c5, .cel v5), (c6, .cel v6), (c7, .cel v7), (c8, .cel v8)]) h₆ := by
    refine S₆.perm ?_
    have p1 := List.perm_append_comm (l₁ := [(c1, MO.cel v1), (c2, .cel v2), (c3, .cel (some (.ref lq))), (c4, .cel (some (.ref ld)))]) (l₂ := [(lt, MO.lst []), (ld, .lst []), (lq, .lst [])])
    have p2 := p1.append_right [(c5, MO.cel v5), (c6, .cel v6), (c7, .cel v7), (c8, .cel v8)]
    refine p2.trans ?_
    have p3 : [(lt, MO.lst []), (ld, .lst []), (lq, .lst [])].Perm [(lq, MO.lst []), (ld, .lst []), (lt, .lst [])] := by
      have := List.reverse_perm [(lq, MO.lst []), (ld, .lst []), (lt, .lst [])]
      exact this
    exact p3.append_right _
  obtain ⟨g₂, sub₂, S₈, hall, _⟩ := S₇.freeze
  exact h g₂ h₆ _ lt ld lq sub₂ S₈ (hall _ (.head _)) (hall _ (.tail _ (.head _))) (hall _ (.tail _ (.tail _ (.head _)))) (hall _ (.tail _ (.tail _ (.tail _ (.head _)))))
end
end Mine
set_option maxRecDepth 100000
namespace Mine
open PySem PySem.Calls PyProof.Rows
theorem txt_join (x : Str) (ps : List Str) : Txt.join x ps = Str.join x ps := by
  exact PySem.StrLaws.glued_eq_join x ps
theorem sg_esc : ∀ wh ∈ List.range 5, ∀ f ∈ List.range 9, cp (sg wh f) = (cp (sg 5 f)).flatMap (escOf wh) := by decide +kernel
theorem sg_sig : ∀ f ∈ List.range 9, ∀ c ∈ cp (sg 5 f), c ∈ sigma ∧ c ≠ 124 := by decide +kernel
theorem sg_bar : ∀ wh ∈ List.range 6, ∀ f ∈ List.range 9, 124 ∉ cp (sg wh f) := by decide +kernel
theorem esc_bar : ∀ wh ∈ List.range 5, escOf wh 124 = [124] := by decide +kernel
def Figs (r : List Int) : Prop := ∀ f ∈ r, 0 ≤ f ∧ f < 9
theorem cp_row (w : Nat) (r : List Int) : cp (rowText w r) = (r.map fun f => cp (sg w f)).flatten := by
  unfold rowText
  rw [txt_join, cp_join0, List.map_map]; rfl
theorem fig_nat {f : Int} (h : 0 ≤ f ∧ f < 9) : ∃ k ∈ List.range 9, f = ((k : Nat) : Int) := ⟨f.toNat, List.mem_range.mpr (by omega), by omega⟩
theorem row_esc {wh : Nat} (hw : wh < 5) : ∀ r : List Int, Figs r → cp (rowText wh r) = (cp (rowText 5 r)).flatMap (escOf wh) := by
  intro r hr
  rw [cp_row, cp_row]
  induction r with
  | nil => rfl
  | cons f r ih =>
    obtain ⟨k, hk, rfl⟩ := fig_nat (hr f (.head _))
    rw [List.map_cons, List.map_cons, List.flatten_cons, List.flatten_cons, List.flatMap_append, ih fun f hf => hr f (.tail _ hf), sg_esc wh (List.mem_range.mpr hw) k hk]
theorem row_sig : ∀ r : List Int, Figs r → ∀ c ∈ cp (rowText 5 r), c ∈ sigma := by
  intro r hr c hc
  rw [cp_row] at hc
  obtain ⟨l, hl, hc⟩ := List.mem_flatten.mp hc
  obtain ⟨f, hf, rfl⟩ := List.mem_map.mp hl
  obtain ⟨k, hk, rfl⟩ := fig_nat (hr f hf)
  exact (sg_sig k hk c hc).1
theorem row_bar {wh : Nat} (hw : wh < 6) : ∀ r : List Int, Figs r → 124 ∉ cp (rowText wh r) := by
  intro r hr hc
  rw [cp_row] at hc
  obtain ⟨l, hl, hc⟩ := List.mem_flatten.mp hc
  obtain ⟨f, hf, rfl⟩ := List.mem_map.mp hl
  obtain ⟨k, hk, rfl⟩ := fig_nat (hr f hf)
  exact sg_bar wh (List.mem_range.mpr hw) k hk hc
theorem join_esc {wh : Nat} (hw : wh < 5) : ∀ ps : List (List Nat), (joinL 124 ps).flatMap (escOf wh) = joinL 124 (ps.map fun p => p.flatMap (escOf wh))
  | [] => rfl
  | [p] => rfl
  | p :: q :: r => by
    have ih := join_esc hw (q :: r)
    show (p ++ 124 :: joinL 124 (q :: r)).flatMap (escOf wh) = p.flatMap (escOf wh) ++ 124 :: joinL 124 ((q :: r).map fun p => p.flatMap (escOf wh))
    rw [List.flatMap_append, List.flatMap_cons, esc_bar wh (List.mem_range.mpr hw), ih]; rfl
theorem row_len (wh : Nat) (hw : wh < 6) (r : List Int) : (cp (rowText wh r)).length ≤ r.length * 8 := by
  rw [cp_row]
  induction r with
  | nil => exact Nat.le_refl _
  | cons f r ih =>
    rw [List.map_cons, List.flatten_cons, List.length_append, List.length_cons]
    have := sg_le hw f
    rw [← cp_length] at this
    omega
end Mine
set_option maxRecDepth 100000
namespace Mine
open PySem PySem.Calls PyProof.Rows
/-- the loop's body in law, from its statement n on -/
def lawTurn (n : Nat) : List Stmt := (forBody ((fnBodyU 15).getD 12 (.Pass default))).drop n
def joinE (j : Nat) : Expr := match (lawTurn 0)[j]? with
  | some (.Assign _ (.Call _ (a :: _) _ _) _) => a
  | some (.If (.Compare _ _ (r :: _) _) _ _ _) => r
  | _ => .Constant .none 0 default
section
variable {prog : Program} {w : World} {A : Around} {E : Value → Shared → Prop} {s : Shared} {mg mb : Str → Option Value} {g : Heap} {L : Addr}
theorem sum_le {B : Nat} : ∀ {l : List Str}, (∀ t ∈ l, t.length ≤ B) → (l.map (·.length)).sum ≤ l.length * B
  | [], _ => Nat.zero_le _
  | t :: l, h => by
    have := h t (.head _)
    have ih := sum_le (l := l) fun t ht => h t (.tail _ ht)
    rw [List.map_cons, List.sum_cons, List.length_cons]
    rw [Nat.succ_mul]; omega

set_option maxHeartbeats 1000000 in
theorem join_0 {c1 c2 c3 c4 c5 c6 c7 c8 lo la : Addr} {led : Led} {ex : EX} {m : Str → Option Value} {ws vs : List Value} {o : List Int} {txts : List Str} {Q : Value → Shared → Prop} (hA : AOk A 1)
    (S : St g L m led s.heap) (hmt : m "turns" = some (.ref lo)) (hlo : g.IsList lo ws.toArray) (hws : IntsAre ws o) (ho : ∀ i ∈ o, 0 ≤ i ∧ i < 4) (hol : o.length ≤ 4)
    (hc : g.IsCell c8 (some (.ref la))) (hla : g.IsList la vs.toArray) (hvs : StrsAre vs txts) (htl : txts.length = 4) (hlen : ∀ t ∈ txts, t.length ≤ 100)
    (h : ∀ h' tk t, St g L m led h' → Q (.str (Txt.join (Str.ofString "|") (o.map fun i => txts.getD i.toNat Str.empty)) t) { s with heap := h', toks := tk }) :
    wpAny (model prog w) A (eval (joinE 0) (mkEnv (fnScope 15) L (lawCs c1 c2 c3 c4 c5 c6 c7 c8) ex)) Q E s := by
  show wpAny (model prog w) A (eval (.Call _ _ _ _) _) Q E s
  refine MethodCall_ ?_
  refine wpAny_Constant_str ?_
  refine GM.join ?_
  refine callWith_method1 ?_
  refine args_cons ?_
  refine comp_val (g := g) (csc' := rel _ (fnScope 15)) (cl := [(Str.ofString "lefts", c8)]) rfl (by decide +kernel) rfl (by decide +kernel) rfl rfl ?_
  refine nm_loc S rfl hmt ?_
  refine iter_list hA.handled S hlo ?_
  intro it h₁ k₁ X₁
  refine ⟨_, _, _, _, _, fun i v os => os = [] ∧ ∃ t, v = .str (txts.getD (o.getD i 0).toNat Str.empty) t, ?_, X₁, ?_, ?_⟩
  · rw [hws.length, sizeLine_eq]; omega
  · intro i v C g₂ m₂ h₄ tk₄ hi hv sub₂ hled S₄ hm₂
    have hio : i < o.length := by rw [← hws.length]; exact hi
    have hget := intAt hws hio
    obtain ⟨tj, hgj⟩ := hget
    rw [hv] at hgj
    cases hgj
    have hoi : o.getD i 0 ∈ o := by rw [List.getD_eq_getElem?_getD, List.getElem?_eq_getElem hio]; exact List.getElem_mem hio
    have hb := ho _ hoi
    have hx : txts[(o.getD i 0).toNat]? = some (txts.getD (o.getD i 0).toNat Str.empty) := by
      rw [List.getD_eq_getElem?_getD (l := txts), List.getElem?_eq_getElem (by omega)]; rfl
    have hX := hvs.get _ _ hx
    obtain ⟨tx, hX⟩ := hX
    refine Subscript_ ?_
    refine nm_cel ((hc.keeps sub₂).keeps S₄.keep) rfl rfl ?_
    refine nm_loc S₄ rfl hm₂ ?_
    refine tail_item ((hla.at fun o e => sub₂ _ _ e).at fun o e => S₄.keep _ _ e) hb.1 (by omega) hX ?_
    exact ⟨_, _, [], rfl, fun _ _ e => e, ⟨rfl, tx, rfl⟩, (fun p hp => nomatch hp), List.nodup_nil⟩
  intro D h₂ tk₂ ys oss hys hoss hF S₂ k₂
  refine args_nil ?_
  have hSt : StrsAre ys (o.map fun i => txts.getD i.toNat Str.empty) := by
    refine strsAre_of (by rw [hys, hws.length, List.length_map]) fun i y x e1 e2 => ?_
    obtain ⟨os, e3⟩ := getOs (by rw [hoss, hys]) e1
    obtain ⟨_, t, e4⟩ := hF i y os e1 e3
    rw [List.getElem?_map] at e2
    cases eo : o[i]? with
    | none => rw [eo] at e2; cases e2
    | some x' =>
      rw [eo] at e2; cases e2
      rw [List.getD_eq_getElem?_getD (l := o), eo] at e4
      exact ⟨t, e4⟩
  refine join_list (S₂.at (x := .lst ys) (.head _)).isList hSt ?_ ?_
  · have hs := sum_le (B := 100) (l := o.map fun i => txts.getD i.toNat Str.empty) fun t ht => by
      obtain ⟨i, hi, rfl⟩ := List.mem_map.mp ht
      have hb := ho i hi
      rw [List.getD_eq_getElem?_getD, List.getElem?_eq_getElem (by omega)]
      exact hlen _ (List.getElem_mem _)
    rw [List.length_map] at hs ⊢
    have e1 : (Str.ofString "|").length = 1 := rfl
    rw [e1]; omega
  · intro t' k
    exact h _ _ _ (S₂.sublist (.cons _ (List.sublist_append_right _ _)))

set_option maxHeartbeats 1000000 in
theorem join_1 {c1 c2 c3 c4 c5 c6 c7 c8 lo la : Addr} {led : Led} {ex : EX} {m : Str → Option Value} {ws vs : List Value} {o : List Int} {txts : List Str} {Q : Value → Shared → Prop} (hA : AOk A 1)
    (S : St g L m led s.heap) (hmt : m "turns" = some (.ref lo)) (hlo : g.IsList lo ws.toArray) (hws : IntsAre ws o) (ho : ∀ i ∈ o, 0 ≤ i ∧ i < 4) (hol : o.length ≤ 4)
    (hc : g.IsCell c7 (some (.ref la))) (hla : g.IsList la vs.toArray) (hvs : StrsAre vs txts) (htl : txts.length = 4) (hlen : ∀ t ∈ txts, t.length ≤ 100)
    (h : ∀ h' tk t, St g L m led h' → Q (.str (Txt.join (Str.ofString "|") (o.map fun i => txts.getD i.toNat Str.empty)) t) { s with heap := h', toks := tk }) :
    wpAny (model prog w) A (eval (joinE 1) (mkEnv (fnScope 15) L (lawCs c1 c2 c3 c4 c5 c6 c7 c8) ex)) Q E s := by
  show wpAny (model prog w) A (eval (.Call _ _ _ _) _) Q E s
  refine MethodCall_ ?_
  refine wpAny_Constant_str ?_
  refine GM.join ?_
  refine callWith_method1 ?_
  refine args_cons ?_
  refine comp_val (g := g) (csc' := rel _ (fnScope 15)) (cl := [(Str.ofString "rights", c7)]) rfl (by decide +kernel) rfl (by decide +kernel) rfl rfl ?_
  refine nm_loc S rfl hmt ?_
  refine iter_list hA.handled S hlo ?_
  intro it h₁ k₁ X₁
  refine ⟨_, _, _, _, _, fun i v os => os = [] ∧ ∃ t, v = .str (txts.getD (o.getD i 0).toNat Str.empty) t, ?_, X₁, ?_, ?_⟩
  · rw [hws.length, sizeLine_eq]; omega
  · intro i v C g₂ m₂ h₄ tk₄ hi hv sub₂ hled S₄ hm₂
    have hio : i < o.length := by rw [← hws.length]; exact hi
    have hget := intAt hws hio
    obtain ⟨tj, hgj⟩ := hget
    rw [hv] at hgj
    cases hgj
    have hoi : o.getD i 0 ∈ o := by rw [List.getD_eq_getElem?_getD, List.getElem?_eq_getElem hio]; exact List.getElem_mem hio
    have hb := ho _ hoi
    have hx : txts[(o.getD i 0).toNat]? = some (txts.getD (o.getD i 0).toNat Str.empty) := by
      rw [List.getD_eq_getElem?_getD (l := txts), List.getElem?_eq_getElem (by omega)]; rfl
    have hX := hvs.get _ _ hx
    obtain ⟨tx, hX⟩ := hX
    refine Subscript_ ?_
    refine nm_cel ((hc.keeps sub₂).keeps S₄.keep) rfl rfl ?_
    refine nm_loc S₄ rfl hm₂ ?_
    refine tail_item ((hla.at fun o e => sub₂ _ _ e).at fun o e => S₄.keep _ _ e) hb.1 (by omega) hX ?_
    exact ⟨_, _, [], rfl, fun _ _ e => e, ⟨rfl, tx, rfl⟩, (fun p hp => nomatch hp), List.nodup_nil⟩
  intro D h₂ tk₂ ys oss hys hoss hF S₂ k₂
  refine args_nil ?_
  have hSt : StrsAre ys (o.map fun i => txts.getD i.toNat Str.empty) := by
    refine strsAre_of (by rw [hys, hws.length, List.length_map]) fun i y x e1 e2 => ?_
    obtain ⟨os, e3⟩ := getOs (by rw [hoss, hys]) e1
    obtain ⟨_, t, e4⟩ := hF i y os e1 e3
    rw [List.getElem?_map] at e2
    cases eo : o[i]? with
    | none => rw [eo] at e2; cases e2
    | some x' =>
      rw [eo] at e2; cases e2
      rw [List.getD_eq_getElem?_getD (l := o), eo] at e4
      exact ⟨t, e4⟩
  refine join_list (S₂.at (x := .lst ys) (.head _)).isList hSt ?_ ?_
  · have hs := sum_le (B := 100) (l := o.map fun i => txts.getD i.toNat Str.empty) fun t ht => by
      obtain ⟨i, hi, rfl⟩ := List.mem_map.mp ht
      have hb := ho i hi
      rw [List.getD_eq_getElem?_getD, List.getElem?_eq_getElem (by omega)]
      exact hlen _ (List.getElem_mem _)
    rw [List.length_map] at hs ⊢
    have e1 : (Str.ofString "|").length = 1 := rfl
    rw [e1]; omega
  · intro t' k
    exact h _ _ _ (S₂.sublist (.cons _ (List.sublist_append_right _ _)))

set_option maxHeartbeats 1000000 in
theorem join_2 {c1 c2 c3 c4 c5 c6 c7 c8 lo la : Addr} {led : Led} {ex : EX} {m : Str → Option Value} {ws vs : List Value} {o : List Int} {txts : List Str} {Q : Value → Shared → Prop} (hA : AOk A 1)
    (S : St g L m led s.heap) (hmt : m "turns" = some (.ref lo)) (hlo : g.IsList lo ws.toArray) (hws : IntsAre ws o) (ho : ∀ i ∈ o, 0 ≤ i ∧ i < 4) (hol : o.length ≤ 4)
    (hc : g.IsCell c6 (some (.ref la))) (hla : g.IsList la vs.toArray) (hvs : StrsAre vs txts) (htl : txts.length = 4) (hlen : ∀ t ∈ txts, t.length ≤ 100)
    (h : ∀ h' tk t, St g L m led h' → Q (.str (Txt.join (Str.ofString "|") (o.map fun i => txts.getD i.toNat Str.empty)) t) { s with heap := h', toks := tk }) :
    wpAny (model prog w) A (eval (joinE 2) (mkEnv (fnScope 15) L (lawCs c1 c2 c3 c4 c5 c6 c7 c8) ex)) Q E s := by
  show wpAny (model prog w) A (eval (.Call _ _ _ _) _) Q E s
  refine MethodCall_ ?_
  refine wpAny_Constant_str ?_
  refine GM.join ?_
  refine callWith_method1 ?_
  refine args_cons ?_
  refine comp_val (g := g) (csc' := rel _ (fnScope 15)) (cl := [(Str.ofString "left_due", c6)]) rfl (by decide +kernel) rfl (by decide +kernel) rfl rfl ?_
  refine nm_loc S rfl hmt ?_
  refine iter_list hA.handled S hlo ?_
  intro it h₁ k₁ X₁
  refine ⟨_, _, _, _, _, fun i v os => os = [] ∧ ∃ t, v = .str (txts.getD (o.getD i 0).toNat Str.empty) t, ?_, X₁, ?_, ?_⟩
  · rw [hws.length, sizeLine_eq]; omega
  · intro i v C g₂ m₂ h₄ tk₄ hi hv sub₂ hled S₄ hm₂
    have hio : i < o.length := by rw [← hws.length]; exact hi
    have hget := intAt hws hio
    obtain ⟨tj, hgj⟩ := hget
    rw [hv] at hgj
    cases hgj
    have hoi : o.getD i 0 ∈ o := by rw [List.getD_eq_getElem?_getD, List.getElem?_eq_getElem hio]; exact List.getElem_mem hio
    have hb := ho _ hoi
    have hx : txts[(o.getD i 0).toNat]? = some (txts.getD (o.getD i 0).toNat Str.empty) := by
      rw [List.getD_eq_getElem?_getD (l := txts), List.getElem?_eq_getElem (by omega)]; rfl
    have hX := hvs.get _ _ hx
    obtain ⟨tx, hX⟩ := hX
    refine Subscript_ ?_
    refine nm_cel ((hc.keeps sub₂).keeps S₄.keep) rfl rfl ?_
    refine nm_loc S₄ rfl hm₂ ?_
    refine tail_item ((hla.at fun o e => sub₂ _ _ e).at fun o e => S₄.keep _ _ e) hb.1 (by omega) hX ?_
    exact ⟨_, _, [], rfl, fun _ _ e => e, ⟨rfl, tx, rfl⟩, (fun p hp => nomatch hp), List.nodup_nil⟩
  intro D h₂ tk₂ ys oss hys hoss hF S₂ k₂
  refine args_nil ?_
  have hSt : StrsAre ys (o.map fun i => txts.getD i.toNat Str.empty) := by
    refine strsAre_of (by rw [hys, hws.length, List.length_map]) fun i y x e1 e2 => ?_
    obtain ⟨os, e3⟩ := getOs (by rw [hoss, hys]) e1
    obtain ⟨_, t, e4⟩ := hF i y os e1 e3
    rw [List.getElem?_map] at e2
    cases eo : o[i]? with
    | none => rw [eo] at e2; cases e2
    | some x' =>
      rw [eo] at e2; cases e2
      rw [List.getD_eq_getElem?_getD (l := o), eo] at e4
      exact ⟨t, e4⟩
  refine join_list (S₂.at (x := .lst ys) (.head _)).isList hSt ?_ ?_
  · have hs := sum_le (B := 100) (l := o.map fun i => txts.getD i.toNat Str.empty) fun t ht => by
      obtain ⟨i, hi, rfl⟩ := List.mem_map.mp ht
      have hb := ho i hi
      rw [List.getD_eq_getElem?_getD, List.getElem?_eq_getElem (by omega)]
      exact hlen _ (List.getElem_mem _)
    rw [List.length_map] at hs ⊢
    have e1 : (Str.ofString "|").length = 1 := rfl
    rw [e1]; omega
  · intro t' k
    exact h _ _ _ (S₂.sublist (.cons _ (List.sublist_append_right _ _)))

set_option maxHeartbeats 1000000 in
theorem join_3 {c1 c2 c3 c4 c5 c6 c7 c8 lo la : Addr} {led : Led} {ex : EX} {m : Str → Option Value} {ws vs : List Value} {o : List Int} {txts : List Str} {Q : Value → Shared → Prop} (hA : AOk A 1)
    (S : St g L m led s.heap) (hmt : m "turns" = some (.ref lo)) (hlo : g.IsList lo ws.toArray) (hws : IntsAre ws o) (ho : ∀ i ∈ o, 0 ≤ i ∧ i < 4) (hol : o.length ≤ 4)
    (hc : g.IsCell c5 (some (.ref la))) (hla : g.IsList la vs.toArray) (hvs : StrsAre vs txts) (htl : txts.length = 4) (hlen : ∀ t ∈ txts, t.length ≤ 100)
    (h : ∀ h' tk t, St g L m led h' → Q (.str (Txt.join (Str.ofString "|") (o.map fun i => txts.getD i.toNat Str.empty)) t) { s with heap := h', toks := tk }) :
    wpAny (model prog w) A (eval (joinE 3) (mkEnv (fnScope 15) L (lawCs c1 c2 c3 c4 c5 c6 c7 c8) ex)) Q E s := by
  show wpAny (model prog w) A (eval (.Call _ _ _ _) _) Q E s
  refine MethodCall_ ?_
  refine wpAny_Constant_str ?_
  refine GM.join ?_
  refine callWith_method1 ?_
  refine args_cons ?_
  refine comp_val (g := g) (csc' := rel _ (fnScope 15)) (cl := [(Str.ofString "right_due", c5)]) rfl (by decide +kernel) rfl (by decide +kernel) rfl rfl ?_
  refine nm_loc S rfl hmt ?_
  refine iter_list hA.handled S hlo ?_
  intro it h₁ k₁ X₁
  refine ⟨_, _, _, _, _, fun i v os => os = [] ∧ ∃ t, v = .str (txts.getD (o.getD i 0).toNat Str.empty) t, ?_, X₁, ?_, ?_⟩
  · rw [hws.length, sizeLine_eq]; omega
  · intro i v C g₂ m₂ h₄ tk₄ hi hv sub₂ hled S₄ hm₂
    have hio : i < o.length := by rw [← hws.length]; exact hi
    have hget := intAt hws hio
    obtain ⟨tj, hgj⟩ := hget
    rw [hv] at hgj
    cases hgj
    have hoi : o.getD i 0 ∈ o := by rw [List.getD_eq_getElem?_getD, List.getElem?_eq_getElem hio]; exact List.getElem_mem hio
    have hb := ho _ hoi
    have hx : txts[(o.getD i 0).toNat]? = some (txts.getD (o.getD i 0).toNat Str.empty) := by
      rw [List.getD_eq_getElem?_getD (l := txts), List.getElem?_eq_getElem (by omega)]; rfl
    have hX := hvs.get _ _ hx
    obtain ⟨tx, hX⟩ := hX
    refine Subscript_ ?_
    refine nm_cel ((hc.keeps sub₂).keeps S₄.keep) rfl rfl ?_
    refine nm_loc S₄ rfl hm₂ ?_
    refine tail_item ((hla.at fun o e => sub₂ _ _ e).at fun o e => S₄.keep _ _ e) hb.1 (by omega) hX ?_
    exact ⟨_, _, [], rfl, fun _ _ e => e, ⟨rfl, tx, rfl⟩, (fun p hp => nomatch hp), List.nodup_nil⟩
  intro D h₂ tk₂ ys oss hys hoss hF S₂ k₂
  refine args_nil ?_
  have hSt : StrsAre ys (o.map fun i => txts.getD i.toNat Str.empty) := by
    refine strsAre_of (by rw [hys, hws.length, List.length_map]) fun i y x e1 e2 => ?_
    obtain ⟨os, e3⟩ := getOs (by rw [hoss, hys]) e1
    obtain ⟨_, t, e4⟩ := hF i y os e1 e3
    rw [List.getElem?_map] at e2
    cases eo : o[i]? with
    | none => rw [eo] at e2; cases e2
    | some x' =>
      rw [eo] at e2; cases e2
      rw [List.getD_eq_getElem?_getD (l := o), eo] at e4
      exact ⟨t, e4⟩
  refine join_list (S₂.at (x := .lst ys) (.head _)).isList hSt ?_ ?_
  · have hs := sum_le (B := 100) (l := o.map fun i => txts.getD i.toNat Str.empty) fun t ht => by
      obtain ⟨i, hi, rfl⟩ := List.mem_map.mp ht
      have hb := ho i hi
      rw [List.getD_eq_getElem?_getD, List.getElem?_eq_getElem (by omega)]
      exact hlen _ (List.getElem_mem _)
    rw [List.length_map] at hs ⊢
    have e1 : (Str.ofString "|").length = 1 := rfl
    rw [e1]; omega
  · intro t' k
    exact h _ _ _ (S₂.sublist (.cons _ (List.sublist_append_right _ _)))
end
end Mine
set_option maxRecDepth 100000
namespace Mine
open PySem PySem.Calls PyProof.Rows
theorem joined_cp (txts : List Str) (o : List Int) : cp (Txt.join (Str.ofString "|") (o.map fun i => txts.getD i.toNat Str.empty)) = joinL 124 (o.map fun i => cp (txts.getD i.toNat Str.empty)) := by
  have e : Str.ofString "|" = ⟨#[124]⟩ := by decide +kernel
  rw [txt_join, e, cp_join, List.map_map]; rfl
theorem joinL_mem {c d : Nat} : ∀ {ps : List (List Nat)}, d ∈ joinL c ps → d = c ∨ ∃ p ∈ ps, d ∈ p
  | [], h => nomatch h
  | [p], h => .inr ⟨p, .head _, h⟩
  | p :: q :: r, h => by
    rcases List.mem_append.mp (show d ∈ p ++ c :: joinL c (q :: r) from h) with h | h
    · exact .inr ⟨p, .head _, h⟩
    · rcases List.mem_cons.mp h with h | h
      · exact .inl h
      · rcases joinL_mem h with h | ⟨p', hp, h⟩
        · exact .inl h
        · exact .inr ⟨p', .tail _ hp, h⟩
theorem joinL_len {c B : Nat} : ∀ {ps : List (List Nat)}, (∀ p ∈ ps, p.length ≤ B) → (joinL c ps).length ≤ ps.length * (B + 1)
  | [], _ => Nat.zero_le _
  | [p], h => by have := h p (.head _); show p.length ≤ 1 * (B + 1); omega
  | p :: q :: r, h => by
    have := h p (.head _)
    have ih := joinL_len (c := c) (ps := q :: r) fun p hp => h p (.tail _ hp)
    show (p ++ c :: joinL c (q :: r)).length ≤ ((q :: r).length + 1) * (B + 1)
    rw [List.length_append, List.length_cons, Nat.succ_mul]; omega
section
variable {prog : Program} {w : World} {A : Around} {E : Value → Shared → Prop} {s : Shared} {mg mb : Str → Option Value} {g : Heap} {L : Addr}

set_option maxHeartbeats 1000000 in
theorem t_0 {c1 c2 c3 c4 c5 c6 c7 c8 lo la hl : Addr} {led : Led} {ex : EX} {m : Str → Option Value} {ws vs fs : List Value} {o : List Int} {txts : List Str} {one : Nat} {t1 : Tok} {Q : Flow → Shared → Prop} (hA : AOk A 1) (G : Gl w mg mb g)
    (S : St g L m led s.heap) (hmt : m "turns" = some (.ref lo)) (hlo : g.IsList lo ws.toArray) (hws : IntsAre ws o) (ho : ∀ i ∈ o, 0 ≤ i ∧ i < 4) (hol : o.length ≤ 4)
    (hmh : m "hands" = some (.ref hl)) (hhl : g.IsList hl fs.toArray) (hfs : Hands g fs) (hmo : m "one" = some (.int one t1)) (ho5 : one < 5)
    (hc : g.IsCell c8 (some (.ref la))) (hla : g.IsList la vs.toArray) (hvs : StrsAre vs txts) (htl : txts.length = 4) (hlen : ∀ t ∈ txts, t.length ≤ 100) (hsig : ∀ t ∈ txts, ∀ c ∈ cp t, c ∈ sigma)
    (h : ∀ h' tk y t, St g L (set1 m (Str.ofString "left") (.str y t)) led h' → cp y = joinL 124 (o.map fun i => (cp (txts.getD i.toNat Str.empty)).flatMap (escOf one)) →
      wpAny (model prog w) A (execs (lawTurn 1) (mkEnv (fnScope 15) L (lawCs c1 c2 c3 c4 c5 c6 c7 c8) ex)) Q E { s with heap := h', toks := tk }) :
    wpAny (model prog w) A (execs (lawTurn 0) (mkEnv (fnScope 15) L (lawCs c1 c2 c3 c4 c5 c6 c7 c8) ex)) Q E s := by
  have hf5 := hfs.1
  have ef : fs[one]? = some fs[one] := List.getElem?_eq_getElem (by omega)
  obtain ⟨f, e1, X⟩ := hfs.2 one _ ef
  rw [e1] at ef
  have hm : ∀ i ∈ o, txts.getD i.toNat Str.empty ∈ txts := fun i hi => by
    have hb := ho i hi
    rw [List.getD_eq_getElem?_getD, List.getElem?_eq_getElem (by omega)]; exact List.getElem_mem _
  show wpAny (model prog w) A (execs (_ :: _) _) Q E s
  refine wpAny_execs_cons ?_
  refine as_loc ?_
  refine Call_ ?_
  refine Subscript_ ?_
  refine nm_loc S rfl hmh ?_
  refine nm_loc S rfl hmo ?_
  refine tail_item (hhl.at fun o e => S.keep _ _ e) ?_ ?_ ?_ ?_ (x := .ref f)
  · omega
  · omega
  · exact ef
  refine callF X ?_
  refine args_cons ?_
  refine join_0 hA S hmt hlo hws ho hol hc hla hvs htl hlen ?_
  intro h₁ tk₁ t₁ S₁
  refine args_nil ?_
  refine ⟨S₁.keep, ?_⟩
  refine esc_call (wh := one) hA (G.sub S₁.keep) ho5 (X.sub S₁.keep) ?_ ?_ ?_
  · intro c hcm
    rw [joined_cp] at hcm
    rcases joinL_mem hcm with rfl | ⟨p, hp, hc⟩
    · decide
    · obtain ⟨i, hi, rfl⟩ := List.mem_map.mp hp
      exact hsig _ (hm i hi) c hc
  · rw [← cp_length, joined_cp]
    have := joinL_len (c := 124) (B := 100) (ps := o.map fun i => cp (txts.getD i.toNat Str.empty)) fun p hp => by
      obtain ⟨i, hi, rfl⟩ := List.mem_map.mp hp
      rw [cp_length]; exact hlen _ (hm i hi)
    rw [List.length_map] at this
    omega
  intro h₂ tk₂ y t₂ k₂ hy
  refine st_loc (S₁.grow k₂) rfl ?_
  intro h₃ S₃
  refine h _ _ _ _ S₃ ?_
  rw [hy, joined_cp, join_esc ho5, List.map_map]; rfl

set_option maxHeartbeats 1000000 in
theorem t_1 {c1 c2 c3 c4 c5 c6 c7 c8 lo la hl : Addr} {led : Led} {ex : EX} {m : Str → Option Value} {ws vs fs : List Value} {o : List Int} {txts : List Str} {one : Nat} {t1 : Tok} {Q : Flow → Shared → Prop} (hA : AOk A 1) (G : Gl w mg mb g)
    (S : St g L m led s.heap) (hmt : m "turns" = some (.ref lo)) (hlo : g.IsList lo ws.toArray) (hws : IntsAre ws o) (ho : ∀ i ∈ o, 0 ≤ i ∧ i < 4) (hol : o.length ≤ 4)
    (hmh : m "hands" = some (.ref hl)) (hhl : g.IsList hl fs.toArray) (hfs : Hands g fs) (hmo : m "other" = some (.int one t1)) (ho5 : one < 5)
    (hc : g.IsCell c7 (some (.ref la))) (hla : g.IsList la vs.toArray) (hvs : StrsAre vs txts) (htl : txts.length = 4) (hlen : ∀ t ∈ txts, t.length ≤ 100) (hsig : ∀ t ∈ txts, ∀ c ∈ cp t, c ∈ sigma)
    (h : ∀ h' tk y t, St g L (set1 m (Str.ofString "right") (.str y t)) led h' → cp y = joinL 124 (o.map fun i => (cp (txts.getD i.toNat Str.empty)).flatMap (escOf one)) →
      wpAny (model prog w) A (execs (lawTurn 2) (mkEnv (fnScope 15) L (lawCs c1 c2 c3 c4 c5 c6 c7 c8) ex)) Q E { s with heap := h', toks := tk }) :
    wpAny (model prog w) A (execs (lawTurn 1) (mkEnv (fnScope 15) L (lawCs c1 c2 c3 c4 c5 c6 c7 c8) ex)) Q E s := by
  have hf5 := hfs.1
  have ef : fs[one]? = some fs[one] := List.getElem?_eq_getElem (by omega)
  obtain ⟨f, e1, X⟩ := hfs.2 one _ ef
  rw [e1] at ef
  have hm : ∀ i ∈ o, txts.getD i.toNat Str.empty ∈ txts := fun i hi => by
    have hb := ho i hi
    rw [List.getD_eq_getElem?_getD, List.getElem?_eq_getElem (by omega)]; exact List.getElem_mem _
  show wpAny (model prog w) A (execs (_ :: _) _) Q E s
  refine wpAny_execs_cons ?_
  refine as_loc ?_
  refine Call_ ?_
  refine Subscript_ ?_
  refine nm_loc S rfl hmh ?_
  refine nm_loc S rfl hmo ?_
  refine tail_item (hhl.at fun o e => S.keep _ _ e) ?_ ?_ ?_ ?_ (x := .ref f)
  · omega
  · omega
  · exact ef
  refine callF X ?_
  refine args_cons ?_
  refine join_1 hA S hmt hlo hws ho hol hc hla hvs htl hlen ?_
  intro h₁ tk₁ t₁ S₁
  refine args_nil ?_
  refine ⟨S₁.keep, ?_⟩
  refine esc_call (wh := one) hA (G.sub S₁.keep) ho5 (X.sub S₁.keep) ?_ ?_ ?_
  · intro c hcm
    rw [joined_cp] at hcm
    rcases joinL_mem hcm with rfl | ⟨p, hp, hc⟩
    · decide
    · obtain ⟨i, hi, rfl⟩ := List.mem_map.mp hp
      exact hsig _ (hm i hi) c hc
  · rw [← cp_length, joined_cp]
    have := joinL_len (c := 124) (B := 100) (ps := o.map fun i => cp (txts.getD i.toNat Str.empty)) fun p hp => by
      obtain ⟨i, hi, rfl⟩ := List.mem_map.mp hp
      rw [cp_length]; exact hlen _ (hm i hi)
    rw [List.length_map] at this
    omega
  intro h₂ tk₂ y t₂ k₂ hy
  refine st_loc (S₁.grow k₂) rfl ?_
  intro h₃ S₃
  refine h _ _ _ _ S₃ ?_
  rw [hy, joined_cp, join_esc ho5, List.map_map]; rfl
end
end Mine
set_option maxRecDepth 100000
namespace Mine
open PySem PySem.Calls PyProof.Rows
section
variable {prog : Program} {w : World} {A : Around} {E : Value → Shared → Prop} {s : Shared} {mg mb : Str → Option Value} {g : Heap} {L : Addr}

set_option maxHeartbeats 1000000 in
theorem t_2 {c1 c2 c3 c4 c5 c6 c7 c8 lo la : Addr} {led : Led} {ex : EX} {m : Str → Option Value} {ws vs : List Value} {o : List Int} {txts : List Str} {y : Str} {ty : Tok} {Q : Flow → Shared → Prop} (hA : AOk A 1)
    (S : St g L m led s.heap) (hmt : m "turns" = some (.ref lo)) (hlo : g.IsList lo ws.toArray) (hws : IntsAre ws o) (ho : ∀ i ∈ o, 0 ≤ i ∧ i < 4) (hol : o.length ≤ 4)
    (hc : g.IsCell c6 (some (.ref la))) (hla : g.IsList la vs.toArray) (hvs : StrsAre vs txts) (htl : txts.length = 4) (hlen : ∀ t ∈ txts, t.length ≤ 100)
    (hml : m "left" = some (.str y ty)) (hy : cp y = joinL 124 (o.map fun i => cp (txts.getD i.toNat Str.empty)))
    (h : ∀ h' tk, St g L m led h' →
      wpAny (model prog w) A (execs (lawTurn 3) (mkEnv (fnScope 15) L (lawCs c1 c2 c3 c4 c5 c6 c7 c8) ex)) Q E { s with heap := h', toks := tk }) :
    wpAny (model prog w) A (execs (lawTurn 2) (mkEnv (fnScope 15) L (lawCs c1 c2 c3 c4 c5 c6 c7 c8) ex)) Q E s := by
  have e : y = Txt.join (Str.ofString "|") (o.map fun i => txts.getD i.toNat Str.empty) := cp_inj (by rw [hy, joined_cp])
  show wpAny (model prog w) A (execs (_ :: _) _) Q E s
  refine wpAny_execs_cons ?_
  refine wpAny_If ?_
  refine wpAny_isTrue_Compare1 ?_
  refine nm_loc S rfl hml ?_
  refine join_2 hA S hmt hlo hws ho hol hc hla hvs htl hlen ?_
  intro h₁ tk₁ t₁ S₁
  refine ne_str ?_
  refine wpAny_truthy_bool ?_
  refine ite_no (by rw [e]; simp) ?_
  refine wpAny_execs_nil ?_
  exact h _ _ S₁

set_option maxHeartbeats 1000000 in
theorem t_3 {c1 c2 c3 c4 c5 c6 c7 c8 lo la : Addr} {led : Led} {ex : EX} {m : Str → Option Value} {ws vs : List Value} {o : List Int} {txts : List Str} {y : Str} {ty : Tok} {Q : Flow → Shared → Prop} (hA : AOk A 1)
    (S : St g L m led s.heap) (hmt : m "turns" = some (.ref lo)) (hlo : g.IsList lo ws.toArray) (hws : IntsAre ws o) (ho : ∀ i ∈ o, 0 ≤ i ∧ i < 4) (hol : o.length ≤ 4)
    (hc : g.IsCell c5 (some (.ref la))) (hla : g.IsList la vs.toArray) (hvs : StrsAre vs txts) (htl : txts.length = 4) (hlen : ∀ t ∈ txts, t.length ≤ 100)
    (hml : m "right" = some (.str y ty)) (hy : cp y = joinL 124 (o.map fun i => cp (txts.getD i.toNat Str.empty)))
    (h : ∀ h' tk, St g L m led h' →
      wpAny (model prog w) A (execs (lawTurn 4) (mkEnv (fnScope 15) L (lawCs c1 c2 c3 c4 c5 c6 c7 c8) ex)) Q E { s with heap := h', toks := tk }) :
    wpAny (model prog w) A (execs (lawTurn 3) (mkEnv (fnScope 15) L (lawCs c1 c2 c3 c4 c5 c6 c7 c8) ex)) Q E s := by
  have e : y = Txt.join (Str.ofString "|") (o.map fun i => txts.getD i.toNat Str.empty) := cp_inj (by rw [hy, joined_cp])
  show wpAny (model prog w) A (execs (_ :: _) _) Q E s
  refine wpAny_execs_cons ?_
  refine wpAny_If ?_
  refine wpAny_isTrue_Compare1 ?_
  refine nm_loc S rfl hml ?_
  refine join_3 hA S hmt hlo hws ho hol hc hla hvs htl hlen ?_
  intro h₁ tk₁ t₁ S₁
  refine ne_str ?_
  refine wpAny_truthy_bool ?_
  refine ite_no (by rw [e]; simp) ?_
  refine wpAny_execs_nil ?_
  exact h _ _ S₁
end
end Mine
set_option maxRecDepth 100000
namespace Mine
open PySem PySem.Calls PyProof.Rows
section
variable {prog : Program} {w : World} {A : Around} {E : Value → Shared → Prop} {s : Shared} {g : Heap} {L : Addr}
/-- what a loop over an iterator of tuples needs -/
def IteratesT (prog : Program) (w : World) (A : Around) (g : Heap) (L : Addr) (m : Str → Option Value) (led : Led) (n : Nat) (P : Nat → Array Value → Prop) (it : Value) (s₂ : Shared) : Prop :=
  ∃ I fp wr Sti Mid, it = .ref I ∧ WalksT prog w A I fp wr n P Sti Mid ∧ Sti 0 s₂.heap ∧ St g L m led s₂.heap ∧ (∀ b ∈ fp, b ≠ L ∧ b ∉ led.map (·.1)) ∧ (∀ b ∈ wr, g.get? b = none) ∧
    (∀ i h, Sti i h → ∀ b ∈ fp, ∃ o, h.get? b = some o)

theorem loop_walkT {elts : List Expr} {kt : Nat} {tpos : Pos} {body : List Stmt} {env : Env} {it : Value} {m : Str → Option Value} {led : Led} {n : Nat} {P : Nat → Array Value → Prop} {Q : Flow → Shared → Prop}
    (Inv : Nat → (Str → Option Value) → Led → Prop) (X : IteratesT prog w A g L m led n P it s) (h0 : Inv 0 m led)
    (turn : ∀ i T vals g₁ m₁ led₁ h tk, i < n → P i vals → Sub g g₁ → g₁.IsTuple T vals → Inv i m₁ led₁ → St g₁ L m₁ led₁ h →
      wpAny (model prog w) A (assign (.Tuple elts kt tpos) env (.ref T)) (fun _ s₂ => wpAny (model prog w) A (execs body env) (LoopBack s g₁ L (Inv (i + 1)) Q) F0 s₂) F0 { s with heap := h, toks := tk })
    (done : ∀ m₁ led₁ h tk, Inv n m₁ led₁ → St g L m₁ led₁ h → Q .next { s with heap := h, toks := tk }) :
    codeAny (model prog w) A (.forLoop (.Tuple elts kt tpos) it body [] env) (fun r s' => match r with | .ok f => Q f s' | .error e => cameBackBy (model prog w) A env E e s') s := by
  obtain ⟨I, fp, wr, Sti, Mid, rfl, W, st0, S0, hfp, hwr, alive⟩ := X
  refine codeAny_forLoop_any (fun k s' => ∃ i h tk m₁ led₁, s' = { s with heap := h, toks := tk } ∧ i ≤ n ∧ k = n + 1 - i ∧ Sti i h ∧ St g L m₁ led₁ h ∧ Inv i m₁ led₁ ∧
    (∀ b ∈ fp, b ≠ L ∧ b ∉ led₁.map (·.1))) ?_ (n + 1)
    ⟨0, s.heap, s.toks, m, led, rfl, Nat.zero_le _, rfl, st0, S0, h0, hfp⟩
  rintro k s' ⟨i, h, tk, m₁, led₁, rfl, hi, rfl, st, S, hI, hf⟩
  have off : ∀ h', (∀ b o, b ∉ wr → h.get? b = some o → h'.get? b = some o) → St g L m₁ led₁ h' := fun h' k =>
    ⟨S.ns.at' fun o e => k _ o (fun hb => (hf _ (W.sub _ hb)).1 rfl) e, fun b o e => k b o (fun hb => by rw [hwr b hb] at e; cases e) (S.keep b o e), S.offL,
      fun p hp => (S.ats p hp).at fun o e => k _ o (fun hb => (hf _ (W.sub _ hb)).2 (List.mem_map_of_mem hp)) e, S.off, S.nodup⟩
  by_cases hlt : i < n
  · refine W.item i _ _ _ hlt st fun T vals h₀ tk₁ hP hT hTup mid k₀ => ?_
    refine W.go elts kt tpos i T _ _ _ mid fun h₁ st₁ k₁' => ?_
    have k₁ : ∀ b o, b ∉ wr → h.get? b = some o → h₁.get? b = some o := fun b o hb e => k₁' b o hb (k₀ b o hb e)
    have hTw := W.apart i T _ mid
    obtain ⟨oT, eT, hT2⟩ := hTup
    have eT₁ := k₁' T oT hTw eT
    have S₁ : St g L m₁ (led₁ ++ []) h₁ := by rw [List.append_nil]; exact off h₁ k₁
    have TL : T ≠ L := fun q => absurd S.ns.lt (Nat.not_lt.mpr (by rw [← q]; exact hT))
    have Tled : T ∉ led₁.map (·.1) := fun q => by
      obtain ⟨p, hp, e⟩ := List.mem_map.mp q
      exact absurd (S.ats p hp).lt (Nat.not_lt.mpr (by rw [e]; exact hT))
    obtain ⟨g₁, sub, S₂, _, get⟩ := S₁.freeze
    refine wpAny_mono (turn i T vals g₁ m₁ led₁ h₁ tk₁ hlt hP sub ⟨oT, get T oT eT₁ TL Tled, hT2⟩ hI S₂) (fun _ s₂ h₂ => wpAny_mono h₂ (fun f s₃ h₃ => ?_) fun _ _ x => x.elim) fun _ _ x => x.elim
    have fin : (∃ h' tk m' led', s₃ = { s with heap := h', toks := tk } ∧ St g₁ L m' led' h' ∧ Inv (i + 1) m' led') → ∃ m, m < n + 1 - i ∧ ∃ i h tk m₁ led₁, s₃ = { s with heap := h, toks := tk } ∧ i ≤ n ∧ m = n + 1 - i ∧ Sti i h ∧ St g L m₁ led₁ h ∧ Inv i m₁ led₁ ∧
        (∀ b ∈ fp, b ≠ L ∧ b ∉ led₁.map (·.1)) := by
      rintro ⟨h', tk', m', led', rfl, S₃, hI'⟩
      have inG : ∀ b ∈ fp, ∀ o, h₁.get? b = some o → g₁.get? b = some o := fun b hb o e => get b o e (hf b hb).1 (hf b hb).2
      refine ⟨n + 1 - (i + 1), by omega, i + 1, h', tk', m', led', rfl, hlt, rfl, W.frame _ _ _ st₁ fun b hb o e => S₃.keep b o (inG b hb o e), S₃.base sub, hI', fun b hb => ⟨(hf b hb).1, fun q => ?_⟩⟩
      obtain ⟨p, hp, rfl⟩ := List.mem_map.mp q
      obtain ⟨o, ho⟩ := alive _ _ st₁ _ hb
      have := (S₃.off p hp).1
      rw [inG _ hb o ho] at this; cases this
    cases f with
    | next => exact fin h₃
    | cont => exact fin h₃
    | brk => exact h₃
    | ret v => exact h₃
  · have hin : i = n := by omega
    subst hin
    refine W.done _ _ _ st fun h₁ tk₁ k₁ => ?_
    exact wpAny_execs_nil (done m₁ led₁ h₁ tk₁ hI (off h₁ k₁))
end
end Mine
set_option maxRecDepth 100000
namespace Mine
open PySem PySem.Calls PyProof.Rows
open Builtin Builtin.Str
section
variable {prog : Program} {w : World} {A : Around} {E : Value → Shared → Prop} {s : Shared} {g : Heap} {L : Addr}
theorem split_lst {x y : Str} {t u : Tok} {Q : Value → Shared → Prop} (hy : (y.length == 0) = false)
    (hq : ∀ h' tk D (l : List (Str × Tok)), Sub s.heap h' → s.heap.get? D = none → h'.IsList D (strValues l).toArray → l.map (·.1) = Txt.split x y → Q (.ref D) { s with heap := h', toks := tk })
    (hsz : x.length ≤ sizeLine) (hsz2 : (partsBetween x (occurrences x y 0 x.length (x.length + 1)) y.length).length ≤ sizeLine) :
    wpAny (model prog w) A (call (.builtin "str.split") [.str x t, .str y u]) Q E s := by
  have kp : ∀ ob : Obj, Sub s.heap (s.heap.push ob) := fun ob => (Sub.refl _).push ob
  have nn : s.heap.get? s.heap.objs.size = none := new_none _ (Nat.le_refl _)
  cases h1 : (decide (x.length < y.length) || decide (strKind x < strKind y))
  · cases hf : (occurrences x y 0 x.length (x.length + 1)).isEmpty
    · refine call_meets F.slot_str_split (typeIs_str _ _ _) F.entry_str_split (F.args_str_split_2 _ _) (meets_str_split_sep x y t u h1 hy hf hsz hsz2) ?_
      show wants Q E _ { s with toks := _, heap := s.heap.push { cls := .type "list", data := .seq (strsFrom s.toks (partsBetween x (occurrences x y 0 x.length (x.length + 1)) y.length)).toArray } }
      rw [strsFrom_eq]
      exact hq _ _ _ (numbered s.toks _) (kp _) nn ⟨_, Heap.get?_push_size _ rfl, rfl, _, rfl⟩ ((numbered_texts _ _).trans ((if_neg (ne_true_of_eq_false h1)).trans (if_neg (ne_true_of_eq_false hf))).symm)
    · exact call_meets F.slot_str_split (typeIs_str _ _ _) F.entry_str_split (F.args_str_split_2 _ _) (meets_str_split_not_found x y t u h1 hy hf)
        (hq _ s.toks _ [(x, t)] (kp _) nn ⟨_, Heap.get?_push_size _ rfl, rfl, _, rfl⟩ ((if_neg (ne_true_of_eq_false h1)).trans (if_pos hf)).symm)
  · exact call_meets F.slot_str_split (typeIs_str _ _ _) F.entry_str_split (F.args_str_split_2 _ _) (meets_str_split_cannot_occur x y t u h1)
      (hq _ s.toks _ [(x, t)] (kp _) nn ⟨_, Heap.get?_push_size _ rfl, rfl, _, rfl⟩ (if_pos h1).symm)

/-- zip over two lists that the ledger does not hold, behind the call -/
theorem iter_zip {l1 l2 : Addr} {xs ys : List Value} {h₀ : Heap} {m : Str → Option Value} {led : Led} {Q : Value → Shared → Prop} (hh : A.handled = none) (S : St g L m led h₀) (k : Sub h₀ s.heap)
    (n1 : h₀.get? l1 = none) (n2 : h₀.get? l2 = none) (hl1 : s.heap.IsList l1 xs.toArray) (hl2 : s.heap.IsList l2 ys.toArray)
    (h : ∀ it h', Sub s.heap h' → IteratesT prog w A g L m led (min xs.length ys.length) (fun i vals => ∃ x y, xs[i]? = some x ∧ ys[i]? = some y ∧ vals = #[x, y]) it { s with heap := h' } →
      (∀ Q₂ : Value → Shared → Prop, Q₂ it { s with heap := h' } → wpAny (model prog w) A (pyIter it) Q₂ F0 { s with heap := h' }) → Q it { s with heap := h' }) :
    wpAny (model prog w) A (call (.type "zip") [.ref l1, .ref l2]) Q E s := by
  refine call_zip_2 hl1 hl2 fun h' a1 a2 a3 a4 a5 a6 kk => ?_
  obtain ⟨o1, e1, _⟩ := id hl1
  obtain ⟨o2, e2, _⟩ := id hl2
  have D := zipApart_new (Heap.lt_size e1) (Heap.lt_size e2)
  have W := WalksT.zip2 (prog := prog) (w := w) hh _ _ _ _ _ l1 l2 D xs.toArray ys.toArray
  have hs : min xs.toArray.size ys.toArray.size = min xs.length ys.length := by simp
  have S1 : St g L m led s.heap := S.grow k
  have S2 : St g L m led h' := S1.grow kk
  have fresh : ∀ b, s.heap.objs.size ≤ b → b ≠ L ∧ b ∉ led.map (·.1) := fun b hb => by
    refine ⟨fun q => absurd S1.ns.lt (Nat.not_lt.mpr (by rw [← q]; exact hb)), fun q => ?_⟩
    obtain ⟨p, hp, e⟩ := List.mem_map.mp q
    exact absurd (S1.ats p hp).lt (Nat.not_lt.mpr (by rw [e]; exact hb))
  have old : ∀ l, h₀.get? l = none → l ≠ L ∧ l ∉ led.map (·.1) := fun l hn => by
    refine ⟨fun q => ?_, fun q => ?_⟩
    · obtain ⟨o, _, _, e, _⟩ := S.ns
      rw [← q, hn] at e; cases e
    · obtain ⟨p, hp, e⟩ := List.mem_map.mp q
      obtain ⟨o, e2⟩ := MO.At.obj (S.ats p hp)
      rw [e, hn] at e2; cases e2
  have st0 : IsZip h' (s.heap.objs.size + 4) (s.heap.objs.size + 2) (s.heap.objs.size + 3) .none ∧ IsPair h' (s.heap.objs.size + 2) (.ref s.heap.objs.size) (.ref (s.heap.objs.size + 1)) ∧ (∃ a b, IsPair h' (s.heap.objs.size + 3) a b) ∧
      h'.IsListIter s.heap.objs.size l1 0 ∧ h'.IsListIter (s.heap.objs.size + 1) l2 0 ∧ h'.IsList l1 xs.toArray ∧ h'.IsList l2 ys.toArray :=
    ⟨a1, a2, ⟨_, _, a3⟩, a4, a5, hl1.at fun o e => kk _ o e, hl2.at fun o e => kk _ o e⟩
  rw [hs] at W
  refine h _ h' kk ⟨_, _, _, _, _, rfl, ⟨W.sub, W.frame, fun i s Q E hi st hQ => W.item i s Q E hi st fun T vals h' tk hp => hQ T vals h' tk (by simpa using hp), W.go, W.apart, W.done, W.self⟩, st0, S2, ?_, ?_, ?_⟩ ?_
  · intro b hb
    simp only [List.mem_cons, List.not_mem_nil, or_false] at hb
    rcases hb with rfl | rfl | rfl | rfl | rfl | rfl | rfl
    · exact fresh _ (Nat.le_add_right _ _)
    · exact fresh _ (Nat.le_add_right _ _)
    · exact fresh _ (Nat.le_add_right _ _)
    · exact fresh _ (Nat.le_refl _)
    · exact fresh _ (Nat.le_add_right _ _)
    · exact old _ n1
    · exact old _ n2
  · intro b hb
    simp only [List.mem_cons, List.not_mem_nil, or_false] at hb
    rcases hb with rfl | rfl | rfl | rfl
    · exact none_of_new S1.keep (new_none _ (Nat.le_add_right _ _))
    · exact none_of_new S1.keep (new_none _ (Nat.le_add_right _ _))
    · exact none_of_new S1.keep (new_none _ (Nat.le_refl _))
    · exact none_of_new S1.keep (new_none _ (Nat.le_add_right _ _))
  · intro i h st b hb
    obtain ⟨b1, b2, ⟨_, _, b3⟩, ⟨_, b4, _⟩, ⟨_, b5, _⟩, ⟨_, b6, _⟩, ⟨_, b7, _⟩⟩ := st
    simp only [List.mem_cons, List.not_mem_nil, or_false] at hb
    rcases hb with rfl | rfl | rfl | rfl | rfl | rfl | rfl
    · exact ⟨_, b1⟩
    · exact ⟨_, b2⟩
    · exact ⟨_, b3⟩
    · exact ⟨_, b4⟩
    · exact ⟨_, b5⟩
    · exact ⟨_, b6⟩
    · exact ⟨_, b7⟩
  · intro Q₂ hQ₂
    exact W.self 0 _ _ _ st0 hQ₂
end
end Mine
set_option maxRecDepth 100000
namespace Mine
open PySem PySem.Calls PyProof.Rows
theorem runs_snoc (x : Int) : ∀ (l : List Int) (a : Int), runs a (l ++ [x]) = runs a l ++ [a + l.sum + x]
  | [], a => by simp [runs]
  | y :: l, a => by
    show a :: runs (a + y) (l ++ [x]) = a :: (runs (a + y) l ++ [a + (y :: l).sum + x])
    rw [runs_snoc x l (a + y), List.sum_cons]
    have : a + y + l.sum + x = a + (y + l.sum) + x := by omega
    rw [this]
theorem runs_len : ∀ (l : List Int) (a : Int), (runs a l).length = l.length + 1
  | [], _ => rfl
  | y :: l, a => by show (runs (a + y) l).length + 1 = _; rw [runs_len l]; rfl
theorem runs_last : ∀ (l : List Int) (a : Int), (runs a l).getD l.length 0 = a + l.sum
  | [], a => by simp [runs]
  | y :: l, a => by
    show (runs (a + y) l).getD l.length 0 = _
    rw [runs_last l, List.sum_cons]; omega
section
variable {prog : Program} {w : World} {A : Around} {E : Value → Shared → Prop} {s : Shared} {mg mb : Str → Option Value} {g : Heap} {L : Addr}
/-- l[-1] -/
theorem tail_last {value slice : Expr} {l : Addr} {vs : List Value} {u : Tok} {x : Value} {Q : Value → Shared → Prop} (hl : s.heap.IsList l vs.toArray) (hx : vs[vs.length - 1]? = some x) (hn : 0 < vs.length) (h : Q x s)
    (hs : subscripted slice false (.ref l) (.int (-1) u) = operate [.ref l, .int (-1) u] (getItem (.ref l) (.int (-1) u)) := by with_unfolding_all rfl) :
    wpAny (model prog w) A (subscriptTail value slice (.ref l) (.int (-1) u)) Q E s := by
  refine tail_any hl.typeIs slot_list_getitem.lookup (wpAny_getItem_list_neg hl (by decide) ?_ (by decide) ?_ h) hs
  · simp only [List.size_toArray]; omega
  · have e : (-1 + (vs.toArray.size : Int)).toNat = vs.length - 1 := by simp only [List.size_toArray]; omega
    rw [e]; simpa using hx

def zipBody : List Stmt := forBody ((lawTurn 5).getD 0 (.Pass default))
/-- the ledger of the loop over the orders -/
abbrev lled (c1 c2 c3 c4 lt ld lq : Addr) (v1 v2 : Option Value) (tvs dvs qvs : List Value) (rest : Led) : Led :=
  (c1, .cel v1) :: (c2, .cel v2) :: (c3, .cel (some (.ref lq))) :: (c4, .cel (some (.ref ld))) :: (lt, .lst tvs) :: (ld, .lst dvs) :: (lq, .lst qvs) :: rest

set_option maxHeartbeats 1000000 in
/-- leads.append(leads[-1] + len(ahead) - len(behind)) -/
theorem zip_turn {c1 c2 c3 c4 c5 c6 c7 c8 ll : Addr} {led : Led} {ex : EX} {m : Str → Option Value} {vs : List Value} {ns : List Int} {a b : Str} {ta tb : Tok} {z : Int} {Q : Flow → Shared → Prop} (G : Gl w mg mb g)
    (S : St g L m ((ll, .lst vs) :: (c1, .cel (some (.ref ll))) :: led) s.heap) (hI : IntsAre vs ns) (hn : 0 < ns.length) (hn9 : ns.length < 100) (hz : ns.getD (ns.length - 1) 0 = z)
    (hma : m "ahead" = some (.str a ta)) (hmb : m "behind" = some (.str b tb)) (ha : a.length < 2 ^ 60) (hb : b.length < 2 ^ 60)
    (h : ∀ h' tk t, St g L m ((ll, .lst (vs ++ [.int (z + a.length - b.length) t])) :: (c1, .cel (some (.ref ll))) :: led) h' → Q .next { s with heap := h', toks := tk }) :
    wpAny (model prog w) A (execs zipBody (mkEnv (fnScope 15) L (lawCs c1 c2 c3 c4 c5 c6 c7 c8) ex)) Q E s := by
  have hvl : vs.length = ns.length := hI.length
  have hc := S.at (x := .cel (some (.ref ll))) (.tail _ (.head _))
  have i1 := intAt hI (j := ns.length - 1) (by omega)
  obtain ⟨t1, i1⟩ := i1
  rw [hz, ← hvl] at i1
  show wpAny (model prog w) A (execs (_ :: _) _) Q E s
  refine wpAny_execs_cons ?_
  refine wpAny_Expr ?_
  refine MethodCall_ ?_
  refine nm_cel hc rfl rfl ?_
  refine meth_app (S.at (.head _)) ?_
  refine callWith_method1 ?_
  refine args_cons ?_
  refine wpAny_BinOp ?_
  refine wpAny_BinOp ?_
  refine Subscript_ ?_
  refine nm_cel hc rfl rfl ?_
  refine wpAny_UnaryOp ?_
  refine wpAny_Constant_int ?_
  refine neg_int ?_
  refine tail_last (S.at (x := .lst vs) (.head _)).isList i1 (by omega) ?_
  refine Call_ ?_
  refine nm_b G S bLen rfl ?_
  refine PyProof.Rows.callWith_builtin1 ?_
  refine args_cons ?_
  refine nm_loc S rfl hma ?_
  refine args_nil ?_
  refine len_str (by omega) ?_
  refine add_int ?_
  refine Call_ ?_
  refine nm_b G S bLen rfl ?_
  refine PyProof.Rows.callWith_builtin1 ?_
  refine args_cons ?_
  refine nm_loc S rfl hmb ?_
  refine args_nil ?_
  refine len_str (by omega) ?_
  refine sub_int ?_
  refine args_nil ?_
  refine app_list 0 S rfl ?_ (by rw [sizeLine_eq]; omega)
  intro h₁ S₁
  refine wpAny_execs_nil ?_
  exact h _ _ _ S₁
end
end Mine
set_option maxRecDepth 100000
namespace Mine
open PySem PySem.Calls PyProof.Rows
theorem strAt {l : List (Str × Tok)} {i : Nat} {v : Value} (h : (strValues l)[i]? = some v) : ∃ x t, v = .str x t ∧ (l.map (·.1))[i]? = some x := by
  unfold strValues at h
  rw [List.getElem?_map] at h
  cases e : l[i]? with
  | none => rw [e] at h; cases h
  | some p => rw [e] at h; cases h; exact ⟨p.1, p.2, rfl, by rw [List.getElem?_map, e]; rfl⟩
theorem strValues_length (l : List (Str × Tok)) : (strValues l).length = l.length := by unfold strValues; rw [List.length_map]
section
variable {prog : Program} {w : World} {A : Around} {E : Value → Shared → Prop} {s : Shared} {mg mb : Str → Option Value} {g : Heap} {L : Addr}
set_option maxHeartbeats 1000000 in
/-- leads = [0] -/
theorem t_4 {c1 c2 c3 c4 c5 c6 c7 c8 : Addr} {led : Led} {ex : EX} {m : Str → Option Value} {v1 : Option Value} {Q : Flow → Shared → Prop}
    (S : St g L m ((c1, .cel v1) :: led) s.heap)
    (h : ∀ h' tk ll t, St g L m ((ll, .lst [.int 0 t]) :: (c1, .cel (some (.ref ll))) :: led) h' →
      wpAny (model prog w) A (execs (lawTurn 5) (mkEnv (fnScope 15) L (lawCs c1 c2 c3 c4 c5 c6 c7 c8) ex)) Q E { s with heap := h', toks := tk }) :
    wpAny (model prog w) A (execs (lawTurn 4) (mkEnv (fnScope 15) L (lawCs c1 c2 c3 c4 c5 c6 c7 c8) ex)) Q E s := by
  show wpAny (model prog w) A (execs (_ :: _) _) Q E s
  refine wpAny_execs_cons ?_
  refine as_loc ?_
  refine List_ ?_
  refine args_cons ?_
  refine wpAny_Constant_int ?_
  refine args_nil ?_
  refine new_list S ?_ (by rw [sizeLine_eq]; exact Nat.le_of_ble_eq_true rfl)
  intro h₁ ll S₁ _ _
  refine st_cel 1 S₁ rfl rfl rfl ?_
  intro h₂ S₂
  exact h _ _ _ _ S₂


def forIter (s : Stmt) : Expr := match s with | .For _ i _ _ _ => i | _ => .Constant .none 0 default
def zipE : Expr := forIter ((lawTurn 5).getD 0 (.Pass default))
def zipArg (j : Nat) : Expr := match zipE with | .Call _ a _ _ => a.getD j (.Constant .none 0 default) | _ => .Constant .none 0 default
open Builtin Builtin.Str in
theorem parts_le {x y : Str} (hsz : x.length ≤ 500) : (partsBetween x (occurrences x y 0 x.length (x.length + 1)) y.length).length ≤ sizeLine := by
  rw [length_partsBetween, sizeLine_eq]
  have := PySem.StrLaws.occ_length_le x y 0 x.length (x.length + 1)
  omega

set_option maxHeartbeats 1000000 in
theorem split_0 {c1 c2 c3 c4 c5 c6 c7 c8 : Addr} {ex : EX} {x : Str} {t : Tok} {m : Str → Option Value} {led : Led} {Q : Value → Shared → Prop} (S : St g L m led s.heap)
    (hm : m "left" = some (.str x t)) (hsz : x.length ≤ 500)
    (h : ∀ h' tk D (l : List (Str × Tok)), Sub s.heap h' → s.heap.get? D = none → h'.IsList D (strValues l).toArray → l.map (·.1) = Txt.split x (Str.ofString "|") → Q (.ref D) { s with heap := h', toks := tk }) :
    wpAny (model prog w) A (eval (zipArg 0) (mkEnv (fnScope 15) L (lawCs c1 c2 c3 c4 c5 c6 c7 c8) ex)) Q E s := by
  show wpAny (model prog w) A (eval (.Call _ _ _ _) _) Q E s
  refine MethodCall_ ?_
  refine nm_loc S rfl hm ?_
  refine GM.split ?_
  refine callWith_method1 ?_
  refine args_cons ?_
  refine wpAny_Constant_str ?_
  refine args_nil ?_
  refine split_lst rfl ?_ (by rw [sizeLine_eq]; omega) ?_
  · intro h₁ tk₁ l1 xs1 k₁ n₁ P₁ e₁
    exact h _ _ _ _ k₁ n₁ P₁ e₁
  · exact parts_le hsz

set_option maxHeartbeats 1000000 in
theorem split_1 {c1 c2 c3 c4 c5 c6 c7 c8 : Addr} {ex : EX} {x : Str} {t : Tok} {m : Str → Option Value} {led : Led} {Q : Value → Shared → Prop} (S : St g L m led s.heap)
    (hm : m "right" = some (.str x t)) (hsz : x.length ≤ 500)
    (h : ∀ h' tk D (l : List (Str × Tok)), Sub s.heap h' → s.heap.get? D = none → h'.IsList D (strValues l).toArray → l.map (·.1) = Txt.split x (Str.ofString "|") → Q (.ref D) { s with heap := h', toks := tk }) :
    wpAny (model prog w) A (eval (zipArg 1) (mkEnv (fnScope 15) L (lawCs c1 c2 c3 c4 c5 c6 c7 c8) ex)) Q E s := by
  show wpAny (model prog w) A (eval (.Call _ _ _ _) _) Q E s
  refine MethodCall_ ?_
  refine nm_loc S rfl hm ?_
  refine GM.split ?_
  refine callWith_method1 ?_
  refine args_cons ?_
  refine wpAny_Constant_str ?_
  refine args_nil ?_
  refine split_lst rfl ?_ (by rw [sizeLine_eq]; omega) ?_
  · intro h₁ tk₁ l1 xs1 k₁ n₁ P₁ e₁
    exact h _ _ _ _ k₁ n₁ P₁ e₁
  · exact parts_le hsz

set_option maxHeartbeats 1000000 in
theorem zip_call {c1 c2 c3 c4 c5 c6 c7 c8 : Addr} {ex : EX} {y z : Str} {ty tz : Tok} {m : Str → Option Value} {led : Led} {Q : Value → Shared → Prop} (hA : AOk A 1) (G : Gl w mg mb g) (S : St g L m led s.heap)
    (hml : m "left" = some (.str y ty)) (hmr : m "right" = some (.str z tz)) (hsy : y.length ≤ 500) (hsz : z.length ≤ 500)
    (h : ∀ it h' tk l1 l2, List.map (·.1) l1 = Txt.split y (Str.ofString "|") → List.map (·.1) l2 = Txt.split z (Str.ofString "|") →
      IteratesT prog w A g L m led (min (strValues l1).length (strValues l2).length) (fun i vals => ∃ x y, (strValues l1)[i]? = some x ∧ (strValues l2)[i]? = some y ∧ vals = #[x, y]) it { s with heap := h', toks := tk } →
      (∀ Q₂ : Value → Shared → Prop, Q₂ it { s with heap := h', toks := tk } → wpAny (model prog w) A (pyIter it) Q₂ F0 { s with heap := h', toks := tk }) → Q it { s with heap := h', toks := tk }) :
    wpAny (model prog w) A (eval zipE (mkEnv (fnScope 15) L (lawCs c1 c2 c3 c4 c5 c6 c7 c8) ex)) Q E s := by
  show wpAny (model prog w) A (eval (.Call _ [zipArg 0, zipArg 1] _ _) _) Q E s
  refine Call_ ?_
  refine nm_b G S bZip rfl ?_
  refine callWith_type1 (hplain := plain1) ?_
  refine args_cons ?_
  refine split_0 S hml hsy ?_
  intro h₁ tk₁ l1 xs1 k₁ n₁ P₁ e₁
  refine args_cons ?_
  refine split_1 (S.grow k₁) hmr hsz ?_
  intro h₂ tk₂ l2 xs2 k₂ n₂ P₂ e₂
  refine args_nil ?_
  show wpAny (model prog w) A _ _ _ { s with heap := h₂, toks := tk₂ }
  refine iter_zip hA.handled S (k₁.trans k₂) n₁ (none_of_new k₁ n₂) (P₁.at fun o e => k₂ _ _ e) P₂ ?_
  intro it h₃ k₃ X₃ self
  exact h it h₃ tk₂ xs1 xs2 e₁ e₂ X₃ self
end
end Mine
set_option maxRecDepth 100000
namespace Mine
open PySem PySem.Calls PyProof.Rows
theorem runs_take_succ {ds : List Int} {i : Nat} {d : Int} (h : ds[i]? = some d) : runs 0 (ds.take (i + 1)) = runs 0 (ds.take i) ++ [(ds.take i).sum + d] := by
  rw [List.take_add_one, h, Option.toList_some, runs_snoc]
  have : 0 + (ds.take i).sum + d = (ds.take i).sum + d := by omega
  rw [this]
theorem str_ne1 : (Str.ofString "ahead") ≠ Str.ofString "behind" := by decide +kernel
section
variable {prog : Program} {w : World} {A : Around} {E : Value → Shared → Prop} {s : Shared} {mg mb : Str → Option Value} {g : Heap} {L : Addr}
set_option maxHeartbeats 1000000 in
/-- for ahead, behind: the two names -/
theorem pair_names {c1 c2 c3 c4 c5 c6 c7 c8 : Addr} {ex : EX} {m : Str → Option Value} {led : Led} {T : Addr} {x y : Value} {k : Nat} {p p1 p2 : Pos} {Q : Unit → Shared → Prop} (hA : AOk A 1) (S : St g L m led s.heap) (hT : g.IsTuple T #[x, y])
    (h : ∀ h' tk, St g L (set1 (set1 m (Str.ofString "ahead") x) (Str.ofString "behind") y) led h' → Q () { s with heap := h', toks := tk }) :
    wpAny (model prog w) A (assign (.Tuple [.Name (Str.ofString "ahead") p1, .Name (Str.ofString "behind") p2] k p) (mkEnv (fnScope 15) L (lawCs c1 c2 c3 c4 c5 c6 c7 c8) ex) (.ref T)) Q E s := by
  refine wpAny_assign_Tuple hA.handled (hT.at fun o e => S.keep _ _ e) rfl rfl ?_
  intro h₁ he₁
  have S₁ : St g L m led h₁ := S.grow fun b o e => he₁ b o (Nat.ne_of_lt (Heap.lt_size e)) e
  show wpAny _ _ (assignInOrder [assign (.Name (Str.ofString "ahead") p1) _, assign (.Name (Str.ofString "behind") p2) _] [x, y]) _ _ _
  refine assignInOrder_cons ?_
  refine wpAny_assign_Name ?_
  refine st_loc S₁ rfl ?_
  intro h₂ S₂
  refine assignInOrder_cons ?_
  refine wpAny_assign_Name ?_
  refine st_loc S₂ rfl ?_
  intro h₃ S₃
  refine assignInOrder_nil ?_
  exact h _ _ S₃

set_option maxHeartbeats 1000000 in
/-- the loop over the two splits -/
theorem t_5 {c1 c2 c3 c4 c5 c6 c7 c8 ll : Addr} {led : Led} {ex : EX} {m : Str → Option Value} {y z : Str} {ty tz t0 : Tok} {ps qs : List (List Nat)} {Q : Flow → Shared → Prop} (hA : AOk A 1) (G : Gl w mg mb g)
    (S : St g L m ((ll, .lst [.int 0 t0]) :: (c1, .cel (some (.ref ll))) :: led) s.heap)
    (hml : m "left" = some (.str y ty)) (hmr : m "right" = some (.str z tz)) (hy : cp y = joinL 124 ps) (hz : cp z = joinL 124 qs) (hps : ps.length = 4) (hqs : qs.length = 4)
    (bps : ∀ p ∈ ps, 124 ∉ p) (bqs : ∀ p ∈ qs, 124 ∉ p) (lps : ∀ p ∈ ps, p.length ≤ 100) (lqs : ∀ p ∈ qs, p.length ≤ 100)
    (h : ∀ h' tk m' vs, St g L m' ((ll, .lst vs) :: (c1, .cel (some (.ref ll))) :: led) h' → IntsAre vs (runs 0 (List.zipWith (fun p q : List Nat => (p.length : Int) - q.length) ps qs)) →
        (∀ n, n ≠ Str.ofString "ahead" → n ≠ Str.ofString "behind" → m' n = m n) →
      wpAny (model prog w) A (execs (lawTurn 6) (mkEnv (fnScope 15) L (lawCs c1 c2 c3 c4 c5 c6 c7 c8) ex)) Q E { s with heap := h', toks := tk }) :
    wpAny (model prog w) A (execs (lawTurn 5) (mkEnv (fnScope 15) L (lawCs c1 c2 c3 c4 c5 c6 c7 c8) ex)) Q E s := by
  have hbar : Str.ofString "|" = ⟨#[124]⟩ := by decide +kernel
  have ylen : y.length ≤ 500 := by
    have := joinL_len (c := 124) (B := 100) lps
    rw [← hy, cp_length, hps] at this; omega
  have zlen : z.length ≤ 500 := by
    have := joinL_len (c := 124) (B := 100) lqs
    rw [← hz, cp_length, hqs] at this; omega
  have ysp : (Txt.split y (Str.ofString "|")).map cp = ps := by rw [hbar]; exact split_parts hy (by intro e; rw [e] at hps; cases hps) bps
  have zsp : (Txt.split z (Str.ofString "|")).map cp = qs := by rw [hbar]; exact split_parts hz (by intro e; rw [e] at hqs; cases hqs) bqs
  generalize hds : List.zipWith (fun p q : List Nat => (p.length : Int) - q.length) ps qs = ds at h
  have hdl : ds.length = 4 := by rw [← hds, List.length_zipWith, hps, hqs]; rfl
  show wpAny (model prog w) A (execs (.For _ zipE _ _ _ :: _) _) Q E s
  refine wpAny_execs_cons ?_
  refine for_walk ?_
  refine zip_call hA G S hml hmr ylen zlen ?_
  intro it h₁ tk₁ l1 l2 e1 e2 X self
  have n1 : (strValues l1).length = 4 := by
    have := congrArg List.length ysp
    rw [List.length_map, ← e1, List.length_map, hps] at this
    rw [strValues_length]; exact this
  have n2 : (strValues l2).length = 4 := by
    have := congrArg List.length zsp
    rw [List.length_map, ← e2, List.length_map, hqs] at this
    rw [strValues_length]; exact this
  rw [n1, n2] at X
  refine wp0 (self _ ?_)
  refine loop_walkT (fun i m' led' => ∃ vs, led' = (ll, .lst vs) :: (c1, .cel (some (.ref ll))) :: led ∧ IntsAre vs (runs 0 (ds.take i)) ∧ ∀ n, n ≠ Str.ofString "ahead" → n ≠ Str.ofString "behind" → m' n = m n) X ?_ ?_ ?_
  · exact ⟨_, rfl, .cons 0 t0 .nil, fun _ _ _ => rfl⟩
  · rintro i T vals g₁ m₁ led₁ h₂ tk₂ hi ⟨xv, yv, ex1, ey1, rfl⟩ sub hT ⟨vs, rfl, hI, hm⟩ S₂
    obtain ⟨xa, ta, rfl, ea⟩ := strAt ex1
    obtain ⟨xb, tb, rfl, eb⟩ := strAt ey1
    rw [e1] at ea
    rw [e2] at eb
    have pa : ps[i]? = some (cp xa) := by rw [← ysp, List.getElem?_map, ea]; rfl
    have pb : qs[i]? = some (cp xb) := by rw [← zsp, List.getElem?_map, eb]; rfl
    have la := lps _ (List.mem_of_getElem? pa)
    have lb := lqs _ (List.mem_of_getElem? pb)
    rw [cp_length] at la lb
    have hd : ds[i]? = some ((xa.length : Int) - xb.length) := by
      rw [← hds, List.getElem?_zipWith, pa, pb, ← cp_length, ← cp_length]
    have hlen : (runs 0 (ds.take i)).length = i + 1 := by rw [runs_len, List.length_take, hdl]; omega
    have hlast : (runs 0 (ds.take i)).getD ((runs 0 (ds.take i)).length - 1) 0 = (ds.take i).sum := by
      have := runs_last (ds.take i) 0
      rw [runs_len, Nat.add_sub_cancel, this]; omega
    refine pair_names hA S₂ hT ?_
    intro h₃ tk₃ S₃
    refine zip_turn (G.sub sub) S₃ hI (by omega) (by omega) hlast (by show (if _ then _ else if _ then _ else _) = _; rw [if_neg str_ne1, if_pos rfl]) rfl (by omega) (by omega) ?_
    intro h₄ tk₄ t₄ S₄
    refine ⟨_, _, _, _, rfl, S₄, _, rfl, ?_, ?_⟩
    · rw [runs_take_succ hd]
      have : (ds.take i).sum + ((xa.length : Int) - xb.length) = (ds.take i).sum + xa.length - xb.length := by omega
      rw [this]
      exact IntsAre.snoc hI _ _
    · intro n ha hb
      show (if _ then _ else if _ then _ else _) = _
      rw [if_neg hb, if_neg ha]
      exact hm n ha hb
  · rintro m₁ led₁ h₂ tk₂ ⟨vs, rfl, hI, hm⟩ S₂
    rw [List.take_of_length_le (by omega)] at hI
    exact h _ _ _ _ S₂ hI hm
end
end Mine
set_option maxRecDepth 100000
namespace Mine
open PySem PySem.Calls PyProof.Rows
theorem sorted_is {ds ns : List Int} (hp : ds.Perm ns) (hs : ds.Pairwise (· ≤ ·)) : ds = isrt leI ns :=
  (hp.trans (isrt_perm leI ns).symm).eq_of_pairwise (fun _ _ _ _ h1 h2 => Int.le_antisymm h1 h2) hs (isrt_sorted ns)
section
variable {prog : Program} {w : World} {A : Around} {E : Value → Shared → Prop} {s : Shared} {mg mb : Str → Option Value} {g : Heap} {L : Addr}
/-- quantiles by its name -/
theorem nm_q {sc : Scope} {cs : List (Str × Addr)} {ex : EX} {m : Str → Option Value} {led : Led} {pos : Pos} {Q : Value → Shared → Prop} (G : Gl w mg mb g) (S : St g L m led s.heap) (hl : sc.names.lookup (fnName 2) = some .globalImplicit)
    (h : ∀ f kd, FnAt g f 2 (.ref kd) → KwAt g kd → Q (.ref f) s) (hk : sc.kind = .function := by rfl) (hd : (fnName 2 == ("__debug__" : Str)) = false := by rfl) :
    wpAny (model prog w) A (eval (.Name (fnName 2) pos) (mkEnv sc L cs ex)) Q E s :=
  let ⟨f, kd, e, x, y⟩ := G.qu
  nm_glo (G.g.keeps S.keep) hl e (h f kd x y) hk hd
theorem KwAt.sub {h h' : Heap} {kd : Addr} (x : KwAt h kd) (k : Sub h h') : KwAt h' kd := let ⟨mk, a, b⟩ := x; ⟨mk, a.keeps k, b⟩
/-- a call of a def with one argument and one keyword -/
theorem callKw {env : Env} {f : Addr} {i : Nat} {kV : Value} {e v : Expr} {name : Str} {p pos : Pos} {Q : Value → Shared → Prop} (X : FnAt g f i kV)
    (h : wpAny (model prog w) A (eval e env) (fun x s₁ => wpAny (model prog w) A (eval v env) (fun y s₂ => Sub g s₂.heap ∧ wpAny (model prog w) A (call (.ref f) [x] [(name, y)]) Q E s₂) E s₁) E s)
    (he : starEach (e :: []) env = (false, eval e env) :: starEach [] env := by rfl) :
    wpAny (model prog w) A (callWith pos (.ref f) [] (backTo pos (starEach [e] env)) (backToKw pos (keywordEach [⟨some name, v, p⟩] env))) Q E s := by
  obtain ⟨oc, od, osl, doc, pm, an, cdv, ct, eo, hcd⟩ := X
  refine callWith_def_kw rfl (evalArgs_kw2 rfl (args_cons (wpAny_mono h (fun x s₁ h₁ => args_nil (kwAll_cons (wpAny_mono h₁ (fun y s₂ h₂ => kwAll_nil ⟨h₂.1 _ _ eo, h₂.2⟩) fun _ _ z => z))) fun _ _ z => z) he) he)
set_option maxHeartbeats 1000000 in
/-- cuts = quantiles(leads, n=6) -/
theorem t_6 {c1 c2 c3 c4 c5 c6 c7 c8 ll : Addr} {led : Led} {ex : EX} {m : Str → Option Value} {vs : List Value} {ns : List Int} {Q : Flow → Shared → Prop} (hA : AOk A 1) (G : Gl w mg mb g)
    (S : St g L m ((ll, .lst vs) :: (c1, .cel (some (.ref ll))) :: led) s.heap) (hI : IntsAre vs ns) (hn5 : ns.length = 5) (hb : ∀ n ∈ ns, n.natAbs < 2 ^ 50)
    (h : ∀ h' tk r rs, St g L (set1 m (Str.ofString "cuts") (.ref r)) ((r, .lst rs) :: (ll, .lst vs) :: (c1, .cel (some (.ref ll))) :: led) h' → HVs rs ((isrt leI ns).map (2 * ·)) →
      wpAny (model prog w) A (execs (lawTurn 7) (mkEnv (fnScope 15) L (lawCs c1 c2 c3 c4 c5 c6 c7 c8) ex)) Q E { s with heap := h', toks := tk }) :
    wpAny (model prog w) A (execs (lawTurn 6) (mkEnv (fnScope 15) L (lawCs c1 c2 c3 c4 c5 c6 c7 c8) ex)) Q E s := by
  show wpAny (model prog w) A (execs (_ :: _) _) Q E s
  refine wpAny_execs_cons ?_
  refine as_loc ?_
  refine wpAny_Call_Name_kw ?_
  refine nm_q G S rfl ?_
  intro f kd X K
  refine callKw X ?_
  refine nm_cel (S.at (x := .cel (some (.ref ll))) (.tail _ (.head _))) rfl rfl ?_
  refine wpAny_Constant_int ?_
  refine ⟨S.keep, ?_⟩
  refine q6_call hA (G.sub S.keep) (X.sub S.keep) (K.sub S.keep) (S.at (x := .lst vs) (.head _)).isList hI hn5 hb ?_
  intro h₁ tk₁ r rs ds k₁ n₁ P₁ hp hs hH
  have S₁ := S.add (x := .lst rs) k₁ n₁ P₁
  rw [sorted_is hp hs] at hH
  refine st_loc S₁ rfl ?_
  intro h₂ S₂
  exact h _ _ _ _ S₂ hH
end
end Mine
set_option maxRecDepth 100000
namespace Mine
open PySem PySem.Calls PyProof.Rows
def ifTest (s : Stmt) : Expr := match s with | .If t _ _ _ => t | _ => .Constant .none 0 default
def cutsE : Expr := match ifTest ((lawTurn 7).getD 0 (.Pass default)) with
  | .BoolOp _ [_, .Compare l _ _ _] _ => l
  | _ => .Constant .none 0 default
theorem paired_nil {F : Value → Value → Prop} {vs ys : List Value} (h : Paired F (vs.filter fun _ => false) ys) : ys = [] := by
  have e : (vs.filter fun _ => false) = [] := by simp
  rw [e] at h
  cases h; rfl
section
variable {prog : Program} {w : World} {A : Around} {E : Value → Shared → Prop} {s : Shared} {mg mb : Str → Option Value} {g : Heap} {L : Addr}
set_option maxHeartbeats 1000000 in
/-- [cut for cut in cuts if not isinstance(cut, float)], all of them floats -/
theorem noflt {c1 c2 c3 c4 c5 c6 c7 c8 r : Addr} {led : Led} {ex : EX} {m : Str → Option Value} {rs : List Value} {Q : Value → Shared → Prop} (hA : AOk A 1) (G : Gl w mg mb g)
    (S : St g L m led s.heap) (hm : m "cuts" = some (.ref r)) (hr : s.heap.IsList r rs.toArray) (hf : ∀ v ∈ rs, ∃ x t, v = Value.float x t) (hl : rs.length ≤ 10)
    (h : ∀ h' tk D, Sub s.heap h' → s.heap.get? D = none → h'.IsList D #[] → Q (.ref D) { s with heap := h', toks := tk }) :
    wpAny (model prog w) A (eval cutsE (mkEnv (fnScope 15) L (lawCs c1 c2 c3 c4 c5 c6 c7 c8) ex)) Q E s := by
  show wpAny (model prog w) A (eval (.ListComp _ [⟨.Name _ _, _, [_], 0⟩] _ _) _) Q E s
  refine wpAny_ListComp_free (fun _ => false) (fun _ _ => False) (cl := []) rfl (by decide +kernel) rfl (by decide +kernel) rfl ?_
  refine nm_loc S rfl hm ?_
  obtain ⟨o, ho, _⟩ := id hr
  have hne : r ≠ s.heap.objs.size := Nat.ne_of_lt (Heap.lt_size ho)
  refine wpAny_pyIter_list hr ?_
  have sub1 : ∀ ob : Obj, Sub s.heap (s.heap.push ob) := fun ob => (Sub.refl _).push ob
  have nI : s.heap.get? s.heap.objs.size = none := new_none _ (Nat.le_refl _)
  refine ⟨s.heap.objs.size, [s.heap.objs.size, r], [s.heap.objs.size], _, _, _, rfl, Walks.list hA.handled _ r hne rs.toArray, ?_, ?_, ?_, ⟨?_, ?_⟩, ?_⟩
  · rw [List.size_toArray, sizeLine_eq]; omega
  · exact ⟨⟨_, Heap.get?_push_size _ rfl, rfl, rfl⟩, hr.push _⟩
  · intro b hb
    show b < (s.heap.push _).objs.size
    rw [Heap.size_push]
    rcases List.mem_cons.mp hb with rfl | hb
    · exact Nat.lt_succ_self _
    · rw [List.mem_singleton.mp hb]; exact Nat.lt_succ_of_lt (Heap.lt_size ho)
  · intro C i v s₃ m₃ E' hC hP hn hv hk _
    have hC' : s.heap.objs.size ≤ C := by
      have e : (s.heap.push { cls := .type "list_iterator", data := .fields #[.ref r, .int 0 0] }).objs.size = s.heap.objs.size + 1 := Heap.size_push ..
      have hC2 : (s.heap.push { cls := .type "list_iterator", data := .fields #[.ref r, .int 0 0] }).objs.size ≤ C := hC
      rw [e] at hC2
      exact Nat.le_of_succ_le hC2
    have kp : Sub s.heap s₃.heap := fun b o e => hk b o (fun q => by rw [List.mem_singleton.mp q, nI] at e; cases e) (sub1 _ b o e)
    have S₃ : St g C m₃ [] s₃.heap := ⟨hn, S.keep.trans kp, none_of_new S.keep (new_none _ hC'), (fun _ hp => nomatch hp), (fun _ hp => nomatch hp), List.nodup_nil⟩
    have hvf := hf v (by have := List.mem_of_getElem? (show rs[i]? = some v by simpa using hP); exact this)
    obtain ⟨x, t, rfl⟩ := hvf
    refine wpAny_tests_one ?_
    refine isTrue_not ?_
    refine isTrue_plain ?_
    show wpAny (model prog w) A (eval _ (mkEnv (rel _ (fnScope 15)) C [] (cEX ex))) _ _ _
    refine Call_ ?_
    refine nm_b G S₃ bIsinstance rfl ?_
    refine PyProof.Rows.callWith_builtin1 (hplain := plain1) ?_
    refine args_cons ?_
    refine nm_loc S₃ rfl hv ?_
    refine args_cons ?_
    refine nm_b G S₃ bFloat rfl ?_
    refine args_nil ?_
    refine PySem.IsiPair.float_float ?_
    refine wpAny_truthy_bool ?_
    exact ⟨rfl, _, _, rfl, fun _ _ e => e⟩
  · intro C i v s₃ m₃ E' _ _ hp
    cases hp
  · intro D h' tk ys vs hD hl' _ _ _ hpd hk
    have e := paired_nil hpd
    have ey : ys = #[] := by rw [← Array.toList_inj]; exact e
    rw [ey] at hl'
    exact h h' tk D (fun b o e => hk b o (fun q => by rw [List.mem_singleton.mp q, nI] at e; cases e) (sub1 _ b o e)) (none_of_new (sub1 _) hD) hl'

set_option maxHeartbeats 1000000 in
/-- the test of the cuts -/
theorem t_7 {c1 c2 c3 c4 c5 c6 c7 c8 r : Addr} {led : Led} {ex : EX} {m : Str → Option Value} {rs : List Value} {ks : List Int} {Q : Flow → Shared → Prop} (hA : AOk A 1) (G : Gl w mg mb g)
    (S : St g L m ((r, .lst rs) :: led) s.heap) (hm : m "cuts" = some (.ref r)) (hr : HVs rs ks) (hk : ks.length = 5)
    (h : ∀ h' tk, St g L m ((r, .lst rs) :: led) h' →
      wpAny (model prog w) A (execs (lawTurn 8) (mkEnv (fnScope 15) L (lawCs c1 c2 c3 c4 c5 c6 c7 c8) ex)) Q E { s with heap := h', toks := tk }) :
    wpAny (model prog w) A (execs (lawTurn 7) (mkEnv (fnScope 15) L (lawCs c1 c2 c3 c4 c5 c6 c7 c8) ex)) Q E s := by
  have hl := (S.at (x := .lst rs) (.head _)).isList
  have hr5 : rs.length = 5 := by rw [hr.1]; exact hk
  show wpAny (model prog w) A (execs (.If (.BoolOp .Or [_, .Compare cutsE _ _ _] _) _ _ _ :: _) _) Q E s
  refine wpAny_execs_cons ?_
  refine wpAny_If ?_
  refine isTrue_or ?_
  refine wpAny_isTrue_Compare1 ?_
  refine Call_ ?_
  refine nm_b G S bLen rfl ?_
  refine PyProof.Rows.callWith_builtin1 ?_
  refine args_cons ?_
  refine nm_loc S rfl hm ?_
  refine args_nil ?_
  refine len_lst 5 hl (by rw [hr5]; rfl) (by decide) ?_
  refine wpAny_Constant_int ?_
  refine PyProof.Rows.ne_int ?_
  refine wpAny_truthy_bool ?_
  refine ite_no (by decide) ?_
  refine isTrue_or ?_
  refine wpAny_isTrue_Compare1 ?_
  refine noflt hA G S hm hl ?_ (by omega) ?_
  · intro v hv
    obtain ⟨x, t, e, _⟩ := hr.all v hv
    exact ⟨x, t, e⟩
  intro h₁ tk₁ D k₁ n₁ P₁
  refine List_ ?_
  refine args_nil ?_
  refine new_list (S.grow k₁) ?_ (by rw [sizeLine_eq]; exact Nat.zero_le _)
  intro h₂ l₂ S₂ k₂ n₂
  refine ne_nils (P₁.at fun o e => k₂ _ _ e) (S₂.at (x := .lst []) (.head _)).isList (by have := hA.units; omega) ?_
  refine wpAny_truthy_bool ?_
  refine ite_no (by decide) ?_
  refine isTrue_or_nil ?_
  refine ite_no (by decide) ?_
  refine wpAny_execs_nil ?_
  exact h _ _ (S₂.sublist (.cons _ (List.Sublist.refl _)))
end
end Mine
set_option maxRecDepth 100000
namespace Mine
open PySem PySem.Calls PyProof.Rows
theorem sel_max : ∀ (l : List Int) (a : Int), sel mxI a l ∈ a :: l ∧ ∀ b ∈ a :: l, b ≤ sel mxI a l
  | [], a => ⟨.head _, fun b hb => by rw [List.mem_singleton.mp hb]; exact Int.le_refl _⟩
  | c :: l, a => by
    have ih := sel_max l (mxI a c)
    show sel mxI (mxI a c) l ∈ a :: c :: l ∧ ∀ b ∈ a :: c :: l, b ≤ sel mxI (mxI a c) l
    have h0 := ih.2 (mxI a c) (.head _)
    have hac : a ≤ mxI a c ∧ c ≤ mxI a c := by unfold mxI; split <;> omega
    refine ⟨?_, fun b hb => ?_⟩
    · rcases List.mem_cons.mp ih.1 with e | e
      · rw [e]; unfold mxI; split
        · exact .tail _ (.head _)
        · exact .head _
      · exact .tail _ (.tail _ e)
    · rcases List.mem_cons.mp hb with rfl | hb
      · omega
      · rcases List.mem_cons.mp hb with rfl | hb
        · omega
        · exact ih.2 b (.tail _ hb)
theorem sel_min : ∀ (l : List Int) (a : Int), sel mnI a l ∈ a :: l ∧ ∀ b ∈ a :: l, sel mnI a l ≤ b
  | [], a => ⟨.head _, fun b hb => by rw [List.mem_singleton.mp hb]; exact Int.le_refl _⟩
  | c :: l, a => by
    have ih := sel_min l (mnI a c)
    show sel mnI (mnI a c) l ∈ a :: c :: l ∧ ∀ b ∈ a :: c :: l, sel mnI (mnI a c) l ≤ b
    have h0 := ih.2 (mnI a c) (.head _)
    have hac : mnI a c ≤ a ∧ mnI a c ≤ c := by unfold mnI; split <;> omega
    refine ⟨?_, fun b hb => ?_⟩
    · rcases List.mem_cons.mp ih.1 with e | e
      · rw [e]; unfold mnI; split
        · exact .head _
        · exact .tail _ (.head _)
      · exact .tail _ (.tail _ e)
    · rcases List.mem_cons.mp hb with rfl | hb
      · omega
      · rcases List.mem_cons.mp hb with rfl | hb
        · omega
        · exact ih.2 b (.tail _ hb)
theorem hsel_max {l : List Int} {M : Int} (hm : M ∈ l) (hu : ∀ a ∈ l, a ≤ M) : hsel 0 mxI l = M := by
  cases l with
  | nil => cases hm
  | cons a l =>
    have := sel_max l a
    show sel mxI a l = M
    have h1 := this.2 M hm
    have h2 := hu _ this.1
    omega
theorem hsel_min {l : List Int} {M : Int} (hm : M ∈ l) (hu : ∀ a ∈ l, M ≤ a) : hsel 0 mnI l = M := by
  cases l with
  | nil => cases hm
  | cons a l =>
    have := sel_min l a
    show sel mnI a l = M
    have h1 := this.2 M hm
    have h2 := hu _ this.1
    omega
section
variable {prog : Program} {w : World} {A : Around} {E : Value → Shared → Prop} {s : Shared} {mg mb : Str → Option Value} {g : Heap} {L : Addr}
set_option maxHeartbeats 1000000 in
/-- told.append(cuts) -/
theorem t_8 {c1 c2 c3 c4 c5 c6 c7 c8 lt ld lq r ll : Addr} {v1 v2 : Option Value} {tvs dvs qvs rs vs : List Value} {rest : Led} {ex : EX} {m : Str → Option Value} {Q : Flow → Shared → Prop}
    (S : St g L m ((r, .lst rs) :: (ll, .lst vs) :: lled c1 c2 c3 c4 lt ld lq v1 v2 tvs dvs qvs rest) s.heap) (hm : m "cuts" = some (.ref r)) (hmt : m "told" = some (.ref lt)) (hlen : tvs.length ≤ 100)
    (h : ∀ h' tk, St g L m ((r, .lst rs) :: (ll, .lst vs) :: lled c1 c2 c3 c4 lt ld lq v1 v2 (tvs ++ [.ref r]) dvs qvs rest) h' →
      wpAny (model prog w) A (execs (lawTurn 9) (mkEnv (fnScope 15) L (lawCs c1 c2 c3 c4 c5 c6 c7 c8) ex)) Q E { s with heap := h', toks := tk }) :
    wpAny (model prog w) A (execs (lawTurn 8) (mkEnv (fnScope 15) L (lawCs c1 c2 c3 c4 c5 c6 c7 c8) ex)) Q E s := by
  show wpAny (model prog w) A (execs (_ :: _) _) Q E s
  refine wpAny_execs_cons ?_
  refine wpAny_Expr ?_
  refine MethodCall_ ?_
  refine nm_loc S rfl hmt ?_
  refine meth_app (S.at (x := .lst tvs) (List.mem_of_getElem? (i := 6) rfl)) ?_
  refine callWith_method1 ?_
  refine args_cons ?_
  refine nm_loc S rfl hm ?_
  refine args_nil ?_
  refine app_list 6 S rfl ?_ (by rw [sizeLine_eq]; omega)
  intro h₁ S₁
  exact h _ _ S₁
set_option maxHeartbeats 1000000 in
/-- quarters.append(quantiles(leads)) -/
theorem t_9 {c1 c2 c3 c4 c5 c6 c7 c8 lt ld lq r ll : Addr} {v2 : Option Value} {tvs dvs qvs rs vs : List Value} {ns : List Int} {rest : Led} {ex : EX} {m : Str → Option Value} {Q : Flow → Shared → Prop} (hA : AOk A 1) (G : Gl w mg mb g)
    (S : St g L m ((r, .lst rs) :: (ll, .lst vs) :: lled c1 c2 c3 c4 lt ld lq (some (.ref ll)) v2 tvs dvs qvs rest) s.heap) (hI : IntsAre vs ns) (hn5 : ns.length = 5) (hb : ∀ n ∈ ns, n.natAbs < 2 ^ 50) (hlen : qvs.length ≤ 100)
    (h : ∀ h' tk qr qs, St g L m ((qr, .lst qs) :: (r, .lst rs) :: (ll, .lst vs) :: lled c1 c2 c3 c4 lt ld lq (some (.ref ll)) v2 tvs dvs (qvs ++ [.ref qr]) rest) h' → HVs qs (q4 (isrt leI ns)) →
      wpAny (model prog w) A (execs (lawTurn 10) (mkEnv (fnScope 15) L (lawCs c1 c2 c3 c4 c5 c6 c7 c8) ex)) Q E { s with heap := h', toks := tk }) :
    wpAny (model prog w) A (execs (lawTurn 9) (mkEnv (fnScope 15) L (lawCs c1 c2 c3 c4 c5 c6 c7 c8) ex)) Q E s := by
  show wpAny (model prog w) A (execs (_ :: _) _) Q E s
  refine wpAny_execs_cons ?_
  refine wpAny_Expr ?_
  refine MethodCall_ ?_
  refine nm_cel (S.at (x := .cel (some (.ref lq))) (List.mem_of_getElem? (i := 4) rfl)) rfl rfl ?_
  refine meth_app (S.at (x := .lst qvs) (List.mem_of_getElem? (i := 8) rfl)) ?_
  refine callWith_method1 ?_
  refine args_cons ?_
  refine Call_ ?_
  refine nm_q G S rfl ?_
  intro f kd X K
  refine callF X ?_
  refine args_cons ?_
  refine nm_cel (S.at (x := .cel (some (.ref ll))) (List.mem_of_getElem? (i := 2) rfl)) rfl rfl ?_
  refine args_nil ?_
  refine ⟨S.keep, ?_⟩
  refine q4_call hA (G.sub S.keep) (X.sub S.keep) (K.sub S.keep) (S.at (x := .lst vs) (List.mem_of_getElem? (i := 1) rfl)).isList hI hn5 hb ?_
  intro h₁ tk₁ qr qs ds k₁ n₁ P₁ hp hs hH
  have S₁ := S.add (x := .lst qs) k₁ n₁ P₁
  rw [sorted_is hp hs] at hH
  refine args_nil ?_
  refine app_list 9 S₁ rfl ?_ (by rw [sizeLine_eq]; omega)
  intro h₂ S₂
  exact h _ _ _ _ S₂ hH
end
end Mine
set_option maxRecDepth 100000
namespace Mine
open PySem PySem.Calls PyProof.Rows
def exArg (s : Stmt) : Expr := match s with
  | .Expr (.Call _ [a] _ _) _ => a
  | _ => .Constant .none 0 default
def dueE : Expr := exArg ((lawTurn 10).getD 0 (.Pass default))
def compElt (e : Expr) : Expr := match e with | .ListComp a _ _ _ => a | _ => .Constant .none 0 default
def compSc (e : Expr) : Scope := match e with | .ListComp _ _ s _ => s | _ => default
section
variable {prog : Program} {w : World} {A : Around} {E : Value → Shared → Prop} {s : Shared} {mg mb : Str → Option Value} {g : Heap} {L : Addr}
set_option maxHeartbeats 1000000 in
/-- max(leads[:k + 1]) + min(leads[k:]) - leads[k] -/
theorem due_elt {c1 ll : Addr} {ex : EX} {m : Str → Option Value} {vs : List Value} {ns : List Int} {k : Nat} {t : Tok} {Q : Value → Shared → Prop} (hA : AOk A 1) (G : Gl w mg mb g)
    (S : St g L m [] s.heap) (hk : m "k" = some (.int k t)) (hc : g.IsCell c1 (some (.ref ll))) (hl : g.IsList ll vs.toArray) (hI : IntsAre vs ns) (hn : ns.length = 5) (hk5 : k < 5)
    (h : ∀ h' tk t, Sub s.heap h' → Q (.int (wI ns k) t) { s with heap := h', toks := tk }) :
    wpAny (model prog w) A (eval (compElt dueE) (mkEnv (rel (compSc dueE) (fnScope 15)) L [(Str.ofString "leads", c1)] (cEX ex))) Q E s := by
  have hvl : vs.length = 5 := by rw [hI.length]; exact hn
  have hls : ∀ {h' : Heap}, Sub g h' → h'.IsList ll vs.toArray := fun k => hl.at fun o e => k _ _ e
  show wpAny (model prog w) A (eval (.BinOp _ _ _ _) _) Q E s
  refine wpAny_BinOp ?_
  refine wpAny_BinOp ?_
  refine Call_ ?_
  refine nm_b G S bMax rfl ?_
  refine PyProof.Rows.callWith_builtin1 ?_
  refine args_cons ?_
  refine sl_to ?_
  refine nm_cel (hc.keeps S.keep) rfl rfl ?_
  refine wpAny_BinOp ?_
  refine nm_loc S rfl hk ?_
  refine wpAny_Constant_int ?_
  refine add_int ?_
  refine ⟨ll, vs, k + 1, _, rfl, rfl, hls S.keep, by omega, by rw [sizeLine_eq]; omega, ?_⟩
  intro h₁ D₁ k₁ n₁ P₁
  refine args_nil ?_
  refine max_lst hA.handled P₁.isList (hI.take (k + 1)) (by rw [List.length_take]; omega) ?_
  intro h₂ M t₂ tk₂ k₂ hM hM2
  show wpAny (model prog w) A _ _ _ { s with heap := h₂, toks := tk₂ }
  have S₂ := S.grow (k₁.trans k₂)
  refine Call_ ?_
  refine nm_b G S₂ bMin rfl ?_
  refine PyProof.Rows.callWith_builtin1 ?_
  refine args_cons ?_
  refine sl_from ?_
  refine nm_cel (hc.keeps S₂.keep) rfl rfl ?_
  refine nm_loc S₂ rfl hk ?_
  refine ⟨ll, vs, k, _, rfl, rfl, hls S₂.keep, by omega, by rw [sizeLine_eq]; omega, ?_⟩
  intro h₃ D₃ k₃ n₃ P₃
  refine args_nil ?_
  refine min_lst hA.handled P₃.isList (hI.drop k) (by rw [List.length_drop]; omega) ?_
  intro h₄ N t₄ tk₄ k₄ hN hN2
  show wpAny (model prog w) A _ _ _ { s with heap := h₄, toks := tk₄ }
  have S₄ := S₂.grow (k₃.trans k₄)
  refine add_int ?_
  obtain ⟨t₅, e₅⟩ := intAt hI (j := k) (by omega)
  refine Subscript_ ?_
  refine nm_cel (hc.keeps S₄.keep) rfl rfl ?_
  refine nm_loc S₄ rfl hk ?_
  refine tail_item (hls S₄.keep) (by omega) (by omega) (x := .int (ns.getD k 0) t₅) e₅ ?_
  refine sub_int ?_
  have e : M + N - ns.getD k 0 = wI ns k := by
    unfold wI
    rw [hsel_max hM hM2, hsel_min hN hN2]
  rw [e]
  exact h _ _ _ ((k₁.trans k₂).trans (k₃.trans k₄))

set_option maxHeartbeats 1000000 in
/-- due.append([..]) -/
theorem t_10 {c1 c2 c3 c4 c5 c6 c7 c8 lt ld lq qr r ll : Addr} {v2 : Option Value} {tvs dvs qvs qs rs vs : List Value} {ns : List Int} {rest : Led} {ex : EX} {m : Str → Option Value} {Q : Flow → Shared → Prop} (hA : AOk A 1) (G : Gl w mg mb g)
    (S : St g L m ((qr, .lst qs) :: (r, .lst rs) :: (ll, .lst vs) :: lled c1 c2 c3 c4 lt ld lq (some (.ref ll)) v2 tvs dvs qvs rest) s.heap) (hI : IntsAre vs ns) (hn5 : ns.length = 5) (hlen : dvs.length ≤ 100)
    (h : ∀ h' tk dr ds, St g L m ((dr, .lst ds) :: (qr, .lst qs) :: (r, .lst rs) :: (ll, .lst vs) :: lled c1 c2 c3 c4 lt ld lq (some (.ref ll)) v2 tvs (dvs ++ [.ref dr]) qvs rest) h' → IntsAre ds ((List.range 5).map (wI ns)) →
      Q .next { s with heap := h', toks := tk }) :
    wpAny (model prog w) A (execs (lawTurn 10) (mkEnv (fnScope 15) L (lawCs c1 c2 c3 c4 c5 c6 c7 c8) ex)) Q E s := by
  show wpAny (model prog w) A (execs (.Expr (.Call _ [.ListComp (compElt dueE) [⟨.Name _ _, _, [], 0⟩] (compSc dueE) _] _ _) _ :: _) _) Q E s
  refine wpAny_execs_cons ?_
  refine wpAny_Expr ?_
  refine MethodCall_ ?_
  refine nm_cel (S.at (x := .cel (some (.ref ld))) (List.mem_of_getElem? (i := 6) rfl)) rfl rfl ?_
  refine meth_app (S.at (x := .lst dvs) (List.mem_of_getElem? (i := 8) rfl)) ?_
  refine callWith_method1 ?_
  refine args_cons ?_
  refine comp_val (g := g) (csc' := rel _ (fnScope 15)) (cl := [(Str.ofString "leads", c1)]) rfl (by decide +kernel) rfl (by decide +kernel) rfl rfl ?_
  refine Call_ ?_
  refine nm_b G S bRange rfl ?_
  refine PyProof.Rows.callWith_type1 ?_
  refine args_cons ?_
  refine wpAny_Constant_int ?_
  refine args_nil ?_
  refine call_range_1 ?_
  refine iter_rangeN 5 rfl hA.handled (S.push _) (IsRange.new ..) (by decide) (by decide) (by decide) (by decide) ?_
  intro it h₁ k₁ X₁
  refine ⟨_, _, _, _, _, fun i v os => os = [] ∧ ∃ t, v = .int (wI ns i) t, ?_, X₁, ?_, ?_⟩
  · rw [sizeLine_eq]; omega
  · rintro i v C g₂ m₂ h₄ tk₄ hi ⟨ti, rfl⟩ sub₂ hled S₄ hm₂
    rw [Int.zero_add] at hm₂
    refine due_elt hA (G.sub sub₂) S₄ hm₂ (hled (c1, .cel (some (.ref ll))) (List.mem_of_getElem? (i := 3) rfl)) (hled (ll, .lst vs) (List.mem_of_getElem? (i := 2) rfl) : (MO.lst vs).At g₂ ll).isList hI hn5 hi ?_
    intro h₅ tk₅ t₅ k₅
    exact ⟨_, _, [], rfl, k₅, ⟨rfl, t₅, rfl⟩, (fun p hp => nomatch hp), List.nodup_nil⟩
  intro D h₂ tk₂ ys oss hys hoss hF S₂ k₂
  have hnil : oss.flatten = [] := flatten_nil fun os ho => by
    obtain ⟨i, hi, rfl⟩ := List.getElem_of_mem ho
    exact (hF i (ys[i]'(by omega)) _ (List.getElem?_eq_getElem _) (List.getElem?_eq_getElem hi)).1
  rw [hnil, List.nil_append] at S₂
  have hds : IntsAre ys ((List.range 5).map (wI ns)) := by
    refine intsAre_of (by rw [hys, List.length_map, List.length_range]) fun i y x e1 e2 => ?_
    obtain ⟨os, e3⟩ := getOs (by rw [hoss, hys]) e1
    obtain ⟨_, t, e4⟩ := hF i y os e1 e3
    rw [List.getElem?_map] at e2
    cases eo : (List.range 5)[i]? with
    | none => rw [eo] at e2; cases e2
    | some x' =>
      rw [eo] at e2; cases e2
      have : x' = i := by
        have := List.getElem?_eq_some_iff.mp eo
        obtain ⟨_, e⟩ := this
        rw [List.getElem_range] at e; exact e.symm
      rw [this]
      exact ⟨t, e4⟩
  refine args_nil ?_
  refine app_list 9 S₂ rfl ?_ (by rw [sizeLine_eq]; omega)
  intro h₃ S₃
  refine wpAny_execs_nil ?_
  exact h _ _ _ _ S₃ hds
end
end Mine
set_option maxRecDepth 100000
namespace Mine
open PySem PySem.Calls PyProof.Rows
theorem runs_bound {B : Nat} : ∀ (l : List Int) (a : Int), (∀ x ∈ l, x.natAbs ≤ B) → ∀ n ∈ runs a l, n.natAbs ≤ a.natAbs + l.length * B
  | [], a, _, n, hn => by rw [List.mem_singleton.mp (show n ∈ [a] from hn)]; omega
  | x :: l, a, hx, n, hn => by
    have h1 := hx x (.head _)
    rcases List.mem_cons.mp (show n ∈ a :: runs (a + x) l from hn) with rfl | hn
    · exact Nat.le_add_right _ _
    · have ih := runs_bound l (a + x) (fun y hy => hx y (.tail _ hy)) n hn
      rw [List.length_cons, Nat.succ_mul]
      omega
/-- the lead that round k adds -/
def XX (rows : List (List Int)) (one other k : Nat) : Int := ((cp (rowText one ((rows.getD k []).take 3))).length : Int) - (cp (rowText other ((rows.getD k []).drop 3))).length
def lead (rows : List (List Int)) (one other : Nat) (o : List Int) : List Int := runs 0 (o.map fun i => XX rows one other i.toNat)
theorem row_at {rows : List (List Int)} (h6 : Six rows) {k : Nat} (hk : k < 4) : rows[k]? = some (rows.getD k []) ∧ (rows.getD k []).length = 6 ∧ Figs (rows.getD k []) := by
  have hl := h6.1
  have e : rows[k]? = some (rows.getD k []) := by rw [List.getD_eq_getElem?_getD, List.getElem?_eq_getElem (by omega)]; rfl
  exact ⟨e, h6.2 _ (List.mem_of_getElem? e)⟩
theorem txt_at {rows : List (List Int)} (h6 : Six rows) (fn : List Int → List Int) (wh : Nat) {k : Nat} (hk : k < 4) : ((rows.map fn).map (rowText wh)).getD k Str.empty = rowText wh (fn (rows.getD k [])) := by
  rw [List.getD_eq_getElem?_getD, List.getElem?_map, List.getElem?_map, (row_at h6 hk).1]; rfl
theorem figs_take {r : List Int} (h : Figs r) (n : Nat) : Figs (r.take n) := fun f hf => h f (List.mem_of_mem_take hf)
theorem figs_drop {r : List Int} (h : Figs r) (n : Nat) : Figs (r.drop n) := fun f hf => h f (List.mem_of_mem_drop hf)
theorem XX_bound {rows : List (List Int)} (h6 : Six rows) {one other k : Nat} (h1 : one < 5) (h2 : other < 5) (hk : k < 4) : (XX rows one other k).natAbs ≤ 24 := by
  have hr := row_at h6 hk
  have a := row_len one (by omega) ((rows.getD k []).take 3)
  have b := row_len other (by omega) ((rows.getD k []).drop 3)
  rw [List.length_take, hr.2.1] at a
  rw [List.length_drop, hr.2.1] at b
  unfold XX; omega
theorem lead_bound {rows : List (List Int)} (h6 : Six rows) {one other : Nat} (h1 : one < 5) (h2 : other < 5) {o : List Int} (ho : ∀ i ∈ o, 0 ≤ i ∧ i < 4) (hol : o.length = 4) : ∀ n ∈ lead rows one other o, n.natAbs ≤ 96 := by
  intro n hn
  unfold lead at hn
  have hB : ∀ x ∈ (o.map fun i => XX rows one other i.toNat), x.natAbs ≤ 24 := fun x hx => by
    obtain ⟨i, hi, rfl⟩ := List.mem_map.mp hx
    have := ho i hi
    exact XX_bound h6 h1 h2 (by omega)
  have hb := runs_bound _ _ hB n hn
  rw [List.length_map, hol, Int.natAbs_zero] at hb
  omega
theorem lead_len {rows : List (List Int)} {one other : Nat} {o : List Int} (hol : o.length = 4) : (lead rows one other o).length = 5 := by
  unfold lead; rw [runs_len, List.length_map, hol]
theorem zipWith_maps {α β : Type} (f g : α → β) (c : β → β → Int) : ∀ l : List α, List.zipWith c (l.map f) (l.map g) = l.map fun a => c (f a) (g a)
  | [] => rfl
  | a :: l => by rw [List.map_cons, List.map_cons, List.zipWith_cons_cons, zipWith_maps f g c l]; rfl
/-- the parts of the left writing -/
theorem parts_eq {rows : List (List Int)} (h6 : Six rows) (fn : List Int → List Int) (hfn : ∀ r, Figs r → Figs (fn r)) {wh : Nat} (hw : wh < 5) {o : List Int} (ho : ∀ i ∈ o, 0 ≤ i ∧ i < 4) :
    (o.map fun i => (cp (((rows.map fn).map (rowText 5)).getD i.toNat Str.empty)).flatMap (escOf wh)) = o.map fun i => cp (rowText wh (fn (rows.getD i.toNat []))) := by
  refine List.map_congr_left fun i hi => ?_
  have hb := ho i hi
  have hk : i.toNat < 4 := by omega
  rw [txt_at h6 fn 5 hk, row_esc hw _ (hfn _ (row_at h6 hk).2.2)]
theorem due_eq {rows : List (List Int)} (h6 : Six rows) (fn : List Int → List Int) {wh : Nat} {o : List Int} (ho : ∀ i ∈ o, 0 ≤ i ∧ i < 4) :
    (o.map fun i => cp (((rows.map fn).map (rowText wh)).getD i.toNat Str.empty)) = o.map fun i => cp (rowText wh (fn (rows.getD i.toNat []))) := by
  refine List.map_congr_left fun i hi => ?_
  have hb := ho i hi
  rw [txt_at h6 fn wh (by omega)]
theorem texts_len {rows : List (List Int)} (h6 : Six rows) (fn : List Int → List Int) (hfl : ∀ r : List Int, r.length = 6 → (fn r).length ≤ 6) {wh : Nat} (hw : wh < 6) : ∀ t ∈ (rows.map fn).map (rowText wh), t.length ≤ 100 := fun t ht => by
  obtain ⟨q, hq, rfl⟩ := List.mem_map.mp ht
  obtain ⟨r, hr, rfl⟩ := List.mem_map.mp hq
  have := row_len wh hw (fn r)
  have := hfl r (h6.2 r hr).1
  rw [← cp_length]; omega
theorem texts_sig {rows : List (List Int)} (h6 : Six rows) (fn : List Int → List Int) (hfn : ∀ r, Figs r → Figs (fn r)) : ∀ t ∈ (rows.map fn).map (rowText 5), ∀ c ∈ cp t, c ∈ sigma := fun t ht => by
  obtain ⟨q, hq, rfl⟩ := List.mem_map.mp ht
  obtain ⟨r, hr, rfl⟩ := List.mem_map.mp hq
  exact row_sig _ (hfn r (h6.2 r hr).2)
theorem parts_bar {rows : List (List Int)} (h6 : Six rows) (fn : List Int → List Int) (hfn : ∀ r, Figs r → Figs (fn r)) {wh : Nat} (hw : wh < 5) {o : List Int} (ho : ∀ i ∈ o, 0 ≤ i ∧ i < 4) :
    ∀ p ∈ o.map fun i => cp (rowText wh (fn (rows.getD i.toNat []))), 124 ∉ p := fun p hp => by
  obtain ⟨i, hi, rfl⟩ := List.mem_map.mp hp
  have hb := ho i hi
  exact row_bar (by omega) _ (hfn _ (row_at h6 (by omega)).2.2)
theorem parts_len {rows : List (List Int)} (h6 : Six rows) (fn : List Int → List Int) (hfl : ∀ r : List Int, r.length = 6 → (fn r).length ≤ 6) {wh : Nat} (hw : wh < 5) {o : List Int} (ho : ∀ i ∈ o, 0 ≤ i ∧ i < 4) :
    ∀ p ∈ o.map fun i => cp (rowText wh (fn (rows.getD i.toNat []))), p.length ≤ 100 := fun p hp => by
  obtain ⟨i, hi, rfl⟩ := List.mem_map.mp hp
  have hb := ho i hi
  have := row_len wh (by omega) (fn (rows.getD i.toNat []))
  have := hfl _ (row_at h6 (k := i.toNat) (by omega)).2.1
  omega
end Mine
set_option maxRecDepth 100000
namespace Mine
open PySem PySem.Calls PyProof.Rows
/-- what the frozen part holds for the turns -/
structure Laid (g : Heap) (c5 c6 c7 c8 : Addr) (rows : List (List Int)) (one other : Nat) (hl : Addr) (fs : List Value) : Prop where
  six : Six rows
  o5 : one < 5
  t5 : other < 5
  hlist : g.IsList hl fs.toArray
  hands : Hands g fs
  lefts : ∃ l vs, g.IsCell c8 (some (.ref l)) ∧ g.IsList l (List.toArray vs) ∧ StrsAre vs ((rows.map (List.take 3)).map (rowText 5))
  rights : ∃ l vs, g.IsCell c7 (some (.ref l)) ∧ g.IsList l (List.toArray vs) ∧ StrsAre vs ((rows.map (List.drop 3)).map (rowText 5))
  ldue : ∃ l vs, g.IsCell c6 (some (.ref l)) ∧ g.IsList l (List.toArray vs) ∧ StrsAre vs ((rows.map (List.take 3)).map (rowText one))
  rdue : ∃ l vs, g.IsCell c5 (some (.ref l)) ∧ g.IsList l (List.toArray vs) ∧ StrsAre vs ((rows.map (List.drop 3)).map (rowText other))
theorem Hands.sub {h h' : Heap} {fs : List Value} (x : Hands h fs) (k : Sub h h') : Hands h' fs := ⟨x.1, fun i v e => let ⟨f, a, b⟩ := x.2 i v e; ⟨f, a, b.sub k⟩⟩
theorem Laid.sub {g g' : Heap} {c5 c6 c7 c8 : Addr} {rows : List (List Int)} {one other : Nat} {hl : Addr} {fs : List Value} (x : Laid g c5 c6 c7 c8 rows one other hl fs) (k : Sub g g') : Laid g' c5 c6 c7 c8 rows one other hl fs :=
  ⟨x.six, x.o5, x.t5, x.hlist.at fun _ e => k _ _ e, x.hands.sub k,
    let ⟨l, vs, a, b, c⟩ := x.lefts; ⟨l, vs, a.keeps k, b.at fun _ e => k _ _ e, c⟩, let ⟨l, vs, a, b, c⟩ := x.rights; ⟨l, vs, a.keeps k, b.at fun _ e => k _ _ e, c⟩,
    let ⟨l, vs, a, b, c⟩ := x.ldue; ⟨l, vs, a.keeps k, b.at fun _ e => k _ _ e, c⟩, let ⟨l, vs, a, b, c⟩ := x.rdue; ⟨l, vs, a.keeps k, b.at fun _ e => k _ _ e, c⟩⟩
/-- the names that the turns leave -/
structure Kept (m : Str → Option Value) (lt hl : Addr) (one other : Nat) : Prop where
  told : m "told" = some (.ref lt)
  hands : m "hands" = some (.ref hl)
  one : ∃ t, m "one" = some (.int one t)
  other : ∃ t, m "other" = some (.int other t)
theorem take_figs : ∀ r, Figs r → Figs (List.take 3 r) := fun _ h => figs_take h 3
theorem drop_figs : ∀ r, Figs r → Figs (List.drop 3 r) := fun _ h => figs_drop h 3
theorem take_6 : ∀ r : List Int, r.length = 6 → (List.take 3 r).length ≤ 6 := fun r h => by rw [List.length_take]; omega
theorem drop_6 : ∀ r : List Int, r.length = 6 → (List.drop 3 r).length ≤ 6 := fun r h => by rw [List.length_drop]; omega
section
variable {prog : Program} {w : World} {A : Around} {E : Value → Shared → Prop} {s : Shared} {mg mb : Str → Option Value} {g : Heap} {L : Addr}
set_option maxHeartbeats 2000000 in
theorem law_turn {c1 c2 c3 c4 c5 c6 c7 c8 lt ld lq hl lo : Addr} {v1 v2 : Option Value} {tvs dvs qvs fs ws : List Value} {rows : List (List Int)} {one other : Nat} {o : List Int} {rest : Led} {ex : EX} {m : Str → Option Value} {Q : Flow → Shared → Prop}
    (hA : AOk A 1) (G : Gl w mg mb g) (Y : Laid g c5 c6 c7 c8 rows one other hl fs) (K : Kept m lt hl one other)
    (S : St g L m (lled c1 c2 c3 c4 lt ld lq v1 v2 tvs dvs qvs rest) s.heap)
    (hmt : m "turns" = some (.ref lo)) (hlo : g.IsList lo ws.toArray) (hws : IntsAre ws o) (ho : ∀ i ∈ o, 0 ≤ i ∧ i < 4) (hol : o.length = 4)
    (h1 : tvs.length ≤ 100) (h2 : dvs.length ≤ 100) (h3 : qvs.length ≤ 100)
    (h : ∀ h' tk m' ll vs r rs qr qs dr ds, St g L m' ((dr, .lst ds) :: (qr, .lst qs) :: (r, .lst rs) :: (ll, .lst vs) :: lled c1 c2 c3 c4 lt ld lq (some (.ref ll)) v2 (tvs ++ [.ref r]) (dvs ++ [.ref dr]) (qvs ++ [.ref qr]) rest) h' → Kept m' lt hl one other →
      HVs rs ((isrt leI (lead rows one other o)).map (2 * ·)) → HVs qs (q4 (isrt leI (lead rows one other o))) → IntsAre ds ((List.range 5).map (wI (lead rows one other o))) → Q .next { s with heap := h', toks := tk }) :
    wpAny (model prog w) A (execs (lawTurn 0) (mkEnv (fnScope 15) L (lawCs c1 c2 c3 c4 c5 c6 c7 c8) ex)) Q E s := by
  obtain ⟨h6, ho5, ht5, hhl, hfs, ⟨l8, vs8, hc8, hl8, hv8⟩, ⟨l7, vs7, hc7, hl7, hv7⟩, ⟨l6, vs6, hc6, hl6, hv6⟩, ⟨l5, vs5, hc5, hl5, hv5⟩⟩ := Y
  obtain ⟨kt, kh, ⟨t1, k1⟩, ⟨t2, k2⟩⟩ := K
  have len4 : ∀ fn wh, ((rows.map fn).map (rowText wh)).length = 4 := fun fn wh => by rw [List.length_map, List.length_map, h6.1]
  refine t_0 hA G S hmt hlo hws ho (by omega) kh hhl hfs k1 ho5 hc8 hl8 hv8 (len4 _ _) (texts_len h6 _ take_6 (by omega)) (texts_sig h6 _ take_figs) ?_
  intro h₁ tk₁ y ty S₁ hy
  refine t_1 hA G S₁ hmt hlo hws ho (by omega) kh hhl hfs k2 ht5 hc7 hl7 hv7 (len4 _ _) (texts_len h6 _ drop_6 (by omega)) (texts_sig h6 _ drop_figs) ?_
  intro h₂ tk₂ z tz S₂ hz
  rw [parts_eq h6 _ take_figs ho5 ho] at hy
  rw [parts_eq h6 _ drop_figs ht5 ho] at hz
  refine t_2 hA S₂ hmt hlo hws ho (by omega) hc6 hl6 hv6 (len4 _ _) (texts_len h6 _ take_6 (by omega)) (y := y) (ty := ty) rfl (by rw [due_eq h6 _ ho]; exact hy) ?_
  intro h₃ tk₃ S₃
  refine t_3 hA S₃ hmt hlo hws ho (by omega) hc5 hl5 hv5 (len4 _ _) (texts_len h6 _ drop_6 (by omega)) (y := z) (ty := tz) rfl (by rw [due_eq h6 _ ho]; exact hz) ?_
  intro h₄ tk₄ S₄
  refine t_4 S₄ ?_
  intro h₅ tk₅ ll t₅ S₅
  refine t_5 hA G S₅ (y := y) (z := z) (ty := ty) (tz := tz) rfl rfl hy hz (by rw [List.length_map, hol]) (by rw [List.length_map, hol]) (parts_bar h6 _ take_figs ho5 ho) (parts_bar h6 _ drop_figs ht5 ho) (parts_len h6 _ take_6 ho5 ho) (parts_len h6 _ drop_6 ht5 ho) ?_
  intro h₆ tk₆ m₆ vs S₆ hI hm₆
  rw [zipWith_maps] at hI
  have hI' : IntsAre vs (lead rows one other o) := hI
  have hb := lead_bound h6 ho5 ht5 ho hol
  have hb' : ∀ n ∈ lead rows one other o, n.natAbs < 2 ^ 50 := fun n hn => Nat.lt_of_le_of_lt (hb n hn) (by decide)
  have hl5' := lead_len (rows := rows) (one := one) (other := other) hol
  generalize lead rows one other o = ns at hI' hb' hl5' h
  refine t_6 hA G S₆ hI' hl5' hb' ?_
  intro h₇ tk₇ r rs S₇ hr
  refine t_7 hA G S₇ rfl hr (by rw [List.length_map, (isrt_perm leI ns).length_eq]; exact hl5') ?_
  intro h₈ tk₈ S₈
  have e1 : m₆ "told" = some (.ref lt) := (hm₆ _ (by decide +kernel) (by decide +kernel)).trans kt
  have e2 : m₆ "hands" = some (.ref hl) := (hm₆ _ (by decide +kernel) (by decide +kernel)).trans kh
  have e3 : m₆ "one" = some (.int one t1) := (hm₆ _ (by decide +kernel) (by decide +kernel)).trans k1
  have e4 : m₆ "other" = some (.int other t2) := (hm₆ _ (by decide +kernel) (by decide +kernel)).trans k2
  refine t_8 S₈ rfl e1 h1 ?_
  intro h₉ tk₉ S₉
  refine t_9 hA G S₉ hI' hl5' hb' h3 ?_
  intro ha tka qr qs Sa hq
  refine t_10 hA G Sa hI' hl5' h2 ?_
  intro hb₁ tkb dr ds Sb hd
  exact h _ _ _ _ _ _ _ _ _ _ _ Sb ⟨e1, e2, ⟨_, e3⟩, ⟨_, e4⟩⟩ hr hq hd
end
end Mine
set_option maxRecDepth 100000
namespace Mine
open PySem PySem.Calls PyProof.Rows
/-- rows in the ledger, read by R -/
def RowsR (R : List Value → List Int → Prop) (led : Led) (vs : List Value) (nss : List (List Int)) : Prop :=
  vs.length = nss.length ∧ ∀ (i : Nat) v ns, vs[i]? = some v → nss[i]? = some ns → ∃ r ws, v = Value.ref r ∧ (r, MO.lst ws) ∈ led ∧ R ws ns
theorem RowsR.nil {R : List Value → List Int → Prop} {led : Led} : RowsR R led [] [] := ⟨rfl, fun i v ns e => by simp at e⟩
theorem RowsR.snoc {R : List Value → List Int → Prop} {led led' : Led} {vs : List Value} {nss : List (List Int)} {r : Addr} {ws : List Value} {ns : List Int} (x : RowsR R led vs nss) (hs : ∀ p ∈ led, p ∈ led') (hm : (r, MO.lst ws) ∈ led') (hR : R ws ns) :
    RowsR R led' (vs ++ [.ref r]) (nss ++ [ns]) := by
  refine ⟨by simp [x.1], fun i v ms e1 e2 => ?_⟩
  by_cases hi : i < vs.length
  · rw [List.getElem?_append_left hi] at e1
    rw [List.getElem?_append_left (by rw [← x.1]; exact hi)] at e2
    obtain ⟨a, b, c, d, e⟩ := x.2 i v ms e1 e2
    exact ⟨a, b, c, hs _ d, e⟩
  · rw [List.getElem?_append_right (by omega)] at e1
    rw [List.getElem?_append_right (by rw [← x.1]; omega), ← x.1] at e2
    cases hj : i - vs.length with
    | zero => rw [hj] at e1 e2; cases e1; cases e2; exact ⟨_, _, rfl, hm, hR⟩
    | succ j => rw [hj] at e1; simp at e1
theorem take_map_succ {α β : Type} (f : α → β) {l : List α} {i : Nat} {a : α} (h : l[i]? = some a) : (l.take (i + 1)).map f = (l.take i).map f ++ [f a] := by
  rw [List.take_add_one, h, Option.toList_some, List.map_append]; rfl
def ordOk (o : List Int) : Bool := o.length == 4 && o.all fun i => decide (0 ≤ i) && decide (i < 4)
theorem orders_ok : (ordersTo 4).all ordOk = true := by decide +kernel
theorem orders_24 : (ordersTo 4).length = 24 := by decide +kernel
theorem order_in {o : List Int} (h : o ∈ ordersTo 4) : (∀ i ∈ o, 0 ≤ i ∧ i < 4) ∧ o.length = 4 := by
  have := List.all_eq_true.mp orders_ok o h
  unfold ordOk at this
  rw [Bool.and_eq_true, List.all_eq_true] at this
  refine ⟨fun i hi => ?_, by simpa using this.1⟩
  have := this.2 i hi
  simpa using this
abbrev tRow (rows : List (List Int)) (one other : Nat) (o : List Int) : List Int := (isrt leI (lead rows one other o)).map (2 * ·)
abbrev qRow (rows : List (List Int)) (one other : Nat) (o : List Int) : List Int := q4 (isrt leI (lead rows one other o))
abbrev dRow (rows : List (List Int)) (one other : Nat) (o : List Int) : List Int := (List.range 5).map (wI (lead rows one other o))
section
variable {prog : Program} {w : World} {A : Around} {E : Value → Shared → Prop} {s : Shared} {mg mb : Str → Option Value} {g : Heap} {L : Addr}
/-- a call of a def of the text without arguments -/
theorem callF0 {env : Env} {pos : Pos} {f : Addr} {i : Nat} {kV : Value} {Q : Value → Shared → Prop} (X : FnAt g f i kV) (k : Sub g s.heap)
    (h : wpAny (model prog w) A (call (.ref f) []) Q E s) :
    wpAny (model prog w) A (callWith pos (.ref f) [] (backTo pos (starEach [] env)) []) Q E s := by
  obtain ⟨oc, od, osl, doc, pm, an, cdv, ct, e, hcd⟩ := X
  exact callWith_function (PySem.evalArgs_none ⟨⟨k _ _ e, rfl⟩, h⟩)
set_option maxHeartbeats 2000000 in
/-- the loop over the orders -/
theorem law_12 {c1 c2 c3 c4 c5 c6 c7 c8 lt ld lq hl : Addr} {v1 v2 : Option Value} {fs : List Value} {rows : List (List Int)} {one other : Nat} {ex : EX} {m : Str → Option Value} {Q : Flow → Shared → Prop}
    (hA : AOk A 1) (G : Gl w mg mb g) (Y : Laid g c5 c6 c7 c8 rows one other hl fs) (K : Kept m lt hl one other)
    (S : St g L m (lled c1 c2 c3 c4 lt ld lq v1 v2 [] [] [] []) s.heap)
    (h : ∀ g' h' tk m' v1' tvs dvs qvs rest, Sub g g' → St g' L m' (lled c1 c2 c3 c4 lt ld lq v1' v2 tvs dvs qvs rest) h' → Kept m' lt hl one other →
      RowsR HVs rest tvs ((ordersTo 4).map (tRow rows one other)) → RowsR IntsAre rest dvs ((ordersTo 4).map (dRow rows one other)) → RowsR HVs rest qvs ((ordersTo 4).map (qRow rows one other)) →
      wpAny (model prog w) A (execs (lawFrom 13) (mkEnv (fnScope 15) L (lawCs c1 c2 c3 c4 c5 c6 c7 c8) ex)) Q E { s with heap := h', toks := tk }) :
    wpAny (model prog w) A (execs (lawFrom 12) (mkEnv (fnScope 15) L (lawCs c1 c2 c3 c4 c5 c6 c7 c8) ex)) Q E s := by
  show wpAny (model prog w) A (execs (.For _ _ (lawTurn 0) _ _ :: _) _) Q E s
  refine wpAny_execs_cons ?_
  refine for_walk ?_
  refine Call_ ?_
  refine nm_f 14 G S (by decide) rfl ?_
  intro f X
  refine callF0 X S.keep ?_
  refine orders_call hA (G.sub S.keep) (X.sub S.keep) ?_
  intro h₁ tk₁ l vs rest k₁ hnew hnd hR
  have S₁ := S.adds k₁ hnew hnd
  have S₂ := S₁.perm (List.perm_append_comm (l₁ := lled c1 c2 c3 c4 lt ld lq v1 v2 [] [] [] []) (l₂ := (l, MO.lst vs) :: rest))
  obtain ⟨g₂, sub₂, S₃, hall, _⟩ := S₂.freeze
  have hlv : g₂.IsList l vs.toArray := (hall (l, .lst vs) (.head _) : (MO.lst vs).At g₂ l).isList
  refine iter_list hA.handled S₃ hlv ?_
  intro it h₂ k₂ X₂
  have hvl : vs.length = 24 := by rw [hR.1, orders_24]
  rw [hvl] at X₂
  refine loop_walk (fun i m' led' => ∃ v1' tvs dvs qvs rest', led' = lled c1 c2 c3 c4 lt ld lq v1' v2 tvs dvs qvs rest' ∧ Kept m' lt hl one other ∧
    RowsR HVs rest' tvs (((ordersTo 4).take i).map (tRow rows one other)) ∧ RowsR IntsAre rest' dvs (((ordersTo 4).take i).map (dRow rows one other)) ∧ RowsR HVs rest' qvs (((ordersTo 4).take i).map (qRow rows one other))) X₂ ?_ ?_ ?_
  · exact ⟨v1, [], [], [], [], rfl, K, .nil, .nil, .nil⟩
  · rintro i v g₁ m₁ led₁ h₃ tk₃ hi hv sub ⟨v1', tvs, dvs, qvs, rest', rfl, K₁, r1, r2, r3⟩ S₄
    have hi' : i < (ordersTo 4).length := by rw [orders_24]; exact hi
    have ho : (ordersTo 4)[i]? = some (ordersTo 4)[i] := List.getElem?_eq_getElem hi'
    obtain ⟨lo, ws, rfl, hmem, hws⟩ := hR.2 i v _ hv ho
    have hin := order_in (List.mem_of_getElem? ho)
    have hlo : g₁.IsList lo ws.toArray := ((hall (lo, .lst ws) (.tail _ hmem) : (MO.lst ws).At g₂ lo).isList).at fun o e => sub _ _ e
    generalize (ordersTo 4)[i] = o at ho hws hin
    refine wpAny_assign_Name ?_
    refine st_loc S₄ rfl ?_
    intro h₅ S₅
    have hle : ∀ {β : Type} (f : List Int → β), (((ordersTo 4).take i).map f).length ≤ 100 := fun f => by
      rw [List.length_map, List.length_take, orders_24]; omega
    refine law_turn hA (G.sub (sub₂.trans sub)) (Y.sub (sub₂.trans sub)) ?_ S₅ rfl hlo hws hin.1 hin.2 (by rw [r1.1]; exact hle _) (by rw [r2.1]; exact hle _) (by rw [r3.1]; exact hle _) ?_
    · exact ⟨K₁.told, K₁.hands, K₁.one, K₁.other⟩
    intro h₆ tk₆ m₆ ll vs₆ r rs qr qs dr ds S₆ K₆ hr hq hd
    refine ⟨h₆, tk₆, m₆, _, rfl, S₆.perm (led' := lled c1 c2 c3 c4 lt ld lq (some (.ref ll)) v2 (tvs ++ [.ref r]) (dvs ++ [.ref dr]) (qvs ++ [.ref qr]) ((dr, .lst ds) :: (qr, .lst qs) :: (r, .lst rs) :: (ll, .lst vs₆) :: rest')) ?_, _, _, _, _, _, rfl, K₆, ?_, ?_, ?_⟩
    · exact List.perm_append_comm_assoc [(c1, MO.cel (some (.ref ll))), (c2, .cel v2), (c3, .cel (some (.ref lq))), (c4, .cel (some (.ref ld))), (lt, .lst (tvs ++ [.ref r])), (ld, .lst (dvs ++ [.ref dr])), (lq, .lst (qvs ++ [.ref qr]))] [(dr, .lst ds), (qr, .lst qs), (r, .lst rs), (ll, .lst vs₆)] rest'
    · rw [take_map_succ _ ho]
      exact r1.snoc (fun p hp => .tail _ (.tail _ (.tail _ (.tail _ hp)))) (.tail _ (.tail _ (.head _))) hr
    · rw [take_map_succ _ ho]
      exact r2.snoc (fun p hp => .tail _ (.tail _ (.tail _ (.tail _ hp)))) (.head _) hd
    · rw [take_map_succ _ ho]
      exact r3.snoc (fun p hp => .tail _ (.tail _ (.tail _ (.tail _ hp)))) (.tail _ (.head _)) hq
  · rintro m₁ led₁ h₃ tk₃ ⟨v1', tvs, dvs, qvs, rest', rfl, K₁, r1, r2, r3⟩ S₄
    rw [List.take_of_length_le (by rw [orders_24]; omega)] at r1 r2 r3
    exact h _ _ _ _ _ _ _ _ _ sub₂ S₄ K₁ r1 r2 r3
end
end Mine
set_option maxRecDepth 100000
namespace Mine
open PySem PySem.Calls PyProof.Rows
/-- rows in the frozen part, read by R -/
def RowsG (R : List Value → List Int → Prop) (g : Heap) (vs : List Value) (nss : List (List Int)) : Prop :=
  vs.length = nss.length ∧ ∀ (i : Nat) v ns, vs[i]? = some v → nss[i]? = some ns → ∃ r ws, v = Value.ref r ∧ g.IsList r (List.toArray ws) ∧ R ws ns
theorem RowsG.sub {R : List Value → List Int → Prop} {g g' : Heap} {vs : List Value} {nss : List (List Int)} (x : RowsG R g vs nss) (k : Sub g g') : RowsG R g' vs nss :=
  ⟨x.1, fun i v ns e1 e2 => let ⟨r, ws, a, b, c⟩ := x.2 i v ns e1 e2; ⟨r, ws, a, b.at fun _ e => k _ _ e, c⟩⟩
theorem RowsR.frozen {R : List Value → List Int → Prop} {g : Heap} {led : Led} {vs : List Value} {nss : List (List Int)} (x : RowsR R led vs nss) (hat : ∀ p ∈ led, p.2.At g p.1) : RowsG R g vs nss :=
  ⟨x.1, fun i v ns e1 e2 => let ⟨r, ws, a, b, c⟩ := x.2 i v ns e1 e2; ⟨r, ws, a, (hat (r, .lst ws) b : (MO.lst ws).At g r).isList, c⟩⟩
/-- the k-th of each row -/
abbrev col (k : Nat) (nss : List (List Int)) : List Int := nss.map fun ns => ns.getD k 0
/-- the k-th of each row, as values -/
def Col (R : List Value → List Int → Prop) (k : Nat) (nss : List (List Int)) (ys : List Value) : Prop :=
  ys.length = nss.length ∧ ∀ (i : Nat) y ns, ys[i]? = some y → nss[i]? = some ns → ∃ ws, R ws ns ∧ ws[k]? = some y
theorem Col.ints {k : Nat} {nss : List (List Int)} {ys : List Value} (x : Col IntsAre k nss ys) (hk : ∀ ns ∈ nss, k < ns.length) : IntsAre ys (col k nss) := by
  refine intsAre_of (by rw [x.1, List.length_map]) fun i y n e1 e2 => ?_
  rw [List.getElem?_map] at e2
  cases eo : nss[i]? with
  | none => rw [eo] at e2; cases e2
  | some ns =>
    rw [eo] at e2; cases e2
    obtain ⟨ws, hR, hy⟩ := x.2 i y ns e1 eo
    obtain ⟨t, ht⟩ := intAt hR (hk ns (List.mem_of_getElem? eo))
    rw [hy] at ht
    exact ⟨t, Option.some.inj ht⟩
theorem Col.flts {k : Nat} {nss : List (List Int)} {ys : List Value} (x : Col HVs k nss ys) (hk : ∀ ns ∈ nss, k < ns.length) : HVs ys (col k nss) := by
  refine ⟨by rw [x.1, List.length_map], fun i y n e1 e2 => ?_⟩
  rw [List.getElem?_map] at e2
  cases eo : nss[i]? with
  | none => rw [eo] at e2; cases e2
  | some ns =>
    rw [eo] at e2; cases e2
    obtain ⟨ws, hR, hy⟩ := x.2 i y ns e1 eo
    exact hR.2 k y _ hy (by show ns[k]? = some (ns.getD k 0); rw [List.getD_eq_getElem?_getD, List.getElem?_eq_getElem (hk ns (List.mem_of_getElem? eo))]; rfl)
/-- the scope of the comprehensions over the rows -/
def colSc : Scope := {
  kind := .function,
  names := [(Str.ofString ".0", .local), (Str.ofString "row", .local), (Str.ofString "k", .free)],
  isGenerator := false, isCoroutine := false, more := [] }
def colSc' : Scope := {
  kind := .function,
  names := [(Str.ofString ".0", .local), (Str.ofString "row", .local), (Str.ofString "k", .cell)],
  isGenerator := false, isCoroutine := false, more := [] }
section
variable {prog : Program} {w : World} {A : Around} {E : Value → Shared → Prop} {s : Shared} {mg mb : Str → Option Value} {g : Heap} {L : Addr}
set_option maxHeartbeats 1000000 in
/-- [row[k] for row in rows] -/
theorem col_val {R : List Value → List Int → Prop} {iter : Expr} {p1 p2 p3 px pos : Pos} {sc : Scope} {cs : List (Str × Addr)} {ex : EX} {m : Str → Option Value} {led : Led} {K l : Addr} {k : Nat} {t : Tok} {vs : List Value} {nss : List (List Int)} {Q : Value → Shared → Prop}
    (hA : AOk A 1) (S : St g L m led s.heap) (hiter : ∀ Q₁ : Value → Shared → Prop, Q₁ (.ref l) s → wpAny (model prog w) A (eval iter (mkEnv sc L cs ex)) Q₁ E s)
    (hl : g.IsList l vs.toArray) (hrows : RowsG R g vs nss) (hR : ∀ ws ns, ns ∈ nss → R ws ns → k < ws.length) (hlen : vs.length ≤ 1000) (hk9 : k < 1000)
    (hK : ∀ g₁, Sub g g₁ → (∀ p ∈ led, p.2.At g₁ p.1) → g₁.IsCell K (some (.int k t)))
    (hclos : closureFor colSc (mkEnv sc L cs ex) = pure [(Str.ofString "k", K)]) (hrel : relabel colSc (mkEnv sc L cs ex) = colSc')
    (h : ∀ h' tk D ys, Sub s.heap h' → h'.IsList D (List.toArray ys) → Col R k nss ys → Q (.ref D) { s with heap := h', toks := tk })
    (hs : ∀ x, foldedSetIterable iter (mkEnv sc L cs ex) x = pure x := by intro _; rfl) :
    wpAny (model prog w) A (eval (.ListComp (.Subscript (.Name (Str.ofString "row") p1) (.Name (Str.ofString "k") p2) p3) [⟨.Name (Str.ofString "row") px, iter, [], 0⟩] colSc pos) (mkEnv sc L cs ex)) Q E s := by
  refine comp_val (g := g) (csc' := colSc') hclos (by decide +kernel) rfl (by decide +kernel) rfl hrel ?_ hs
  refine hiter _ ?_
  refine iter_list hA.handled S hl ?_
  intro it h₁ k₁ X₁
  refine ⟨_, _, _, _, _, fun i v os => os = [] ∧ ∀ ns, nss[i]? = some ns → ∃ ws, R ws ns ∧ ws[k]? = some v, ?_, X₁, ?_, ?_⟩
  · rw [sizeLine_eq]; omega
  · intro i v C g₂ m₂ h₄ tk₄ hi hv sub₂ hled S₄ hm₂
    have hi' : i < nss.length := by rw [← hrows.1]; exact hi
    obtain ⟨r, ws, rfl, hr, hRw⟩ := hrows.2 i v _ hv (List.getElem?_eq_getElem hi')
    have hkw := hR ws _ (List.getElem_mem hi') hRw
    have e : ws[k]? = some ws[k] := List.getElem?_eq_getElem hkw
    refine Subscript_ ?_
    refine nm_loc S₄ rfl hm₂ ?_
    refine nm_cel ((hK g₂ sub₂ hled).keeps S₄.keep) rfl rfl ?_
    refine tail_item (hr.at fun o e => S₄.keep _ _ (sub₂ _ _ e)) (by omega) (by omega) (x := ws[k]) e ?_
    refine ⟨h₄, _, [], rfl, fun _ _ e => e, ⟨rfl, fun ns en => ?_⟩, (fun p hp => nomatch hp), List.nodup_nil⟩
    rw [List.getElem?_eq_getElem hi'] at en
    cases en
    exact ⟨ws, hRw, e⟩
  · intro D h₂ tk₂ ys oss hys hoss hF S₂ k₂
    refine h _ _ _ ys k₂ (S₂.at (x := .lst ys) (.head _)).isList ⟨by rw [hys, hrows.1], fun i y ns e1 e2 => ?_⟩
    obtain ⟨os, e3⟩ := getOs (by rw [hoss, hys]) e1
    exact (hF i y os e1 e3).2 ns e2
end
end Mine
set_option maxRecDepth 100000
namespace Mine
open PySem PySem.Calls PyProof.Rows
theorem perm_sum {l r : List Int} (h : l.Perm r) : l.sum = r.sum := by
  induction h with
  | nil => rfl
  | cons a _ ih => rw [List.sum_cons, List.sum_cons, ih]
  | swap a b l => simp only [List.sum_cons]; omega
  | trans _ _ h1 h2 => rw [h1, h2]
theorem sum_add {α : Type} (f e : α → Int) : ∀ l : List α, (l.map fun o => f o + e o).sum = (l.map f).sum + (l.map e).sum
  | [] => rfl
  | a :: l => by rw [List.map_cons, List.map_cons, List.map_cons, List.sum_cons, List.sum_cons, List.sum_cons, sum_add f e l]; omega
theorem sum_two {α : Type} (f : α → Int) : ∀ l : List α, (l.map fun o => 2 * f o).sum = 2 * (l.map f).sum
  | [] => rfl
  | a :: l => by rw [List.map_cons, List.map_cons, List.sum_cons, List.sum_cons, sum_two f l]; omega
theorem getD_two : ∀ (l : List Int) (k : Nat), (l.map (2 * ·)).getD k 0 = 2 * l.getD k 0
  | [], _ => rfl
  | a :: l, 0 => rfl
  | a :: l, k + 1 => by rw [List.map_cons, List.getD_cons_succ, List.getD_cons_succ]; exact getD_two l k
theorem q4_at {ds : List Int} (h : ds.length = 5) : q4 ds = [ds.getD 0 0 + ds.getD 1 0, 2 * ds.getD 2 0, ds.getD 3 0 + ds.getD 4 0] := by
  match ds, h with
  | [a, b, c, d, e], _ => rfl
theorem isrt_len (l : List Int) : (isrt leI l).length = l.length := (isrt_perm leI l).length_eq
section
variable (rows : List (List Int)) (one other : Nat)
abbrev tss : List (List Int) := (ordersTo 4).map (tRow rows one other)
abbrev dss : List (List Int) := (ordersTo 4).map (dRow rows one other)
abbrev qss : List (List Int) := (ordersTo 4).map (qRow rows one other)
theorem lead5 {o : List Int} (ho : o ∈ ordersTo 4) : (lead rows one other o).length = 5 := lead_len (order_in ho).2
theorem srt5 {o : List Int} (ho : o ∈ ordersTo 4) : (isrt leI (lead rows one other o)).length = 5 := by rw [isrt_len, lead5 rows one other ho]
theorem tss_5 : ∀ ns ∈ tss rows one other, ns.length = 5 := fun ns h => by
  obtain ⟨o, ho, rfl⟩ := List.mem_map.mp h
  rw [List.length_map, srt5 rows one other ho]
theorem dss_5 : ∀ ns ∈ dss rows one other, ns.length = 5 := fun ns h => by
  obtain ⟨o, ho, rfl⟩ := List.mem_map.mp h
  rw [List.length_map, List.length_range]
theorem qss_3 : ∀ ns ∈ qss rows one other, ns.length = 3 := fun ns h => by
  obtain ⟨o, ho, rfl⟩ := List.mem_map.mp h
  show (q4 (isrt leI (lead rows one other o))).length = 3
  rw [q4_at (srt5 rows one other ho)]; rfl
theorem tss_24 : (tss rows one other).length = 24 := by rw [List.length_map, orders_24]
theorem dss_24 : (dss rows one other).length = 24 := by rw [List.length_map, orders_24]
theorem qss_24 : (qss rows one other).length = 24 := by rw [List.length_map, orders_24]
theorem col_t (k : Nat) : col k (tss rows one other) = ((ordersTo 4).map fun o => (isrt leI (lead rows one other o)).getD k 0).map (2 * ·) := by
  unfold col tss
  rw [List.map_map, List.map_map]
  refine List.map_congr_left fun o _ => ?_
  exact getD_two _ k
theorem col_d {k : Nat} (hk : k < 5) : col k (dss rows one other) = (ordersTo 4).map fun o => wI (lead rows one other o) k := by
  unfold col dss
  rw [List.map_map]
  refine List.map_congr_left fun o _ => ?_
  show ((List.range 5).map (wI (lead rows one other o))).getD k 0 = _
  rw [List.getD_eq_getElem?_getD, List.getElem?_map, List.getElem?_range hk]; rfl
theorem wen {k : Nat} (hk : k < 5) : ((ordersTo 4).map fun o => (isrt leI (lead rows one other o)).getD k 0).Perm ((ordersTo 4).map fun o => wI (lead rows one other o) k) :=
  wendel (XX rows one other) k hk
theorem col_perm {k : Nat} (hk : k < 5) : (col k (tss rows one other)).Perm ((col k (dss rows one other)).map (2 * ·)) := by
  rw [col_t, col_d rows one other hk]
  exact (wen rows one other hk).map _
theorem col_sum {k : Nat} (hk : k < 5) : (col k (dss rows one other)).sum = ((ordersTo 4).map fun o => (isrt leI (lead rows one other o)).getD k 0).sum := by
  rw [col_d rows one other hk]
  exact (perm_sum (wen rows one other hk)).symm
theorem q_col (j : Nat) : col j (qss rows one other) = (ordersTo 4).map fun o => ([(isrt leI (lead rows one other o)).getD 0 0 + (isrt leI (lead rows one other o)).getD 1 0, 2 * (isrt leI (lead rows one other o)).getD 2 0, (isrt leI (lead rows one other o)).getD 3 0 + (isrt leI (lead rows one other o)).getD 4 0] : List Int).getD j 0 := by
  unfold col qss
  rw [List.map_map]
  refine List.map_congr_left fun o ho => ?_
  show (q4 (isrt leI (lead rows one other o))).getD j 0 = _
  rw [q4_at (srt5 rows one other ho)]
theorem q_sum0 : (col 0 (qss rows one other)).sum = (col 0 (dss rows one other)).sum + (col 1 (dss rows one other)).sum := by
  rw [q_col, col_sum rows one other (by decide), col_sum rows one other (by decide)]
  exact sum_add _ _ _
theorem q_sum1 : (col 1 (qss rows one other)).sum = 2 * (col 2 (dss rows one other)).sum := by
  rw [q_col, col_sum rows one other (by decide)]
  exact sum_two _ _
theorem q_sum2 : (col 2 (qss rows one other)).sum = (col 3 (dss rows one other)).sum + (col 4 (dss rows one other)).sum := by
  rw [q_col, col_sum rows one other (by decide), col_sum rows one other (by decide)]
  exact sum_add _ _ _
theorem srt_bound {rows : List (List Int)} (h6 : Six rows) {one other : Nat} (h1 : one < 5) (h2 : other < 5) {o : List Int} (ho : o ∈ ordersTo 4) (k : Nat) : ((isrt leI (lead rows one other o)).getD k 0).natAbs ≤ 96 := by
  rw [List.getD_eq_getElem?_getD]
  cases e : (isrt leI (lead rows one other o))[k]? with
  | none => exact Nat.zero_le _
  | some n => exact lead_bound h6 h1 h2 (order_in ho).1 (order_in ho).2 n ((isrt_perm leI _).subset (List.mem_of_getElem? e))
theorem q_bound {rows : List (List Int)} (h6 : Six rows) {one other : Nat} (h1 : one < 5) (h2 : other < 5) (j : Nat) : ∀ n ∈ col j (qss rows one other), n.natAbs ≤ 192 := by
  intro n hn
  rw [q_col] at hn
  obtain ⟨o, ho, rfl⟩ := List.mem_map.mp hn
  have b := srt_bound h6 h1 h2 ho
  have b0 := b 0
  have b1 := b 1
  have b2 := b 2
  have b3 := b 3
  have b4 := b 4
  match j with
  | 0 => rw [List.getD_cons_zero]; omega
  | 1 => rw [List.getD_cons_succ, List.getD_cons_zero]; omega
  | 2 => rw [List.getD_cons_succ, List.getD_cons_succ, List.getD_cons_zero]; omega
  | j + 3 => exact Nat.zero_le _
theorem sum_bound {B : Nat} : ∀ l : List Int, (∀ n ∈ l, n.natAbs ≤ B) → l.sum.natAbs ≤ l.length * B
  | [], _ => Nat.zero_le _
  | a :: l, h => by
    have h1 := h a (.head _)
    have h2 := sum_bound l fun n hn => h n (.tail _ hn)
    rw [List.sum_cons, List.length_cons, Nat.succ_mul]; omega
end
end Mine
set_option maxRecDepth 100000
namespace Mine
open PySem PySem.Calls PyProof.Rows
def k13 : List Stmt := forBody ((lawFrom 13).getD 0 (.Pass default))
def k13E (j : Nat) : Expr := match ifTest (k13.getD 0 (.Pass default)) with
  | .Compare l _ [r] _ => if j = 0 then l else r
  | _ => .Constant .none 0 default
section
variable {prog : Program} {w : World} {A : Around} {E : Value → Shared → Prop} {s : Shared} {mg mb : Str → Option Value} {g : Heap} {L : Addr}
set_option maxHeartbeats 1000000 in
/-- sorted([row[k] for row in told]) -/
theorem srt_told {c1 c2 c3 c4 c5 c6 c7 c8 lt : Addr} {k : Nat} {t : Tok} {tvs : List Value} {ts : List (List Int)} {ex : EX} {m : Str → Option Value} {Q : Value → Shared → Prop} (hA : AOk A 1) (G : Gl w mg mb g)
    (S : St g L m [(c2, .cel (some (.int k t)))] s.heap) (hmt : m "told" = some (.ref lt)) (hlt : g.IsList lt tvs.toArray) (rt : RowsG HVs g tvs ts) (h5 : ∀ ns ∈ ts, ns.length = 5) (hk : k < 5) (h24 : ts.length = 24)
    (h : ∀ h' tk D ws ks, Sub s.heap h' → h'.IsList D (List.toArray ws) → HVs ws ks → ks.Perm (col k ts) → ks.Pairwise (· ≤ ·) → Q (.ref D) { s with heap := h', toks := tk }) :
    wpAny (model prog w) A (eval (k13E 0) (mkEnv (fnScope 15) L (lawCs c1 c2 c3 c4 c5 c6 c7 c8) ex)) Q E s := by
  show wpAny (model prog w) A (eval (.Call _ [.ListComp (.Subscript (.Name (Str.ofString "row") _) (.Name (Str.ofString "k") _) _) [⟨.Name (Str.ofString "row") _, _, [], 0⟩] colSc _] _ _) _) Q E s
  refine Call_ ?_
  refine nm_b G S bSorted rfl ?_
  refine PyProof.Rows.callWith_builtin1 ?_
  refine args_cons ?_
  refine col_val (R := HVs) (k := k) (t := t) (K := c2) hA S ?_ hlt rt ?_ ?_ ?_ ?_ rfl rfl ?_
  · intro Q₁ hQ
    exact nm_loc S rfl hmt hQ
  · intro ws ns hm hR
    rw [hR.1, h5 ns hm]; exact hk
  · rw [rt.1, h24]; decide
  · omega
  · intro g₁ _ hled
    exact hled _ (.head _)
  intro h₁ tk₁ D ys k₁ P₁ hc
  refine args_nil ?_
  have hH := hc.flts fun ns hm => by rw [h5 ns hm]; exact hk
  refine sorted_flt P₁ hH (by rw [hc.1, h24]; decide) ?_
  intro h₂ D₂ ws ks k₂ n₂ P₂ hH₂ hp hs
  exact h _ _ _ _ _ (k₁.trans k₂) P₂.isList hH₂ hp hs

set_option maxHeartbeats 1000000 in
/-- sorted([row[k] for row in due]) -/
theorem srt_due {c1 c2 c3 c4 c5 c6 c7 c8 ld : Addr} {k : Nat} {t : Tok} {dvs : List Value} {ds : List (List Int)} {ex : EX} {m : Str → Option Value} {Q : Value → Shared → Prop} (hA : AOk A 1) (G : Gl w mg mb g)
    (S : St g L m [(c2, .cel (some (.int k t)))] s.heap) (hc4 : g.IsCell c4 (some (.ref ld))) (hld : g.IsList ld dvs.toArray) (rd : RowsG IntsAre g dvs ds) (h5 : ∀ ns ∈ ds, ns.length = 5) (hk : k < 5) (h24 : ds.length = 24)
    (h : ∀ h' tk D ws ks, Sub s.heap h' → h'.IsList D (List.toArray ws) → IntsAre ws ks → ks.Perm (col k ds) → ks.Pairwise (· ≤ ·) → Q (.ref D) { s with heap := h', toks := tk }) :
    wpAny (model prog w) A (eval (k13E 1) (mkEnv (fnScope 15) L (lawCs c1 c2 c3 c4 c5 c6 c7 c8) ex)) Q E s := by
  show wpAny (model prog w) A (eval (.Call _ [.ListComp (.Subscript (.Name (Str.ofString "row") _) (.Name (Str.ofString "k") _) _) [⟨.Name (Str.ofString "row") _, _, [], 0⟩] colSc _] _ _) _) Q E s
  refine Call_ ?_
  refine nm_b G S bSorted rfl ?_
  refine PyProof.Rows.callWith_builtin1 ?_
  refine args_cons ?_
  refine col_val (R := IntsAre) (k := k) (t := t) (K := c2) hA S ?_ hld rd ?_ ?_ ?_ ?_ rfl rfl ?_
  · intro Q₁ hQ
    exact nm_cel (hc4.keeps S.keep) rfl rfl hQ
  · intro ws ns hm hR
    rw [hR.length, h5 ns hm]; exact hk
  · rw [rd.1, h24]; decide
  · omega
  · intro g₁ _ hled
    exact hled _ (.head _)
  intro h₁ tk₁ D ys k₁ P₁ hc
  refine args_nil ?_
  have hH := hc.ints fun ns hm => by rw [h5 ns hm]; exact hk
  refine sorted_lst P₁ hH (by rw [hc.1, h24]; decide) ?_
  intro h₂ D₂ ws ks k₂ n₂ P₂ hH₂ hp hs
  exact h _ _ _ _ _ (k₁.trans k₂) P₂.isList hH₂ hp hs

set_option maxHeartbeats 1000000 in
/-- the comparison of the columns -/
theorem law_13 {c1 c2 c3 c4 c5 c6 c7 c8 lt ld : Addr} {v2 : Option Value} {tvs dvs : List Value} {ts ds : List (List Int)} {ex : EX} {m : Str → Option Value} {Q : Flow → Shared → Prop} (hA : AOk A 1) (G : Gl w mg mb g)
    (S : St g L m [(c2, .cel v2)] s.heap) (hmt : m "told" = some (.ref lt)) (hc4 : g.IsCell c4 (some (.ref ld))) (hlt : g.IsList lt tvs.toArray) (hld : g.IsList ld dvs.toArray)
    (rt : RowsG HVs g tvs ts) (rd : RowsG IntsAre g dvs ds) (ht5 : ∀ ns ∈ ts, ns.length = 5) (hd5 : ∀ ns ∈ ds, ns.length = 5) (ht24 : ts.length = 24) (hd24 : ds.length = 24)
    (hperm : ∀ k, k < 5 → (col k ts).Perm ((col k ds).map (2 * ·)))
    (h : ∀ h' tk v2', St g L m [(c2, .cel v2')] h' →
      wpAny (model prog w) A (execs (lawFrom 14) (mkEnv (fnScope 15) L (lawCs c1 c2 c3 c4 c5 c6 c7 c8) ex)) Q E { s with heap := h', toks := tk }) :
    wpAny (model prog w) A (execs (lawFrom 13) (mkEnv (fnScope 15) L (lawCs c1 c2 c3 c4 c5 c6 c7 c8) ex)) Q E s := by
  show wpAny (model prog w) A (execs (.For _ _ [.If (.Compare (k13E 0) [_] [k13E 1] _) _ _ _] _ _ :: _) _) Q E s
  refine wpAny_execs_cons ?_
  refine for_walk ?_
  refine Call_ ?_
  refine nm_b G S bRange rfl ?_
  refine PyProof.Rows.callWith_type1 ?_
  refine args_cons ?_
  refine wpAny_Constant_int ?_
  refine args_nil ?_
  refine call_range_1 ?_
  refine iter_rangeN 5 rfl hA.handled (S.push _) (IsRange.new ..) (by decide) (by decide) (by decide) (by decide) ?_
  intro it h₁ k₁ X₁
  refine loop_walk (fun i m' led' => m' = m ∧ ∃ v, led' = [(c2, MO.cel v)]) X₁ ?_ ?_ ?_
  · exact ⟨rfl, v2, rfl⟩
  · rintro i v g₁ m₁ led₁ h₃ tk₃ hi ⟨ti, rfl⟩ sub ⟨rfl, v', rfl⟩ S₃
    rw [Int.zero_add]
    refine wpAny_assign_Name ?_
    refine st_cel 0 S₃ rfl rfl rfl ?_
    intro h₄ S₄
    refine wpAny_execs_cons ?_
    refine wpAny_If ?_
    refine wpAny_isTrue_Compare1 ?_
    refine srt_told hA (G.sub sub) S₄ hmt (hlt.at fun _ e => sub _ _ e) (rt.sub sub) ht5 hi ht24 ?_
    intro h₅ tk₅ D₅ ws₅ ks₅ k₅ P₅ H₅ hp₅ hs₅
    have S₅ := S₄.grow k₅
    refine srt_due hA (G.sub sub) S₅ (hc4.keeps sub) (hld.at fun _ e => sub _ _ e) (rd.sub sub) hd5 hi hd24 ?_
    intro h₆ tk₆ D₆ ws₆ ks₆ k₆ P₆ H₆ hp₆ hs₆
    have e : ks₅ = ks₆.map (2 * ·) := by
      have p : ks₅.Perm (ks₆.map (2 * ·)) := (hp₅.trans (hperm i hi)).trans (hp₆.map _).symm
      refine p.eq_of_pairwise (fun _ _ _ _ h1 h2 => Int.le_antisymm h1 h2) hs₅ ?_
      exact List.pairwise_map.mpr (hs₆.imp fun {a b} h => by show 2 * a ≤ 2 * b; omega)
    refine ne_halves (P₅.at fun _ q => k₆ _ _ q) P₆ H₅ H₆ e (by have := hA.units; omega) ?_
    refine wpAny_truthy_bool ?_
    refine ite_no (by decide) ?_
    refine wpAny_execs_nil ?_
    refine wpAny_execs_nil ?_
    exact ⟨_, _, _, _, rfl, S₅.grow k₆, rfl, _, rfl⟩
  · rintro m₁ led₁ h₃ tk₃ ⟨rfl, v', rfl⟩ S₃
    exact h _ _ _ S₃
end
end Mine
set_option maxRecDepth 100000
namespace Mine
open PySem PySem.Calls PyProof.Rows
def asgVal (s : Stmt) : Expr := match s with | .Assign _ e _ => e | _ => .Constant .none 0 default
def sumsE : Expr := asgVal ((lawFrom 14).getD 0 (.Pass default))
def halvesE : Expr := asgVal ((lawFrom 15).getD 0 (.Pass default))
theorem cells_k : ∀ (csc : Scope) (n : Str), csc.names = [(Str.ofString ".0", .local), (Str.ofString "k", .cell), (Str.ofString "sum", .globalImplicit), (n, .free)] → ∀ (a : Addr) (r : List (Str × Addr)), cellsFrom a csc.names r = (Str.ofString "k", a) :: r := by
  intro csc n e a r
  rw [e]; rfl
theorem push_k : ∀ (csc : Scope) (n : Str), csc.names = [(Str.ofString ".0", .local), (Str.ofString "k", .cell), (Str.ofString "sum", .globalImplicit), (n, .free)] → ∀ h : Heap, pushCells h csc.names = h.push { cls := .type "cell", data := .cell none } := by
  intro csc n e h
  rw [e]; rfl
theorem range_at {i k : Nat} {n : Nat} (h : (List.range n)[i]? = some k) : k = i := by
  obtain ⟨_, e⟩ := List.getElem?_eq_some_iff.mp h
  rw [List.getElem_range] at e; exact e.symm
section
variable {prog : Program} {w : World} {A : Around} {E : Value → Shared → Prop} {s : Shared} {mg mb : Str → Option Value} {g : Heap} {L : Addr}
set_option maxHeartbeats 1000000 in
/-- sum([row[k] for row in due]) -/
theorem sum_elt {c4 K ld : Addr} {k : Nat} {t : Tok} {dvs : List Value} {ds : List (List Int)} {ex : EX} {m : Str → Option Value} {Q : Value → Shared → Prop} (hA : AOk A 1) (G : Gl w mg mb g)
    (S : St g L m [] s.heap) (hK : g.IsCell K (some (.int k t))) (hc4 : g.IsCell c4 (some (.ref ld))) (hld : g.IsList ld dvs.toArray) (rd : RowsG IntsAre g dvs ds) (h5 : ∀ ns ∈ ds, ns.length = 5) (hk : k < 5) (h24 : ds.length = 24)
    (h : ∀ h' tk t, Sub s.heap h' → Q (.int (col k ds).sum t) { s with heap := h', toks := tk }) :
    wpAny (model prog w) A (eval (compElt sumsE) (mkEnv (rel (compSc sumsE) (fnScope 15)) L [(Str.ofString "k", K), (Str.ofString "due", c4)] (cEX ex))) Q E s := by
  show wpAny (model prog w) A (eval (.Call _ [.ListComp (.Subscript (.Name (Str.ofString "row") _) (.Name (Str.ofString "k") _) _) [⟨.Name (Str.ofString "row") _, _, [], 0⟩] colSc _] _ _) _) Q E s
  refine Call_ ?_
  refine nm_b G S bSum rfl ?_
  refine PyProof.Rows.callWith_builtin1 ?_
  refine args_cons ?_
  refine col_val (R := IntsAre) (k := k) (t := t) (K := K) hA S ?_ hld rd ?_ ?_ ?_ ?_ rfl rfl ?_
  · intro Q₁ hQ
    exact nm_cel (hc4.keeps S.keep) rfl rfl hQ
  · intro ws ns hm hR
    rw [hR.length, h5 ns hm]; exact hk
  · rw [rd.1, h24]; decide
  · omega
  · intro g₁ sub _
    exact hK.keeps sub
  intro h₁ tk₁ D ys k₁ P₁ hc
  refine args_nil ?_
  have hH := hc.ints fun ns hm => by rw [h5 ns hm]; exact hk
  refine sum_lst hA.handled P₁ hH ?_
  intro h₂ tk₂ t₂ k₂
  exact h _ _ _ (k₁.trans k₂)

set_option maxHeartbeats 1000000 in
/-- 2 * sum([row[k] for row in quarters]) -/
theorem half_elt {c3 K lq : Addr} {k : Nat} {t : Tok} {qvs : List Value} {qs : List (List Int)} {ex : EX} {m : Str → Option Value} {Q : Value → Shared → Prop} (hA : AOk A 1) (G : Gl w mg mb g)
    (S : St g L m [] s.heap) (hK : g.IsCell K (some (.int k t))) (hc3 : g.IsCell c3 (some (.ref lq))) (hlq : g.IsList lq qvs.toArray) (rq : RowsG HVs g qvs qs) (h3 : ∀ ns ∈ qs, ns.length = 3) (hk : k < 3) (h24 : qs.length = 24) (hb : ∀ n ∈ col k qs, n.natAbs ≤ 192)
    (h : ∀ h' tk x t, Sub s.heap h' → HV x (2 * (col k qs).sum) → Q (.float x t) { s with heap := h', toks := tk }) :
    wpAny (model prog w) A (eval (compElt halvesE) (mkEnv (rel (compSc halvesE) (fnScope 15)) L [(Str.ofString "k", K), (Str.ofString "quarters", c3)] (cEX ex))) Q E s := by
  have hcl : (col k qs).length = 24 := by rw [List.length_map]; exact h24
  have hsb := sum_bound _ hb
  rw [hcl] at hsb
  show wpAny (model prog w) A (eval (.BinOp _ _ (.Call _ [.ListComp (.Subscript (.Name (Str.ofString "row") _) (.Name (Str.ofString "k") _) _) [⟨.Name (Str.ofString "row") _, _, [], 0⟩] colSc _] _ _) _) _) Q E s
  refine wpAny_BinOp ?_
  refine wpAny_Constant_int ?_
  refine Call_ ?_
  refine nm_b G S bSum rfl ?_
  refine PyProof.Rows.callWith_builtin1 ?_
  refine args_cons ?_
  refine col_val (R := HVs) (k := k) (t := t) (K := K) hA S ?_ hlq rq ?_ ?_ ?_ ?_ rfl rfl ?_
  · intro Q₁ hQ
    exact nm_cel (hc3.keeps S.keep) rfl rfl hQ
  · intro ws ns hm hR
    rw [hR.1, h3 ns hm]; exact hk
  · rw [rq.1, h24]; decide
  · omega
  · intro g₁ sub _
    exact hK.keeps sub
  intro h₁ tk₁ D ys k₁ P₁ hc
  refine args_nil ?_
  have hH := hc.flts fun ns hm => by rw [h3 ns hm]; exact hk
  refine sum_flt hA.handled P₁ hH (by rw [hc.1, h24]; decide) (by rw [hcl]; decide) (fun n hn => Nat.le_trans (hb n hn) (by decide)) ?_
  intro h₂ tk₂ x t₂ k₂ hx
  refine AutoFloatOps.mul_if_1 ?_ ?_
  · have h2 : HV (Float64.ofInt 2) (2 * 2) := HV_int (by decide)
    rw [(HV_inf h2).1]; decide
  exact h _ _ _ _ (k₁.trans k₂) (HV_two hx (by omega))

set_option maxHeartbeats 1000000 in
/-- sums = [..] -/
theorem law_14 {c1 c2 c3 c4 c5 c6 c7 c8 ld : Addr} {led : Led} {dvs : List Value} {ds : List (List Int)} {ex : EX} {m : Str → Option Value} {Q : Flow → Shared → Prop} (hA : AOk A 1) (G : Gl w mg mb g)
    (S : St g L m led s.heap) (hc4 : g.IsCell c4 (some (.ref ld))) (hld : g.IsList ld dvs.toArray) (rd : RowsG IntsAre g dvs ds) (h5 : ∀ ns ∈ ds, ns.length = 5) (h24 : ds.length = 24)
    (h : ∀ h' tk D ys, St g L (set1 m (Str.ofString "sums") (.ref D)) ((D, .lst ys) :: led) h' → IntsAre ys ((List.range 5).map fun k => (col k ds).sum) →
      wpAny (model prog w) A (execs (lawFrom 15) (mkEnv (fnScope 15) L (lawCs c1 c2 c3 c4 c5 c6 c7 c8) ex)) Q E { s with heap := h', toks := tk }) :
    wpAny (model prog w) A (execs (lawFrom 14) (mkEnv (fnScope 15) L (lawCs c1 c2 c3 c4 c5 c6 c7 c8) ex)) Q E s := by
  show wpAny (model prog w) A (execs (.Assign [.Name (Str.ofString "sums") _] (.ListComp (compElt sumsE) [⟨.Name (Str.ofString "k") _, _, [], 0⟩] (compSc sumsE) _) _ :: _) _) Q E s
  refine wpAny_execs_cons ?_
  refine comp_asgC (g := g) (csc' := rel (compSc sumsE) (fnScope 15)) (cl := [(Str.ofString "due", c4)]) rfl rfl (cells_k _ (Str.ofString "due") rfl) (push_k _ (Str.ofString "due") rfl) rfl (by decide +kernel) rfl rfl rfl rfl ?_
  refine Call_ ?_
  refine nm_b G S bRange rfl ?_
  refine PyProof.Rows.callWith_type1 ?_
  refine args_cons ?_
  refine wpAny_Constant_int ?_
  refine args_nil ?_
  refine call_range_1 ?_
  refine iter_rangeN 5 rfl hA.handled (S.push _) (IsRange.new ..) (by decide) (by decide) (by decide) (by decide) ?_
  intro it h₁ k₁ X₁
  refine ⟨_, _, _, _, _, fun i v os => os = [] ∧ ∃ t, v = .int (col i ds).sum t, ?_, X₁, ?_, ?_⟩
  · rw [sizeLine_eq]; omega
  · rintro i v C K g₂ m₂ h₄ tk₄ hi ⟨ti, rfl⟩ sub₂ hled S₄ hK
    rw [Int.zero_add] at hK
    refine sum_elt hA (G.sub sub₂) S₄ hK (hc4.keeps sub₂) (hld.at fun _ e => sub₂ _ _ e) (rd.sub sub₂) h5 hi h24 ?_
    intro h₅ tk₅ t₅ k₅
    exact ⟨_, _, [], rfl, k₅, ⟨rfl, t₅, rfl⟩, (fun p hp => nomatch hp), List.nodup_nil⟩
  intro D h₂ tk₂ ys oss hys hoss hF S₂
  have hnil : oss.flatten = [] := flatten_nil fun os ho => by
    obtain ⟨i, hi, rfl⟩ := List.getElem_of_mem ho
    exact (hF i (ys[i]'(by omega)) _ (List.getElem?_eq_getElem _) (List.getElem?_eq_getElem hi)).1
  rw [hnil, List.nil_append] at S₂
  refine h _ _ _ _ S₂ ?_
  refine intsAre_of (by rw [hys, List.length_map, List.length_range]) fun i y x e1 e2 => ?_
  obtain ⟨os, e3⟩ := getOs (by rw [hoss, hys]) e1
  obtain ⟨_, t, e4⟩ := hF i y os e1 e3
  rw [List.getElem?_map] at e2
  cases eo : (List.range 5)[i]? with
  | none => rw [eo] at e2; cases e2
  | some x' =>
    rw [eo] at e2; cases e2
    rw [range_at eo]
    exact ⟨t, e4⟩

set_option maxHeartbeats 1000000 in
/-- halves = [..] -/
theorem law_15 {c1 c2 c3 c4 c5 c6 c7 c8 lq : Addr} {led : Led} {qvs : List Value} {qs : List (List Int)} {ex : EX} {m : Str → Option Value} {Q : Flow → Shared → Prop} (hA : AOk A 1) (G : Gl w mg mb g)
    (S : St g L m led s.heap) (hc3 : g.IsCell c3 (some (.ref lq))) (hlq : g.IsList lq qvs.toArray) (rq : RowsG HVs g qvs qs) (h3 : ∀ ns ∈ qs, ns.length = 3) (h24 : qs.length = 24) (hb : ∀ k, ∀ n ∈ col k qs, n.natAbs ≤ 192)
    (h : ∀ h' tk D ys, St g L (set1 m (Str.ofString "halves") (.ref D)) ((D, .lst ys) :: led) h' → HVs ys ((List.range 3).map fun k => 2 * (col k qs).sum) →
      wpAny (model prog w) A (execs (lawFrom 16) (mkEnv (fnScope 15) L (lawCs c1 c2 c3 c4 c5 c6 c7 c8) ex)) Q E { s with heap := h', toks := tk }) :
    wpAny (model prog w) A (execs (lawFrom 15) (mkEnv (fnScope 15) L (lawCs c1 c2 c3 c4 c5 c6 c7 c8) ex)) Q E s := by
  show wpAny (model prog w) A (execs (.Assign [.Name (Str.ofString "halves") _] (.ListComp (compElt halvesE) [⟨.Name (Str.ofString "k") _, _, [], 0⟩] (compSc halvesE) _) _ :: _) _) Q E s
  refine wpAny_execs_cons ?_
  refine comp_asgC (g := g) (csc' := rel (compSc halvesE) (fnScope 15)) (cl := [(Str.ofString "quarters", c3)]) rfl rfl (cells_k _ (Str.ofString "quarters") rfl) (push_k _ (Str.ofString "quarters") rfl) rfl (by decide +kernel) rfl rfl rfl rfl ?_
  refine Call_ ?_
  refine nm_b G S bRange rfl ?_
  refine PyProof.Rows.callWith_type1 ?_
  refine args_cons ?_
  refine wpAny_Constant_int ?_
  refine args_nil ?_
  refine call_range_1 ?_
  refine iter_rangeN 3 rfl hA.handled (S.push _) (IsRange.new ..) (by decide) (by decide) (by decide) (by decide) ?_
  intro it h₁ k₁ X₁
  refine ⟨_, _, _, _, _, fun i v os => os = [] ∧ ∃ x t, v = .float x t ∧ HV x (2 * (col i qs).sum), ?_, X₁, ?_, ?_⟩
  · rw [sizeLine_eq]; omega
  · rintro i v C K g₂ m₂ h₄ tk₄ hi ⟨ti, rfl⟩ sub₂ hled S₄ hK
    rw [Int.zero_add] at hK
    refine half_elt hA (G.sub sub₂) S₄ hK (hc3.keeps sub₂) (hlq.at fun _ e => sub₂ _ _ e) (rq.sub sub₂) h3 hi h24 (hb i) ?_
    intro h₅ tk₅ x₅ t₅ k₅ hx
    exact ⟨_, _, [], rfl, k₅, ⟨rfl, x₅, t₅, rfl, hx⟩, (fun p hp => nomatch hp), List.nodup_nil⟩
  intro D h₂ tk₂ ys oss hys hoss hF S₂
  have hnil : oss.flatten = [] := flatten_nil fun os ho => by
    obtain ⟨i, hi, rfl⟩ := List.getElem_of_mem ho
    exact (hF i (ys[i]'(by omega)) _ (List.getElem?_eq_getElem _) (List.getElem?_eq_getElem hi)).1
  rw [hnil, List.nil_append] at S₂
  refine h _ _ _ _ S₂ ?_
  refine ⟨by rw [hys, List.length_map, List.length_range], fun i y x e1 e2 => ?_⟩
  obtain ⟨os, e3⟩ := getOs (by rw [hoss, hys]) e1
  obtain ⟨_, b, t, e4, hx⟩ := hF i y os e1 e3
  rw [List.getElem?_map] at e2
  cases eo : (List.range 3)[i]? with
  | none => rw [eo] at e2; cases e2
  | some x' =>
    rw [eo] at e2; cases e2
    rw [range_at eo]
    exact ⟨b, t, e4, hx⟩

set_option maxHeartbeats 1000000 in
/-- return halves == [..] -/
theorem law_16 {c1 c2 c3 c4 c5 c6 c7 c8 D1 D2 : Addr} {led : Led} {vs ws : List Value} {ks ns : List Int} {ex : EX} {m : Str → Option Value} {Q : Flow → Shared → Prop} (hA : AOk A 1)
    (S : St g L m ((D2, .lst vs) :: (D1, .lst ws) :: led) s.heap) (hms : m "sums" = some (.ref D1)) (hmh : m "halves" = some (.ref D2)) (hv : HVs vs ks) (hw : IntsAre ws ns) (hn5 : ns.length = 5)
    (e : ks = ([ns.getD 0 0 + ns.getD 1 0, 2 * ns.getD 2 0, ns.getD 3 0 + ns.getD 4 0] : List Int).map (2 * ·))
    (h : ∀ h' tk, St g L m ((D2, .lst vs) :: (D1, .lst ws) :: led) h' → Q (.ret (.bool true)) { s with heap := h', toks := tk }) :
    wpAny (model prog w) A (execs (lawFrom 16) (mkEnv (fnScope 15) L (lawCs c1 c2 c3 c4 c5 c6 c7 c8) ex)) Q E s := by
  have hl1 := (S.at (x := .lst ws) (.tail _ (.head _))).isList
  obtain ⟨t0, i0⟩ := intAt hw (j := 0) (by omega)
  obtain ⟨t1, i1⟩ := intAt hw (j := 1) (by omega)
  obtain ⟨t2, i2⟩ := intAt hw (j := 2) (by omega)
  obtain ⟨t3, i3⟩ := intAt hw (j := 3) (by omega)
  obtain ⟨t4, i4⟩ := intAt hw (j := 4) (by omega)
  show wpAny (model prog w) A (execs (_ :: _) _) Q E s
  refine wpAny_execs_cons ?_
  refine wpAny_Return_some ?_
  refine wpAny_Compare1 ?_
  refine nm_loc S rfl hmh ?_
  refine List_ ?_
  refine args_cons ?_
  refine wpAny_BinOp ?_
  refine Subscript_ ?_
  refine nm_loc S rfl hms ?_
  refine wpAny_Constant_int ?_
  refine tail_item hl1 (by decide) (by decide) i0 ?_
  refine Subscript_ ?_
  refine nm_loc S rfl hms ?_
  refine wpAny_Constant_int ?_
  refine tail_item hl1 (by decide) (by decide) i1 ?_
  refine add_int ?_
  refine args_cons ?_
  refine wpAny_BinOp ?_
  refine wpAny_Constant_int ?_
  refine Subscript_ ?_
  refine nm_loc S rfl hms ?_
  refine wpAny_Constant_int ?_
  refine tail_item hl1 (by decide) (by decide) i2 ?_
  refine mul_int ?_ (mulOk (by decide))
  refine args_cons ?_
  refine wpAny_BinOp ?_
  refine Subscript_ ?_
  refine nm_loc S rfl hms ?_
  refine wpAny_Constant_int ?_
  refine tail_item hl1 (by decide) (by decide) i3 ?_
  refine Subscript_ ?_
  refine nm_loc S rfl hms ?_
  refine wpAny_Constant_int ?_
  refine tail_item hl1 (by decide) (by decide) i4 ?_
  refine add_int ?_
  refine args_nil ?_
  refine new_list S ?_ (by rw [sizeLine_eq]; exact Nat.le_of_ble_eq_true rfl)
  intro h₁ l₁ S₁ k₁ n₁
  refine eq_halves (S₁.at (x := .lst vs) (.tail _ (.head _))).isList (S₁.at (x := .lst _) (.head _)).isList hv (.cons _ _ (.cons _ _ (.cons _ _ .nil))) e (by have := hA.units; omega) ?_
  exact h _ _ (S₁.sublist (.cons _ (List.Sublist.refl _)))
end
end Mine
set_option maxRecDepth 100000
namespace Mine
open PySem PySem.Calls PyProof.Rows
section
variable {prog : Program} {w : World} {A : Around} {E : Value → Shared → Prop} {s : Shared} {mg mb : Str → Option Value} {g : Heap} {L : Addr}
set_option maxHeartbeats 1000000 in
/-- law, from the loop over the orders on -/
theorem law_b {c1 c2 c3 c4 c5 c6 c7 c8 lt ld lq hl : Addr} {v1 v2 : Option Value} {fs : List Value} {rows : List (List Int)} {one other : Nat} {ex : EX} {m : Str → Option Value} {Q : Flow → Shared → Prop}
    (hA : AOk A 1) (G : Gl w mg mb g) (Y : Laid g c5 c6 c7 c8 rows one other hl fs) (K : Kept m lt hl one other)
    (S : St g L m (lled c1 c2 c3 c4 lt ld lq v1 v2 [] [] [] []) s.heap)
    (h : ∀ h' tk, Sub g h' → Q (.ret (.bool true)) { s with heap := h', toks := tk }) :
    wpAny (model prog w) A (execs (lawFrom 12) (mkEnv (fnScope 15) L (lawCs c1 c2 c3 c4 c5 c6 c7 c8) ex)) Q E s := by
  obtain ⟨h6, ho5, ht5, _⟩ := id Y
  refine law_12 hA G Y K S ?_
  intro g₁ h₁ tk₁ m₁ v1' tvs dvs qvs rest sub₁ S₁ K₁ rt rd rq
  have S₂ : St g₁ L m₁ ([(c2, .cel v2)] ++ ((c1, .cel v1') :: (c3, .cel (some (.ref lq))) :: (c4, .cel (some (.ref ld))) :: (lt, .lst tvs) :: (ld, .lst dvs) :: (lq, .lst qvs) :: rest)) h₁ :=
    S₁.perm (List.Perm.swap _ _ _)
  obtain ⟨g₂, sub₂, S₃, hall, _⟩ := S₂.freeze
  have G₂ := G.sub (sub₁.trans sub₂)
  have hc3 : g₂.IsCell c3 (some (.ref lq)) := hall (c3, .cel (some (.ref lq))) (.tail _ (.head _))
  have hc4 : g₂.IsCell c4 (some (.ref ld)) := hall (c4, .cel (some (.ref ld))) (.tail _ (.tail _ (.head _)))
  have hlt : g₂.IsList lt tvs.toArray := (hall (lt, .lst tvs) (.tail _ (.tail _ (.tail _ (.head _)))) : (MO.lst tvs).At g₂ lt).isList
  have hld : g₂.IsList ld dvs.toArray := (hall (ld, .lst dvs) (.tail _ (.tail _ (.tail _ (.tail _ (.head _))))) : (MO.lst dvs).At g₂ ld).isList
  have hlq : g₂.IsList lq qvs.toArray := (hall (lq, .lst qvs) (.tail _ (.tail _ (.tail _ (.tail _ (.tail _ (.head _)))))) : (MO.lst qvs).At g₂ lq).isList
  have hrest : ∀ p ∈ rest, p.2.At g₂ p.1 := fun p hp => hall p (.tail _ (.tail _ (.tail _ (.tail _ (.tail _ (.tail _ hp))))))
  have rt' := rt.frozen hrest
  have rd' := rd.frozen hrest
  have rq' := rq.frozen hrest
  refine law_13 hA G₂ S₃ K₁.told hc4 hlt hld rt' rd' (tss_5 rows one other) (dss_5 rows one other) (tss_24 rows one other) (dss_24 rows one other) (fun k hk => col_perm rows one other hk) ?_
  intro h₄ tk₄ v2' S₄
  refine law_14 hA G₂ S₄ hc4 hld rd' (dss_5 rows one other) (dss_24 rows one other) ?_
  intro h₅ tk₅ D1 ws S₅ hws
  refine law_15 hA G₂ S₅ hc3 hlq rq' (qss_3 rows one other) (qss_24 rows one other) (q_bound h6 ho5 ht5) ?_
  intro h₆ tk₆ D2 vs S₆ hvs
  refine law_16 hA S₆ rfl rfl hvs hws (by rw [List.length_map, List.length_range]) ?_ ?_
  · have e0 := q_sum0 rows one other
    have e1 := q_sum1 rows one other
    have e2 := q_sum2 rows one other
    show [2 * (col 0 (qss rows one other)).sum, 2 * (col 1 (qss rows one other)).sum, 2 * (col 2 (qss rows one other)).sum] = _
    rw [e0, e1, e2]; rfl
  · intro h₇ tk₇ S₇
    exact h _ _ ((sub₁.trans sub₂).trans S₇.keep)

set_option maxHeartbeats 2000000 in
/-- law, the whole body -/
theorem law_body {c1 c2 c3 c4 c5 c6 c7 c8 ls : Addr} {v1 v2 v3 v4 v5 v6 v7 v8 : Option Value} {vs : List Value} {ex : EX} {m : Str → Option Value} {Q : Flow → Shared → Prop} (hA : AOk A 1) (G : Gl w mg mb g)
    (S : St g L m [(c1, .cel v1), (c2, .cel v2), (c3, .cel v3), (c4, .cel v4), (c5, .cel v5), (c6, .cel v6), (c7, .cel v7), (c8, .cel v8)] s.heap)
    (hms : m "script" = some (.ref ls)) (hls : g.IsList ls vs.toArray) (hvs : AllInt vs) (hle : vs.length ≤ 63)
    (h : ∀ h' tk, Sub g h' → Q (.ret (.bool true)) { s with heap := h', toks := tk }) :
    wpAny (model prog w) A (execs (lawFrom 0) (mkEnv (fnScope 15) L (lawCs c1 c2 c3 c4 c5 c6 c7 c8) ex)) Q E s := by
  refine law_0 hA G S hms hls hvs hle ?_
  intro h₁ tk₁ ln out S₁ hI hl5
  refine law_1 G S₁ rfl hI hl5 ?_
  intro h₂ tk₂ hl fs m₂ one other to tt S₂ hH ho5 ht5 e1 e2 e3 e4
  refine law_4 hA G S₂ e1 hI hl5 ?_
  intro g₃ h₃ tk₃ lr rs rows sub₃ S₃ hhl hlr hR h6
  refine law_5 hA (G.sub sub₃) S₃ rfl hlr hR h6 ?_
  intro g₄ h₄ tk₄ l8 w8 sub₄ S₄ hl8 hw8
  refine law_6 hA (G.sub (sub₃.trans sub₄)) S₄ rfl (hlr.at fun _ e => sub₄ _ _ e) (hR.sub sub₄) h6 ?_
  intro g₅ h₅ tk₅ l7 w7 sub₅ S₅ hl7 hw7
  refine law_7 hA (G.sub ((sub₃.trans sub₄).trans sub₅)) S₅ rfl (hlr.at fun _ e => sub₅ _ _ (sub₄ _ _ e)) ((hR.sub sub₄).sub sub₅) h6 e3 ho5 ?_
  intro g₆ h₆ tk₆ l6 w6 sub₆ S₆ hl6 hw6
  refine law_8 hA (G.sub (((sub₃.trans sub₄).trans sub₅).trans sub₆)) S₆ rfl (hlr.at fun _ e => sub₆ _ _ (sub₅ _ _ (sub₄ _ _ e))) (((hR.sub sub₄).sub sub₅).sub sub₆) h6 e4 ht5 ?_
  intro g₇ h₇ tk₇ l5 w5 sub₇ S₇ hl5' hw5
  refine law_9 S₇ ?_
  intro g₈ h₈ tk₈ lt ld lq sub₈ S₈ hc5 hc6 hc7 hc8
  have s47 := (sub₅.trans sub₆).trans (sub₇.trans sub₈)
  have G₈ := G.sub ((sub₃.trans sub₄).trans s47)
  refine law_b (hl := hl) (fs := fs) (rows := rows) (one := one) (other := other) hA G₈ ?_ ?_ S₈ ?_
  · exact ⟨h6, ho5, ht5, hhl.at fun _ e => s47 _ _ (sub₄ _ _ e), hH.sub ((sub₃.trans sub₄).trans s47),
      ⟨l8, w8, hc8, hl8.at fun _ e => s47 _ _ e, hw8⟩, ⟨l7, w7, hc7, hl7.at fun _ e => sub₈ _ _ (sub₇ _ _ (sub₆ _ _ e)), hw7⟩,
      ⟨l6, w6, hc6, hl6.at fun _ e => sub₈ _ _ (sub₇ _ _ e), hw6⟩, ⟨l5, w5, hc5, hl5'.at fun _ e => sub₈ _ _ e, hw5⟩⟩
  · exact ⟨rfl, e2, ⟨_, e3⟩, ⟨_, e4⟩⟩
  · intro h' tk k
    exact h h' tk (((sub₃.trans sub₄).trans s47).trans k)
end
end Mine
set_option maxRecDepth 100000
namespace Mine
open PySem PySem.Calls PyProof.Rows PySem.W
/-- the address that a name of the top bears -/
def adr (K : Frag) (n : Str) : Addr := match nsIn K mainGlobals n with
  | some (some (.ref a)) => a
  | _ => 0
def objAt (K : Frag) (a : Addr) : Obj := (K.lookup a).getD default
def fnIn' (K : Frag) (a : Addr) : FuncData := match (objAt K a).data with
  | .func fd => fd
  | _ => default
abbrev fnDU (i : Nat) (dV kV doc pm : Value) (an : Option Addr) (cdv ct : Value) : FuncData :=
  W.fnOf (fnName i) (fnName i) (fnParams i) (fnBodyU i) (fnScope i) dV kV doc pm an cdv ct
theorem fnDU_eq (i : Nat) (dV kV doc pm : Value) (an : Option Addr) (cdv ct : Value) : fnDU i dV kV doc pm an cdv ct = fnD i dV kV doc pm an cdv ct := by
  show W.fnOf _ _ _ (fnBodyU i) _ _ _ _ _ _ _ _ = W.fnOf _ _ _ (fnBody i) _ _ _ _ _ _ _ _
  rw [fnBody_eq]
/-- the i-th def stands in the written part -/
structure FnOk (K : Frag) (i : Nat) (kV : Value) : Prop where
  name : nsIn K mainGlobals (fnName i) = some (some (.ref (adr K (fnName i))))
  obj : K.lookup (adr K (fnName i)) = some ⟨(objAt K (adr K (fnName i))).cls, (objAt K (adr K (fnName i))).dict,
    .func (fnDU i .none kV (fnIn' K (adr K (fnName i))).doc (fnIn' K (adr K (fnName i))).pyModule (fnIn' K (adr K (fnName i))).annotations (fnIn' K (adr K (fnName i))).code (fnIn' K (adr K (fnName i))).closureTuple), (objAt K (adr K (fnName i))).slots⟩
  code : codeIn K (fnIn' K (adr K (fnName i))).code (fnName i) = true
theorem FnOk.at {K : Frag} {i : Nat} {kV : Value} {h : Heap} {mg : Str → Option Value} (x : FnOk K i kV) (X : K.In h) (g : h.Ns mainGlobals mg) : ∃ f, mg (fnName i) = some (.ref f) ∧ FnAt h f i kV := by
  have e := x.obj
  rw [fnDU_eq] at e
  exact ⟨_, mg_of X g x.name, _, _, _, _, _, _, _, _, X _ _ e, codeRec_of X x.code⟩
structure FragOk (K : Frag) (kd : Addr) : Prop where
  bi : (useB.map fun p => nsIn K mainGlobals p.1) = useB.map fun _ => some none
  f5 : FnOk K 5 .none
  f6 : FnOk K 6 .none
  f7 : FnOk K 7 .none
  f8 : FnOk K 8 .none
  f9 : FnOk K 9 .none
  f11 : FnOk K 11 .none
  f12 : FnOk K 12 .none
  f13 : FnOk K 13 .none
  f14 : FnOk K 14 .none
  f15 : FnOk K 15 .none
  qu : FnOk K 2 (.ref kd)
  kw : ∃ cls dict h1 t1 t2 h2 t3 t4 ep sl, K.lookup kd = some ⟨cls, dict, .dict #[⟨h1, .str (Str.ofString "n") t1, .int 4 t2⟩, ⟨h2, .str (Str.ofString "method") t3, .str (Str.ofString "exclusive") t4⟩] ep, sl⟩
theorem useB_boot : ∀ p ∈ useB, p.1 ≠ Str.ofString "__name__" ∧ bootBuiltins p.1 = some p.2 := by
  intro p hp
  simp only [useB, List.mem_cons, List.not_mem_nil, or_false] at hp
  rcases hp with rfl | rfl | rfl | rfl | rfl | rfl | rfl | rfl | rfl | rfl
  all_goals exact ⟨by decide +kernel, by with_unfolding_all rfl⟩
theorem kwAt_of {K : Frag} {h : Heap} {kd : Addr} (X : K.In h) (x : ∃ cls dict h1 t1 t2 h2 t3 t4 ep sl, K.lookup kd = some ⟨cls, dict, .dict #[⟨h1, .str (Str.ofString "n") t1, .int 4 t2⟩, ⟨h2, .str (Str.ofString "method") t3, .str (Str.ofString "exclusive") t4⟩] ep, sl⟩) : KwAt h kd := by
  obtain ⟨cls, dict, h1, t1, t2, h2, t3, t4, ep, sl, e⟩ := x
  refine ⟨nsFind #[⟨h1, .str (Str.ofString "n") t1, .int 4 t2⟩, ⟨h2, .str (Str.ofString "method") t3, .str (Str.ofString "exclusive") t4⟩], ⟨_, _, _, X _ _ e, rfl, fun en hen => ?_, fun _ => rfl⟩, ⟨t2, rfl⟩, ⟨t4, rfl⟩⟩
  simp only [List.mem_toArray, List.mem_cons, List.not_mem_nil, or_false] at hen
  rcases hen with rfl | rfl
  · exact ⟨_, _, rfl⟩
  · exact ⟨_, _, rfl⟩
theorem gl_of {K : Frag} {w : World} {kd : Addr} {h : Heap} {mg mb : Str → Option Value} (ok : FragOk K kd) (X : K.In h) (g : h.Ns mainGlobals mg) (b : h.Ns builtinsNs mb) (hb : ∀ x : Str, x ≠ "__name__" → mb x = bootBuiltins x) (nl : h.NoLimit) : Gl w mg mb h := by
  refine ⟨g, b, nl, fun p hp => ⟨mg_none_of X g (List.map_inj_left.mp ok.bi p hp), ?_⟩, fun i hi => ?_, ?_⟩
  · have := useB_boot p hp
    rw [hb p.1 this.1]; exact this.2
  · simp only [useF, List.mem_cons, List.not_mem_nil, or_false] at hi
    rcases hi with rfl | rfl | rfl | rfl | rfl | rfl | rfl | rfl | rfl
    · exact ok.f5.at X g
    · exact ok.f6.at X g
    · exact ok.f7.at X g
    · exact ok.f8.at X g
    · exact ok.f9.at X g
    · exact ok.f11.at X g
    · exact ok.f12.at X g
    · exact ok.f13.at X g
    · exact ok.f14.at X g
  · obtain ⟨f, e, x⟩ := ok.qu.at X g
    exact ⟨f, kd, e, x, kwAt_of X ok.kw⟩
theorem caller_ok : AOk callerA 2 := ⟨rfl, by decide +kernel, by decide +kernel, rfl⟩
section
variable {prog : Program} {w : World} {A : Around} {E : Value → Shared → Prop} {s : Shared} {mg mb : Str → Option Value}
theorem law_cells_nodup : [Str.ofString "leads", Str.ofString "k", Str.ofString "quarters", Str.ofString "due", Str.ofString "right_due", Str.ofString "left_due", Str.ofString "rights", Str.ofString "lefts"].Nodup := by decide +kernel
/-- a call of law -/
theorem law_call {f ls : Addr} {vs : List Value} {ns : List Int} {Q : Value → Shared → Prop} (hA : AOk A 2) (G : Gl w mg mb s.heap) (X : FnAt s.heap f 15 .none) (hls : s.heap.IsList ls vs.toArray) (hI : IntsAre vs ns) (hle : ns.length ≤ 63)
    (h : ∀ h' tk, Sub s.heap h' → Q (.bool true) { s with heap := h', toks := tk }) :
    wpAny (model prog w) A (call (.ref f) [.ref ls]) Q E s := by
  refine enterC hA X G.nolimit (binds := [(Str.ofString "script", .ref ls)]) (fun _ _ _ _ _ => rfl) (locs rfl) (fun L => lawCs (L + 8) (L + 7) (L + 6) (L + 5) (L + 4) (L + 3) (L + 2) (L + 1)) (fun _ => rfl) (fun _ => law_cells_nodup) fun A' L ex h₁ tk hA' S => ?_
  rw [fnBody_eq]
  refine law_body (ls := ls) (vs := vs) hA' G S rfl hls (fun v hv => ?_) (by rw [hI.length]; exact hle) ?_
  · obtain ⟨i, hi, rfl⟩ := List.getElem_of_mem hv
    obtain ⟨t, e⟩ := intAt hI (j := i) (by rw [← hI.length]; exact hi)
    rw [List.getElem?_eq_getElem hi] at e
    exact ⟨_, t, Option.some.inj e⟩
  · intro h' tk' k
    exact h h' tk' k
/-- the whole: law's call from the ground that the head hands on -/
theorem law_ground {K : Frag} {kd fa ls : Addr} {vs : List Value} {ns : List Int} {Q : Value → Shared → Prop} (X : K.In s.heap) (ok : FragOk K kd) (g : s.heap.Ns mainGlobals mg) (b : s.heap.Ns builtinsNs mb) (hb : ∀ x : Str, x ≠ "__name__" → mb x = bootBuiltins x) (nl : s.heap.NoLimit)
    (hmg : mg (fnName 15) = some (.ref fa)) (hls : s.heap.IsList ls vs.toArray) (hI : IntsAre vs ns) (hle : ns.length ≤ 63) (h : ∀ h' tk, Sub s.heap h' → Q (.bool true) { s with heap := h', toks := tk }) :
    wpAny (model prog w) callerA (call (.ref fa) [.ref ls]) Q E s := by
  obtain ⟨f, e, X15⟩ := ok.f15.at X g
  have hf : fa = f := Value.ref.inj (Option.some.inj (hmg.symm.trans e))
  subst hf
  exact law_call caller_ok (gl_of (w := w) ok X g b hb nl) X15 hls hI hle h
end
end Mine
open PySem PySem.W PyProof.Rows
set_option Elab.async false
set_option maxRecDepth 100000 in
set_option maxHeartbeats 8000000 in
theorem PySem.Challenge.cw_qu0022_01_holds : PySem.Challenge.rw_qu0022_01.Holds := by
  w_on
  o_law
  k_head
  (case hw => w_witness2)
  intro w s₀ s₁ mg mb G Y fa o pm cd doc dV kV ho hd hcd hD hmg hg args vals as hpre hlay hrd hwl hlo
  have KX := kIn_of Y
  refine Ground.open G ?_
  intro T B D TE TW
  clear B D TE TW G Y hcd hD hd ho
  wrow_args hpre hlay hrd hwl hlo
  refine Mine.law_ground (kd := 28) KX ?_ T.g T.b T.builtins T.nolimit hmg (by assumption) (by assumption) (by omega) ?_
  · refine ⟨by kernel_rfl, ⟨by kernel_rfl, by kernel_rfl, by kernel_rfl⟩, ⟨by kernel_rfl, by kernel_rfl, by kernel_rfl⟩, ⟨by kernel_rfl, by kernel_rfl, by kernel_rfl⟩, ⟨by kernel_rfl, by kernel_rfl, by kernel_rfl⟩, ⟨by kernel_rfl, by kernel_rfl, by kernel_rfl⟩,
      ⟨by kernel_rfl, by kernel_rfl, by kernel_rfl⟩, ⟨by kernel_rfl, by kernel_rfl, by kernel_rfl⟩, ⟨by kernel_rfl, by kernel_rfl, by kernel_rfl⟩, ⟨by kernel_rfl, by kernel_rfl, by kernel_rfl⟩, ⟨by kernel_rfl, by kernel_rfl, by kernel_rfl⟩, ⟨by kernel_rfl, by kernel_rfl, by kernel_rfl⟩, ?_⟩
    exact ⟨_, _, _, _, _, _, _, _, _, _, by with_unfolding_all rfl⟩
  · intro h' tk k
    exact GoodW.toG ⟨.inl ⟨.bool true, .bool true, [], rfl, raisesW_false (by wrow_none_raised), .bool true, by wrow_post, unshared_nil⟩, k, rfl, hg⟩

import PyProof.Rows.All
import Wide.All
import OpenK.AllK
import Wide.FinOn
import PySem.Challenge.RW_oy0088_01
set_option Elab.async false
set_option linter.all false
section
open PySem PySem.W PyProof.Rows
namespace Mine

/-! ## The ledger -/
structure Cell where
  fz : Bool
  fr : Bool
  cls : Value
  data : Data

/-- the object o is as the cell c says (a frame's slots are left open) -/
def Same (c : Cell) (o : Obj) : Prop := o.cls = c.cls ∧ o.data = c.data ∧ (c.fr = false → o.dict = none ∧ o.slots = #[])

abbrev Ledger := Addr → Option Cell
def upd (R : Ledger) (a : Addr) (c : Cell) : Ledger := fun b => if b = a then some c else R b
def drop (R : Ledger) (a : Addr) : Ledger := fun b => if b = a then none else R b

theorem upd_self {R : Ledger} {a : Addr} {c : Cell} : upd R a c a = some c := by simp [upd]
theorem upd_ne {R : Ledger} {a b : Addr} {c : Cell} (h : b ≠ a) : upd R a c b = R b := by simp [upd, h]
theorem upd_new {R : Ledger} {a b : Addr} {c x : Cell} (ha : R a = none) (hb : R b = some x) : upd R a c b = some x := by
  rw [upd_ne]; exact hb
  intro e; subst e; rw [ha] at hb; cases hb

/-- what R says of the heap h (frame L apart, base B below) -/
def Led (B : Heap) (L : Addr) (h : Heap) (R : Ledger) : Prop :=
  ∀ a c, R a = some c → (∃ o, h.get? a = some o ∧ Same c o) ∧ a ≠ L ∧ B.get? a = none

def Grow (R R' : Ledger) : Prop := ∀ a x, R a = some x → R' a = some x
theorem Grow.refl (R : Ledger) : Grow R R := fun _ _ h => h
theorem Grow.trans {R R' R'' : Ledger} (x : Grow R R') (y : Grow R' R'') : Grow R R'' := fun a c h => y a c (x a c h)
theorem Grow.new {R : Ledger} {a : Addr} {c : Cell} (h : R a = none) : Grow R (upd R a c) := fun _ _ e => upd_new h e
theorem Grow.upd {R R' : Ledger} {a : Addr} {c : Cell} (g : Grow R R') : Grow (upd R a c) (upd R' a c) := fun b x h => by
  unfold Mine.upd at *; split at h <;> simp_all; exact g _ _ h

def FzLe (R R' : Ledger) : Prop := ∀ a x, R a = some x → x.fz = true → R' a = some x
theorem FzLe.refl (R : Ledger) : FzLe R R := fun _ _ h _ => h
theorem FzLe.trans {R R' R'' : Ledger} (x : FzLe R R') (y : FzLe R' R'') : FzLe R R'' := fun a c h e => y a c (x a c h e) e
theorem Grow.fz {R R' : Ledger} (g : Grow R R') : FzLe R R' := fun a x h _ => g a x h
theorem FzLe.mut {R : Ledger} {a : Addr} {c c' : Cell} (h : R a = some c) (hf : c.fz = false) : FzLe R (upd R a c') := fun b x e hx => by
  rw [upd_ne]; exact e
  intro q; subst q; rw [h] at e; cases e; rw [hf] at hx; cases hx
theorem FzLe.drop {R : Ledger} {a : Addr} {c : Cell} (h : R a = some c) (hf : c.fz = false) : FzLe R (drop R a) := fun b x e hx => by
  unfold Mine.drop; rw [if_neg]; exact e
  intro q; subst q; rw [h] at e; cases e; rw [hf] at hx; cases hx

theorem Led.mono {B : Heap} {L : Addr} {h : Heap} {R R' : Ledger} (N : Led B L h R') (g : Grow R R') : Led B L h R := fun a c e => N a c (g a c e)
theorem Led.get {B : Heap} {L : Addr} {h : Heap} {R : Ledger} {a : Addr} {c : Cell} (N : Led B L h R) (e : R a = some c) : ∃ o, h.get? a = some o ∧ Same c o := (N a c e).1
theorem Led.lt {B : Heap} {L : Addr} {h : Heap} {R : Ledger} {a : Addr} {c : Cell} (N : Led B L h R) (e : R a = some c) : a < h.objs.size := let ⟨_, ho, _⟩ := N.get e; Heap.lt_size ho
theorem Led.none_of_ge {B : Heap} {L : Addr} {h : Heap} {R : Ledger} {a : Addr} (N : Led B L h R) (e : h.objs.size ≤ a) : R a = none := by
  cases hx : R a with
  | none => rfl
  | some c => exact absurd (N.lt hx) (Nat.not_lt.mpr e)
theorem Led.none_L {B : Heap} {L : Addr} {h : Heap} {R : Ledger} (N : Led B L h R) : R L = none := by
  cases hx : R L with
  | none => rfl
  | some c => exact absurd rfl (N L c hx).2.1
/-- any change that keeps all but the frame -/
theorem Led.keep {B : Heap} {L : Addr} {h h' : Heap} {R : Ledger} (N : Led B L h R) (k : ∀ b o, b ≠ L → R b ≠ none → h.get? b = some o → h'.get? b = some o) : Led B L h' R := fun a c e => by
  obtain ⟨⟨o, ho, hs⟩, hL, hB⟩ := N a c e
  exact ⟨⟨o, k a o hL (by rw [e]; simp) ho, hs⟩, hL, hB⟩
theorem Led.same {B : Heap} {L : Addr} {h h' : Heap} {R : Ledger} (N : Led B L h R) (hs : Heap.SameBut L h h') : Led B L h' R :=
  N.keep fun b o hb _ ho => (hs.2 b hb).trans ho
theorem Led.ext {B : Heap} {L : Addr} {h h' : Heap} {R : Ledger} (N : Led B L h R) (k : ∀ b o, h.get? b = some o → h'.get? b = some o) : Led B L h' R :=
  N.keep fun _ _ _ _ ho => k _ _ ho
theorem Led.put {B : Heap} {L l : Addr} {h h' : Heap} {R : Ledger} {c c' : Cell} (N : Led B L h R) (hl : R l = some c) (hs : Heap.SameBut l h h') (hn : ∃ o, h'.get? l = some o ∧ Same c' o) : Led B L h' (upd R l c') := fun a x e => by
  by_cases q : a = l
  · subst q; rw [upd_self] at e; cases e
    exact ⟨hn, (N _ _ hl).2⟩
  · rw [upd_ne q] at e
    obtain ⟨⟨o, ho, h1⟩, r⟩ := N a x e
    exact ⟨⟨o, (hs.2 a q).trans ho, h1⟩, r⟩
theorem Led.push {B : Heap} {L : Addr} {h : Heap} {R : Ledger} {m : Str → Option Value} (F : Fr B L h m) (N : Led B L h R) (o : Obj) (fz : Bool) (hp : o.dict = none ∧ o.slots = #[] := by exact ⟨rfl, rfl⟩) (hfree : o.isFreed = false := by rfl) :
    Led B L (h.push o) (upd R h.objs.size ⟨fz, false, o.cls, o.data⟩) := fun a x e => by
  by_cases q : a = h.objs.size
  · subst q; rw [upd_self] at e; cases e
    refine ⟨⟨o, Heap.get?_push_size _ hfree, rfl, rfl, fun _ => hp⟩, Nat.ne_of_gt F.ns.lt, ?_⟩
    cases hq : B.get? h.objs.size with
    | none => rfl
    | some o' => exact absurd (Heap.lt_size (F.keep _ _ hq)) (Nat.lt_irrefl _)
  · rw [upd_ne q] at e
    obtain ⟨⟨o', ho, r⟩, r'⟩ := N a x e
    exact ⟨⟨o', Heap.get?_push_of_some _ ho, r⟩, r'⟩
theorem Fr.put {B : Heap} {L l : Addr} {h h' : Heap} {R : Ledger} {c : Cell} {m : Str → Option Value} (F : Fr B L h m) (N : Led B L h R) (hl : R l = some c) (hs : Heap.SameBut l h h') : Fr B L h' m :=
  ⟨F.ns.sameBut hs (Ne.symm (N _ _ hl).2.1), fun b o e => (hs.2 b (fun q => by subst q; rw [(N _ _ hl).2.2] at e; cases e)).trans (F.keep b o e), F.above⟩

/-! lists in the ledger -/
abbrev ListC (fz : Bool) (vs : List Value) (e : Nat) : Cell := ⟨fz, false, .type "list", .seq vs.toArray e⟩
abbrev TupC (fz : Bool) (vs : List Value) (e : Nat) : Cell := ⟨fz, false, .type "tuple", .seq vs.toArray e⟩
theorem Led.plain {B : Heap} {L : Addr} {h : Heap} {R : Ledger} {a : Addr} {c : Cell} (N : Led B L h R) (hr : R a = some c) (hf : c.fr = false) : h.get? a = some { cls := c.cls, data := c.data } := by
  obtain ⟨⟨c1, d1, dt1, s1⟩, ho, h1, h2, h3⟩ := N.get hr
  obtain ⟨e1, e2⟩ := h3 hf
  simp only at h1 h2 e1 e2
  rw [ho, h1, h2, e1, e2]
theorem Led.isL {B : Heap} {L : Addr} {h : Heap} {R : Ledger} {a : Addr} {fz : Bool} {vs : List Value} {e : Nat} (N : Led B L h R) (hr : R a = some (ListC fz vs e)) : h.get? a = some { cls := .type "list", data := .seq vs.toArray e } := N.plain hr rfl
theorem Led.isT {B : Heap} {L : Addr} {h : Heap} {R : Ledger} {a : Addr} {fz : Bool} {vs : List Value} {e : Nat} (N : Led B L h R) (hr : R a = some (TupC fz vs e)) : h.get? a = some { cls := .type "tuple", data := .seq vs.toArray e } := N.plain hr rfl
theorem Led.isList {B : Heap} {L : Addr} {h : Heap} {R : Ledger} {a : Addr} {fz : Bool} {vs : List Value} {e : Nat} (N : Led B L h R) (hr : R a = some (ListC fz vs e)) : h.IsList a vs.toArray :=
  ⟨_, N.plain hr rfl, rfl, e, rfl⟩
theorem Led.isTuple {B : Heap} {L : Addr} {h : Heap} {R : Ledger} {a : Addr} {fz : Bool} {vs : List Value} {e : Nat} (N : Led B L h R) (hr : R a = some (TupC fz vs e)) : h.IsTuple a vs.toArray :=
  ⟨_, N.plain hr rfl, rfl, e, rfl⟩

/-! ## Frames -/
def FrameCell (m : Str → Option Value) (c : Cell) : Prop := (c.fz = false ∧ c.fr = true) ∧ ∃ es ep, c.data = .dict es ep ∧ StrKeys es ∧ ∀ x, nsFind es x = m x

theorem back {B : Heap} {L L' : Addr} {h' : Heap} {m m' : Str → Option Value} {R R₁ : Ledger} {c : Cell} (F' : Fr B L' h' m') (N' : Led B L' h' R₁) (g : Grow (upd R L c) R₁) (hc : FrameCell m c) (hR : R L = none) (hle : B.objs.size ≤ L) :
    Fr B L h' m ∧ Led B L h' (drop R₁ L) ∧ Grow R (drop R₁ L) ∧ FzLe R₁ (drop R₁ L) := by
  have hL : R₁ L = some c := g _ _ upd_self
  obtain ⟨⟨hz, _⟩, es, ep, hd, hk, hm⟩ := hc
  obtain ⟨o, ho, h1, h2, _⟩ := N'.get hL
  refine ⟨⟨⟨o, es, ep, ho, h2.trans hd, hk, hm⟩, F'.keep, hle⟩, fun a x e => ?_, fun a x e => ?_, FzLe.drop hL hz⟩
  · unfold drop at e
    split at e
    · cases e
    · rename_i q
      exact ⟨(N' a x e).1, q, (N' a x e).2.2⟩
  · have q : a ≠ L := fun q => by subst q; rw [hR] at e; cases e
    unfold drop; rw [if_neg q]
    exact g _ _ (by rw [upd_ne q]; exact e)

/-! ## Names -/
structure EnvIs (env : Env) (sc : Scope) (L : Addr) (cells : List (Str × Addr)) : Prop where
  scope : env.scope = sc
  locals : env.locals = L
  globals : env.globals = mainGlobals
  builtins : env.builtins = builtinsNs
  cells : env.cells = cells
theorem EnvIs.kind {env : Env} {sc : Scope} {L : Addr} {cells : List (Str × Addr)} (V : EnvIs env sc L cells) {x : Str} {k : Option NameKind} (h : sc.names.lookup x = k) : env.kindOf x = k := by
  unfold Env.kindOf; rw [V.scope]; exact h
theorem EnvIs.inter {env : Env} {sc : Scope} {L : Addr} {cells : List (Str × Addr)} (V : EnvIs env sc L cells) (h : sc.kind = .function) : interactive env = false := by
  unfold interactive; rw [V.scope, h]; rfl
section
variable {M : Model} {A : Around} {E : Value → Shared → Prop} {s : Shared} {env : Env} {sc : Scope} {cells : List (Str × Addr)} {B : Heap} {L : Addr} {m : Str → Option Value} {R : Ledger}

theorem r_st {x : Str} {v : Value} {Q : Unit → Shared → Prop} (V : EnvIs env sc L cells) (F : Fr B L s.heap m) (N : Led B L s.heap R)
    (hk : sc.kind = .function) (hl : sc.names.lookup x = some .local)
    (h : ∀ h' tk, Fr B L h' (fun y => if y = x then some v else m y) → Led B L h' R → Q () { s with heap := h', toks := tk }) :
    wpAny M A (storeName env x v) Q E s := by
  have e := V.locals; subst e
  exact wpAny_storeName_local (V.kind hl) F.ns (fun h' hn hs => h h' _ (F.set hn hs) (N.same hs)) (by rw [V.scope, hk]; rfl)
theorem r_ldn {x : Str} {v : Value} {Q : Value → Shared → Prop} (V : EnvIs env sc L cells) (F : Fr B L s.heap m)
    (hk : sc.kind = .function) (hl : sc.names.lookup x = some .local) (hv : m x = some v) (h : Q v s) : wpAny M A (loadName env x) Q E s := by
  have e := V.locals; subst e
  exact wpAny_loadName_local (by rw [V.scope, hk]) (V.kind hl) F.ns hv h
theorem r_ld {x : Str} {pos : Pos} {v : Value} {Q : Value → Shared → Prop} (V : EnvIs env sc L cells) (F : Fr B L s.heap m)
    (hk : sc.kind = .function) (hl : sc.names.lookup x = some .local) (hv : m x = some v) (hd : (x == ("__debug__" : Str)) = false) (h : Q v s) : wpAny M A (eval (.Name x pos) env) Q E s :=
  wpAny_Name (r_ldn V F hk hl hv h) hd
theorem r_newList {vs : List Value} {Q : Value → Shared → Prop} (fz : Bool) (F : Fr B L s.heap m) (N : Led B L s.heap R) (hsz : vs.length ≤ sizeLine)
    (h : ∀ h' n, Fr B L h' m → R n = none → Led B L h' (upd R n (ListC fz vs 0)) → Q (.ref n) { s with heap := h' }) :
    wpAny M A (newList vs) Q E s :=
  wpAny_newObj_type (h _ _ (F.push _) (N.none_of_ge (Nat.le_refl _)) (N.push F _ fz)) (by show vs.toArray.size ≤ sizeLine; rw [List.size_toArray]; exact hsz)
theorem r_newTuple {vs : List Value} {Q : Value → Shared → Prop} (fz : Bool) (F : Fr B L s.heap m) (N : Led B L s.heap R) (hsz : vs.length ≤ sizeLine)
    (h : ∀ h' n, Fr B L h' m → R n = none → Led B L h' (upd R n (TupC fz vs 0)) → Q (.ref n) { s with heap := h' }) :
    wpAny M A (newTuple vs) Q E s :=
  wpAny_newObj_type (h _ _ (F.push _) (N.none_of_ge (Nat.le_refl _)) (N.push F _ fz)) (by show vs.toArray.size ≤ sizeLine; rw [List.size_toArray]; exact hsz)
end

/-! ## Calls of the text's defs -/
def fn (i : Nat) : DefRec := match PySem.Challenge.pw_oy0088_01.main.body[i]? with
  | some (.FunctionDef n a b _ _ _ sc _ _ p) => ⟨n, a, b, sc, p⟩
  | _ => ⟨Str.empty, { posonlyargs := [], args := [], vararg := none, kwonlyargs := [], kw_defaults := [], kwarg := none, defaults := [] }, [], { kind := .function, names := [], isGenerator := false, isCoroutine := false, more := [] }, ⟨0, 0, 0, 0⟩⟩

structure FnAt (B : Heap) (d : DefRec) (fa : Addr) (code : Value) : Prop where
  at_ : ∃ o pm doc, B.get? fa = some o ∧ o.data = .func (Calls.docDef d.name d.params d.body d.scope pm code doc)
  code_ : B.CodeRec code d.name

section
variable {prog : Program} {w : World} {A : Around} {E : Value → Shared → Prop} {s : Shared} {B : Heap} {L : Addr} {m : Str → Option Value} {R : Ledger}

def stOk (d : DefRec) (ps : List Str) : Bool :=
  !d.scope.isCoroutine && !d.scope.isGenerator && d.scope.kind == .function && d.scope.names.all (fun x => x.2 != .cell) && ps.all fun p => d.scope.names.lookup p == some .local
theorem r_call {d : DefRec} {fa : Addr} {code : Value} {args : List Value} {Q : Value → Shared → Prop} (ps : List Str) (F : Fr B L s.heap m) (N : Led B L s.heap R) (hlim : B.NoLimit) (D : FnAt B d fa code) (hst : stOk d ps = true)
    (hroom : A.depth < recursionLimit) (hbind : ∀ pm doc, bindArgs (Calls.docDef d.name d.params d.body d.scope pm code doc) ⟨args, []⟩ = pure (ps.zip args))
    (h : ∀ env L' h₁ c tk, EnvIs env d.scope L' [] → env.frame = some L' → FrameCell m c → R L = none → B.objs.size ≤ L → Fr B L' h₁ (fun x => (ps.zip args).reverse.lookup x) → Led B L' h₁ (upd R L c) →
      wpAny (model prog w) (A.deeper env) (execs d.body env)
        (fun f s' => Q (match f with | .ret v => v | _ => .none) s') (fun _ _ => False) { s with heap := h₁, toks := tk }) :
    wpAny (model prog w) A (call (.ref fa) args) Q E s := by
  obtain ⟨⟨o, pm, doc, ho, hdata⟩, hcd⟩ := D
  unfold stOk at hst
  simp only [Bool.and_eq_true, Bool.not_eq_true', beq_iff_eq, List.all_eq_true, bne_iff_ne, ne_eq] at hst
  obtain ⟨⟨⟨⟨hco, hgen⟩, hk⟩, hcell⟩, hloc⟩ := hst
  refine wpAny_call (call_plain_ret hroom (F.keep _ _ ho) hdata (hlim.keeps F.keep) (hcd.keeps F.keep) (hbind pm doc) (fun x hx => hloc _ (List.of_mem_zip hx).1) (fun h₁ F₁ => ?_) hco hgen hk hcell)
  obtain ⟨oL, es, ep, hL, hLd, hLk, hLf⟩ := F.ns
  have hLt := Heap.lt_size hL
  refine wpAny_mono (h _ s.heap.objs.size h₁ ⟨false, true, oL.cls, oL.data⟩ _ ⟨rfl, rfl, rfl, rfl, rfl⟩ rfl ⟨⟨rfl, rfl⟩, es, ep, hLd, hLk, hLf⟩ N.none_L F.above ⟨F₁.ns, fun b o e => F₁.keep b o (F.keep b o e), Nat.le_trans F.above (Nat.le_of_lt hLt)⟩ (fun a x e => ?_)) (fun _ _ x => x) fun _ _ x => x
  by_cases q : a = L
  · subst q; rw [upd_self] at e; cases e
    exact ⟨⟨oL, F₁.keep _ _ hL, rfl, rfl, fun e => nomatch e⟩, Nat.ne_of_lt hLt, Heap.get?_none_of_le F.above⟩
  · rw [upd_ne q] at e
    obtain ⟨⟨o', ho', r⟩, _, r2⟩ := N a x e
    exact ⟨⟨o', F₁.keep _ _ ho', r⟩, Nat.ne_of_lt (Heap.lt_size ho'), r2⟩
end
end Mine
end
section
open PySem PySem.W PyProof.Rows
namespace Mine

theorem Led.toNews {B : Heap} {L : Addr} {h : Heap} {R : Ledger} (N : Led B L h R) : ∃ news, News B L h news ∧ ∀ h', News B L h' news → Led B L h' R := by
  classical
  refine ⟨(List.range h.objs.size).filterMap (fun a => if R a = none then none else (h.get? a).map fun o => (a, o)), fun p hp => ?_, fun h' N' a c e => ?_⟩
  · obtain ⟨a, _, ha⟩ := List.mem_filterMap.mp hp
    split at ha
    · cases ha
    · rename_i hne
      obtain ⟨c, hc⟩ := Option.ne_none_iff_exists'.mp hne
      cases ho : h.get? a with
      | none => rw [ho] at ha; cases ha
      | some o => rw [ho] at ha; cases ha; exact ⟨ho, (N a c hc).2⟩
  · obtain ⟨⟨o, ho, hs⟩, hL, hB⟩ := N a c e
    have := N' (a, o) (List.mem_filterMap.mpr ⟨a, List.mem_range.mpr (Heap.lt_size ho), by rw [if_neg (by rw [e]; simp), ho]; rfl⟩)
    exact ⟨⟨o, this.1, hs⟩, hL, hB⟩

theorem Led.seqUpd {B : Heap} {L l : Addr} {h : Heap} {R : Ledger} {fz : Bool} {vs vs' : List Value} {e : Nat} {f : Array Value → Array Value} (N : Led B L h R) (hl : R l = some (ListC fz vs e)) (hf : f vs.toArray = vs'.toArray) :
    ∃ e', Led B L (h.update l (Obj.mapSeq f)) (upd R l (ListC fz vs' e')) := by
  have ho := N.isL hl
  refine ⟨if (f vs.toArray).size == vs.toArray.size then e else e + 1, N.put hl (Heap.SameBut.update ..) ⟨_, Heap.get?_update_self _ ho rfl, rfl, ?_, fun _ => ⟨rfl, rfl⟩⟩⟩
  simp only [Obj.mapSeq, hf]

section
variable {prog : Program} {w : World} {A : Around} {E : Value → Shared → Prop} {s : Shared} {B : Heap} {L l b : Addr} {m : Str → Option Value} {R : Ledger} {fz fz2 : Bool} {vs us : List Value} {e e2 : Nat}

theorem sz1000 {n : Nat} (h : n ≤ 1000) : n ≤ sizeLine := Nat.le_trans h (by decide)

theorem r_append {x : Value} {Q : Value → Shared → Prop} (F : Fr B L s.heap m) (N : Led B L s.heap R) (hl : R l = some (ListC fz vs e)) (hsz : vs.length ≤ 1000)
    (h : ∀ h' e', Fr B L h' m → Led B L h' (upd R l (ListC fz (vs ++ [x]) e')) → Q .none { s with heap := h' }) :
    wpAny (model prog w) A (call (.builtin "list.append") [.ref l, x]) Q E s := by
  obtain ⟨e', N'⟩ := N.seqUpd (f := fun a => a.push x) (vs' := vs ++ [x]) hl (by simp)
  exact call_meets PySem.F.slot_list_append (N.isList hl).typeIs PySem.F.entry_list_append (PySem.F.args_list_append_2 _ _)
    (PySem.list_append l vs.toArray e x (by simpa using sz1000 hsz)) ⟨N.isL hl, h _ e' (Fr.put F N hl (Heap.SameBut.update ..)) N'⟩

theorem r_pop {x : Value} {Q : Value → Shared → Prop} (F : Fr B L s.heap m) (N : Led B L s.heap R) (hl : R l = some (ListC fz (vs ++ [x]) e)) (hsz : (vs ++ [x]).length ≤ 1000)
    (h : ∀ h' e', Fr B L h' m → Led B L h' (upd R l (ListC fz vs e')) → Q x { s with heap := h' }) :
    wpAny (model prog w) A (call (.builtin "list.pop") [.ref l]) Q E s := by
  have hs : (vs ++ [x]).toArray.size - 1 = vs.length := by simp
  obtain ⟨e', N'⟩ := N.seqUpd (f := fun xs => xs.eraseIdxIfInBounds ((vs ++ [x]).toArray.size - 1)) (vs' := vs) hl (by
    rw [hs]; apply Array.toList_inj.mp; simp [List.eraseIdx_append_of_length_le])
  exact call_meets PySem.F.slot_list_pop (N.isList hl).typeIs PySem.F.entry_list_pop (PySem.F.args_list_pop_1 _)
    (PySem.MeetsSeq.list_pop_last l (vs ++ [x]).toArray e x (by rw [hs]; simp) (by simpa using sz1000 hsz)) ⟨N.isL hl, h _ e' (Fr.put F N hl (Heap.SameBut.update ..)) N'⟩

theorem r_extend {Q : Value → Shared → Prop} (F : Fr B L s.heap m) (N : Led B L s.heap R) (hl : R l = some (ListC fz vs e)) (hb : R b = some (ListC fz2 us e2)) (hsz : vs.length + us.length ≤ 1000)
    (h : ∀ h' e', Fr B L h' m → Led B L h' (upd R l (ListC fz (vs ++ us) e')) → Q .none { s with heap := h' }) :
    wpAny (model prog w) A (call (.builtin "list.extend") [.ref l, .ref b]) Q E s := by
  obtain ⟨e', N'⟩ := N.seqUpd (f := fun xs => xs ++ us.toArray) (vs' := vs ++ us) hl (by simp)
  have hz : sizeLine = 16777216 := by decide
  exact call_meets PySem.F.slot_list_extend (N.isList hl).typeIs PySem.F.entry_list_extend (PySem.F.args_list_extend_2 _ _)
    (PySem.AutoSeq1.list_extend_list_list_0 l vs.toArray e b us.toArray e2 (by
      have : Builtin.List.listTooLong (vs.toArray.size + us.toArray.size) = false := by unfold Builtin.List.listTooLong; simp; omega
      rw [this]; simp) (by simp; omega) (by simp; omega)) ⟨N.isL hl, N.isL hb, h _ e' (Fr.put F N hl (Heap.SameBut.update ..)) N'⟩

theorem r_len {Q : Value → Shared → Prop} (N : Led B L s.heap R) (hl : R l = some (ListC fz vs e)) (hsz : vs.length ≤ 1000)
    (h : ∀ t tk, Q (.int vs.length t) { s with toks := tk }) : wpAny (model prog w) A (call (.builtin "len") [.ref l]) Q E s :=
  PySem.Calls.call_len_list (N.isList hl) (by simp; omega) (by simpa using h _ _)

theorem r_truthy {Q : Bool → Shared → Prop} (N : Led B L s.heap R) (hl : R l = some (ListC fz vs e)) (hsz : vs.length ≤ 1000)
    (h : ∀ tk, Q (!vs.isEmpty) { s with toks := tk }) : wpAny (model prog w) A (truthy (.ref l)) Q E s :=
  wpAny_truthy_list (N.isList hl) (by simp; omega) (by simpa using h _)

theorem r_get {value slice : PySem.Expr} {k : Int} {i : Nat} {u : Tok} {v : Value} {Q : Value → Shared → Prop} (N : Led B L s.heap R) (hl : R l = some (ListC fz vs e))
    (hk : k = i) (hi : i < 100000) (hx : vs[i]? = some v) (h : Q v s)
    (hs : subscripted slice false (.ref l) (.int k u) = operate [.ref l, .int k u] (getItem (.ref l) (.int k u)) := by with_unfolding_all rfl) :
    wpAny (model prog w) A (subscriptTail value slice (.ref l) (.int k u)) Q E s := by
  subst hk
  exact tail_any (N.isList hl).typeIs slot_list_getitem.lookup (wpAny_getItem_list (N.isList hl) (by omega) (by omega) (by simpa using hx) h) hs

set_option maxRecDepth 100000 in
theorem r_set {k : Int} {i : Nat} {u : Tok} {v : Value} {Q : Unit → Shared → Prop} (F : Fr B L s.heap m) (N : Led B L s.heap R) (hl : R l = some (ListC fz vs e))
    (hk : k = i) (hi : i < vs.length) (hsz : vs.length ≤ 1000)
    (h : ∀ h' e', Fr B L h' m → Led B L h' (upd R l (ListC fz (vs.set i v) e')) → Q () { s with heap := h' }) :
    wpAny (model prog w) A (setItem (.ref l) (.int k u) v) Q E s := by
  have hk0 : 0 ≤ k := by omega
  have hk1 : Builtin.List.listFitsIndex k = true := fitsIndex_of hk0 (by omega)
  have ho := N.isL hl
  have hL := N.isList hl
  have hj : i < vs.toArray.size := by simpa using hi
  have hx' : vs.toArray[i]? = some vs.toArray[i] := Array.getElem?_eq_getElem hj
  obtain ⟨e', N'⟩ := N.seqUpd (f := fun xs => xs.setIfInBounds i v) (vs' := vs.set i v) hl (by simp)
  have hq := h _ e' (Fr.put F N hl (Heap.SameBut.update ..)) N'
  unfold setItem
  try with_reducible refine wpAny_holding ?_
  first | refine wpAny_bind (wpAny_pure ?_) | skip
  refine wpAny_bind (wpAny_sequenceKey hL.typeIs (by decide) ?_)
  refine wpAny_bind (wpAny_callSpecial?_slot (name := Str.ofString "__setitem__") hL.typeIs slot_list_setitem
    (wpAny_call_entry slot_list_setitem hL.typeIs entry_list_setitem ?_ (args_list_setitem _ _ _)))
  show wpAny _ _ (Builtin.List.listSubscript? (.int k u) >>= _) _ _ s
  refine wpAny_bind (wpAny_listSubscript_int hk1 ?_)
  subst hk
  show wpAny _ _ ((seqItemAt l i >>= fun r => pure (r.map (i, ·))) >>= _) _ _ s
  refine wpAny_bind (wpAny_bind (wpAny_seqItemAt ho rfl (wpAny_pure ?_)))
  rw [hx']
  show wpAny _ _ (setSeqItemAt l i v >>= _) _ _ s
  refine wpAny_bind (wpAny_setSeqItemAt ho rfl ?_)
  first
    | exact wpAny_bind (wpAny_pure (wpAny_pure ⟨.none, rfl, wpAny_pure hq⟩))
    | exact wpAny_pure ⟨.none, rfl, wpAny_pure hq⟩
end
end Mine
end
section
open PySem PySem.W PyProof.Rows
namespace Mine

def fnIdx : List Nat := [1, 3, 4, 5, 6, 7, 9, 10, 11, 13, 14, 15, 16, 17, 18]
def bltNames : List Str := ["len", "int", "abs", "divmod", "IndexError", "ValueError", "sum", "range", "sorted"]
structure Gl (B : Heap) (mg mb : Str → Option Value) : Prop where
  g : B.Ns mainGlobals mg
  b : B.Ns builtinsNs mb
  lim : B.NoLimit
  fns : ∀ i ∈ fnIdx, ∃ fa code, mg (fn i).name = some (.ref fa) ∧ FnAt B (fn i) fa code
  blt : ∀ x ∈ bltNames, mg x = none ∧ mb x = bootBuiltins x

theorem nm1 : (fn 1).name = "Int2AP" := by decide +kernel
theorem nm3 : (fn 3).name = "heappush" := by decide +kernel
theorem nm4 : (fn 4).name = "heappop" := by decide +kernel
theorem nm5 : (fn 5).name = "heapreplace" := by decide +kernel
theorem nm6 : (fn 6).name = "_siftdown" := by decide +kernel
theorem nm7 : (fn 7).name = "_siftup" := by decide +kernel
theorem nm9 : (fn 9).name = "sorted_list_difference" := by decide +kernel
theorem nm10 : (fn 10).name = "unorderable_list_difference" := by decide +kernel
theorem nm11 : (fn 11).name = "three_way_cmp" := by decide +kernel
theorem nm13 : (fn 13).name = "_law_number" := by decide +kernel
theorem nm14 : (fn 14).name = "_law_item" := by decide +kernel
theorem nm15 : (fn 15).name = "_law_listed" := by decide +kernel
theorem nm16 : (fn 16).name = "_law_read" := by decide +kernel
theorem nm17 : (fn 17).name = "_law_told" := by decide +kernel
theorem nm18 : (fn 18).name = "_law_due" := by decide +kernel
theorem bb_len : bootBuiltins "len" = some (.builtin "len") := by decide +kernel
theorem bb_int : bootBuiltins "int" = some (.type "int") := by decide +kernel
theorem bb_abs : bootBuiltins "abs" = some (.builtin "abs") := by decide +kernel
theorem bb_divmod : bootBuiltins "divmod" = some (.builtin "divmod") := by decide +kernel
theorem bb_IndexError : bootBuiltins "IndexError" = some (.type "IndexError") := by decide +kernel
theorem bb_ValueError : bootBuiltins "ValueError" = some (.type "ValueError") := by decide +kernel
theorem bb_sum : bootBuiltins "sum" = some (.builtin "sum") := by decide +kernel
theorem bb_range : bootBuiltins "range" = some (.type "range") := by decide +kernel
theorem bb_sorted : bootBuiltins "sorted" = some (.builtin "sorted") := by decide +kernel

section
variable {M : Model} {A : Around} {E : Value → Shared → Prop} {s : Shared} {env : Env} {sc : Scope} {cells : List (Str × Addr)} {B : Heap} {L L' : Addr} {m mg mb : Str → Option Value} {R : Ledger}
theorem r_fn {x : Str} {pos : Pos} {Q : Value → Shared → Prop} (i : Nat) (V : EnvIs env sc L' cells) (F : Fr B L s.heap m) (G : Gl B mg mb) (hk : sc.kind = .function) (hl : sc.names.lookup x = some .globalImplicit) (hi : i ∈ fnIdx) (hx : (fn i).name = x)
    (hd : (x == ("__debug__" : Str)) = false) (h : ∀ fa code, FnAt B (fn i) fa code → Q (.ref fa) s) : wpAny M A (eval (.Name x pos) env) Q E s := by
  obtain ⟨fa, code, e, D⟩ := G.fns i hi
  exact Calls.Name_function_global (by rw [V.scope, hk]) (V.kind hl) (Calls.loadGlobal_global (by rw [V.globals]; exact G.g.keeps F.keep) (hx ▸ e) (h fa code D)) hd
theorem r_blt {x : Str} {pos : Pos} {v : Value} {Q : Value → Shared → Prop} (V : EnvIs env sc L' cells) (F : Fr B L s.heap m) (G : Gl B mg mb) (hk : sc.kind = .function) (hl : sc.names.lookup x = some .globalImplicit) (hv : bootBuiltins x = some v) (hx : x ∈ bltNames)
    (hd : (x == ("__debug__" : Str)) = false) (h : Q v s) : wpAny M A (eval (.Name x pos) env) Q E s := by
  obtain ⟨e1, e2⟩ := G.blt x hx
  exact Calls.Name_function_global (by rw [V.scope, hk]) (V.kind hl) (Calls.loadGlobal_builtin (by rw [V.globals]; exact G.g.keeps F.keep) e1 (by rw [V.builtins]; exact G.b.keeps F.keep) (e2.trans hv) h) hd
theorem r_callWith {d : DefRec} {fa : Addr} {code : Value} {pos : Pos} {e : PySem.Expr} {rest : List PySem.Expr} {Q : Value → Shared → Prop} (D : FnAt B d fa code)
    (h : wpAny M A (spliced (backTo pos (starEach (e :: rest) env))) (fun vs s₁ => (∃ L m, Fr B L s₁.heap m) ∧ wpAny M A (call (.ref fa) vs) Q E s₁) E s)
    (he : starEach (e :: rest) env = (false, eval e env) :: starEach rest env := by rfl) : wpAny M A (callWith pos (.ref fa) [] (backTo pos (starEach (e :: rest) env)) []) Q E s := by
  obtain ⟨⟨o, pm, doc, ho, hdata⟩, _⟩ := D
  exact callWith_def_at ho hdata (wpAny_mono h (fun vs s₁ x => ⟨let ⟨_, _, F⟩ := x.1; F.keep _ _ ho, x.2⟩) fun _ _ x => x) he
end

section
variable {prog : Program} {w : World} {A : Around} {E : Value → Shared → Prop} {s : Shared} {env : Env} {B : Heap} {L l b t : Addr} {m : Str → Option Value} {R : Ledger} {fz fz2 : Bool} {vs us : List Value} {e e2 : Nat}
theorem r_unpack {elts : List PySem.Expr} {k} {pos : Pos} {Q : Unit → Shared → Prop} (F : Fr B L s.heap m) (N : Led B L s.heap R) (ht : R t = some (TupC fz vs e)) (hh : A.handled = none)
    (h : ∀ h', Fr B L h' m → Led B L h' R → wpAny (model prog w) A (assignInOrder ((assignEach elts env).map (·.2)) vs) Q E { s with heap := h' })
    (hn : (assignEach elts env).length = vs.toArray.size := by rfl) (hstar : (assignEach elts env).findIdx? (·.1) = none := by rfl) :
    wpAny (model prog w) A (assign (.Tuple elts k pos) env (.ref t)) Q E s := by
  obtain ⟨news, N1, nb⟩ := N.toNews
  exact unpackN_ F N1 (N.isTuple ht) hh hn hstar fun h' F' N' => h h' F' (nb _ N')
theorem r_divmod {a b : Int} {t u : Tok} {Q : Value → Shared → Prop} (F : Fr B L s.heap m) (N : Led B L s.heap R) (hb : b ≠ 0) (hp : Builtin.divisionGoesByPylong a b = false)
    (h : ∀ h' n t1 t2 tk, Fr B L h' m → R n = none → Led B L h' (upd R n (TupC true [.int (a.fdiv b) t1, .int (a.fmod b) t2] 0)) → Q (.ref n) { s with heap := h', toks := tk }) :
    wpAny (model prog w) A (call (.builtin "divmod") [.int a t, .int b u]) Q E s := by
  obtain ⟨news, N1, nb⟩ := N.toNews
  refine divmod_N F N1 hb ?_ (.inl hp)
  intro h' F' N'
  refine h h' s.heap.objs.size s.toks (s.toks + 1) _ F' (N.none_of_ge (Nat.le_refl _)) ?_
  intro a x e
  by_cases q : a = s.heap.objs.size
  · subst q; rw [upd_self] at e; cases e
    have := N' _ (List.mem_cons_self ..)
    exact ⟨⟨_, this.1, rfl, rfl, fun _ => ⟨rfl, rfl⟩⟩, this.2⟩
  · rw [upd_ne q] at e
    exact nb _ (fun p hp => N' p (List.mem_cons_of_mem _ hp)) a x e
theorem r_meth {name : Str} {id : String} {pl : Sem Bool} {Q : Value × List Value → Shared → Prop} (N : Led B L s.heap R) (hl : R l = some (ListC fz vs e)) (slot : Slot "list" name id)
    (hty : typeOf (.builtin id) = pure (.type "method_descriptor")) (h : Q (.builtin id, [.ref l]) s) : wpAny (model prog w) A (getMethod (.ref l) name pl) Q E s :=
  getMethod_list_of slot hty (N.isList hl) (by
    exact ⟨_, N.isL hl, rfl⟩) h
theorem r_add {Q : Value → Shared → Prop} (fz' : Bool) (F : Fr B L s.heap m) (N : Led B L s.heap R) (hl : R l = some (ListC fz vs e)) (hb : R b = some (ListC fz2 us e2)) (hsz : vs.length + us.length ≤ 1000)
    (h : ∀ h' n, Fr B L h' m → R n = none → Led B L h' (upd R n (ListC fz' (vs ++ us) 0)) → Q (.ref n) { s with heap := h' }) :
    wpAny (model prog w) A (binaryOp .Add (.ref l) (.ref b)) Q E s := by
  refine P.add_list (N.isL hl) (N.isL hb) ?_ (by simpa using sz1000 hsz)
  have := h _ s.heap.objs.size (F.push { cls := .type "list", data := .seq (vs.toArray ++ us.toArray) }) (N.none_of_ge (Nat.le_refl _)) (by simpa using N.push F { cls := .type "list", data := .seq (vs.toArray ++ us.toArray) } fz')
  exact this
end
end Mine
end
section
/-! pure: digits -/
namespace Mine
def digs (n : Nat) : List Nat := if h : n = 0 then [] else digs (n / 16) ++ [n % 16]
termination_by n
decreasing_by omega
def enc (n : Nat) : List UInt8 := (digs n).map fun d => UInt8.ofNat (65 + d)
theorem digs_zero : digs 0 = [] := by rw [digs]; simp
theorem digs_pos {n : Nat} (h : n ≠ 0) : digs n = digs (n / 16) ++ [n % 16] := by rw [digs]; simp [h]
theorem enc_zero : enc 0 = [] := by simp [enc, digs_zero]
theorem enc_pos {n : Nat} (h : n ≠ 0) : enc n = enc (n / 16) ++ [UInt8.ofNat (65 + n % 16)] := by simp [enc, digs_pos h]
theorem enc_len_le (k : Nat) : ∀ n, n < 16 ^ k → (enc n).length ≤ k := by
  induction k with
  | zero => intro n h; have : n = 0 := by simpa using h
            subst this; simp [enc_zero]
  | succ k ih =>
    intro n h
    by_cases hn : n = 0
    · subst hn; simp [enc_zero]
    · rw [enc_pos hn, List.length_append]
      have := ih (n / 16) (by rw [Nat.pow_succ] at h; omega)
      simp; omega
end Mine
end
section
open PySem PySem.W PyProof.Rows
namespace Mine
def HasI (m : Str → Option Value) (x : Str) (i : Int) : Prop := ∃ t, m x = some (.int i t)
def HasB (m : Str → Option Value) (x : Str) (b : List UInt8) : Prop := ∃ t, m x = some (.bytes b.toArray t)
theorem HasI.of {m : Str → Option Value} {x : Str} {i j : Int} {t : Tok} (h : m x = some (.int j t)) (e : j = i) : HasI m x i := ⟨t, e ▸ h⟩
theorem HasB.of {m : Str → Option Value} {x : Str} {i j : List UInt8} {t : Tok} (h : m x = some (.bytes j.toArray t)) (e : j = i) : HasB m x i := ⟨t, e ▸ h⟩
section
variable {prog : Program} {w : World} {A : Around} {E : Value → Shared → Prop} {s : Shared} {env : Env} {B : Heap} {L : Addr} {m : Str → Option Value} {R : Ledger}
theorem r_bslice {h₀ : Heap} {gn : Array GenState} {dr : Drawn} {tk : Nat} {os : OsState} {value slice : PySem.Expr} {b : Array UInt8} {t t1 t2 : Tok} {i j : Int} {Q : Value → Shared → Prop} (c : Array UInt8) (F : Fr B L h₀ m) (N : Led B L h₀ R)
    (hw : KBy.whole b (some i) (some j) = false) (hp : KBy.picked b (some i) (some j) = c) (hz : c.size ≤ 16777216)
    (hs : subscripted slice false (Value.bytes b t) (Value.ref h₀.objs.size) = operate [Value.ref h₀.objs.size, Value.bytes b t] (getItem (Value.bytes b t) (Value.ref h₀.objs.size)))
    (hg : ∀ (r : Value), letTemporaryGo value (Value.bytes b t) r = pure ())
    (h : ∀ h' t' k, Fr B L h' m → Led B L h' R → Q (.bytes c t') { heap := h', gens := gn, drawn := dr, toks := k, os := os }) :
    wpAny (model prog w) A (subscriptTail value slice (.bytes b t) (.ref h₀.objs.size)) Q E { heap := h₀.push { cls := .type "slice", data := .fields #[.int i t1, .int j t2, .none] }, gens := gn, drawn := dr, toks := tk, os := os } := by
  obtain ⟨news, N1, nb⟩ := N.toNews
  subst hp
  exact KBy.slice_N (s := { heap := h₀, gens := gn, drawn := dr, toks := tk, os := os }) F N1 (.int i t1) (.int j t2) hw hz (fun h' t' k F' N' => h h' t' k F' (nb _ N')) hs hg
end
theorem grow_over {R₀ R₁ : Ledger} {l : Addr} {c1 c2 : Cell} (g : Grow (upd R₀ l c1) R₁) : Grow (upd R₀ l c2) (upd R₁ l c2) := fun a x e => by
  by_cases q : a = l
  · subst q; rw [upd_self] at e ⊢; exact e
  · rw [upd_ne q] at e ⊢; exact g _ _ (by rw [upd_ne q]; exact e)
theorem upd_comm {R : Ledger} {a b : Addr} {x y : Cell} (h : a ≠ b) : upd (upd R a x) b y = upd (upd R b y) a x := by
  funext c; unfold upd; by_cases h1 : c = b <;> by_cases h2 : c = a <;> simp_all
theorem upd_upd {R : Ledger} {a : Addr} {x y : Cell} : upd (upd R a x) a y = upd R a y := by
  funext c; unfold upd; by_cases h1 : c = a <;> simp_all
theorem ne_of_none {R : Ledger} {a b : Addr} {x : Cell} (ha : R a = some x) (hb : R b = none) : a ≠ b := fun e => by subst e; rw [ha] at hb; cases hb
theorem ite_t {a b : Prop} (h : a) : if (true = true) then a else b := by rw [if_pos rfl]; exact h
theorem ite_f {a b : Prop} (h : b) : if (false = true) then a else b := by rw [if_neg Bool.false_ne_true]; exact h
theorem ite_d {c a b : Prop} [Decidable c] (h : c → a) (h' : ¬ c → b) : if (decide c = true) then a else b := by
  by_cases q : c
  · rw [if_pos (decide_eq_true q)]; exact h q
  · rw [if_neg (by simp [q])]; exact h' q
theorem ite_nd {c a b : Prop} [Decidable c] (h : c → b) (h' : ¬ c → a) : if ((!decide c) = true) then a else b := by
  by_cases q : c
  · rw [if_neg (by simp [q])]; exact h q
  · rw [if_pos (by simp [q])]; exact h' q
/-! ## while -/
def WStep (B : Heap) (L : Addr) (s : Shared) (I : Nat → (Str → Option Value) → Ledger → Prop) (Q : Flow → Shared → Prop) (n : Nat) (f : Flow) (s₃ : Shared) : Prop :=
  match f with
  | .next | .cont => ∃ h' tk m₂ R₂ n', s₃ = { s with heap := h', toks := tk } ∧ Fr B L h' m₂ ∧ Led B L h' R₂ ∧ n' < n ∧ I n' m₂ R₂
  | .brk => Q .next s₃
  | .ret v => Q (.ret v) s₃
section
variable {prog : Program} {w : World} {A : Around} {E : Value → Shared → Prop} {Q : Flow → Shared → Prop} {s : Shared} {env : Env} {B : Heap} {L : Addr} {m : Str → Option Value} {R : Ledger}
theorem r_while {test : PySem.Expr} {body : List Stmt} {pos : Pos} (I : Nat → (Str → Option Value) → Ledger → Prop) (n₀ : Nat)
    (F : Fr B L s.heap m) (N : Led B L s.heap R) (hI : I n₀ m R) (hE : PassesOwn (model prog w) A env E)
    (turn : ∀ n m₁ R₁ h₁ tk₁, Fr B L h₁ m₁ → Led B L h₁ R₁ → I n m₁ R₁ →
      wpAny (model prog w) A (isTrue test env (eval test env)) (fun b s₂ =>
        if b = true then wpAny (model prog w) A (execs body env) (WStep B L s I Q n) E s₂ else Q .next s₂) E { s with heap := h₁, toks := tk₁ }) :
    wpAny (model prog w) A (exec (.While test body [] pos) env) Q E s := by
  refine wpAny_While (codeAny_whileLoop (fun n s' => ∃ h₁ tk₁ m₁ R₁, s' = { s with heap := h₁, toks := tk₁ } ∧ Fr B L h₁ m₁ ∧ Led B L h₁ R₁ ∧ I n m₁ R₁) ?_ n₀ ⟨s.heap, s.toks, m, R, rfl, F, N, hI⟩)
  rintro n s' ⟨h₁, tk₁, m₁, R₁, rfl, F₁, N₁, I₁⟩
  refine wpAny_mono (turn n m₁ R₁ h₁ tk₁ F₁ N₁ I₁) (fun b s₂ h₂ => ?_) hE
  cases b with
  | false =>
    simp only [Bool.false_eq_true, if_false] at h₂ ⊢
    exact wpAny_execs_nil h₂
  | true =>
    simp only [if_true] at h₂ ⊢
    refine wpAny_mono h₂ (fun f s₃ h₃ => ?_) hE
    cases f with
    | next =>
      obtain ⟨h', tk, m₂, R₂, n', rfl, F₂, N₂, hn, J₂⟩ := h₃
      exact ⟨n', hn, h', tk, m₂, R₂, rfl, F₂, N₂, J₂⟩
    | cont =>
      obtain ⟨h', tk, m₂, R₂, n', rfl, F₂, N₂, hn, J₂⟩ := h₃
      exact ⟨n', hn, h', tk, m₂, R₂, rfl, F₂, N₂, J₂⟩
    | brk => exact h₃
    | ret v => exact h₃
end
end Mine
end
section
open PySem PySem.W PyProof.Rows
namespace Mine
open PySem.SeqAt PySem.MeetsSeq PySem.MeetsSeq2 PySem.MeetsSeq3
open PySem.AutoSeq1 (wpAny_loadPart')
def CmpAt (op : CmpOp) (A : Around) (s : Shared) (x y : Value) (b : Bool) : Prop :=
  ∀ (prog : Program) (w : World) (E : Value → Shared → Prop) (Q : Value → Shared → Prop), Q (.bool b) s → wpAny (model prog w) A (richCompare op x y) Q E s

def lexC (e0 e1 c0 c1 : Bool) : Bool := if e0 then (if e1 then false else c1) else c0
section
variable (l b : Addr) (xs ys : Array Value) (x0 x1 y0 y1 : Value) (n n2 : Nat) (e0 e1 c0 c1 : Bool)
  (hx : xs.size = 2) (hy : ys.size = 2) (hx0 : xs[0]? = some x0) (hx1 : xs[1]? = some x1) (hy0 : ys[0]? = some y0) (hy1 : ys[1]? = some y1)
include hx hy in
theorem lt_loop2 : Meets (Builtin.«list.__eq__.loop» ⟨[.ref l, .ref b, rawInt 2, rawInt 0], []⟩)
      (fun _ R s => s.heap.get? l = some { cls := .type "list", data := .seq xs n } ∧ s.heap.get? b = some { cls := .type "list", data := .seq ys n2 } ∧ R (.ok (.ret (.bool false))) s) := by
  intro prog w A R s h
  obtain ⟨hp, g, d, tk, os⟩ := s; obtain ⟨hl, hb, h⟩ := h
  have i1 : xs[(2 : Int).toNat]? = none := by simp; omega
  have i2 : ys[(2 : Int).toNat]? = none := by simp; omega
  wp_walk using wpAny_loadPart' hl, wpAny_loadPart' hb
  rw [i1, i2]
  wp_walk using wpAny_loadPart' hl, wpAny_loadPart' hb
  show R (.ok (.ret (.bool (decide (xs.size < ys.size)))) ) _
  rw [hx, hy]
  exact h
include hx hy hx1 hy1 in
theorem lt_loop1 : Meets (Builtin.«list.__eq__.loop» ⟨[.ref l, .ref b, rawInt 1, rawInt 0], []⟩)
      (fun A R s => s.heap.get? l = some { cls := .type "list", data := .seq xs n } ∧ s.heap.get? b = some { cls := .type "list", data := .seq ys n2 } ∧
        EqAt A.in1 s x1 y1 e1 ∧ (e1 = false → CmpAt .Lt A.in1 s x1 y1 c1) ∧ R (.ok (.ret (.bool (if e1 then false else c1)))) s) := by
  intro prog w A R s h
  obtain ⟨hp, g, d, tk, os⟩ := s; obtain ⟨hl, hb, he, hc, h⟩ := h
  have i1 : xs[(1 : Int).toNat]? = some x1 := hx1
  have i2 : ys[(1 : Int).toNat]? = some y1 := hy1
  wp_walk using wpAny_loadPart' hl, wpAny_loadPart' hb
  rw [i1, i2]
  refine wpAny_bind (he prog w _ _ ?_)
  cases e1 with
  | true =>
    wp_walk
    exact ⟨plainId_quiet plain_eq_loop _, codeAny_builtin entry_eq_loop (by
      rw [Around.under_plainId plain_eq_loop _]
      exact lt_loop2 l b xs ys n n2 hx hy prog w A R _ ⟨hl, hb, by simpa using h⟩)⟩
  | false =>
    wp_walk using wpAny_loadPart' hl, wpAny_loadPart' hb
    rw [i1, i2]
    refine wpAny_bind (hc rfl prog w _ _ ?_)
    wp_walk
    exact h
include hx hy hx0 hy0 hx1 hy1 in
theorem lt_loop0 : Meets (Builtin.«list.__eq__.loop» ⟨[.ref l, .ref b, rawInt 0, rawInt 0], []⟩)
      (fun A R s => s.heap.get? l = some { cls := .type "list", data := .seq xs n } ∧ s.heap.get? b = some { cls := .type "list", data := .seq ys n2 } ∧
        EqAt A.in1 s x0 y0 e0 ∧ EqAt A.in1 s x1 y1 e1 ∧ (e0 = false → CmpAt .Lt A.in1 s x0 y0 c0) ∧ (e1 = false → CmpAt .Lt A.in1 s x1 y1 c1) ∧ R (.ok (.ret (.bool (lexC e0 e1 c0 c1)))) s) := by
  intro prog w A R s h
  obtain ⟨hp, g, d, tk, os⟩ := s; obtain ⟨hl, hb, he, he1, hc, hc1, h⟩ := h
  have i1 : xs[(0 : Int).toNat]? = some x0 := hx0
  have i2 : ys[(0 : Int).toNat]? = some y0 := hy0
  wp_walk using wpAny_loadPart' hl, wpAny_loadPart' hb
  rw [i1, i2]
  refine wpAny_bind (he prog w _ _ ?_)
  cases e0 with
  | true =>
    wp_walk
    exact ⟨plainId_quiet plain_eq_loop _, codeAny_builtin entry_eq_loop (by
      rw [Around.under_plainId plain_eq_loop _]
      exact lt_loop1 l b xs ys x1 y1 n n2 e1 c1 hx hy hx1 hy1 prog w A R _ ⟨hl, hb, he1, hc1, by simpa [lexC] using h⟩)⟩
  | false =>
    wp_walk using wpAny_loadPart' hl, wpAny_loadPart' hb
    rw [i1, i2]
    refine wpAny_bind (hc rfl prog w _ _ ?_)
    wp_walk
    exact h
include hx hy hx0 hy0 hx1 hy1 in
theorem list_lt2 : Meets (Builtin.«list.__lt__» ⟨[.ref l, .ref b], []⟩)
      (fun A R s => s.heap.get? l = some { cls := .type "list", data := .seq xs n } ∧ s.heap.get? b = some { cls := .type "list", data := .seq ys n2 } ∧
        EqAt A.in1 s x0 y0 e0 ∧ EqAt A.in1 s x1 y1 e1 ∧ (e0 = false → CmpAt .Lt A.in1 s x0 y0 c0) ∧ (e1 = false → CmpAt .Lt A.in1 s x1 y1 c1) ∧ R (.ok (.ret (.bool (lexC e0 e1 c0 c1)))) s) := by
  intro prog w A R s h
  obtain ⟨hp, g, d, tk, os⟩ := s; obtain ⟨hl, hb, he, he1, hc, hc1, h⟩ := h
  have f3 := AutoSeq1.sub_list_list
  wp_walk using wpAny_loadPart' hl, wpAny_loadPart' hb
  exact ⟨plainId_quiet plain_eq_loop _, codeAny_builtin entry_eq_loop (by
    rw [Around.under_plainId plain_eq_loop _]
    exact lt_loop0 l b xs ys x0 x1 y0 y1 n n2 e0 e1 c0 c1 hx hy hx0 hx1 hy0 hy1 prog w A R _ ⟨hl, hb, he, he1, hc, hc1, h⟩)⟩
end
theorem CmpAt.lt_lists {A : Around} {s : Shared} {l b : Addr} {x0 x1 y0 y1 : Value} {n n2 : Nat} {e0 e1 c0 c1 : Bool} (hl : s.heap.get? l = some { cls := .type "list", data := .seq #[x0, x1] n })
    (hb : s.heap.get? b = some { cls := .type "list", data := .seq #[y0, y1] n2 }) (hu : A.units < cLine) (he : EqAt A.in1 s x0 y0 e0) (he1 : EqAt A.in1 s x1 y1 e1) (hc : e0 = false → CmpAt .Lt A.in1 s x0 y0 c0) (hc1 : e1 = false → CmpAt .Lt A.in1 s x1 y1 c1) :
    CmpAt .Lt A s (.ref l) (.ref b) (lexC e0 e1 c0 c1) := fun _ _ _ _ h =>
  richCompare_meets_room (op := .Lt) ⟨_, hl, rfl⟩ ⟨_, hb, rfl⟩ F.slot_list_lt F.entry_list_lt (F.args_list_lt_2 _ _) (list_lt2 l b #[x0, x1] #[y0, y1] x0 x1 y0 y1 n n2 e0 e1 c0 c1 rfl rfl rfl rfl rfl rfl)
    ⟨hl, hb, he, he1, hc, hc1, (fun x => nomatch x), h⟩ hu
section
variable (l b : Addr) (xs ys : Array Value) (x0 x1 y0 y1 : Value) (n n2 : Nat) (e0 e1 c0 c1 : Bool)
  (hx : xs.size = 2) (hy : ys.size = 2) (hx0 : xs[0]? = some x0) (hx1 : xs[1]? = some x1) (hy0 : ys[0]? = some y0) (hy1 : ys[1]? = some y1)
include hx hy in
theorem gt_loop2 : Meets (Builtin.«list.__eq__.loop» ⟨[.ref l, .ref b, rawInt 2, rawInt 4], []⟩)
      (fun _ R s => s.heap.get? l = some { cls := .type "list", data := .seq xs n } ∧ s.heap.get? b = some { cls := .type "list", data := .seq ys n2 } ∧ R (.ok (.ret (.bool false))) s) := by
  intro prog w A R s h
  obtain ⟨hp, g, d, tk, os⟩ := s; obtain ⟨hl, hb, h⟩ := h
  have i1 : xs[(2 : Int).toNat]? = none := by simp; omega
  have i2 : ys[(2 : Int).toNat]? = none := by simp; omega
  wp_walk using wpAny_loadPart' hl, wpAny_loadPart' hb
  rw [i1, i2]
  wp_walk using wpAny_loadPart' hl, wpAny_loadPart' hb
  show R (.ok (.ret (.bool (decide (xs.size > ys.size)))) ) _
  rw [hx, hy]
  exact h
include hx hy hx1 hy1 in
theorem gt_loop1 : Meets (Builtin.«list.__eq__.loop» ⟨[.ref l, .ref b, rawInt 1, rawInt 4], []⟩)
      (fun A R s => s.heap.get? l = some { cls := .type "list", data := .seq xs n } ∧ s.heap.get? b = some { cls := .type "list", data := .seq ys n2 } ∧
        EqAt A.in1 s x1 y1 e1 ∧ (e1 = false → CmpAt .Gt A.in1 s x1 y1 c1) ∧ R (.ok (.ret (.bool (if e1 then false else c1)))) s) := by
  intro prog w A R s h
  obtain ⟨hp, g, d, tk, os⟩ := s; obtain ⟨hl, hb, he, hc, h⟩ := h
  have i1 : xs[(1 : Int).toNat]? = some x1 := hx1
  have i2 : ys[(1 : Int).toNat]? = some y1 := hy1
  wp_walk using wpAny_loadPart' hl, wpAny_loadPart' hb
  rw [i1, i2]
  refine wpAny_bind (he prog w _ _ ?_)
  cases e1 with
  | true =>
    wp_walk
    exact ⟨plainId_quiet plain_eq_loop _, codeAny_builtin entry_eq_loop (by
      rw [Around.under_plainId plain_eq_loop _]
      exact gt_loop2 l b xs ys n n2 hx hy prog w A R _ ⟨hl, hb, by simpa using h⟩)⟩
  | false =>
    wp_walk using wpAny_loadPart' hl, wpAny_loadPart' hb
    rw [i1, i2]
    refine wpAny_bind (hc rfl prog w _ _ ?_)
    wp_walk
    exact h
include hx hy hx0 hy0 hx1 hy1 in
theorem gt_loop0 : Meets (Builtin.«list.__eq__.loop» ⟨[.ref l, .ref b, rawInt 0, rawInt 4], []⟩)
      (fun A R s => s.heap.get? l = some { cls := .type "list", data := .seq xs n } ∧ s.heap.get? b = some { cls := .type "list", data := .seq ys n2 } ∧
        EqAt A.in1 s x0 y0 e0 ∧ EqAt A.in1 s x1 y1 e1 ∧ (e0 = false → CmpAt .Gt A.in1 s x0 y0 c0) ∧ (e1 = false → CmpAt .Gt A.in1 s x1 y1 c1) ∧ R (.ok (.ret (.bool (lexC e0 e1 c0 c1)))) s) := by
  intro prog w A R s h
  obtain ⟨hp, g, d, tk, os⟩ := s; obtain ⟨hl, hb, he, he1, hc, hc1, h⟩ := h
  have i1 : xs[(0 : Int).toNat]? = some x0 := hx0
  have i2 : ys[(0 : Int).toNat]? = some y0 := hy0
  wp_walk using wpAny_loadPart' hl, wpAny_loadPart' hb
  rw [i1, i2]
  refine wpAny_bind (he prog w _ _ ?_)
  cases e0 with
  | true =>
    wp_walk
    exact ⟨plainId_quiet plain_eq_loop _, codeAny_builtin entry_eq_loop (by
      rw [Around.under_plainId plain_eq_loop _]
      exact gt_loop1 l b xs ys x1 y1 n n2 e1 c1 hx hy hx1 hy1 prog w A R _ ⟨hl, hb, he1, hc1, by simpa [lexC] using h⟩)⟩
  | false =>
    wp_walk using wpAny_loadPart' hl, wpAny_loadPart' hb
    rw [i1, i2]
    refine wpAny_bind (hc rfl prog w _ _ ?_)
    wp_walk
    exact h
include hx hy hx0 hy0 hx1 hy1 in
theorem list_gt2 : Meets (Builtin.«list.__gt__» ⟨[.ref l, .ref b], []⟩)
      (fun A R s => s.heap.get? l = some { cls := .type "list", data := .seq xs n } ∧ s.heap.get? b = some { cls := .type "list", data := .seq ys n2 } ∧
        EqAt A.in1 s x0 y0 e0 ∧ EqAt A.in1 s x1 y1 e1 ∧ (e0 = false → CmpAt .Gt A.in1 s x0 y0 c0) ∧ (e1 = false → CmpAt .Gt A.in1 s x1 y1 c1) ∧ R (.ok (.ret (.bool (lexC e0 e1 c0 c1)))) s) := by
  intro prog w A R s h
  obtain ⟨hp, g, d, tk, os⟩ := s; obtain ⟨hl, hb, he, he1, hc, hc1, h⟩ := h
  have f3 := AutoSeq1.sub_list_list
  wp_walk using wpAny_loadPart' hl, wpAny_loadPart' hb
  exact ⟨plainId_quiet plain_eq_loop _, codeAny_builtin entry_eq_loop (by
    rw [Around.under_plainId plain_eq_loop _]
    exact gt_loop0 l b xs ys x0 x1 y0 y1 n n2 e0 e1 c0 c1 hx hy hx0 hx1 hy0 hy1 prog w A R _ ⟨hl, hb, he, he1, hc, hc1, h⟩)⟩
end
theorem CmpAt.gt_lists {A : Around} {s : Shared} {l b : Addr} {x0 x1 y0 y1 : Value} {n n2 : Nat} {e0 e1 c0 c1 : Bool} (hl : s.heap.get? l = some { cls := .type "list", data := .seq #[x0, x1] n })
    (hb : s.heap.get? b = some { cls := .type "list", data := .seq #[y0, y1] n2 }) (hu : A.units < cLine) (he : EqAt A.in1 s x0 y0 e0) (he1 : EqAt A.in1 s x1 y1 e1) (hc : e0 = false → CmpAt .Gt A.in1 s x0 y0 c0) (hc1 : e1 = false → CmpAt .Gt A.in1 s x1 y1 c1) :
    CmpAt .Gt A s (.ref l) (.ref b) (lexC e0 e1 c0 c1) := fun _ _ _ _ h =>
  richCompare_meets_room (op := .Gt) ⟨_, hl, rfl⟩ ⟨_, hb, rfl⟩ F.slot_list_gt F.entry_list_gt (F.args_list_gt_2 _ _) (list_gt2 l b #[x0, x1] #[y0, y1] x0 x1 y0 y1 n n2 e0 e1 c0 c1 rfl rfl rfl rfl rfl rfl)
    ⟨hl, hb, he, he1, hc, hc1, (fun x => nomatch x), h⟩ hu
end Mine
end
section
open PySem PySem.W PyProof.Rows
namespace Mine
open PySem.SeqAt
/-! ## order of the writings -/
theorem ord_snoc : ∀ (xs ys : List UInt8) (x y : UInt8), xs.length = ys.length → Builtin.Bytes.order (xs ++ [x]) (ys ++ [y]) = (match Builtin.Bytes.order xs ys with | .eq => Builtin.Bytes.order [x] [y] | o => o)
  | [], [], x, y, _ => by simp [Builtin.Bytes.order]
  | a :: xs, b :: ys, x, y, h => by
    have ih := ord_snoc xs ys x y (by simpa using h)
    simp only [List.cons_append, Builtin.Bytes.order]
    by_cases h1 : a < b
    · simp [h1]
    · by_cases h2 : a > b
      · simp [h1, h2]
      · simp only [h1, h2, if_false]; exact ih
theorem enc_len_pos {n : Nat} (h : n ≠ 0) : (enc n).length = (enc (n / 16)).length + 1 := by rw [enc_pos h]; simp
theorem enc_mono : ∀ a b : Nat, a ≤ b → (enc a).length ≤ (enc b).length := by
  intro a
  induction a using Nat.strongRecOn with
  | ind a ih =>
    intro b hab
    by_cases ha : a = 0
    · subst ha; simp [enc_zero]
    · rw [enc_len_pos ha, enc_len_pos (n := b) (by omega)]
      have := ih (a / 16) (by omega) (b / 16) (by omega)
      omega
theorem dig_lt {x y : Nat} (hx : x < 16) (hy : y < 16) : (UInt8.ofNat (65 + x) < UInt8.ofNat (65 + y)) ↔ x < y := by
  rw [UInt8.lt_iff_toNat_lt]; simp; omega
theorem enc_ord : ∀ a b : Nat, (enc a).length = (enc b).length → Builtin.Bytes.order (enc a) (enc b) = if a < b then .lt else if b < a then .gt else .eq := by
  intro a
  induction a using Nat.strongRecOn with
  | ind a ih =>
    intro b hl
    by_cases ha : a = 0
    · have hb : b = 0 := by
        apply Classical.byContradiction; intro hb
        rw [ha, enc_zero, enc_len_pos hb] at hl; simp at hl
      subst ha; subst hb; simp [enc_zero, Builtin.Bytes.order]
    · have hb : b ≠ 0 := by intro hb; rw [hb, enc_zero, enc_len_pos ha] at hl; simp at hl
      rw [enc_len_pos ha, enc_len_pos hb] at hl
      have hl' : (enc (a / 16)).length = (enc (b / 16)).length := by omega
      rw [enc_pos ha, enc_pos hb, ord_snoc _ _ _ _ hl', ih (a / 16) (by omega) _ hl']
      have m1 : a % 16 < 16 := Nat.mod_lt _ (by decide)
      have m2 : b % 16 < 16 := Nat.mod_lt _ (by decide)
      by_cases c1 : a / 16 < b / 16
      · have : a < b := by omega
        simp [c1, this]
      · by_cases c2 : b / 16 < a / 16
        · have : b < a := by omega
          have : ¬ a < b := by omega
          simp [*]
        · simp only [c1, c2, if_false, Builtin.Bytes.order, dig_lt m1 m2, gt_iff_lt, dig_lt m2 m1]
          by_cases d1 : a % 16 < b % 16
          · have : a < b := by omega
            simp [*]
          · by_cases d2 : b % 16 < a % 16
            · have : b < a := by omega
              have : ¬ a < b := by omega
              simp [*]
            · have : ¬ b < a := by omega
              have : ¬ a < b := by omega
              simp [*]
theorem enc_inj {a b : Nat} (h : enc a = enc b) : a = b := by
  have := enc_ord a b (by rw [h])
  rw [h] at this
  have e := (PySem.W.order_eq (enc b) (enc b))
  simp at e
  rw [e] at this
  split at this
  · cases this
  · split at this
    · cases this
    · omega
/-! ## bytes compared -/
theorem slot_bytes_lt : Slot "bytes" (cmpInfo .Lt).2.1 "bytes.__lt__" :=
  .of (owner := "bytes") (n := "__lt__") (by rw [typeLookup_type, builtinLookup_eq_fast]; kernel_rfl) (by decide +kernel) (by decide +kernel) (by decide +kernel)
    (by first | exact .inl (by decide +kernel) | exact .inr (by decide +kernel)) (by rw [isSubtype_type]; kernel_rfl)
theorem entry_bytes_lt : entryFor table "bytes.__lt__" = some Builtin.«bytes.__lt__» := entryFor_of_tree (by kernel_rfl)
theorem args_bytes_lt_2 (a b : Value) : argsOk "bytes.__lt__" ⟨[a, b], []⟩ := by
  unfold argsOk; rw [signature?_of (id := "bytes.__lt__") (n := ['_', '_', 't', 'l', '_', '_']) (o := ['s', 'e', 't', 'y', 'b']) (by kernel_rfl) FB.owner_bytes]; kernel_rfl
theorem slot_bytes_gt : Slot "bytes" (cmpInfo .Gt).2.1 "bytes.__gt__" :=
  .of (owner := "bytes") (n := "__gt__") (by rw [typeLookup_type, builtinLookup_eq_fast]; kernel_rfl) (by decide +kernel) (by decide +kernel) (by decide +kernel)
    (by first | exact .inl (by decide +kernel) | exact .inr (by decide +kernel)) (by rw [isSubtype_type]; kernel_rfl)
theorem entry_bytes_gt : entryFor table "bytes.__gt__" = some Builtin.«bytes.__gt__» := entryFor_of_tree (by kernel_rfl)
theorem args_bytes_gt_2 (a b : Value) : argsOk "bytes.__gt__" ⟨[a, b], []⟩ := by
  unfold argsOk; rw [signature?_of (id := "bytes.__gt__") (n := ['_', '_', 't', 'g', '_', '_']) (o := ['s', 'e', 't', 'y', 'b']) (by kernel_rfl) FB.owner_bytes]; kernel_rfl
theorem gives_bytes_lt (b c : Array UInt8) (t u : Tok) : Gives (Builtin.«bytes.__lt__» ⟨[.bytes b t, .bytes c u], []⟩) (.val (.bool (Builtin.Bytes.order b.toList c.toList == .lt))) := by
  refine .of_wp fun M A E s Q hq => ?_
  show wpAny M A (isInstance (.bytes c u) (.type "bytes") >>= fun r => _) _ E s
  refine wpAny_bind (wpAny_isInstance (typeIs_bytes s c u) F.sub_bytes_bytes ?_)
  exact wpAny_pure ⟨_, rfl, hq⟩
theorem gives_bytes_gt (b c : Array UInt8) (t u : Tok) : Gives (Builtin.«bytes.__gt__» ⟨[.bytes b t, .bytes c u], []⟩) (.val (.bool (Builtin.Bytes.order b.toList c.toList == .gt))) := by
  refine .of_wp fun M A E s Q hq => ?_
  show wpAny M A (isInstance (.bytes c u) (.type "bytes") >>= fun r => _) _ E s
  refine wpAny_bind (wpAny_isInstance (typeIs_bytes s c u) F.sub_bytes_bytes ?_)
  exact wpAny_pure ⟨_, rfl, hq⟩
section
variable {A : Around} {s : Shared}
theorem CmpAt.lt_bytes (b c : Array UInt8) (t u : Tok) : CmpAt .Lt A s (.bytes b t) (.bytes c u) (Builtin.Bytes.order b.toList c.toList == .lt) := fun _ _ _ _ h =>
  compareOp_gives (op := .Lt) (typeIs_bytes s b t) (typeIs_bytes s c u) slot_bytes_lt entry_bytes_lt (args_bytes_lt_2 _ _) (gives_bytes_lt b c t u) (fun e => nomatch e) h
theorem CmpAt.gt_bytes (b c : Array UInt8) (t u : Tok) : CmpAt .Gt A s (.bytes b t) (.bytes c u) (Builtin.Bytes.order b.toList c.toList == .gt) := fun _ _ _ _ h =>
  compareOp_gives (op := .Gt) (typeIs_bytes s b t) (typeIs_bytes s c u) slot_bytes_gt entry_bytes_gt (args_bytes_gt_2 _ _) (gives_bytes_gt b c t u) (fun e => nomatch e) h
theorem CmpAt.lt_ints (a b : Int) (t u : Tok) : CmpAt .Lt A s (.int a t) (.int b u) (decide (a < b)) := fun _ _ _ _ h => lt_int h
theorem CmpAt.gt_ints (a b : Int) (t u : Tok) : CmpAt .Gt A s (.int a t) (.int b u) (decide (b < a)) := fun _ _ _ _ h => gt_int h
theorem EqAt.bytes (b c : Array UInt8) (t u : Tok) : EqAt A s (.bytes b t) (.bytes c u) (b.toList == c.toList) := fun prog w E Q h => by
  unfold eqBool
  refine wpAny_holding ?_
  refine wpAny_ite_split (fun hab => ?_) (fun _ => ?_)
  · have e := eq_of_beq hab
    injection e with e1 e2
    subst e1
    rw [show (b.toList == b.toList) = true from by simp] at h
    exact wpAny_bind (wpAny_rule (wpAny_pure h))
  · exact wpAny_bind (eq_bytes (wpAny_truthy_bool h))
end
/-! ## items -/
abbrev ItemC (n : Nat) (t t' : Tok) : Cell := ListC true [.int (enc n).length t, .bytes (enc n).toArray t'] 0
def IsItem (R : Ledger) (v : Value) (n : Nat) : Prop := ∃ a t t', v = .ref a ∧ R a = some (ItemC n t t')
theorem IsItem.mono {R R' : Ledger} {v : Value} {n : Nat} (h : IsItem R v n) (g : FzLe R R') : IsItem R' v n := let ⟨a, t, t', e, r⟩ := h; ⟨a, t, t', e, g _ _ r rfl⟩
section
variable {A : Around} {s : Shared} {B : Heap} {L : Addr} {R : Ledger} {v u : Value} {a b : Nat}
theorem len_lt_iff (a b : Nat) : ((enc a).length == (enc b).length) = false → decide ((enc a).length < (enc b).length) = decide (a < b) := by
  intro h
  have h : (enc a).length ≠ (enc b).length := by simpa using h
  by_cases q : a < b
  · have := enc_mono a b (by omega)
    simp [q]; omega
  · have := enc_mono b a (by omega)
    simp [q]; omega
theorem CmpAt.lt_items (N : Led B L s.heap R) (hu : A.units < cLine) (hv : IsItem R v a) (hw : IsItem R u b) : CmpAt .Lt A s v u (decide (a < b)) := by
  obtain ⟨p, t, t', rfl, hp⟩ := hv
  obtain ⟨q, x, x', rfl, hq⟩ := hw
  have := CmpAt.lt_lists (N.isL hp) (N.isL hq) hu (EqAt.int_int _ _ _ _) (EqAt.bytes _ _ _ _) (fun _ => CmpAt.lt_ints _ _ _ _) (fun _ => CmpAt.lt_bytes _ _ _ _)
  have e : lexC (((enc a).length : Int) == ((enc b).length : Int)) ((enc a).toArray.toList == (enc b).toArray.toList) (decide (((enc a).length : Int) < ((enc b).length : Int))) (Builtin.Bytes.order (enc a).toArray.toList (enc b).toArray.toList == .lt) = decide (a < b) := by
    unfold lexC
    by_cases hl : (enc a).length = (enc b).length
    · have : (((enc a).length : Int) == ((enc b).length : Int)) = true := by simp [hl]
      rw [this, if_pos rfl]
      by_cases he : enc a = enc b
      · have := enc_inj he; subst this; simp
      · have : (enc a == enc b) = false := by simpa using he
        simp only [this, Bool.false_eq_true, if_false]
        rw [enc_ord _ _ hl]
        by_cases c1 : a < b
        · simp [c1]
        · by_cases c2 : b < a <;> simp [c1, c2]
    · have : (((enc a).length : Int) == ((enc b).length : Int)) = false := by simp; omega
      rw [this]
      have := len_lt_iff a b (by simpa using hl)
      simpa using this
  rw [e] at this
  exact this
theorem CmpAt.gt_items (N : Led B L s.heap R) (hu : A.units < cLine) (hv : IsItem R v a) (hw : IsItem R u b) : CmpAt .Gt A s v u (decide (b < a)) := by
  obtain ⟨p, t, t', rfl, hp⟩ := hv
  obtain ⟨q, x, x', rfl, hq⟩ := hw
  have := CmpAt.gt_lists (N.isL hp) (N.isL hq) hu (EqAt.int_int _ _ _ _) (EqAt.bytes _ _ _ _) (fun _ => CmpAt.gt_ints _ _ _ _) (fun _ => CmpAt.gt_bytes _ _ _ _)
  have e : lexC (((enc a).length : Int) == ((enc b).length : Int)) ((enc a).toArray.toList == (enc b).toArray.toList) (decide (((enc b).length : Int) < ((enc a).length : Int))) (Builtin.Bytes.order (enc a).toArray.toList (enc b).toArray.toList == .gt) = decide (b < a) := by
    unfold lexC
    by_cases hl : (enc a).length = (enc b).length
    · have : (((enc a).length : Int) == ((enc b).length : Int)) = true := by simp [hl]
      rw [this, if_pos rfl]
      by_cases he : enc a = enc b
      · have := enc_inj he; subst this; simp
      · have : (enc a == enc b) = false := by simpa using he
        simp only [this, Bool.false_eq_true, if_false]
        rw [enc_ord _ _ hl]
        by_cases c1 : a < b
        · have : ¬ b < a := by omega
          simp [c1, this]
        · by_cases c2 : b < a <;> simp [c1, c2]
    · have : (((enc a).length : Int) == ((enc b).length : Int)) = false := by simp; omega
      rw [this]
      have := len_lt_iff b a (by simpa using fun h => hl (Eq.symm h))
      simpa using this
  rw [e] at this
  exact this
theorem RcAt.items (N : Led B L s.heap R) (hu : A.units < cLine) (hv : IsItem R v a) (hw : IsItem R u b) : RcAt A s v u (a == b) := by
  obtain ⟨p, t, t', rfl, hp⟩ := hv
  obtain ⟨q, x, x', rfl, hq⟩ := hw
  have := RcAt.lists (A := A) (s := s) (e := fun j => if j = 0 then ((enc a).length : Int) == ((enc b).length : Int) else enc a == enc b) (N.isList hp) (N.isList hq) (by simp) hu (fun j h1 h2 => by
    match j, h1, h2 with
    | 0, _, _ => exact EqAt.int_int _ _ _ _
    | 1, _, _ => exact EqAt.bytes _ _ _ _)
  have e : ((List.range [Value.int ((enc a).length : Int) t, Value.bytes (enc a).toArray t'].toArray.size).all fun j => if j = 0 then ((enc a).length : Int) == ((enc b).length : Int) else enc a == enc b) = (a == b) := by
    by_cases hab : a = b
    · subst hab; simp [List.range, List.range.loop]
    · have : (enc a == enc b) = false := by simpa using fun h => hab (enc_inj h)
      have h2 : (a == b) = false := by simpa using hab
      simp [List.range, List.range.loop, this, h2]
  rw [e] at this
  exact this
theorem EqAt.items (N : Led B L s.heap R) (hu : A.units < cLine) (hv : IsItem R v a) (hw : IsItem R u b) : EqAt A s v u (a == b) := by
  have h := RcAt.items N hu hv hw
  obtain ⟨p, t, t', rfl, hp⟩ := hv
  obtain ⟨q, x, x', rfl, hq⟩ := hw
  by_cases e : p = q
  · subst e
    rw [hp] at hq
    have : enc a = enc b := by
      have h1 := Option.some.inj hq
      simp only [ListC, Cell.mk.injEq, Data.seq.injEq] at h1
      have h2 := congrArg Array.toList h1.2.2.2.1
      simp at h2
      exact h2.2.1
    rw [enc_inj this, show (b == b) = true from by simp]
    exact EqAt.same _
  · exact EqAt.of_refs e h
end
end Mine
end
section
/-! pure: heap order -/
namespace Mine
def par (i : Nat) : Nat := (i - 1) / 2
def fu (a : Nat → Nat) (p v : Nat) : Nat → Nat := fun i => if i = p then v else a i
def J1 (a : Nat → Nat) (n p : Nat) : Prop := ∀ i, 1 ≤ i → i < n → i ≠ p → par i ≠ p → a (par i) ≤ a i
def J2 (a : Nat → Nat) (n p x : Nat) : Prop := ∀ c, 1 ≤ c → c < n → par c = p → x ≤ a c
def J3 (a : Nat → Nat) (n p : Nat) : Prop := ∀ c, 1 ≤ c → c < n → par c = p → 1 ≤ p → a (par p) ≤ a c
def Hp (a : Nat → Nat) (n : Nat) : Prop := ∀ i, 1 ≤ i → i < n → a (par i) ≤ a i
theorem fu_self {a : Nat → Nat} {p v : Nat} : fu a p v p = v := by simp [fu]
theorem fu_ne {a : Nat → Nat} {p v i : Nat} (h : i ≠ p) : fu a p v i = a i := by simp [fu, h]
theorem par_lt {i : Nat} (h : 1 ≤ i) : par i < i := by unfold par; omega
theorem sd_step {a : Nat → Nat} {n p x : Nat} (h1 : J1 a n p) (h2 : J2 a n p x) (h3 : J3 a n p) (hp : 1 ≤ p) (hn : p < n) (hx : x < a (par p)) :
    J1 (fu a p (a (par p))) n (par p) ∧ J2 (fu a p (a (par p))) n (par p) x ∧ J3 (fu a p (a (par p))) n (par p) := by
  have hq := par_lt hp
  refine ⟨fun i i1 i2 i3 i4 => ?_, fun c c1 c2 c3 => ?_, fun c c1 c2 c3 c4 => ?_⟩
  · by_cases e : i = p
    · subst e; exact absurd rfl i4
    · rw [fu_ne e]
      by_cases e2 : par i = p
      · rw [e2, fu_self]; exact h3 i i1 i2 e2 hp
      · rw [fu_ne e2]; exact h1 i i1 i2 e e2
  · by_cases e : c = p
    · subst e; rw [fu_self]; omega
    · rw [fu_ne e]
      have := h1 c c1 c2 e (by rw [c3]; omega)
      rw [c3] at this; omega
  · have hq2 := par_lt c4
    rw [fu_ne (by omega : par (par p) ≠ p)]
    have e0 := h1 (par p) c4 (by omega) (by omega) (by omega)
    by_cases e : c = p
    · subst e; rw [fu_self]; exact e0
    · rw [fu_ne e]
      have := h1 c c1 c2 e (by rw [c3]; omega)
      rw [c3] at this; omega
theorem sd_end {a : Nat → Nat} {n p x : Nat} (h1 : J1 a n p) (h2 : J2 a n p x) (hp : p = 0 ∨ a (par p) ≤ x) : Hp (fu a p x) n := by
  intro i i1 i2
  have := par_lt i1
  by_cases e : i = p
  · subst e
    rw [fu_self, fu_ne (by omega)]
    rcases hp with h | h
    · omega
    · exact h
  · rw [fu_ne e]
    by_cases e2 : par i = p
    · rw [e2, fu_self]; exact h2 i i1 i2 e2
    · rw [fu_ne e2]; exact h1 i i1 i2 e e2
theorem su_step {a : Nat → Nat} {n p c : Nat} (h1 : J1 a n p) (h3 : J3 a n p) (hc : 1 ≤ c) (hp : par c = p) (hm : ∀ d, 1 ≤ d → d < n → par d = p → a c ≤ a d) (hn : c < n) :
    J1 (fu a p (a c)) n c ∧ J3 (fu a p (a c)) n c := by
  have hlt := par_lt hc
  refine ⟨fun i i1 i2 i3 i4 => ?_, fun d d1 d2 d3 d4 => ?_⟩
  · have hi := par_lt i1
    by_cases e : i = p
    · subst e
      rw [fu_self, fu_ne (by omega)]
      exact h3 c hc hn hp i1
    · rw [fu_ne e]
      by_cases e2 : par i = p
      · rw [e2, fu_self]; exact hm i i1 i2 e2
      · rw [fu_ne e2]; exact h1 i i1 i2 e e2
  · have hd := par_lt d1
    rw [hp, fu_self, fu_ne (by omega)]
    have := h1 d d1 d2 (by omega) (by omega)
    rw [d3] at this; exact this
theorem Hp.min {a : Nat → Nat} {n : Nat} (h : Hp a n) : ∀ i, i < n → a 0 ≤ a i := by
  intro i
  induction i using Nat.strongRecOn with
  | ind i ih =>
    intro hi
    by_cases e : i = 0
    · subst e; exact Nat.le_refl _
    · have := par_lt (i := i) (by omega)
      have h1 := ih (par i) this (by omega)
      have h2 := h i (by omega) hi
      omega
theorem Hp.congr {a b : Nat → Nat} {n : Nat} (h : Hp a n) (e : ∀ i, i < n → a i = b i) : Hp b n := fun i i1 i2 => by
  have := par_lt i1
  rw [← e i i2, ← e (par i) (by omega)]; exact h i i1 i2

/-- keys of a list of pairs -/
def K {α : Type} (ps : List (α × Nat)) (i : Nat) : Nat := ((ps[i]?).map Prod.snd).getD 0
theorem K_set {α : Type} {ps : List (α × Nat)} {p : Nat} {v : α × Nat} (h : p < ps.length) : K (ps.set p v) = fu (K ps) p v.2 := by
  funext i
  unfold K fu
  rw [List.getElem?_set]
  by_cases e : i = p
  · subst e; simp [h]
  · have : ¬ p = i := fun q => e q.symm
    simp [e, this]
theorem K_get {α : Type} {ps : List (α × Nat)} {i : Nat} {v : α × Nat} (h : ps[i]? = some v) : K ps i = v.2 := by simp [K, h]

theorem set_perm {α : Type} {l : List α} {i j : Nat} {x y : α} (hi : i < l.length) (hj : l[j]? = some y) (hij : i ≠ j) : ((l.set i y).set j x).Perm (l.set i x) := by
  classical
  have hj' : j < l.length := (List.getElem?_eq_some_iff.mp hj).1
  have ey : l[j] = y := (List.getElem?_eq_some_iff.mp hj).2
  rw [List.perm_iff_count]
  intro z
  rw [List.count_set (by simpa using hj'), List.count_set hi, List.count_set hi]
  rw [List.getElem_set_ne hij, ey]
  have c1 : (if l[i] == z then 1 else 0) ≤ l.count z := by
    split
    · rename_i h; have := eq_of_beq h; subst this; exact List.count_pos_iff.mpr (List.getElem_mem _)
    · omega
  omega
theorem set_self {α : Type} {l : List α} {i : Nat} {x : α} (h : l[i]? = some x) : l.set i x = l := by
  apply List.ext_getElem?
  intro j
  rw [List.getElem?_set]
  by_cases e : i = j
  · subst e
    obtain ⟨h1, h2⟩ := List.getElem?_eq_some_iff.mp h
    simp [h1, h2]
  · simp [e]
end Mine
end
section
open PySem PySem.W PyProof.Rows
namespace Mine
theorem EnvIs.eta {env : Env} {sc : Scope} {L : Addr} {cells : List (Str × Addr)} (V : EnvIs env sc L cells) : env = { env with scope := sc } := by
  have := V.scope; subst this; rfl
section
variable {prog : Program} {w : World} {A : Around} {E : Value → Shared → Prop} {s : Shared} {B : Heap} {L l : Addr} {m : Str → Option Value} {R : Ledger} {fz : Bool} {vs us : List Value} {e : Nat}
theorem r_slice {h₀ : Heap} {gn : Array GenState} {dr : Drawn} {tk : Nat} {os : OsState} {value slice : PySem.Expr} {vl vu vk : Value} {lo hi st : Option Int} {ops : List Value} {Q : Value → Shared → Prop} (fz' : Bool) (us : List Value) (F : Fr B L h₀ m) (N : Led B L h₀ R)
    (hl : R l = some (ListC fz vs e)) (pl : IsPart vl lo) (pu : IsPart vu hi) (pk : IsPart vk st) (h0 : st ≠ some 0) (hp : slicePick vs.toArray lo hi st = us.toArray) (hz : vs.length ≤ 1000)
    (hs : subscripted slice false (.ref l) (.ref h₀.objs.size) = operate ops (getItem (.ref l) (.ref h₀.objs.size)))
    (hg : ∀ (r : Value), letTemporaryGo value (.ref l) r = pure ())
    (h : ∀ h' n, Fr B L h' m → R n = none → Led B L h' (upd R n (ListC fz' us 0)) → Q (.ref n) { heap := h', gens := gn, drawn := dr, toks := tk, os := os }) :
    wpAny (model prog w) A (subscriptTail value slice (.ref l) (.ref h₀.objs.size)) Q E { heap := h₀.push { cls := .type "slice", data := .fields #[vl, vu, vk] }, gens := gn, drawn := dr, toks := tk, os := os } := by
  have hL := N.isList hl
  have F1 : Fr B L (h₀.push { cls := .type "slice", data := .fields #[vl, vu, vk] }) m := F.push _
  have N1 : Led B L (h₀.push { cls := .type "slice", data := .fields #[vl, vu, vk] }) R := N.ext fun _ _ e => Heap.get?_push_of_some _ e
  refine subscriptTail_ops (Heap.IsList.typeIs (hL.push _)) list_getitem_lookup (wpAny_getItem_list_slice (hL.push _) (Heap.IsSliceOf.new ..) pl pu pk h0 ?_ (by simpa using sz1000 hz)) hs hg
  rw [hp]
  exact h _ _ (F1.push _) (N1.none_of_ge (Nat.le_refl _)) (N1.push F1 _ fz')
theorem pick_all (vs : List Value) : slicePick vs.toArray none none none = vs.toArray := by
  rw [kms_pick_eq]; simp [kms_pick, kms_lo, kms_hi]
theorem pick_from (vs : List Value) (i : Nat) : slicePick vs.toArray (some (i : Int)) none none = (vs.drop i).toArray := by
  rw [kms_pick_eq]
  have : ¬ ((i : Int) < 0) := by omega
  simp only [kms_pick, kms_lo, kms_hi, this, if_false, Int.toNat_natCast]
  congr 1
  rw [kmk_drop_min]
  rw [List.take_of_length_le]
  simp; omega
theorem pick_to (vs : List Value) (i : Nat) : slicePick vs.toArray none (some (i : Int)) none = (vs.take i).toArray := by
  rw [kms_pick_eq]
  have : ¬ ((i : Int) < 0) := by omega
  simp only [kms_pick, kms_lo, kms_hi, this, if_false, Int.toNat_natCast]
  congr 1
  simp [kmk_take_min]
theorem r_unpackItems {t : Addr} {n : Nat} {Q : List Value → Shared → Prop} (F : Fr B L s.heap m) (N : Led B L s.heap R) (ht : R t = some (TupC fz vs e)) (hh : A.handled = none) (hn : n = vs.length)
    (h : ∀ h', Fr B L h' m → Led B L h' R → Q vs { s with heap := h' }) : wpAny (model prog w) A (unpackItems (.ref t) n none) Q E s := by
  obtain ⟨news, N1, nb⟩ := N.toNews
  exact unpackItemsN_ F N1 (N.isTuple ht) hh (by simpa using hn) fun h' F' N' => h h' F' (nb _ N')
theorem r_ne_nil {b : Addr} {fz2 : Bool} {e2 : Nat} {Q : Value → Shared → Prop} (N : Led B L s.heap R) (hl : R l = some (ListC fz vs e)) (hb : R b = some (ListC fz2 [] e2)) (hu : A.units < cLine)
    (h : Q (.bool (!vs.isEmpty)) s) : wpAny (model prog w) A (compareOp .NotEq (.ref l) (.ref b)) Q E s := by
  cases vs with
  | nil =>
    have := SeqAt.RcNeAt.lists (A := A) (e := fun _ => true) (N.isList hl) (N.isList hb) rfl hu (fun j h1 _ => by simp at h1)
    exact this prog w E Q (by simpa using h)
  | cons x r => exact SeqAt.RcNeAt.lists_lengths (A := A) (N.isList hl) (N.isList hb) (by simp) hu prog w E Q h
theorem grow_mut {R₀ R₁ : Ledger} {r : Addr} {c : Cell} (g : Grow R₀ R₁) (h : R₀ r = none) : Grow R₀ (upd R₁ r c) := fun a x e => by
  rw [upd_ne (ne_of_none e h)]; exact g a x e
end
end Mine
end
section
open PySem PySem.W PyProof.Rows
namespace Mine
/-! ## exceptions in flight -/
def FrOuter (R : Ledger) (outer : List Env) : Prop := ∀ en ∈ outer, en.scope.kind ≠ .module ∧ ∃ Li c, en.frame = some Li ∧ R Li = some c ∧ c.fr = true ∧ ∃ es ep, c.data = .dict es ep
theorem FrOuter.grow {R R' : Ledger} {outer : List Env} (h : FrOuter R outer) (g : Grow R R') : FrOuter R' outer := fun en he =>
  let ⟨a, Li, c, b, d, e⟩ := h en he; ⟨a, Li, c, b, g _ _ d, e⟩
def Fresh (B : Heap) (L : Addr) (R : Ledger) (x : Addr) : Prop := R x = none ∧ x ≠ L ∧ B.get? x = none
def TbOk (B : Heap) (L : Addr) (h : Heap) (R : Ledger) (e : Addr) (v : Value) : Prop :=
  ∃ tb otb tvs, v = .ref tb ∧ tb ≠ e ∧ Fresh B L R tb ∧ h.get? tb = some otb ∧ otb.data = .fields tvs ∧ 3 < tvs.size
def IsExc (B : Heap) (L : Addr) (h : Heap) (R : Ledger) (e : Addr) (cls : String) (c2 : Value) (noted : Bool) : Prop :=
  Fresh B L R e ∧ ∃ oe vs v1, h.get? e = some oe ∧ oe.cls = .type cls ∧ oe.data = .fields vs ∧ vs[1]? = some v1 ∧ vs[2]? = some c2 ∧ ((noted = false ∧ v1 = .none) ∨ TbOk B L h R e v1)

def Ok5 (S X : List Addr) (h h' : Heap) : Prop := (∀ b o, b ∉ S → b ∉ X → h.get? b = some o → h'.get? b = some o) ∧ ∀ b o, b ∈ S → h.get? b = some o → ∃ sl, h'.get? b = some { o with slots := sl }
theorem Ok5.trans {S X : List Addr} {h₁ h₂ h₃ : Heap} (x : Ok5 S X h₁ h₂) (y : Ok5 S X h₂ h₃) : Ok5 S X h₁ h₃ :=
  ⟨fun b o hS hX e => y.1 b o hS hX (x.1 b o hS hX e), fun b o hS e => let ⟨_, e₁⟩ := x.2 b o hS e; let ⟨sl, e₂⟩ := y.2 b _ hS e₁; ⟨sl, e₂⟩⟩
theorem Ok5.slots {S X : List Addr} {h h' : Heap} (x : Heap.SlotsOnly S h h') : Ok5 S X h h' := ⟨fun b _ hS _ e => (x.2.1 b hS).trans e, fun b o _ e => x.2.2 b o e⟩
theorem Ok5.push {S X : List Addr} {h : Heap} (o : Obj) : Ok5 S X h (h.push o) := ⟨fun _ _ _ _ e => Heap.get?_push_of_some _ e, fun _ o' _ e => ⟨o'.slots, Heap.get?_push_of_some _ e⟩⟩
theorem Ok5.upd {S X : List Addr} {h : Heap} {a : Addr} (f : Obj → Obj) (ha : a ∈ X) (hS : ∀ b ∈ S, b ≠ a) : Ok5 S X h (h.update a f) :=
  ⟨fun b _ _ hX e => by rw [Heap.get?_update_other _ _ (show a ≠ b from fun q => hX (q ▸ ha))]; exact e, fun b o hb e => ⟨o.slots, by rw [Heap.get?_update_other _ _ (Ne.symm (hS b hb))]; exact e⟩⟩
theorem Ok5.keeps {S X : List Addr} {h h' : Heap} (k : ∀ b o, h.get? b = some o → h'.get? b = some o) : Ok5 S X h h' := ⟨fun _ _ _ _ e => k _ _ e, fun _ o' _ e => ⟨o'.slots, k _ _ e⟩⟩

section
variable {M : Model} {A : Around} {E : Value → Shared → Prop} {s : Shared} {env : Env} {outer : List Env} {B : Heap} {L e : Addr} {m : Str → Option Value} {R : Ledger} {cls : String} {c2 : Value} {h h' : Heap} {X : List Addr} {nt : Bool}

/-- the frames of a call -/
structure Frs (B : Heap) (L : Addr) (R : Ledger) (env : Env) (outer : List Env) : Prop where
  frame : env.frame = some L
  kind : env.scope.kind ≠ .module
  out : FrOuter R outer
theorem Frs.grow {R' : Ledger} (x : Frs B L R env outer) (g : Grow R R') : Frs B L R' env outer := ⟨x.frame, x.kind, x.out.grow g⟩
def frs (env : Env) (outer : List Env) : List Addr := (env :: outer).filterMap (·.frame)
theorem Frs.mem (x : Frs B L R env outer) {b : Addr} (hb : b ∈ frs env outer) : b = L ∨ ∃ c, R b = some c ∧ c.fr = true ∧ ∃ es ep, c.data = .dict es ep := by
  unfold frs at hb
  rw [List.filterMap_cons, x.frame] at hb
  rcases List.mem_cons.mp hb with rfl | hb
  · exact .inl rfl
  · obtain ⟨en, he, e⟩ := List.mem_filterMap.mp hb
    obtain ⟨_, Li, c, h1, h2, h3, h4⟩ := x.out en he
    rw [h1] at e; cases e
    exact .inr ⟨c, h2, h3, h4⟩
theorem Frs.memL (x : Frs B L R env outer) : L ∈ frs env outer := by unfold frs; rw [List.filterMap_cons, x.frame]; exact List.mem_cons_self ..
theorem Frs.fun (x : Frs B L R env outer) (F : Fr B L h m) (N : Led B L h R) : h.FunFrames B (env :: outer) := by
  obtain ⟨o, es, ep, ho, hd, _⟩ := F.ns
  refine ⟨x.kind, ⟨L, o, x.frame, Heap.get?_none_of_le F.above, ho, fun vs q => by rw [hd] at q; cases q⟩, ?_⟩
  have hout := x.out
  induction outer with
  | nil => trivial
  | cons en r ih =>
    obtain ⟨k, Li, c, h1, h2, h3, es, ep, h4⟩ := hout en (List.mem_cons_self ..)
    obtain ⟨⟨o, ho, hs⟩, _, hB⟩ := N _ _ h2
    exact ⟨k, ⟨Li, o, h1, hB, ho, fun vs q => by rw [hs.2.1, h4] at q; cases q⟩, ih ⟨x.frame, x.kind, fun en he => hout en (List.mem_cons_of_mem _ he)⟩ (fun en he => hout en (List.mem_cons_of_mem _ he))⟩
theorem Frs.notFields (x : Frs B L R env outer) (F : Fr B L h m) (N : Led B L h R) {a : Addr} {o : Obj} {vs : Array Value} (ha : h.get? a = some o) (hd : o.data = .fields vs) : a ∉ frs env outer := fun hm => by
  obtain ⟨_, o', ho', hn⟩ := (x.fun F N).mem hm
  rw [ha] at ho'; cases ho'; exact hn vs hd
theorem Ok5.fr (x : Frs B L R env outer) (F : Fr B L h m) (N : Led B L h R) (hX : ∀ y ∈ X, Fresh B L R y) (k : Ok5 (frs env outer) X h h') : Fr B L h' m := by
  obtain ⟨o, es, ep, ho, hd, r⟩ := F.ns
  obtain ⟨sl, e1⟩ := k.2 _ _ x.memL ho
  refine ⟨⟨_, es, ep, e1, hd, r⟩, fun b o' e => k.1 b o' (fun hb => ?_) (fun hb => ?_) (F.keep b o' e), F.above⟩
  · rcases x.mem hb with rfl | ⟨c, h1, _⟩
    · rw [Heap.get?_none_of_le F.above] at e; cases e
    · rw [(N _ _ h1).2.2] at e; cases e
  · rw [(hX b hb).2.2] at e; cases e
theorem Ok5.led (x : Frs B L R env outer) (N : Led B L h R) (hX : ∀ y ∈ X, Fresh B L R y) (k : Ok5 (frs env outer) X h h') : Led B L h' R := fun a c ea => by
  obtain ⟨⟨o, ho, hs⟩, r⟩ := N a c ea
  refine ⟨?_, r⟩
  by_cases hm : a ∈ frs env outer
  · obtain ⟨sl, e1⟩ := k.2 _ _ hm ho
    rcases x.mem hm with rfl | ⟨c', h1, h2, _⟩
    · exact absurd rfl r.1
    · rw [ea] at h1; cases h1
      exact ⟨_, e1, hs.1, hs.2.1, fun q => by rw [h2] at q; cases q⟩
  · exact ⟨o, k.1 _ _ hm (fun hb => by rw [(hX a hb).1] at ea; cases ea) ho, hs⟩

theorem mapF {o : Obj} {vs : Array Value} (hd : o.data = .fields vs) (f : Array Value → Array Value) : (o.mapFields f).data = .fields (f vs) ∧ (o.mapFields f).cls = o.cls ∧ (o.mapFields f).isFreed = false := by
  obtain ⟨c, d, dt, sl⟩ := o; subst hd; exact ⟨rfl, rfl, rfl⟩

theorem r_setFlight {fr : Option Addr} {Q : Unit → Shared → Prop} (x : Frs B L R env outer) (F : Fr B L s.heap m) (N : Led B L s.heap R) (Y : IsExc B L s.heap R e cls c2 true)
    (k : ∀ h', Fr B L h' m → Led B L h' R → IsExc B L h' R e cls c2 true → Q () { s with heap := h' }) : wpAny M A (setFlight (.ref e) fr) Q E s := by
  obtain ⟨fe, oe, vs, v1, he, hc, hd, h1, h2, ht⟩ := Y
  rcases ht with ⟨q, _⟩ | ⟨tb, otb, tvs, rfl, hte, ft, htb, hdt, hsz⟩
  · cases q
  unfold setFlight
  refine wpAny_bind (wpAny_field he hd h1 ?_)
  rw [if_pos (show (Value.ref tb != Value.none) = true from by simp)]
  refine wpAny_setField htb hdt hsz ?_
  have k5 : Ok5 (frs env outer) [tb] s.heap (s.heap.update tb (Obj.mapFields (·.setIfInBounds 3 (fr.elim .none fun f => rawInt f)))) :=
    .upd _ (List.mem_singleton.mpr rfl) (fun b hb q => x.notFields F N htb hdt (q ▸ hb))
  have hX : ∀ y ∈ [tb], Fresh B L R y := fun y hy => by rw [List.mem_singleton.mp hy]; exact ft
  obtain ⟨d1, d2, d3⟩ := mapF hdt (·.setIfInBounds 3 (fr.elim Value.none fun f => rawInt f))
  refine k _ (k5.fr x F N hX) (k5.led x N hX) ⟨fe, oe, vs, _, ?_, hc, hd, h1, h2, .inr ⟨tb, _, _, rfl, hte, ft, Heap.get?_update_self _ htb d3, d1, by simpa using hsz⟩⟩
  rw [Heap.get?_update_other _ _ hte]; exact he

theorem r_note {Q : Unit → Shared → Prop} (hfr : A.frames = some (env :: outer)) (x : Frs B L R env outer) (F : Fr B L s.heap m) (N : Led B L s.heap R) (Y : IsExc B L s.heap R e cls c2 nt)
    (k : ∀ h', Fr B L h' m → Led B L h' R → IsExc B L h' R e cls c2 true → Q () { s with heap := h' }) : wpAny M A (noteFrame (.ref e) env) Q E s := by
  -- the entry is made
  have make : ∀ (head : Value) (s' : Shared), Fr B L s'.heap m → Led B L s'.heap R → IsExc B L s'.heap R e cls c2 nt → (∀ h', Fr B L h' m → Led B L h' R → IsExc B L h' R e cls c2 true → Q () { s' with heap := h' }) →
      wpAny M A (frameOf env >>= fun fo => entryPlaceOf L (head != .none) >>= fun pl => EntryCells.newEntry head fo .none (rawInt L) .none pl >>= fun t => setField (.ref e) 1 t) Q E s' := by
    intro head s' F' N' Y' k'
    obtain ⟨fe, oe, vs, v1, he, hc, hd, h1, h2, ht⟩ := Y'
    refine wpAny_bind (wpAny_frameOf_fun hfr (x.fun F' N') x.frame fun h₁ hs₁ => ?_)
    refine wpAny_bind (wpAny_entryPlaceOf fun pl hpl => ?_)
    unfold EntryCells.newEntry newFields
    refine wpAny_bind (wpAny_newObj_type ?_ (hpl.sizeOk5 _ _ _ _ _))
    have hen := x.notFields F' N' he hd
    have he₁ : h₁.get? e = some oe := (hs₁.2.1 e hen).trans he
    have k1 : Ok5 (frs env outer) [e] s'.heap h₁ := .slots hs₁
    have he₂ := Heap.get?_push_of_some (h := h₁) { cls := .type "traceback", dict := none, data := .fields ([head, .ref L, .none, rawInt L, .none] ++ (if pl.isEmpty then List.replicate 6 Value.none else pl)).toArray } he₁
    have hsz : 1 < vs.size := (Array.getElem?_eq_some_iff.mp h1).1
    refine wpAny_setField he₂ hd hsz ?_
    have hX : ∀ y ∈ [e], Fresh B L R y := fun y hy => by rw [List.mem_singleton.mp hy]; exact fe
    have k2 := (k1.trans (.push { cls := .type "traceback", dict := none, data := .fields ([head, .ref L, .none, rawInt L, .none] ++ (if pl.isEmpty then List.replicate 6 Value.none else pl)).toArray })).trans
      (.upd (Obj.mapFields (·.setIfInBounds 1 (Value.ref h₁.objs.size))) (List.mem_singleton.mpr rfl) (fun b hb q => hen (q ▸ hb)))
    have F2 := k2.fr x F' N' hX
    have N2 := k2.led x N' hX
    have F1 := k1.fr x F' N' hX
    have N1 := k1.led x N' hX
    obtain ⟨d1, d2, d3⟩ := mapF hd (·.setIfInBounds 1 (Value.ref h₁.objs.size))
    have hTe : h₁.objs.size ≠ e := Nat.ne_of_gt (Heap.lt_size he₁)
    have hBn : B.get? h₁.objs.size = none := by
      cases hq : B.get? h₁.objs.size with
      | none => rfl
      | some o' => exact absurd (Heap.lt_size (F1.keep _ _ hq)) (Nat.lt_irrefl _)
    refine k' _ F2 N2 ⟨fe, _, _, .ref h₁.objs.size, Heap.get?_update_self _ he₂ d3, d2.trans hc, d1, ?_, ?_, .inr ⟨h₁.objs.size, { cls := .type "traceback", dict := none, data := .fields ([head, .ref L, .none, rawInt L, .none] ++ (if pl.isEmpty then List.replicate 6 Value.none else pl)).toArray },
      ([head, .ref L, .none, rawInt L, .none] ++ (if pl.isEmpty then List.replicate 6 Value.none else pl)).toArray, rfl, hTe, ⟨N1.none_of_ge (Nat.le_refl _), Nat.ne_of_gt F1.ns.lt, hBn⟩, ?_, rfl, ?_⟩⟩
    · simp [hsz]
    · rw [Array.getElem?_setIfInBounds]; simp [h2]
    · rw [Heap.get?_update_other _ _ (Ne.symm hTe)]; exact Heap.get?_push_size h₁ rfl
    · simp
  obtain ⟨fe, oe, vs, v1, he, hc, hd, h1, h2, ht⟩ := id Y
  unfold noteFrame
  simp only [x.frame]
  refine wpAny_bind (wpAny_field he hd h1 ?_)
  rcases ht with ⟨_, rfl⟩ | ⟨tb, otb, tvs, rfl, hte, ft, htb, hdt, hsz⟩
  · rw [if_neg (by decide)]
    exact make .none s F N Y k
  · rw [if_pos (show (Value.ref tb != Value.none) = true from by simp)]
    have h3 : tvs[3]? = some tvs[3] := Array.getElem?_eq_getElem hsz
    refine wpAny_bind (wpAny_field htb hdt h3 ?_)
    have Y1 : IsExc B L s.heap R e cls c2 true := ⟨fe, oe, vs, _, he, hc, hd, h1, h2, .inr ⟨tb, otb, tvs, rfl, hte, ft, htb, hdt, hsz⟩⟩
    split
    · exact wpAny_pure (k _ F N Y1)
    · refine wpAny_bind (wpAny_setField htb hdt hsz ?_)
      have k5 : Ok5 (frs env outer) [tb] s.heap (s.heap.update tb (Obj.mapFields (·.setIfInBounds 3 .none))) :=
        .upd _ (List.mem_singleton.mpr rfl) (fun b hb q => x.notFields F N htb hdt (q ▸ hb))
      have hX : ∀ y ∈ [tb], Fresh B L R y := fun y hy => by rw [List.mem_singleton.mp hy]; exact ft
      obtain ⟨d1, d2, d3⟩ := mapF hdt (·.setIfInBounds 3 Value.none)
      refine make (.ref tb) { s with heap := s.heap.update tb (Obj.mapFields (·.setIfInBounds 3 .none)) } (k5.fr x F N hX) (k5.led x N hX) ⟨fe, oe, vs, _, ?_, hc, hd, h1, h2, .inr ⟨tb, _, _, rfl, hte, ft, Heap.get?_update_self _ htb d3, d1, by simpa using hsz⟩⟩ k
      show (s.heap.update tb _).get? e = _
      rw [Heap.get?_update_other _ _ hte]; exact he
end
end Mine
end
section
open PySem PySem.W PyProof.Rows
namespace Mine
def ExcSt (B : Heap) (L : Addr) (s : Shared) (cls : String) (P : Value → (Str → Option Value) → Ledger → Prop) : Value → Shared → Prop := fun v s' =>
  ∃ e h' tk m' R' c2 nt, v = .ref e ∧ s' = { s with heap := h', toks := tk } ∧ IsExc B L h' R' e cls c2 nt ∧ Fr B L h' m' ∧ Led B L h' R' ∧ P c2 m' R'
section
variable {prog : Program} {w : World} {M : Model} {A A' : Around} {E : Value → Shared → Prop} {s s₀ : Shared} {env : Env} {outer : List Env} {B : Heap} {L e : Addr} {m mg mb : Str → Option Value} {R : Ledger} {cls : String} {c2 : Value} {h h' : Heap} {nt : Bool} {P : Value → (Str → Option Value) → Ledger → Prop}
theorem excSt_cameBack (hP : ∀ c m R, P c m R → Frs B L R env outer) (c m' R') (h' : Heap) (tk : Nat) (Y : IsExc B L h' R' e cls c true) (F : Fr B L h' m') (N : Led B L h' R') (hp : P c m' R') :
    cameBackBy M A env (ExcSt B L s cls P) (.ref e) { s with heap := h', toks := tk } := by
  have x := hP _ _ _ hp
  obtain ⟨fe, oe, vs, v1, he, hc, hd, h1, h2, ht⟩ := id Y
  rcases ht with ⟨q, _⟩ | ⟨tb, otb, tvs, rfl, hte, ft, htb, hdt, hsz⟩
  · cases q
  unfold cameBackBy
  refine wpAny_bind (wpAny_field he hd h1 ?_)
  rw [if_neg (show ¬ ((Value.ref tb == Value.none) = true) from by simp)]
  refine r_setFlight x F N Y fun h'' F'' N'' Y'' => ?_
  exact ⟨e, h'', tk, m', R', c, true, rfl, rfl, Y'', F'', N'', hp⟩
theorem excSt_passesAt (hfr : A'.frames = some (env :: outer)) (hP : ∀ c m R, P c m R → Frs B L R env outer) : PassesOwnAt M A' A env (ExcSt B L s cls P) := by
  rintro v s' ⟨e, h', tk, m', R', c, nt, rfl, rfl, Y, F, N, hp⟩
  unfold notedBy
  exact r_note hfr (hP _ _ _ hp) F N Y fun h'' F'' N'' Y'' => excSt_cameBack hP c m' R' h'' tk Y'' F'' N'' hp
theorem excSt_passes (hfr : A.frames = some (env :: outer)) (hP : ∀ c m R, P c m R → Frs B L R env outer) : PassesOwn M A env (ExcSt B L s cls P) := excSt_passesAt hfr hP

theorem sub_IB : subB "IndexError" (.type "BaseException") = some true := by decide +kernel
theorem sub_IT : subB ((Manifest.find? "IndexError").elim "type" fun y => y.metatype) (.type "tuple") = some false := by decide +kernel
theorem sub_II : subB "IndexError" (.type "IndexError") = some true := by decide +kernel
theorem sub_VB : subB "ValueError" (.type "BaseException") = some true := by decide +kernel
theorem sub_VT : subB ((Manifest.find? "ValueError").elim "type" fun y => y.metatype) (.type "tuple") = some false := by decide +kernel
theorem sub_VV : subB "ValueError" (.type "ValueError") = some true := by decide +kernel

theorem r_try {sc : Scope} {cells : List (Str × Addr)} {x : Str} {body : List Stmt} {b₀ : Stmt} {suite : List Stmt} {pos np tp : Pos} {Q : Flow → Shared → Prop} (P : Value → (Str → Option Value) → Ledger → Prop) (V : EnvIs env sc L cells) (G : Gl B mg mb) (hk : sc.kind = .function) (hl : sc.names.lookup x = some .globalImplicit)
    (hv : bootBuiltins x = some (.type cls)) (hx : x ∈ bltNames) (hd : (x == ("__debug__" : Str)) = false)
    (h1 : subB cls (.type "BaseException") = some true) (h2 : subB ((Manifest.find? cls).elim "type" fun y => y.metatype) (.type "tuple") = some false) (h3 : subB cls (.type cls) = some true)
    (hfr : A.frames = some (env :: outer)) (hP : ∀ c m R, P c m R → Frs B L R env outer)
    (hb : wpAny (model prog w) A (execs body env) Q (ExcSt B L s cls P) s)
    (hc : ∀ e h' tk m' R' c2, IsExc B L h' R' e cls c2 true → Fr B L h' m' → Led B L h' R' → P c2 m' R' → wpAny (model prog w) (A.mark (some (.ref e))) (execs (b₀ :: suite) env) Q (fun _ _ => False) { s with heap := h', toks := tk }) :
    wpAny (model prog w) A (exec (.Try body [.ExceptHandler (some (.Name x np)) none (b₀ :: suite) pos] [] [] tp) env) Q E s := by
  refine wpAny_Try_except (wpAny_mono hb (fun f s₁ hf => ?_) ?_)
  · cases f <;> first | exact hf | exact wpAny_execs_nil hf
  · rintro v s₁ ⟨e, h', tk, m', R', c2, nt, rfl, rfl, Y, F, N, hp⟩
    have y := hP _ _ _ hp
    refine r_note hfr y F N Y fun h₂ F₂ N₂ Y₂ => ?_
    refine r_setFlight y F₂ N₂ Y₂ fun h₃ F₃ N₃ Y₃ => ?_
    refine wpAny_handleBy_builtin (X := cls) (T := cls) (b := true) (isSubtype_of_subB h1) (isSubtype_of_subB h2) (isSubtype_of_subB h3) ?_
    refine r_blt V F₃ G hk hl hv hx hd ⟨rfl, ?_, ?_⟩
    · obtain ⟨_, oe, vs, v1, he, hcl, _⟩ := Y₃
      exact ⟨oe, he, hcl⟩
    · rw [if_pos rfl]
      refine r_setFlight y F₃ N₃ Y₃ fun h₄ F₄ N₄ Y₄ => ?_
      exact wpAny_mono (hc e h₄ tk m' R' c2 Y₄ F₄ N₄ hp) (fun _ _ q => q) (fun _ _ q => q.elim)
end
end Mine
end
section
open PySem PySem.W PyProof.Rows
namespace Mine
open PySem.SeqAt PySem.MeetsSeq
open PySem.AutoSeq1 (wpAny_loadPart')
/-! ## list.remove, items compared in the state at hand -/
section
variable (l : Addr) (items : Array Value) (n : Nat) (x : Value) (e : Value → Bool)
theorem rem_hit (j : Nat) (hj : j < items.size) (hit : e items[j] = true) (hs1 : items.size ≤ sizeLine) (d : Nat) :
    ∀ i : Nat, j - i = d → i ≤ j → (∀ q (hq : q < items.size), q < j → e items[q] = false) → Meets (Builtin.«list.remove.loop» ⟨[.ref l, x, rawInt i], []⟩)
      (fun A R s => s.heap.get? l = some { cls := .type "list", data := .seq items n } ∧ (∀ y, y ∈ items → EqAt A.in1 s y x (e y)) ∧ R (.ok (.ret .none)) { s with heap := s.heap.update l (Obj.mapSeq fun xs => xs.eraseIdxIfInBounds j) }) := by
  induction d with
  | zero =>
    intro i hd hij hno prog w A R s h
    obtain ⟨hp, g, dr, tk, os⟩ := s; obtain ⟨hl, he, h⟩ := h
    obtain rfl : i = j := by omega
    have hi : items[((i : Nat) : Int).toNat]? = some items[i] := by simp [hj]
    wp_walk using wpAny_loadPart' hl
    rw [hi]
    refine wpAny_bind (he _ (Array.getElem_mem hj) prog w _ _ ?_)
    rw [hit]
    have hz' : (items.eraseIdxIfInBounds i).size ≤ sizeLine + 1 := Nat.le_trans (size_erased items _) (Nat.le_succ_of_le hs1)
    wp_walk using (wpAny_updateSeq hl rfl (hz := hs1) (_hz' := hz')), wpAny_loadPart' hl
    simpa using h
  | succ d ih =>
    intro i hd hij hno prog w A R s h
    obtain ⟨hp, g, dr, tk, os⟩ := s; obtain ⟨hl, he, h⟩ := h
    have hlt : i < items.size := by omega
    have hi : items[((i : Nat) : Int).toNat]? = some items[i] := by simp [hlt]
    have hc : ((i : Int) + 1) = ((i + 1 : Nat) : Int) := by push_cast; rfl
    wp_walk using wpAny_loadPart' hl
    rw [hi]
    refine wpAny_bind (he _ (Array.getElem_mem hlt) prog w _ _ ?_)
    rw [hno i hlt (by omega)]
    wp_walk
    rw [hc]
    exact ⟨plainId_quiet plain_remove_loop _, codeAny_builtin entry_remove_loop (by
      rw [Around.under_plainId plain_remove_loop _]
      exact ih (i + 1) (by omega) (by omega) hno prog w A R _ ⟨hl, he, h⟩)⟩
theorem rem_miss (hno : ∀ q (hq : q < items.size), e items[q] = false) (d : Nat) :
    ∀ i : Nat, items.size - i = d → Meets (Builtin.«list.remove.loop» ⟨[.ref l, x, rawInt i], []⟩)
      (fun A R s => s.heap.get? l = some { cls := .type "list", data := .seq items n } ∧ (∀ y, y ∈ items → EqAt A.in1 s y x (e y)) ∧ raisesNew "ValueError" A R s) := by
  induction d with
  | zero =>
    intro i hd prog w A R s h
    obtain ⟨hp, g, dr, tk, os⟩ := s; obtain ⟨hl, he, h⟩ := h
    have hi : items[((i : Nat) : Int).toNat]? = none := by simp; omega
    wp_walk using wpAny_loadPart' hl
    rw [hi]
    wp_walk
    exact_raiseError plainExc_ValueError h.1 h.2
  | succ d ih =>
    intro i hd prog w A R s h
    obtain ⟨hp, g, dr, tk, os⟩ := s; obtain ⟨hl, he, h⟩ := h
    have hlt : i < items.size := by omega
    have hi : items[((i : Nat) : Int).toNat]? = some items[i] := by simp [hlt]
    have hc : ((i : Int) + 1) = ((i + 1 : Nat) : Int) := by push_cast; rfl
    wp_walk using wpAny_loadPart' hl
    rw [hi]
    refine wpAny_bind (he _ (Array.getElem_mem hlt) prog w _ _ ?_)
    rw [hno i hlt]
    wp_walk
    rw [hc]
    exact ⟨plainId_quiet plain_remove_loop _, codeAny_builtin entry_remove_loop (by
      rw [Around.under_plainId plain_remove_loop _]
      exact ih (i + 1) (by omega) prog w A R _ ⟨hl, he, h⟩)⟩
theorem remove_hitAt (j : Nat) (hj : j < items.size) (hit : e items[j] = true) (hs1 : items.size ≤ sizeLine) (hno : ∀ q (hq : q < items.size), q < j → e items[q] = false) : Meets (Builtin.«list.remove» ⟨[.ref l, x], []⟩)
      (fun A R s => s.heap.get? l = some { cls := .type "list", data := .seq items n } ∧ (∀ y, y ∈ items → EqAt A.in1 s y x (e y)) ∧ R (.ok (.ret .none)) { s with heap := s.heap.update l (Obj.mapSeq fun xs => xs.eraseIdxIfInBounds j) }) := by
  intro prog w A R s h
  obtain ⟨hp, g, dr, tk, os⟩ := s; obtain ⟨hl, he, h⟩ := h
  wp_walk using wpAny_loadPart' hl
  exact ⟨plainId_quiet plain_remove_loop _, codeAny_builtin entry_remove_loop (by
    rw [Around.under_plainId plain_remove_loop _]
    exact rem_hit l items n x e j hj hit hs1 _ 0 rfl (Nat.zero_le _) hno prog w A R _ ⟨hl, he, h⟩)⟩
theorem remove_missAt (hno : ∀ q (hq : q < items.size), e items[q] = false) : Meets (Builtin.«list.remove» ⟨[.ref l, x], []⟩)
      (fun A R s => s.heap.get? l = some { cls := .type "list", data := .seq items n } ∧ (∀ y, y ∈ items → EqAt A.in1 s y x (e y)) ∧ raisesNew "ValueError" A R s) := by
  intro prog w A R s h
  obtain ⟨hp, g, dr, tk, os⟩ := s; obtain ⟨hl, he, h⟩ := h
  wp_walk using wpAny_loadPart' hl
  exact ⟨plainId_quiet plain_remove_loop _, codeAny_builtin entry_remove_loop (by
    rw [Around.under_plainId plain_remove_loop _]
    exact rem_miss l items n x e hno _ 0 rfl prog w A R _ ⟨hl, he, h⟩)⟩
end
section
variable {prog : Program} {w : World} {A : Around} {E : Value → Shared → Prop} {s : Shared} {B : Heap} {L l : Addr} {m : Str → Option Value} {R : Ledger} {fz : Bool} {e : Nat} {ps : List (Value × Nat)} {v : Value} {k : Nat}
theorem map_erase {α β : Type} (f : α → β) : ∀ (l : List α) (j : Nat), (l.eraseIdx j).map f = (l.map f).eraseIdx j
  | [], _ => rfl
  | _ :: _, 0 => rfl
  | a :: l, j + 1 => by simp [map_erase f l j]
open Classical in
/-- which values of a list of items are like k -/
noncomputable def keyIs (ps : List (Value × Nat)) (k : Nat) (y : Value) : Bool := decide (∃ p ∈ ps, p.1 = y ∧ p.2 = k)
theorem item_det {y : Value} {a b : Nat} (h1 : IsItem R y a) (h2 : IsItem R y b) : a = b := by
  obtain ⟨p, t, t', rfl, hp⟩ := h1
  obtain ⟨q, x, x', e, hq⟩ := h2
  cases e
  rw [hp] at hq
  have h1 := Option.some.inj hq
  simp only [Cell.mk.injEq, Data.seq.injEq] at h1
  have h2 := congrArg Array.toList h1.2.2.2.1
  simp at h2
  exact enc_inj h2.2.1
theorem keyIs_eq (hit : ∀ p ∈ ps, IsItem R p.1 p.2) {p : Value × Nat} (hp : p ∈ ps) : keyIs ps k p.1 = (p.2 == k) := by
  unfold keyIs
  by_cases h : p.2 = k
  · simp only [h, beq_self_eq_true, decide_eq_true_eq]; exact ⟨p, hp, rfl, h⟩
  · have : (p.2 == k) = false := by simpa using h
    rw [this, decide_eq_false_iff_not]
    rintro ⟨q, hq, e1, e2⟩
    exact h ((item_det (hit p hp) (e1 ▸ hit q hq)).trans e2)
theorem keyIs_at (N : Led B L s.heap R) (hu : A.units < cLine) (hit : ∀ p ∈ ps, IsItem R p.1 p.2) (hv : IsItem R v k) : ∀ y, y ∈ (ps.map Prod.fst).toArray → EqAt A s y v (keyIs ps k y) := fun y hy => by
  obtain ⟨p, hp, rfl⟩ := List.mem_map.mp (List.mem_toArray.mp hy)
  rw [keyIs_eq hit hp]
  exact EqAt.items N hu (hit p hp) hv
theorem r_remove {Q : Value → Shared → Prop} (F : Fr B L s.heap m) (N : Led B L s.heap R) (hu : A.units + 1 < cLine) (hl : R l = some (ListC false (ps.map Prod.fst) e)) (hit : ∀ p ∈ ps, IsItem R p.1 p.2) (hv : IsItem R v k) (hsz : ps.length ≤ 1000)
    (j : Nat) (p : Value × Nat) (hj : ps[j]? = some p) (hk : p.2 = k) (hno : ∀ q (r : Value × Nat), ps[q]? = some r → q < j → r.2 ≠ k)
    (h : ∀ h' e', Fr B L h' m → Led B L h' (upd R l (ListC false ((ps.eraseIdx j).map Prod.fst) e')) → Q .none { s with heap := h' }) :
    wpAny (model prog w) A (call (.builtin "list.remove") [.ref l, v]) Q E s := by
  obtain ⟨e', N'⟩ := N.seqUpd (f := fun xs => xs.eraseIdxIfInBounds j) (vs' := (ps.eraseIdx j).map Prod.fst) hl (by
    rw [map_erase]; apply Array.toList_inj.mp; simp)
  have hj' : j < (ps.map Prod.fst).toArray.size := by simpa using (List.getElem?_eq_some_iff.mp hj).1
  refine call_meets PySem.F.slot_list_remove (N.isList hl).typeIs PySem.F.entry_list_remove (PySem.F.args_list_remove_2 _ _)
    (remove_hitAt l (ps.map Prod.fst).toArray e v (keyIs ps k) j hj' ?_ (by simpa using sz1000 hsz) ?_) ⟨N.isL hl, keyIs_at N hu hit hv, h _ e' (Fr.put F N hl (Heap.SameBut.update ..)) N'⟩
  · have e1 : (ps.map Prod.fst).toArray[j] = p.1 := by
      simp [(List.getElem?_eq_some_iff.mp hj).2]
    rw [e1, keyIs_eq hit (List.mem_of_getElem? hj)]; simpa using hk
  · intro q hq hqj
    have hq' : q < ps.length := by simpa using hq
    have e1 : (ps.map Prod.fst).toArray[q] = ps[q].1 := by simp
    rw [e1, keyIs_eq hit (List.getElem_mem hq')]
    have := hno q ps[q] (List.getElem?_eq_getElem hq') hqj
    simpa using this
theorem r_remove_miss {Q : Value → Shared → Prop} (N : Led B L s.heap R) (hh : A.handled = none) (hu : A.units + 1 < cLine) (hl : R l = some (ListC false (ps.map Prod.fst) e)) (hit : ∀ p ∈ ps, IsItem R p.1 p.2) (hv : IsItem R v k)
    (hno : ∀ p ∈ ps, p.2 ≠ k) (h : ∀ h' tk x, Heap.NewExc s.heap h' x "ValueError" → E (.ref x) { s with heap := h', toks := tk }) :
    wpAny (model prog w) A (call (.builtin "list.remove") [.ref l, v]) Q E s := by
  refine call_meets PySem.F.slot_list_remove (N.isList hl).typeIs PySem.F.entry_list_remove (PySem.F.args_list_remove_2 _ _)
    (remove_missAt l (ps.map Prod.fst).toArray e v (keyIs ps k) ?_) ⟨N.isL hl, keyIs_at N hu hit hv, hh, h⟩
  intro q hq
  have hq' : q < ps.length := by simpa using hq
  have e1 : (ps.map Prod.fst).toArray[q] = ps[q].1 := by simp
  rw [e1, keyIs_eq hit (List.getElem_mem hq')]
  have := hno ps[q] (List.getElem_mem hq')
  simpa using this
/-- a new exception, of the ledger's ground -/
theorem newExc {h h' : Heap} {x : Addr} {cls : String} (F : Fr B L h m) (N : Led B L h R) (hx : Heap.NewExc h h' x cls) : Fr B L h' m ∧ Led B L h' R ∧ IsExc B L h' R x cls .none false := by
  obtain ⟨ob, t, h1, h2, h3⟩ := hx.there
  refine ⟨⟨F.ns.keeps hx.keeps, fun b o e => hx.keeps b o (F.keep b o e), F.above⟩, N.ext hx.keeps, ⟨?_, ?_, ?_⟩, ob, _, .none, h1, h2, h3, rfl, rfl, .inl ⟨rfl, rfl⟩⟩
  · cases hq : R x with
    | none => rfl
    | some c => obtain ⟨o, ho, _⟩ := N.get hq; rw [hx.new] at ho; cases ho
  · rintro rfl
    obtain ⟨o, es, ep, ho, _⟩ := F.ns
    rw [hx.new] at ho; cases ho
  · cases hq : B.get? x with
    | none => rfl
    | some o => have := F.keep _ _ hq; rw [hx.new] at this; cases this
end
end Mine
end
section
/-! pure: differences -/
namespace Mine
variable {α : Type}
def has (l : List (α × Nat)) (k : Nat) : Bool := l.any fun p => p.2 == k
theorem has_iff {l : List (α × Nat)} {k : Nat} : has l k = true ↔ ∃ p ∈ l, p.2 = k := by simp [has]
theorem has_false {l : List (α × Nat)} {k : Nat} : has l k = false ↔ ∀ p ∈ l, p.2 ≠ k := by simp [has]
theorem has_cons {p : α × Nat} {l : List (α × Nat)} {k : Nat} : has (p :: l) k = (p.2 == k || has l k) := by simp [has]
def ND (l : List (α × Nat)) : Prop := l.Pairwise fun p q => p.2 ≠ q.2
theorem ND.filter {l : List (α × Nat)} (h : ND l) (f : α × Nat → Bool) : ND (l.filter f) := List.Pairwise.filter f h
theorem erase_eq {l : List (α × Nat)} (h : ND l) {j : Nat} {p : α × Nat} (hj : l[j]? = some p) : l.eraseIdx j = l.filter fun q => !(q.2 == p.2) := by
  induction l generalizing j with
  | nil => simp at hj
  | cons a l ih =>
    obtain ⟨h1, h2⟩ := List.pairwise_cons.mp h
    cases j with
    | zero =>
      simp at hj; subst hj
      simp only [List.eraseIdx_zero, List.tail_cons, List.filter_cons, beq_self_eq_true, Bool.not_true, Bool.false_eq_true, if_false]
      symm
      rw [List.filter_eq_self]
      intro b hb
      have := h1 b hb
      simp [Ne.symm this]
    | succ j =>
      simp at hj
      have hne : a.2 ≠ p.2 := h1 p (List.mem_of_getElem? hj)
      simp only [List.eraseIdx_cons_succ, List.filter_cons]
      rw [ih h2 hj]
      simp [hne]
theorem nd_before {l : List (α × Nat)} (h : ND l) {j q : Nat} {p r : α × Nat} (hj : l[j]? = some p) (hq : l[q]? = some r) (hlt : q < j) : r.2 ≠ p.2 := by
  obtain ⟨h1, e1⟩ := List.getElem?_eq_some_iff.mp hj
  obtain ⟨h2, e2⟩ := List.getElem?_eq_some_iff.mp hq
  have := List.pairwise_iff_getElem.mp h q j h2 h1 hlt
  rw [e1, e2] at this; exact this
/-- the unorderable difference: what is missing, from behind; what is left -/
def uMiss (ds qs : List (α × Nat)) : List (α × Nat) := (ds.filter fun p => !has qs p.2).reverse
def uLeft (ds qs : List (α × Nat)) : List (α × Nat) := qs.filter fun q => !has ds q.2
theorem uMiss_nil (qs : List (α × Nat)) : uMiss ([] : List (α × Nat)) qs = [] := rfl
theorem uLeft_nil (qs : List (α × Nat)) : uLeft ([] : List (α × Nat)) qs = qs := by unfold uLeft; rw [List.filter_eq_self]; intro a _; rfl
theorem uLeft_has {ds qs : List (α × Nat)} {p : α × Nat} (hd : has ds p.2 = false) : has (uLeft ds qs) p.2 = has qs p.2 := by
  rw [Bool.eq_iff_iff, has_iff, has_iff]
  constructor
  · rintro ⟨q, hq, e⟩; exact ⟨q, (List.mem_filter.mp hq).1, e⟩
  · rintro ⟨q, hq, e⟩; exact ⟨q, List.mem_filter.mpr ⟨hq, by rw [e, hd]; rfl⟩, e⟩
theorem uMiss_hit {ds qs : List (α × Nat)} {p : α × Nat} (h : has qs p.2 = true) : uMiss (p :: ds) qs = uMiss ds qs := by
  unfold uMiss; rw [List.filter_cons]; simp [h]
theorem uMiss_miss {ds qs : List (α × Nat)} {p : α × Nat} (h : has qs p.2 = false) : uMiss (p :: ds) qs = uMiss ds qs ++ [p] := by
  unfold uMiss; rw [List.filter_cons]; simp [h]
theorem uLeft_miss {ds qs : List (α × Nat)} {p : α × Nat} (h : has qs p.2 = false) : uLeft (p :: ds) qs = uLeft ds qs := by
  unfold uLeft
  apply List.filter_congr
  intro q hq
  rw [has_cons]
  have := has_false.mp h q hq
  simp [Ne.symm this]
theorem uLeft_hit {ds qs : List (α × Nat)} {p r : α × Nat} (h : ND qs) {j : Nat} (hj : (uLeft ds qs)[j]? = some r) (hr : r.2 = p.2) : (uLeft ds qs).eraseIdx j = uLeft (p :: ds) qs := by
  rw [erase_eq (l := uLeft ds qs) (h.filter _) hj]
  unfold uLeft
  rw [List.filter_filter]
  apply List.filter_congr
  intro q _
  rw [has_cons, hr]
  by_cases e : q.2 = p.2
  · simp [e]
  · have : (p.2 == q.2) = false := by simpa using fun x => e x.symm
    have : (q.2 == p.2) = false := by simpa using e
    simp [*]
end Mine
end
section
open PySem PySem.W PyProof.Rows
namespace Mine
def GrowX (X : List Addr) (R R' : Ledger) : Prop := ∀ a c, a ∉ X → R a = some c → R' a = some c
theorem GrowX.refl (X : List Addr) (R : Ledger) : GrowX X R R := fun _ _ _ h => h
theorem GrowX.trans {X : List Addr} {R R' R'' : Ledger} (x : GrowX X R R') (y : GrowX X R' R'') : GrowX X R R'' := fun a c ha h => y a c ha (x a c ha h)
theorem GrowX.of {X : List Addr} {R R' : Ledger} (g : Grow R R') : GrowX X R R' := fun a c _ h => g a c h
theorem GrowX.mut {X : List Addr} {R : Ledger} {a : Addr} {c : Cell} (h : a ∈ X) : GrowX X R (upd R a c) := fun b x hb e => by rw [upd_ne (show b ≠ a from fun q => hb (q.symm ▸ h))]; exact e
theorem GrowX.new {X : List Addr} {R : Ledger} {a : Addr} {c : Cell} (h : R a = none) : GrowX X R (upd R a c) := .of (Grow.new h)
theorem GrowX.toGrow {X : List Addr} {R R' : Ledger} (g : GrowX X R R') (h : ∀ x ∈ X, R x = none) : Grow R R' := fun a c e => g a c (fun hx => by rw [h a hx] at e; cases e) e
theorem GrowX.fz {X : List Addr} {R R' : Ledger} (g : GrowX X R R') (h : ∀ x ∈ X, ∀ c, R x = some c → c.fz = false) : FzLe R R' := fun a c e hf => g a c (fun hx => by rw [h a hx c e] at hf; cases hf) e
theorem growX_mut {X : List Addr} {R R' : Ledger} {a : Addr} {c : Cell} (g : GrowX X R R') (h : R a = none) : GrowX X R (upd R' a c) := fun b x hb e => by
  rw [upd_ne (ne_of_none e h)]; exact g b x hb e
theorem backX {X : List Addr} {B : Heap} {L L' : Addr} {h' : Heap} {m m' : Str → Option Value} {R R₁ : Ledger} {c : Cell} (F' : Fr B L' h' m') (N' : Led B L' h' R₁) (g : GrowX X (upd R L c) R₁) (hX : L ∉ X) (hc : FrameCell m c) (hR : R L = none) (hle : B.objs.size ≤ L) :
    Fr B L h' m ∧ Led B L h' (drop R₁ L) ∧ GrowX X R (drop R₁ L) ∧ FzLe R₁ (drop R₁ L) := by
  have hL : R₁ L = some c := g _ _ hX upd_self
  obtain ⟨f1, f2, _, f4⟩ := back (R := fun _ => none) F' N' (fun a x e => by
    unfold Mine.upd at e; split at e
    · rename_i q; subst q; cases e; exact hL
    · cases e) hc rfl hle
  refine ⟨f1, f2, fun a x ha e => ?_, f4⟩
  have q : a ≠ L := fun q => by subst q; rw [hR] at e; cases e
  unfold drop; rw [if_neg q]
  exact g a x ha (by rw [upd_ne q]; exact e)
theorem drop_ne {R : Ledger} {a b : Addr} (h : b ≠ a) : drop R a b = R b := by unfold drop; rw [if_neg h]
theorem FrOuter.growX {X : List Addr} {R R' : Ledger} {outer : List Env} (h : FrOuter R outer) (g : GrowX X R R') (hX : ∀ x ∈ X, ∀ c, R x = some c → c.fr = false) : FrOuter R' outer := fun en he =>
  let ⟨a, Li, c, b, d, e, f⟩ := h en he; ⟨a, Li, c, b, g _ _ (fun hx => by rw [hX _ hx _ d] at e; cases e) d, e, f⟩
theorem Frs.growX {X : List Addr} {B : Heap} {L : Addr} {R R' : Ledger} {env : Env} {outer : List Env} (x : Frs B L R env outer) (g : GrowX X R R') (hX : ∀ x ∈ X, ∀ c, R x = some c → c.fr = false) : Frs B L R' env outer := ⟨x.frame, x.kind, x.out.growX g hX⟩
end Mine
end
section
/-! pure: the sorted difference -/
namespace Mine
variable {α : Type}
def SS (l : List (α × Nat)) : Prop := l.Pairwise fun p q => p.2 < q.2
theorem SS.nd {l : List (α × Nat)} (h : SS l) : ND l := List.Pairwise.imp (fun h => Nat.ne_of_lt h) h
def dif (ps qs : List (α × Nat)) : List (α × Nat) := ps.filter fun p => !has qs p.2
structure Fro (ps qs : List (α × Nat)) (i j : Nat) : Prop where
  hi : i ≤ ps.length
  hj : j ≤ qs.length
  lo : ∀ x ∈ ps.take i, ∀ y ∈ qs.drop j, x.2 < y.2
  hi' : ∀ x ∈ ps.drop i, ∀ y ∈ qs.take j, y.2 < x.2
theorem Fro.zero (ps qs : List (α × Nat)) : Fro ps qs 0 0 := ⟨Nat.zero_le _, Nat.zero_le _, fun x hx => by simp at hx, fun x _ y hy => by simp at hy⟩
theorem Fro.swap {ps qs : List (α × Nat)} {i j : Nat} (h : Fro ps qs i j) : Fro qs ps j i := ⟨h.hj, h.hi, fun x hx y hy => h.hi' y hy x hx, fun x hx y hy => h.lo y hy x hx⟩
theorem take_succ' {l : List α} {i : Nat} {a : α} (h : l[i]? = some a) : l.take (i + 1) = l.take i ++ [a] := by
  rw [List.take_add_one, h]; rfl
theorem drop_cons' {l : List α} {i : Nat} {a : α} (h : l[i]? = some a) : l.drop i = a :: l.drop (i + 1) := by
  obtain ⟨h1, h2⟩ := List.getElem?_eq_some_iff.mp h
  rw [List.drop_eq_getElem_cons h1, h2]
theorem SS.drop_gt {l : List (α × Nat)} (h : SS l) {i : Nat} {a : α × Nat} (hi : l[i]? = some a) : ∀ y ∈ l.drop (i + 1), a.2 < y.2 := by
  intro y hy
  have h1 : SS (l.drop i) := List.Pairwise.drop h
  rw [drop_cons' hi] at h1
  exact (List.pairwise_cons.mp h1).1 y hy
theorem SS.take_lt {l : List (α × Nat)} (h : SS l) {i : Nat} {a : α × Nat} (hi : l[i]? = some a) : ∀ y ∈ l.take i, y.2 < a.2 := by
  intro y hy
  have h1 : SS (l.take i ++ l.drop i) := by rw [List.take_append_drop]; exact h
  rw [drop_cons' hi] at h1
  exact (List.pairwise_append.mp h1).2.2 y hy a (List.mem_cons_self ..)
theorem lt_of_get {l : List α} {i : Nat} {a : α} (h : l[i]? = some a) : i < l.length := (List.getElem?_eq_some_iff.mp h).1
theorem Fro.lt {ps qs : List (α × Nat)} {i j : Nat} {e a : α × Nat} (h : Fro ps qs i j) (hp : SS ps) (hq : SS qs) (he : ps[i]? = some e) (ha : qs[j]? = some a) (hlt : e.2 < a.2) : Fro ps qs (i + 1) j := by
  refine ⟨lt_of_get he, h.hj, fun x hx y hy => ?_, fun x hx y hy => ?_⟩
  · rw [take_succ' he] at hx
    rcases List.mem_append.mp hx with hx | hx
    · exact h.lo x hx y hy
    · rw [List.mem_singleton.mp hx]
      rw [drop_cons' ha] at hy
      rcases List.mem_cons.mp hy with rfl | hy
      · exact hlt
      · have := hq.drop_gt ha y hy; omega
  · exact h.hi' x (by rw [drop_cons' he]; exact List.mem_cons_of_mem _ hx) y hy
theorem Fro.eq {ps qs : List (α × Nat)} {i j : Nat} {e a : α × Nat} (h : Fro ps qs i j) (hp : SS ps) (hq : SS qs) (he : ps[i]? = some e) (ha : qs[j]? = some a) (heq : e.2 = a.2) : Fro ps qs (i + 1) (j + 1) := by
  refine ⟨lt_of_get he, lt_of_get ha, fun x hx y hy => ?_, fun x hx y hy => ?_⟩
  · have hy' := hq.drop_gt ha y hy
    rw [take_succ' he] at hx
    rcases List.mem_append.mp hx with hx | hx
    · have := h.lo x hx a (by rw [drop_cons' ha]; exact List.mem_cons_self ..); omega
    · rw [List.mem_singleton.mp hx]; omega
  · have hx' := hp.drop_gt he x hx
    rw [take_succ' ha] at hy
    rcases List.mem_append.mp hy with hy | hy
    · have := h.hi' e (by rw [drop_cons' he]; exact List.mem_cons_self ..) y hy; omega
    · rw [List.mem_singleton.mp hy]; omega
theorem Fro.not_in {ps qs : List (α × Nat)} {i j : Nat} {e a : α × Nat} (h : Fro ps qs i j) (hq : SS qs) (he : ps[i]? = some e) (ha : qs[j]? = some a) (hlt : e.2 < a.2) : has qs e.2 = false := by
  rw [has_false]; intro y hy e1
  rw [← List.take_append_drop j qs, drop_cons' ha] at hy
  rcases List.mem_append.mp hy with hy | hy
  · have := h.hi' e (by rw [drop_cons' he]; exact List.mem_cons_self ..) y hy; omega
  · rcases List.mem_cons.mp hy with rfl | hy
    · omega
    · have := hq.drop_gt ha y hy; omega
theorem has_get {l : List (α × Nat)} {j : Nat} {a : α × Nat} {k : Nat} (h : l[j]? = some a) (e : a.2 = k) : has l k = true := has_iff.mpr ⟨a, List.mem_of_getElem? h, e⟩
def difT (ps qs : List (α × Nat)) (i : Nat) : List (α × Nat) := (ps.take i).filter fun p => !has qs p.2
theorem difT_zero (ps qs : List (α × Nat)) : difT ps qs 0 = [] := by simp [difT]
theorem difT_in {ps qs : List (α × Nat)} {i : Nat} {e : α × Nat} (he : ps[i]? = some e) (h : has qs e.2 = true) : difT ps qs (i + 1) = difT ps qs i := by
  unfold difT; rw [take_succ' he, List.filter_append]; simp [h]
theorem difT_out {ps qs : List (α × Nat)} {i : Nat} {e : α × Nat} (he : ps[i]? = some e) (h : has qs e.2 = false) : difT ps qs (i + 1) = difT ps qs i ++ [e] := by
  unfold difT; rw [take_succ' he, List.filter_append]; simp [h]
theorem difT_end {ps qs : List (α × Nat)} {i j : Nat} (h : Fro ps qs i j) (hend : ps.length ≤ i ∨ qs.length ≤ j) : difT ps qs i ++ ps.drop i = dif ps qs := by
  unfold difT dif
  conv => rhs; rw [← List.take_append_drop i ps, List.filter_append]
  congr 1
  symm
  rw [List.filter_eq_self]
  intro x hx
  have : has qs x.2 = false := by
    rw [has_false]; intro y hy e
    rcases hend with hend | hend
    · rw [List.drop_eq_nil_of_le hend] at hx; simp at hx
    · have := h.hi' x hx y (by rw [List.take_of_length_le hend]; exact hy); omega
  simp [this]
end Mine
end
section
/-! pure: a writing read -/
namespace Mine
theorem digs_len (n : Nat) : (digs n).length = (enc n).length := by simp [enc]
def rd (n k : Nat) : Int := ((digs n)[k]?.getD 0 : Nat) * (16 : Int) ^ ((enc n).length - 1 - k)
theorem sum_map_mul (c : Int) (f : Nat → Int) (l : List Nat) : (l.map fun k => f k * c).sum = (l.map f).sum * c := by
  induction l with
  | nil => simp
  | cons a l ih => simp [ih, Int.add_mul]
theorem rd_sum (n : Nat) : ((List.range (enc n).length).map (rd n)).sum = (n : Int) := by
  induction n using Nat.strongRecOn with
  | ind n ih =>
    by_cases h : n = 0
    · subst h; simp [enc_zero]
    · have hlt : n / 16 < n := by omega
      have ih := ih (n / 16) hlt
      have hl : (enc n).length = (enc (n / 16)).length + 1 := by rw [enc_pos h]; simp
      rw [hl, List.range_succ, List.map_append, List.sum_append]
      have e1 : (List.range (enc (n / 16)).length).map (rd n) = (List.range (enc (n / 16)).length).map (fun k => rd (n / 16) k * 16) := by
        apply List.map_congr_left
        intro k hk
        have hk := List.mem_range.mp hk
        unfold rd
        rw [hl, digs_pos h, List.getElem?_append_left (by rw [digs_len]; exact hk)]
        rw [show (enc (n / 16)).length + 1 - 1 - k = ((enc (n / 16)).length - 1 - k) + 1 by omega, Int.pow_succ, Int.mul_assoc]
      rw [e1, sum_map_mul, ih]
      have e2 : rd n (enc (n / 16)).length = ((n % 16 : Nat) : Int) := by
        unfold rd
        rw [hl, digs_pos h, ← digs_len, List.getElem?_append_right (by omega)]
        simp
      simp only [List.map_cons, List.map_nil, List.sum_cons, List.sum_nil]
      rw [e2]; omega
theorem digs_lt (n : Nat) : ∀ d ∈ digs n, d < 16 := by
  induction n using Nat.strongRecOn with
  | ind n ih =>
    by_cases h : n = 0
    · subst h; simp [digs_zero]
    · intro d hd
      rw [digs_pos h] at hd
      rcases List.mem_append.mp hd with hd | hd
      · exact ih _ (by omega) d hd
      · rw [List.mem_singleton.mp hd]; omega
theorem enc_get {n k : Nat} (hk : k < (enc n).length) : ∃ d, d < 16 ∧ (digs n)[k]? = some d ∧ (enc n).getD k 0 = UInt8.ofNat (65 + d) := by
  have hk' : k < (digs n).length := by rw [digs_len]; exact hk
  refine ⟨(digs n)[k], digs_lt n _ (List.getElem_mem hk'), List.getElem?_eq_getElem hk', ?_⟩
  simp [enc, List.getD, hk']
end Mine
end
section
open PySem PySem.W PyProof.Rows
set_option maxRecDepth 100000
namespace Mine
structure NewExcC (h h' : Heap) (e : Addr) (cls : String) (c2 : Value) : Prop where
  keeps : ∀ b o, h.get? b = some o → h'.get? b = some o
  new : h.get? e = none
  there : ∃ ob t, h'.get? e = some ob ∧ ob.cls = .type cls ∧ ob.data = .fields #[t, .none, c2, .none, .bool false, .none]
theorem entry_unchain : entryFor table "proto.unchain" = some Builtin.«proto.unchain» := entryFor_of_tree (by kernel_rfl)
section
variable {prog : Program} {w : World} {A : Around} {E : Value → Shared → Prop} {s : Shared} {α : Type} {x : Addr} {ox : Obj} {xs : Array Value}
theorem raise_held {cls msg : String} {Q : α → Shared → Prop} (hp : PlainExc cls) (hh : A.handled = some (.ref x)) (hx : s.heap.get? x = some ox) (hd : ox.data = .fields xs) (h2 : xs[2]? = some .none)
    (h : ∀ h' tk e, NewExcC s.heap h' e cls (.ref x) → E (.ref e) { s with heap := h', toks := tk }) : wpAny (model prog w) A (raiseErrorWords cls msg : Sem α) Q E s := by
  unfold raiseErrorWords
  refine wpAny_bind (wpAny_mkText (wpAny_bind (wpAny_newExc_plain hp ?_)))
  intro h' e hm
  unfold raiseNew
  refine wpAny_bind (wpAny_handled ?_)
  rw [hh]
  obtain ⟨t, he, ht, htt⟩ := hm.there
  have hxe : x ≠ e := fun q => by subst q; rw [hm.new] at hx; cases hx
  have hx' := hm.keeps _ _ hx
  dsimp only
  rw [if_pos (show (Value.ref x != Value.ref e) = true from by simpa using hxe)]
  refine wpAny_bind (wpAny_holding (wpAny_runValue (codeAny_builtin entry_unchain ?_)))
  show wpAny _ _ (field (.ref x) 2 >>= _) _ _ _
  refine wpAny_bind (wpAny_field hx' hd h2 ?_)
  refine wpAny_pure ?_
  show wpAny _ _ (setField (.ref e) 2 (.ref x) >>= _) _ _ _
  refine wpAny_bind (wpAny_setField he rfl (by simp) ?_)
  refine wpAny_throw (h _ _ e ⟨fun b o hb => ?_, hm.new, _, .ref t, Heap.get?_update_self _ he rfl, rfl, by simp [Obj.mapFields]⟩)
  rw [Heap.get?_update_other _ _ (show e ≠ b from fun q => by subst q; rw [hm.new] at hb; cases hb)]
  exact hm.keeps _ _ hb
theorem getItem_out_held {l : Addr} {items : Array Value} {k : Int} {t : Tok} {Q : Value → Shared → Prop} (hh : A.handled = some (.ref x)) (hx : s.heap.get? x = some ox) (hd : ox.data = .fields xs) (h2 : xs[2]? = some .none) (hl : s.heap.IsList l items)
    (hout : (items.size : Int) ≤ k) (hhi : k < 100000)
    (hE : ∀ h' tk e, NewExcC s.heap h' e "IndexError" (.ref x) → E (.ref e) { s with heap := h', toks := tk }) :
    wpAny (model prog w) A (getItem (.ref l) (.int k t)) Q E s := by
  obtain ⟨o, ho, hc, ne, hdd⟩ := id hl
  have hf : Builtin.List.listFitsIndex k = true := fitsIndex_both (by omega) (by omega)
  unfold getItem
  try with_reducible refine wpAny_holding ?_
  first | refine wpAny_bind (wpAny_pure ?_) | skip
  refine wpAny_bind (wpAny_sequenceKey hl.typeIs (by decide) ?_)
  refine wpAny_bind (wpAny_callSpecial?_slot (name := Str.ofString "__getitem__") hl.typeIs slot_list_getitem
    (wpAny_call_entry slot_list_getitem hl.typeIs entry_list_getitem ?_ (args_list_getitem _ _)))
  show wpAny _ _ (Builtin.List.listSubscript? (.int k t) >>= _) _ _ s
  refine wpAny_bind (wpAny_listSubscript_int hf ?_)
  obtain ⟨j, rfl⟩ := Int.eq_ofNat_of_zero_le (show 0 ≤ k by omega)
  have hx0 : items[j]? = none := Array.getElem?_eq_none (by omega)
  show wpAny _ _ ((seqItemAt l j >>= fun r => pure (r.map (j, ·))) >>= _) _ _ s
  refine wpAny_bind (wpAny_bind (wpAny_seqItemAt ho hdd (wpAny_pure ?_)))
  rw [hx0]
  first
    | exact wpAny_bind (wpAny_rule (raise_held plainExc_IndexError hh hx hd h2 hE))
    | exact wpAny_bind (wpAny_rule (wpAny_bind (raise_held plainExc_IndexError hh hx hd h2 hE)))
    | exact wpAny_bind (wpAny_bind (wpAny_rule (raise_held plainExc_IndexError hh hx hd h2 hE)))
    | exact wpAny_rule (raise_held plainExc_IndexError hh hx hd h2 hE)
end
end Mine
end
section
open PySem PySem.W PyProof.Rows
set_option maxRecDepth 100000
namespace Mine
section
variable {prog : Program} {w : World} {A : Around} {E : Value → Shared → Prop} {s : Shared} {B : Heap} {L l : Addr} {m : Str → Option Value} {R : Ledger} {fz : Bool} {vs : List Value} {e : Nat}
def HOk (A : Around) (R : Ledger) : Prop := A.handled = none ∨ ∃ x c xs, A.handled = some (.ref x) ∧ R x = some c ∧ c.data = .fields xs ∧ xs[2]? = some .none
theorem HOk.grow {R' : Ledger} (h : HOk A R) (g : Grow R R') : HOk A R' := h.imp id fun ⟨x, c, xs, a, b, d⟩ => ⟨x, c, xs, a, g _ _ b, d⟩
theorem newExcC {h h' : Heap} {x : Addr} {cls : String} {c2 : Value} (F : Fr B L h m) (N : Led B L h R) (hx : NewExcC h h' x cls c2) : Fr B L h' m ∧ Led B L h' R ∧ IsExc B L h' R x cls c2 false := by
  obtain ⟨ob, t, h1, h2, h3⟩ := hx.there
  refine ⟨⟨F.ns.keeps hx.keeps, fun b o e => hx.keeps b o (F.keep b o e), F.above⟩, N.ext hx.keeps, ⟨?_, ?_, ?_⟩, ob, _, .none, h1, h2, h3, rfl, rfl, .inl ⟨rfl, rfl⟩⟩
  · cases hq : R x with
    | none => rfl
    | some c => obtain ⟨o, ho, _⟩ := N.get hq; rw [hx.new] at ho; cases ho
  · rintro rfl
    obtain ⟨o, es, ep, ho, _⟩ := F.ns
    rw [hx.new] at ho; cases ho
  · cases hq : B.get? x with
    | none => rfl
    | some o => have := F.keep _ _ hq; rw [hx.new] at this; cases this
theorem r_get_or {value slice : PySem.Expr} {k : Int} {i : Nat} {u : Tok} {Q : Value → Shared → Prop} (F : Fr B L s.heap m) (N : Led B L s.heap R) (hH : HOk A R) (hl : R l = some (ListC fz vs e))
    (hk : k = i) (hi : i < 100000)
    (hs : subscripted slice false (.ref l) (.int k u) = operate [.ref l, .int k u] (getItem (.ref l) (.int k u)))
    (h : ∀ v, vs[i]? = some v → Q v s)
    (hE : vs.length ≤ i → ∀ h' tk x c2, (A.handled = none → c2 = .none) → IsExc B L h' R x "IndexError" c2 false → Fr B L h' m → Led B L h' R → E (.ref x) { s with heap := h', toks := tk }) :
    wpAny (model prog w) A (subscriptTail value slice (.ref l) (.int k u)) Q E s := by
  cases hv : vs[i]? with
  | some v => exact r_get N hl hk hi hv (h v hv) hs
  | none =>
    have hlen : vs.length ≤ i := by simpa using hv
    refine tail_any (N.isList hl).typeIs slot_list_getitem.lookup ?_ hs
    rcases hH with hH | ⟨x, c, xs, hH, hx, hd, h2⟩
    · refine wpAny_getItem_list_out hH (N.isList hl) (.inr (by simp; omega)) (by omega) (by omega) ?_
      intro h' tk z hz
      obtain ⟨a1, a2, a3⟩ := newExc F N hz
      exact hE hlen _ _ _ _ (fun _ => rfl) a3 a1 a2
    · obtain ⟨o, ho, _, hsd, _⟩ := N.get hx
      refine getItem_out_held hH ho (hsd.trans hd) h2 (N.isList hl) (by simp; omega) (by omega) ?_
      intro h' tk z hz
      obtain ⟨a1, a2, a3⟩ := newExcC F N hz
      exact hE hlen _ _ _ _ (fun q => by rw [hH] at q; cases q) a3 a1 a2
/-- an exception's objects, laid into the ledger -/
theorem promote {h : Heap} {x : Addr} {cls : String} {c2 : Value} (N : Led B L h R) (Y : IsExc B L h R x cls c2 true) :
    ∃ vs tb tc tvs, vs[1]? = some (.ref tb) ∧ vs[2]? = some c2 ∧ 3 < tvs.size ∧ tb ≠ x ∧ R x = none ∧ R tb = none ∧
      Led B L h (upd (upd R x ⟨false, true, .type cls, .fields vs⟩) tb ⟨false, true, tc, .fields tvs⟩) := by
  obtain ⟨fe, oe, vs, v1, he, hc, hd, h1, h2, ht⟩ := Y
  rcases ht with ⟨q, _⟩ | ⟨tb, otb, tvs, rfl, hte, ft, htb, hdt, hsz⟩
  · cases q
  refine ⟨vs, tb, otb.cls, tvs, h1, h2, hsz, hte, fe.1, ft.1, fun a c ea => ?_⟩
  by_cases q1 : a = tb
  · subst q1; rw [upd_self] at ea; cases ea
    exact ⟨⟨otb, htb, rfl, hdt, fun q => nomatch q⟩, ft.2⟩
  · rw [upd_ne q1] at ea
    by_cases q2 : a = x
    · subst q2; rw [upd_self] at ea; cases ea
      exact ⟨⟨oe, he, hc, hd, fun q => nomatch q⟩, fe.2⟩
    · rw [upd_ne q2] at ea; exact N a c ea
/-- and taken out again -/
theorem demote {h : Heap} {x tb : Addr} {cls : String} {c2 tc : Value} {vs tvs : Array Value} (N : Led B L h R) (hx : R x = some ⟨false, true, .type cls, .fields vs⟩) (ht : R tb = some ⟨false, true, tc, .fields tvs⟩)
    (h1 : vs[1]? = some (.ref tb)) (h2 : vs[2]? = some c2) (hsz : 3 < tvs.size) (hne : tb ≠ x) : Led B L h (drop (drop R x) tb) ∧ IsExc B L h (drop (drop R x) tb) x cls c2 true := by
  obtain ⟨⟨oe, he, hs⟩, hx1⟩ := N _ _ hx
  obtain ⟨⟨ot, hot, hst⟩, ht1⟩ := N _ _ ht
  refine ⟨fun a c ea => ?_, ⟨?_, hx1⟩, oe, vs, _, he, hs.1, hs.2.1, h1, h2, .inr ⟨tb, ot, tvs, rfl, hne, ⟨?_, ht1⟩, hot, hst.2.1, hsz⟩⟩
  · unfold drop at ea
    split at ea
    · cases ea
    · split at ea
      · cases ea
      · exact N a c ea
  · unfold drop; simp
  · unfold drop; simp
theorem r_passOn {α : Type} {M : Model} {env : Env} {outer : List Env} {x : Addr} {cls : String} {c2 : Value} {what : String} {Q : α → Shared → Prop} (hx : Frs B L R env outer) (F : Fr B L s.heap m) (N : Led B L s.heap R) (Y : IsExc B L s.heap R x cls c2 true)
    (k : ∀ h', Fr B L h' m → Led B L h' R → IsExc B L h' R x cls c2 true → E (.ref x) { s with heap := h' }) : wpAny M A (PySem.passOn what (.ref x) env : Sem α) Q E s := by
  obtain ⟨fe, oe, vs, v1, he, hc, hd, h1, h2, ht⟩ := id Y
  rcases ht with ⟨q, _⟩ | ⟨tb, otb, tvs, rfl, hte, ft, htb, hdt, hsz⟩
  · cases q
  unfold PySem.passOn
  refine wpAny_bind (wpAny_field he hd h1 ?_)
  rw [if_neg (show ¬ ((Value.ref tb == Value.none) = true) from by simp)]
  refine wpAny_bind (r_setFlight hx F N Y fun h' F' N' Y' => ?_)
  exact wpAny_throw (k h' F' N' Y')
end
end Mine
end
section
open PySem PySem.W PyProof.Rows
set_option maxRecDepth 100000
namespace Mine
/-! ## cells, calls of defs with cells, iterators -/
abbrev CelC (cl : Value) (v : Option Value) : Cell := ⟨false, true, cl, .cell v⟩
section
variable {M : Model} {A : Around} {E : Value → Shared → Prop} {s : Shared} {env : Env} {sc : Scope} {cells : List (Str × Addr)} {B : Heap} {L L' c : Addr} {m : Str → Option Value} {R : Ledger} {cl v : Value} {v₀ : Option Value}
theorem Led.isCell {h : Heap} (N : Led B L h R) (hc : R c = some (CelC cl v₀)) : h.IsCell c v₀ := let ⟨o, ho, hs⟩ := N.get hc; ⟨o, ho, hs.2.1⟩
theorem r_ldcn {x : Str} {Q : Value → Shared → Prop} (V : EnvIs env sc L' cells) (N : Led B L s.heap R) (hk : sc.kind = .function) (hl : sc.names.lookup x = some .cell) (hc : cells.lookup x = some c)
    (hv : R c = some (CelC cl (some v))) (h : Q v s) : wpAny M A (loadName env x) Q E s :=
  wpAny_loadName_cell (by rw [V.scope, hk]) (V.kind hl) (by rw [V.cells]; exact hc) (N.isCell hv) h
theorem r_ldc {x : Str} {pos : Pos} {Q : Value → Shared → Prop} (V : EnvIs env sc L' cells) (N : Led B L s.heap R) (hk : sc.kind = .function) (hl : sc.names.lookup x = some .cell) (hc : cells.lookup x = some c)
    (hv : R c = some (CelC cl (some v))) (hd : (x == ("__debug__" : Str)) = false) (h : Q v s) : wpAny M A (eval (.Name x pos) env) Q E s :=
  wpAny_Name (r_ldcn V N hk hl hc hv h) hd
theorem r_stc {x : Str} {Q : Unit → Shared → Prop} (V : EnvIs env sc L' cells) (F : Fr B L s.heap m) (N : Led B L s.heap R) (hk : sc.kind = .function) (hl : sc.names.lookup x = some .cell) (hc : cells.lookup x = some c)
    (hv : R c = some (CelC cl v₀)) (h : ∀ h', Fr B L h' m → Led B L h' (upd R c (CelC cl (some v))) → Q () { s with heap := h' }) : wpAny M A (storeName env x v) Q E s := by
  obtain ⟨o, ho, hs⟩ := N.get hv
  unfold storeName
  simp only [V.kind hl, V.scope, hk]
  refine wpAny_bind (wpAny_cellOf (by rw [V.cells]; exact hc) ?_)
  unfold cellSet
  refine wpAny_bind (wpAny_load ho ?_)
  rw [hs.2.1]
  refine wpAny_update ho ?_
  exact h _ (Fr.put F N hv (Heap.SameBut.update ..)) (N.put hv (Heap.SameBut.update ..) ⟨_, Heap.get?_update_self _ ho rfl, hs.1, rfl, fun q => nomatch q⟩)
end
section
variable {prog : Program} {w : World} {A : Around} {E : Value → Shared → Prop} {s : Shared} {B : Heap} {L : Addr} {m : Str → Option Value} {R : Ledger}
def stOkC (d : DefRec) (p : Str) : Bool :=
  !d.scope.isCoroutine && !d.scope.isGenerator && d.scope.kind == .function && d.scope.names.lookup p == some .local
open Classical in
theorem r_callC {d : DefRec} {fa : Addr} {code : Value} {a : Value} {Q : Value → Shared → Prop} (p : Str) (F : Fr B L s.heap m) (N : Led B L s.heap R) (hlim : B.NoLimit) (D : FnAt B d fa code) (hst : stOkC d p = true)
    (hroom : A.depth < recursionLimit) (hbind : ∀ pm doc, bindArgs (Calls.docDef d.name d.params d.body d.scope pm code doc) ⟨[a], []⟩ = pure [(p, a)])
    (h : ∀ env L' h₁ c tk cells R₁, EnvIs env d.scope L' cells → cells = cellsFrom (L' + 1) d.scope.names [] → env.frame = some L' → FrameCell m c → R L = none → B.objs.size ≤ L →
      Fr B L' h₁ (fun y => if y = p then some a else none) → Led B L' h₁ R₁ → Grow (upd R L c) R₁ → (∀ n k, cells.lookup n = some k → (∃ cl, R₁ k = some (CelC cl none)) ∧ upd R L c k = none) →
      wpAny (model prog w) (A.deeper env) (execs d.body env)
        (fun f s' => Q (match f with | .ret v => v | _ => .none) s') (fun _ _ => False) { s with heap := h₁, toks := tk }) :
    wpAny (model prog w) A (call (.ref fa) [a]) Q E s := by
  obtain ⟨⟨o, pm, doc, ho, hdata⟩, hcd⟩ := D
  unfold stOkC at hst
  simp only [Bool.and_eq_true, Bool.not_eq_true', beq_iff_eq] at hst
  obtain ⟨⟨⟨hco, hgen⟩, hk⟩, hloc⟩ := hst
  refine wpAny_call (call_cells_ret hroom (F.keep _ _ ho) hdata (hlim.keeps F.keep) (hcd.keeps F.keep) (hbind pm doc) (fun x hx => .inl (by rw [List.mem_singleton.mp hx]; exact hloc)) (fun h₁ tk F₁ X => ?_) hco hgen hk)
  obtain ⟨oL, es, ep, hL, hLd, hLk, hLf⟩ := F.ns
  have hLt := Heap.lt_size hL
  have hbl : bindL (envOfC d.name d.scope s.heap.objs.size fa code).kindOf [(p, a)] (fun _ => none) = fun y => if y = p then some a else none := by
    unfold bindL bindL
    rw [if_pos (show (envOfC d.name d.scope s.heap.objs.size fa code).kindOf p = some .local from hloc)]
  rw [hbl] at F₁
  have hbc : bindC (envOfC d.name d.scope s.heap.objs.size fa code).kindOf [(p, a)] (fun _ => none) = fun _ => none := by
    unfold bindC bindC
    rw [if_pos (show (envOfC d.name d.scope s.heap.objs.size fa code).kindOf p = some .local from hloc)]
  rw [hbc] at X
  have hab : ∀ n k, (cellsFrom (s.heap.objs.size + 1) d.scope.names []).lookup n = some k → s.heap.objs.size < k := fun n k e => X.above n k (mem_of_lookup e)
  have hno : ∀ k, s.heap.objs.size < k → upd R L ⟨false, true, oL.cls, oL.data⟩ k = none := fun k hk' => by
    rw [upd_ne (Nat.ne_of_gt (Nat.lt_trans hLt hk'))]; exact N.none_of_ge (Nat.le_of_lt hk')
  refine wpAny_mono (h (envOfC d.name d.scope s.heap.objs.size fa code) s.heap.objs.size h₁ ⟨false, true, oL.cls, oL.data⟩ _ _
    (fun k => if ∃ n, (cellsFrom (s.heap.objs.size + 1) d.scope.names []).lookup n = some k then (h₁.get? k).map (fun o => CelC o.cls none) else upd R L ⟨false, true, oL.cls, oL.data⟩ k)
    ⟨rfl, rfl, rfl, rfl, rfl⟩ rfl rfl ⟨⟨rfl, rfl⟩, es, ep, hLd, hLk, hLf⟩ N.none_L F.above ⟨F₁.ns, fun b o e => F₁.keep b o (F.keep b o e), Nat.le_trans F.above (Nat.le_of_lt hLt)⟩ (fun k x e => ?_) (fun k x e => ?_) (fun n k e => ⟨?_, hno k (hab n k e)⟩)) (fun _ _ x => x) fun _ _ x => x
  · dsimp only at e
    split at e
    · rename_i hx
      obtain ⟨n, hn⟩ := hx
      obtain ⟨o', ho', hd'⟩ := X.cell n k hn
      rw [ho'] at e
      cases e
      have := hab n k hn
      exact ⟨⟨o', ho', rfl, hd', fun q => nomatch q⟩, Nat.ne_of_gt this, Heap.get?_none_of_le (Nat.le_trans F.above (Nat.le_of_lt (Nat.lt_trans hLt this)))⟩
    · by_cases q : k = L
      · subst q; rw [upd_self] at e; cases e
        exact ⟨⟨oL, F₁.keep _ _ hL, rfl, rfl, fun e => nomatch e⟩, Nat.ne_of_lt hLt, Heap.get?_none_of_le F.above⟩
      · rw [upd_ne q] at e
        obtain ⟨⟨o', ho', r⟩, _, r2⟩ := N k x e
        exact ⟨⟨o', F₁.keep _ _ ho', r⟩, Nat.ne_of_lt (Heap.lt_size ho'), r2⟩
  · dsimp only
    rw [if_neg]
    · exact e
    · rintro ⟨n, hn⟩
      rw [hno k (hab n k hn)] at e; cases e
  · obtain ⟨o', ho', hd'⟩ := X.cell n k e
    refine ⟨o'.cls, ?_⟩
    rw [if_pos ⟨n, e⟩, ho']; rfl
end
/-! ## iterators -/
abbrev LIt (l : Addr) (i : Nat) : Cell := ⟨false, true, .type "list_iterator", .fields #[.ref l, .int i 0]⟩
abbrev RIt (x left : Int) : Cell := ⟨false, false, .type "range_iterator", .fields #[rawInt x, rawInt left, rawInt 1]⟩
theorem Led.loose {B : Heap} {L a : Addr} {h : Heap} {R : Ledger} {fz : Bool} {c : Value} {d : Data} (N : Led B L h (upd R a ⟨fz, false, c, d⟩)) : Led B L h (upd R a ⟨fz, true, c, d⟩) := fun b x e => by
  by_cases q : b = a
  · subst q; rw [upd_self] at e; cases e
    obtain ⟨⟨o, ho, h1, h2, _⟩, r⟩ := N _ _ upd_self
    exact ⟨⟨o, ho, h1, h2, fun q => nomatch q⟩, r⟩
  · rw [upd_ne q] at e
    exact N b x (by rw [upd_ne q]; exact e)
/-- an object's flag turned -/
theorem Led.flag {B : Heap} {L a : Addr} {h : Heap} {R : Ledger} {fz fz' fr : Bool} {c : Value} {d : Data} (N : Led B L h R) (e : R a = some ⟨fz, fr, c, d⟩) : Led B L h (upd R a ⟨fz', fr, c, d⟩) := fun b x e' => by
  by_cases q : b = a
  · subst q; rw [upd_self] at e'; cases e'
    exact ⟨let ⟨o, ho, h1⟩ := (N _ _ e).1; ⟨o, ho, h1⟩, (N _ _ e).2⟩
  · rw [upd_ne q] at e'
    exact N b x e'
theorem Led.dropI {B : Heap} {L a : Addr} {h h' : Heap} {R : Ledger} (N : Led B L h R) (he : Heap.ExtBut a h h') : Led B L h' (drop R a) := fun b x e => by
  unfold drop at e
  split at e
  · cases e
  · rename_i q
    obtain ⟨⟨o, ho, hs⟩, r⟩ := N b x e
    exact ⟨⟨o, he b o q ho, hs⟩, r⟩
theorem Fr.ext {B : Heap} {L a : Addr} {h h' : Heap} {R : Ledger} {c : Cell} {m : Str → Option Value} (F : Fr B L h m) (N : Led B L h R) (ha : R a = some c) (he : Heap.ExtBut a h h') : Fr B L h' m :=
  ⟨F.ns.extBut he (Ne.symm (N _ _ ha).2.1), fun b o e => he b o (fun q => by subst q; rw [(N _ _ ha).2.2] at e; cases e) (F.keep b o e), F.above⟩
section
variable {prog : Program} {w : World} {A : Around} {E : Value → Shared → Prop} {s : Shared} {B : Heap} {L l I : Addr} {m : Str → Option Value} {R : Ledger} {fz : Bool} {vs : List Value} {e : Nat}
theorem r_iter {Q : Value → Shared → Prop} (F : Fr B L s.heap m) (N : Led B L s.heap R) (hl : R l = some (ListC fz vs e))
    (h : ∀ h' I, Fr B L h' m → R I = none → Led B L h' (upd R I (LIt l 0)) → Q (.ref I) { s with heap := h' }) : wpAny (model prog w) A (pyIter (.ref l)) Q E s :=
  wpAny_pyIter_list (N.isList hl) (h _ _ (F.push _) (N.none_of_ge (Nat.le_refl _)) (N.push F _ false).loose)
theorem Led.lit {h : Heap} {i : Nat} (N : Led B L h R) (hI : R I = some (LIt l i)) : h.IsListIter I l i := let ⟨o, ho, hs⟩ := N.get hI; ⟨o, ho, hs.1, hs.2.1⟩
theorem r_next {i : Nat} {v : Value} {Q : Option Value → Shared → Prop} (F : Fr B L s.heap m) (N : Led B L s.heap R) (hI : R I = some (LIt l i)) (hl : R l = some (ListC fz vs e)) (hv : vs[i]? = some v)
    (h : ∀ h', Fr B L h' m → Led B L h' (upd R I (LIt l (i + 1))) → Q (some v) { s with heap := h' }) : wpAny (model prog w) A (pyNext (.ref I)) Q E s :=
  wpAny_pyNext_list_item (N.lit hI) (N.isList hl) (by simpa using hv) fun h' hit hs => h h' (Fr.put F N hI hs) (N.put hI hs (let ⟨o, ho, h1, h2⟩ := hit; ⟨o, ho, h1, h2, fun q => nomatch q⟩))
theorem r_end {i : Nat} {Q : Option Value → Shared → Prop} (hh : A.handled = none) (F : Fr B L s.heap m) (N : Led B L s.heap R) (hI : R I = some (LIt l i)) (hl : R l = some (ListC fz vs e)) (hv : vs[i]? = none)
    (h : ∀ h', Fr B L h' m → Led B L h' (drop R I) → Q none { s with heap := h' }) : wpAny (model prog w) A (pyNext (.ref I)) Q E s :=
  wpAny_pyNext_list_end hh (N.lit hI) (N.isList hl) (by simpa using hv) fun h' he => h h' (Fr.ext F N hI he) (N.dropI he)
theorem r_iterR {r : Addr} {a b : Int} {t u v : Tok} {Q : Value → Shared → Prop} (F : Fr B L s.heap m) (N : Led B L s.heap R) (hr : IsRange s.heap r a b 1 t u v) (hsmall : Builtin.Range.small a b 1 = true)
    (h : ∀ h' I, Fr B L h' m → R I = none → Led B L h' (upd R I (RIt a (Builtin.Range.rangeSize a b 1))) → Q (.ref I) { s with heap := h' }) : wpAny (model prog w) A (pyIter (.ref r)) Q E s :=
  wpAny_pyIter_range hr hsmall (h _ _ (F.push _) (N.none_of_ge (Nat.le_refl _)) (N.push F _ false))
theorem r_nextR {x left : Int} {Q : Option Value → Shared → Prop} (F : Fr B L s.heap m) (N : Led B L s.heap R) (hI : R I = some (RIt x left)) (hl : 0 < left)
    (h : ∀ h' t tk, Fr B L h' m → Led B L h' (upd R I (RIt (x + 1) (left - 1))) → Q (some (.int x t)) { s with heap := h', toks := tk }) : wpAny (model prog w) A (pyNext (.ref I)) Q E s :=
  wpAny_pyNext_range_item (N.plain hI rfl) hl fun h' hit hs => h h' _ _ (Fr.put F N hI hs) (N.put hI hs ⟨_, hit, rfl, rfl, fun _ => ⟨rfl, rfl⟩⟩)
theorem r_endR {x left : Int} {Q : Option Value → Shared → Prop} (hh : A.handled = none) (F : Fr B L s.heap m) (N : Led B L s.heap R) (hI : R I = some (RIt x left)) (hl : left ≤ 0)
    (h : ∀ h', Fr B L h' m → Led B L h' (drop R I) → Q none { s with heap := h' }) : wpAny (model prog w) A (pyNext (.ref I)) Q E s :=
  wpAny_pyNext_range_end hh (N.plain hI rfl) hl fun h' he => h h' (Fr.ext F N hI he) (N.dropI he)
end
end Mine
end
section
open PySem PySem.W PyProof.Rows
set_option maxRecDepth 100000
namespace Mine
/-! ## comprehensions -/
theorem owned_skip {M : Model} {A : Around} {E : Value → Shared → Prop} {s : Shared} {target : PySem.Expr} {I : Addr} {v : Value} {o : Obj} {T : String} {Q : Unit → Shared → Prop} (ho : s.heap.get? I = some o) (hc : o.cls = .type T)
    (hT : ["enumerate", "zip", "dict_itemiterator", "dict_reverseitemiterator", "odict_iterator", "itertools.zip_longest", "itertools.pairwise"].contains T = false) (h : Q () s) :
    wpAny M A (letOwnedTupleGo target (.ref I) v) Q E s := by
  have key : wpAny M A (do
    let (.ref r, .ref a) := ((Value.ref I : Value), v) | return
    let o ← load r
    match o.cls, o.data with
    | .type n, .fields vs =>
      if ["enumerate", "zip", "dict_itemiterator", "dict_reverseitemiterator", "odict_iterator", "itertools.zip_longest", "itertools.pairwise"].contains n && vs[0]? == some (rawInt a) then
        rule "for.unpacks-the-owned-tuple"
        updateField r 0 .none
    | _, _ => pure ()) Q E s := by
    cases v <;> first | exact wpAny_pure h | skip
    refine wpAny_bind (wpAny_load ho ?_)
    rw [hc]
    cases o.data <;> first | exact wpAny_pure h | skip
    dsimp only
    rw [hT]
    exact wpAny_pure h
  unfold letOwnedTupleGo
  cases target <;> first | exact wpAny_pure h | exact key
structure Src (prog : Program) (w : World) (A : Around) (I : Addr) (n : Nat) (IC : Nat → Cell) (P : Nat → Value → Prop) (Dep : Ledger → Prop) : Prop where
  item : ∀ (B : Heap) (L : Addr) (s : Shared) (m : Str → Option Value) (R : Ledger) (i : Nat) (Q : Option Value → Shared → Prop) (E : Value → Shared → Prop), Fr B L s.heap m → Led B L s.heap R → R I = some (IC i) → Dep R → i < n →
    (∀ v h' tk, P i v → Fr B L h' m → Led B L h' (upd R I (IC (i + 1))) → Q (some v) { s with heap := h', toks := tk }) → wpAny (model prog w) A (pyNext (.ref I)) Q E s
  done : ∀ (B : Heap) (L : Addr) (s : Shared) (m : Str → Option Value) (R : Ledger) (Q : Option Value → Shared → Prop) (E : Value → Shared → Prop), Fr B L s.heap m → Led B L s.heap R → R I = some (IC n) → Dep R →
    (∀ h', Fr B L h' m → Led B L h' (drop R I) → Q none { s with heap := h' }) → wpAny (model prog w) A (pyNext (.ref I)) Q E s
  self : ∀ (B : Heap) (L : Addr) (s : Shared) (R : Ledger) (i : Nat) (Q : Value → Shared → Prop) (E : Value → Shared → Prop), Led B L s.heap R → R I = some (IC i) → Q (.ref I) s → wpAny (model prog w) A (pyIter (.ref I)) Q E s
  own : ∀ (B : Heap) (L : Addr) (s : Shared) (R : Ledger) (i : Nat) (t : PySem.Expr) (v : Value) (Q : Unit → Shared → Prop) (E : Value → Shared → Prop), Led B L s.heap R → R I = some (IC i) → Q () s → wpAny (model prog w) A (letOwnedTupleGo t (.ref I) v) Q E s
  dep : ∀ R R', GrowX [I] R R' → Dep R → Dep R'
  fz : ∀ i, (IC i).fz = false
theorem Src.list {prog : Program} {w : World} {A : Around} (hh : A.handled = none) {I l : Addr} {fz : Bool} {vs : List Value} {e : Nat} (hne : l ≠ I) :
    Src prog w A I vs.length (LIt l) (fun i v => vs[i]? = some v) (fun R => R l = some (ListC fz vs e)) where
  item := fun B L s m R i Q E F N hI hl hi h => by
    have hv : vs[i]? = some vs[i] := List.getElem?_eq_getElem hi
    exact r_next F N hI hl hv fun h' F' N' => h _ h' s.toks hv F' N'
  done := fun B L s m R Q E F N hI hl h => r_end hh F N hI hl (by simp) h
  self := fun B L s R i Q E N hI h => wpAny_pyIter_listiter (N.lit hI) h
  own := fun B L s R i t v Q E N hI h => by
    obtain ⟨o, ho, hs⟩ := N.get hI
    exact owned_skip ho hs.1 (by decide) h
  dep := fun R R' g h => g _ _ (by simpa using hne) h
  fz := fun _ => rfl
theorem Src.range {prog : Program} {w : World} {A : Around} (hh : A.handled = none) {I : Addr} {a : Int} {n : Nat} :
    Src prog w A I n (fun i => RIt (a + i) ((n : Int) - i)) (fun i v => ∃ t, v = .int (a + i) t) (fun _ => True) where
  item := fun B L s m R i Q E F N hI _ hi h => by
    refine r_nextR F N hI (by omega) fun h' t tk F' N' => h _ h' tk ⟨t, rfl⟩ F' ?_
    have e1 : a + (i : Int) + 1 = a + ((i + 1 : Nat) : Int) := by omega
    have e2 : (n : Int) - i - 1 = (n : Int) - ((i + 1 : Nat) : Int) := by omega
    rw [e1, e2] at N'; exact N'
  done := fun B L s m R Q E F N hI _ h => r_endR hh F N hI (by omega) h
  self := fun B L s R i Q E N hI h => by
    have hit := N.plain hI rfl
    have hT : s.TypeIs (.ref I) "range_iterator" := ⟨_, hit, rfl⟩
    refine wpAny_pyIter_slot hT F.slot_range_iterator_iter (wpAny_call_entry F.slot_range_iterator_iter hT F.entry_range_iterator_iter ?_ (F.args_range_iterator_iter_1 _))
    show wpAny _ _ (ret (.ref I)) _ _ s
    exact wpAny_pure ⟨_, rfl, "range_iterator", _, hT, F.slot_range_iterator_next.lookup, h⟩
  own := fun B L s R i t v Q E N hI h => by
    obtain ⟨o, ho, hs⟩ := N.get hI
    exact owned_skip ho hs.1 (by decide) h
  dep := fun R R' g h => h
  fz := fun _ => rfl
end Mine
end
section
open PySem PySem.W PyProof.Rows
set_option maxRecDepth 100000
namespace Mine
def relab (scope sc : Scope) : Scope := { scope with names := scope.names.map fun (n, k) => if (k == .free && sc.kind == .function && sc.names.lookup n == some .cell) then (n, .cell) else (n, k) }
theorem relabel_eq {scope sc : Scope} {env : Env} {L : Addr} {cells : List (Str × Addr)} (V : EnvIs env sc L cells) : relabel scope env = relab scope sc := by have := V.scope; subst this; rfl
theorem newEnv_around {M : Model} {A : Around} {E : Value → Shared → Prop} {s : Shared} {scope : Scope} {globals : Addr} {cl : List (Str × Addr)} {qual : Str} {env : Env} {Q : Env → Shared → Prop}
    (h : Q (newEnv scope s.heap.objs.size globals (cellsFrom (s.heap.objs.size + 1) scope.names cl) qual none .none (some env) builtinsNs) { s with heap := pushCells (s.heap.push { cls := .type "dict", data := .dict #[] }) scope.names }) :
    wpAny M A (newFunctionEnv scope globals cl [] qual none .none (some env)) Q E s := by
  simp only [newFunctionEnv, Option.isSome_some, if_true]
  refine wpAny_bind (wpAny_alloc ?_)
  refine wpAny_bind (wpAny_layCells _ (fun name kind cells => by cases hkc : kind == NameKind.cell <;> simp [hkc]) _ _ _ _ ?_)
  rw [show ({ s with heap := s.heap.push { cls := .type "dict", data := .dict #[] } } : Shared).heap.objs.size = s.heap.objs.size + 1 from Heap.size_push ..]
  exact wpAny_bind (wpAny_pure (wpAny_pure h))
theorem cellsFrom_mem : ∀ (names : List (Str × NameKind)) (h : Heap) (acc : List (Str × Addr)) (n : Str) (k : Addr), (n, k) ∈ cellsFrom h.objs.size names acc → (n, k) ∈ acc ∨ ((pushCells h names).get? k = some { cls := .type "cell", data := .cell none } ∧ h.objs.size ≤ k)
  | [], _, _, _, _, e => .inl e
  | (name, kind) :: r, h, acc, n, k, e => by
    unfold cellsFrom at e
    unfold pushCells
    split at e
    · rename_i hk
      rw [if_pos hk]
      have e' : (n, k) ∈ cellsFrom (h.push { cls := .type "cell", data := .cell none }).objs.size r ((name, h.objs.size) :: acc) := by rw [Heap.size_push]; exact e
      rcases cellsFrom_mem r _ _ n k e' with h1 | ⟨h1, h2⟩
      · rcases List.mem_cons.mp h1 with h1 | h1
        · cases h1
          exact .inr ⟨pushCells_keeps _ _ _ _ (Heap.get?_push_size _ rfl), Nat.le_refl _⟩
        · exact .inl h1
      · rw [Heap.size_push] at h2
        exact .inr ⟨h1, Nat.le_of_succ_le h2⟩
    · rename_i hk
      rw [if_neg hk]
      exact cellsFrom_mem r h acc n k e
theorem swapFr {B : Heap} {L C : Addr} {h : Heap} {m m' : Str → Option Value} {R₁ : Ledger} {c : Cell} (F' : Fr B C h m') (N' : Led B C h R₁) (hL : R₁ L = some c) (hc : FrameCell m c) (hle : B.objs.size ≤ L) :
    ∃ cC, FrameCell m' cC ∧ Fr B L h m ∧ Led B L h (upd (drop R₁ L) C cC) ∧ R₁ C = none ∧ L ≠ C := by
  obtain ⟨⟨hz, _⟩, es, ep, hd, hk, hm⟩ := hc
  obtain ⟨⟨o, ho, h1, h2, _⟩, hLC, _⟩ := N' _ _ hL
  obtain ⟨oC, es', ep', hoC, hdC, hkC, hmC⟩ := F'.ns
  refine ⟨⟨false, true, oC.cls, oC.data⟩, ⟨⟨rfl, rfl⟩, es', ep', hdC, hkC, hmC⟩, ⟨⟨o, es, ep, ho, h2.trans hd, hk, hm⟩, F'.keep, hle⟩, fun a x e => ?_, N'.none_L, hLC⟩
  by_cases q : a = C
  · subst q; rw [upd_self] at e; cases e
    exact ⟨⟨oC, hoC, rfl, rfl, fun q => nomatch q⟩, Ne.symm hLC, Heap.get?_none_of_le F'.above⟩
  · rw [upd_ne q] at e
    unfold drop at e
    split at e
    · cases e
    · rename_i q'
      exact ⟨(N' a x e).1, q', (N' a x e).2.2⟩
theorem Led.sameX {B : Heap} {L a : Addr} {h h' : Heap} {R : Ledger} (N : Led B L h R) (ha : R a = none) (hs : Heap.SameBut a h h') : Led B L h' R := fun b x e => by
  obtain ⟨⟨o, ho, hx⟩, r⟩ := N b x e
  exact ⟨⟨o, (hs.2 b (ne_of_none e ha)).trans ho, hx⟩, r⟩
section
variable {prog : Program} {w : World} {A : Around}
theorem compLoop_gen {s : Shared} {elt target iter : PySem.Expr} {ifs : List PySem.Expr} {scope : Scope} {pos : Pos} {it acc : Value} {env : Env} {R : Result → Shared → Prop} (I : Nat → Shared → Prop)
    (turn : ∀ n s, I n s → wpAny (model prog w) A (pyNext it) (fun r s₁ => match r with
      | none => R (.ok .next) s₁
      | some v => wpAny (model prog w) A (letOwnedTupleGo target it v) (fun _ s₁' => wpAny (model prog w) A (assign target env v) (fun _ s₂ =>
          wpAny (model prog w) A (forIn ifs true fun c r => if r = true then do let ok ← isTrue c env (eval c env); pure (ForInStep.yield ok) else pure (ForInStep.yield r)) (fun ok s₃ =>
            if ok = true then wpAny (model prog w) A (eval elt env) (fun x s₄ =>
              wpAny (model prog w) A (call (.builtin "list.append") [acc, x]) (fun _ s₅ => ∃ m, m < n ∧ I m s₅) (fun _ _ => False) s₄) (fun _ _ => False) s₃
            else ∃ m, m < n ∧ I m s₃) (fun _ _ => False) s₂) (fun _ _ => False) s₁') (fun _ _ => False) s₁) (fun _ _ => False) s)
    (n : Nat) (h : I n s) : codeAny (model prog w) A (.compLoop (.ListComp elt [⟨target, iter, ifs, 0⟩] scope pos) 0 it acc env) R s := by
  refine codeAny_loop rfl I (fun n s hI => ?_) n h
  show wpAny _ A ((compTurn (.ListComp elt [⟨target, iter, ifs, 0⟩] scope pos) 0 it acc env).onRaise (fun x => do noteFrame x env; theTreesLotGoes x)) _ _ s
  refine wpAny_noted ?_
  rw [compTurn_list]
  refine wpAny_bind (wpAny_standAt (wpAny_bind (wpAny_mono (turn n s hI) (fun r s₁ h₁ => ?_) fun _ _ h' => h'.elim)))
  cases r with
  | none => exact wpAny_pure h₁
  | some v =>
    refine wpAny_bind (wpAny_mono h₁ (fun _ s₁' h₁' => ?_) fun _ _ h' => h'.elim)
    refine wpAny_bind (wpAny_mono h₁' (fun _ s₂ h₂ => wpAny_bind (wpAny_mono h₂ (fun ok s₃ h₃ => ?_) fun _ _ h' => h'.elim)) fun _ _ h' => h'.elim)
    cases ok with
    | false => exact wpAny_pure ⟨rfl, h₃⟩
    | true =>
      exact wpAny_bind (wpAny_bind (wpAny_mono h₃ (fun x s₄ h₄ => wpAny_bind (wpAny_mono h₄ (fun _ s₅ h₅ => wpAny_pure (wpAny_pure ⟨rfl, h₅⟩)) fun _ _ h' => h'.elim)) fun _ _ h' => h'.elim))
end
def CEnd (B : Heap) (C : Addr) (s : Shared) (R₁ : Ledger) (cs : List Addr) (P : Ledger → Prop) (s₄ : Shared) : Prop :=
  ∃ h' tk m' R', s₄ = { s with heap := h', toks := tk } ∧ Fr B C h' m' ∧ Led B C h' R' ∧ GrowX cs R₁ R' ∧ (∀ k ∈ cs, ∃ v, R' k = some (CelC (.type "cell") v)) ∧ P R'
theorem lookup_mem2 {α : Type} {l : List (Str × α)} {k : α} (h : k ∈ l.map (·.2)) : ∃ n, (n, k) ∈ l := by
  obtain ⟨⟨n, k'⟩, h1, h2⟩ := List.mem_map.mp h
  cases h2; exact ⟨n, h1⟩
section
variable {prog : Program} {w : World} {A : Around} {E : Value → Shared → Prop} {s : Shared} {env : Env} {sc scope : Scope} {cells₀ cl : List (Str × Addr)} {B : Heap} {L I : Addr} {m : Str → Option Value} {R : Ledger}
  {elt target iter : PySem.Expr} {ifs : List PySem.Expr} {pos : Pos} {n : Nat} {IC : Nat → Cell} {P : Nat → Value → Prop} {Dep : Ledger → Prop}
/-- what a turn must show -/
def CTurn (prog : Program) (w : World) (A : Around) (B : Heap) (L I : Addr) (R : Ledger) (s : Shared) (env : Env) (sc scope : Scope) (cl : List (Str × Addr)) (elt target : PySem.Expr) (ifs : List PySem.Expr) (n : Nat) (P : Nat → Value → Prop) (Dep : Ledger → Prop) (Inv : Nat → List Value → Ledger → Prop) : Prop :=
  ∀ cenv C h tk c mC R₁ i ys v, EnvIs cenv (relab scope sc) C (cellsFrom (C + 1) scope.names cl) → cenv.frame = env.frame → i < n → P i v → Inv i ys R₁ → Fr B C h mC → Led B C h R₁ → GrowX [I] (upd R L c) R₁ →
    (∀ k ∈ (cellsFrom (C + 1) scope.names []).map (·.2), (∃ v, R₁ k = some (CelC (.type "cell") v)) ∧ upd R L c k = none) → Dep R₁ →
    wpAny (model prog w) A (assign target cenv v) (fun _ s₂ =>
      wpAny (model prog w) A (forIn ifs true fun c r => if r = true then do let ok ← isTrue c cenv (eval c cenv); pure (ForInStep.yield ok) else pure (ForInStep.yield r)) (fun ok s₃ =>
        if ok = true then wpAny (model prog w) A (eval elt cenv) (fun y s₄ => CEnd B C s R₁ ((cellsFrom (C + 1) scope.names []).map (·.2)) (Inv (i + 1) (ys ++ [y])) s₄) (fun _ _ => False) s₃
        else CEnd B C s R₁ ((cellsFrom (C + 1) scope.names []).map (·.2)) (Inv (i + 1) ys) s₃) (fun _ _ => False) s₂) (fun _ _ => False) { s with heap := h, toks := tk }
open Classical in
theorem comp_core (Inv : Nat → List Value → Ledger → Prop) {RR : Value → Addr → Result → Shared → Prop} (V : EnvIs env sc L cells₀) (S : Src prog w A I n IC P Dep) (F : Fr B L s.heap m) (N : Led B L s.heap R) (hI : R I = some (IC 0)) (hDep : Dep R) (hn : n ≤ 900)
    (mono : ∀ i ys R R', FzLe R R' → Inv i ys R → Inv i ys R') (hI0 : ∀ R', FzLe R R' → Inv 0 [] R') (hlen : ∀ i ys R', Inv i ys R' → ys.length ≤ i)
    (turn : CTurn prog w A B L I R s env sc scope cl elt target ifs n P Dep Inv)
    (fin : ∀ C D c h tk m' R₁ ys e, FrameCell m c → R L = none → B.objs.size ≤ L → R D = none → D ≠ L → Fr B C h m' → Led B C h R₁ → GrowX [I] (upd R L c) R₁ → R₁ D = some (ListC false ys e) → Inv n ys R₁ → RR (.ref D) C (.ok .next) { s with heap := h, toks := tk }) :
    wpAny (model prog w) A (newList []) (fun acc s₃ => wpAny (model prog w) A (newFunctionEnv scope env.globals cl [] env.qual none .none (some env)) (fun cenv s₄ =>
      codeAny (model prog w) A (.compStart (.ListComp elt [⟨target, iter, ifs, 0⟩] scope pos) 0 (.ref I) acc { cenv with scope := relabel scope env }) (RR acc cenv.locals) s₄) E s₃) E s := by
  refine wpAny_newObj_type (newEnv_around ?_)
  dsimp only
  have F1 := F.push { cls := .type "list", dict := none, data := .seq ([] : List Value).toArray }
  have N1 := N.push F { cls := .type "list", dict := none, data := .seq ([] : List Value).toArray } false
  have hDn : R s.heap.objs.size = none := N.none_of_ge (Nat.le_refl _)
  have hDL : s.heap.objs.size ≠ L := Nat.ne_of_gt F.ns.lt
  have hID : I ≠ s.heap.objs.size := ne_of_none hI hDn
  generalize hH1 : s.heap.push { cls := .type "list", dict := none, data := .seq ([] : List Value).toArray } = H1 at *
  have hs1 : H1.objs.size = s.heap.objs.size + 1 := by rw [← hH1, Heap.size_push]
  generalize s.heap.objs.size = D at *
  generalize hC : H1.objs.size = C at *
  have hRL := N.none_L
  obtain ⟨oL, es, ep, hoL, hLd, hLk, hLf⟩ := F1.ns
  have hLt := Heap.lt_size hoL
  have keepH : ∀ b o, H1.get? b = some o → (pushCells (H1.push { cls := .type "dict", data := .dict #[] }) scope.names).get? b = some o := fun b o e => pushCells_keeps _ _ _ _ (Heap.get?_push_of_some _ e)
  have hFC : FrameCell m ⟨false, true, oL.cls, oL.data⟩ := ⟨⟨rfl, rfl⟩, es, ep, hLd, hLk, hLf⟩
  generalize hcc : (⟨false, true, oL.cls, oL.data⟩ : Cell) = c at *
  have F2 : Fr B C (pushCells (H1.push { cls := .type "dict", data := .dict #[] }) scope.names) (fun _ => none) :=
    ⟨by rw [← hC]; exact (Heap.Ns.new H1 (.type "dict")).keeps (pushCells_keeps _ _), fun b o e => keepH b o (F1.keep b o e), by rw [← hC]; exact Nat.le_trans F1.above (Nat.le_of_lt hLt)⟩
  have hcs : ∀ k ∈ (cellsFrom (C + 1) scope.names []).map (·.2), (pushCells (H1.push { cls := .type "dict", data := .dict #[] }) scope.names).get? k = some { cls := .type "cell", data := .cell none } ∧ C + 1 ≤ k := fun k hk => by
    obtain ⟨n', hk⟩ := lookup_mem2 hk
    have hz : C + 1 = (H1.push { cls := .type "dict", data := .dict #[] }).objs.size := by rw [Heap.size_push, hC]
    rw [hz] at hk ⊢
    rcases cellsFrom_mem _ _ _ _ _ hk with h1 | h1
    · cases h1
    · exact h1
  generalize hcsl : (cellsFrom (C + 1) scope.names []).map (·.2) = cs at *
  have hnk : ∀ k, C ≤ k → upd (upd R D (ListC false [] 0)) L c k = none := fun k hk => by
    rw [upd_ne (Nat.ne_of_gt (Nat.lt_of_lt_of_le hLt (hC ▸ hk)))]; exact N1.none_of_ge (hC ▸ hk)
  have hDC : D < C := by rw [hs1]; exact Nat.lt_succ_self _
  have hnk' : ∀ k, C ≤ k → upd R L c k = none := fun k hk => by
    have := hnk k hk
    rw [upd_ne (Nat.ne_of_gt (Nat.lt_of_lt_of_le hLt (hC ▸ hk)))] at this ⊢
    rw [upd_ne (Nat.ne_of_gt (Nat.lt_of_lt_of_le hDC hk))] at this; exact this
  obtain ⟨R₀, hR₀⟩ : ∃ R₀ : Ledger, R₀ = fun k => if k ∈ cs then some (CelC (.type "cell") none) else upd (upd R D (ListC false [] 0)) L c k := ⟨_, rfl⟩
  have hncs : ∀ a x, upd (upd R D (ListC false [] 0)) L c a = some x → a ∉ cs := fun a x e hm => by
    rw [hnk a (Nat.le_of_succ_le (hcs a hm).2)] at e; cases e
  have g₀ : Grow (upd (upd R D (ListC false [] 0)) L c) R₀ := fun a x e => by rw [hR₀]; dsimp only; rw [if_neg (hncs a x e)]; exact e
  have gL : Grow (upd R L c) (upd (upd R D (ListC false [] 0)) L c) := (Grow.new hDn).upd
  have N2 : Led B C (pushCells (H1.push { cls := .type "dict", data := .dict #[] }) scope.names) R₀ := fun k x e => by
    rw [hR₀] at e; dsimp only at e
    split at e
    · rename_i hm
      obtain ⟨h1, h2⟩ := hcs k hm
      cases e
      exact ⟨⟨_, h1, rfl, rfl, fun q => nomatch q⟩, Nat.ne_of_gt h2, Heap.get?_none_of_le (Nat.le_trans (Nat.le_trans F1.above (Nat.le_of_lt hLt)) (hC ▸ Nat.le_of_succ_le h2))⟩
    · by_cases q : k = L
      · subst q; rw [upd_self] at e; cases e
        rw [← hcc]
        exact ⟨⟨oL, keepH _ _ hoL, rfl, rfl, fun e => nomatch e⟩, hC ▸ Nat.ne_of_lt hLt, Heap.get?_none_of_le F1.above⟩
      · rw [upd_ne q] at e
        obtain ⟨⟨o', ho', r⟩, _, r2⟩ := N1 k x e
        exact ⟨⟨o', keepH _ _ ho', r⟩, hC ▸ Nat.ne_of_lt (Heap.lt_size ho'), r2⟩
  have hLI : L ≠ I := fun q => by subst q; rw [hRL] at hI; cases hI
  have hI₀ : R₀ I = some (IC 0) := g₀ _ _ (gL _ _ (by rw [upd_ne (Ne.symm hLI)]; exact hI))
  have hD₀ : R₀ D = some (ListC false [] 0) := g₀ _ _ (by rw [upd_ne hDL]; exact upd_self)
  have hIC : I ∉ cs := fun hm => by
    have := hnk' I (Nat.le_of_succ_le (hcs I hm).2)
    rw [upd_ne (Ne.symm hLI), hI] at this; cases this
  have hDcs : D ∉ cs := fun hm => Nat.lt_irrefl _ (Nat.lt_of_lt_of_le hDC (Nat.le_of_succ_le (hcs D hm).2))
  have gR : Grow R R₀ := (Grow.new hRL).trans (gL.trans g₀)
  have hLf2 : upd R L c L = some c := upd_self
  have hDu : upd R L c D = none := by rw [upd_ne hDL]; exact hDn
  have loop : codeAny (model prog w) A (.compLoop (.ListComp elt [⟨target, iter, ifs, 0⟩] scope pos) 0 (.ref I) (.ref D) { newEnv scope C env.globals (cellsFrom (C + 1) scope.names cl) env.qual none .none (some env) builtinsNs with scope := relabel scope env })
      (RR (.ref D) C) { s with heap := pushCells (H1.push { cls := .type "dict", data := .dict #[] }) scope.names } := by
    have V' : EnvIs { newEnv scope C env.globals (cellsFrom (C + 1) scope.names cl) env.qual none .none (some env) builtinsNs with scope := relabel scope env } (relab scope sc) C (cellsFrom (C + 1) scope.names cl) :=
      ⟨relabel_eq V, rfl, V.globals, V.builtins, rfl⟩
    have hfe : ({ newEnv scope C env.globals (cellsFrom (C + 1) scope.names cl) env.qual none .none (some env) builtinsNs with scope := relabel scope env } : Env).frame = env.frame := rfl
    generalize ({ newEnv scope C env.globals (cellsFrom (C + 1) scope.names cl) env.qual none .none (some env) builtinsNs with scope := relabel scope env } : Env) = cenv at *
    refine compLoop_gen (fun k s' => ∃ h tk mC R₁ i ys e, s' = { s with heap := h, toks := tk } ∧ k = n - i ∧ i ≤ n ∧ Fr B C h mC ∧ Led B C h R₁ ∧ GrowX [I] (upd R L c) R₁ ∧ R₁ I = some (IC i) ∧ R₁ D = some (ListC false ys e) ∧
      (∀ k ∈ cs, ∃ v, R₁ k = some (CelC (.type "cell") v)) ∧ Inv i ys R₁ ∧ Dep R₁) ?_ n ⟨_, s.toks, _, R₀, 0, [], 0, rfl, rfl, Nat.zero_le _, F2, N2, .of (gL.trans g₀), hI₀, hD₀, fun k hk => ⟨none, by rw [hR₀]; dsimp only; rw [if_pos hk]⟩, hI0 R₀ gR.fz, S.dep _ _ (.of gR) hDep⟩
    rintro k s' ⟨h, tk, mC, R₁, i, ys, e, rfl, rfl, hi, F3, N3, g3, i3, d3, c3, v3, p3⟩
    by_cases hlt : i < n
    · refine S.item B C _ mC R₁ i _ _ F3 N3 i3 p3 hlt fun v h' tk' hP F4 N4 => ?_
      dsimp only
      have fz4 : FzLe R₁ (upd R₁ I (IC (i + 1))) := FzLe.mut i3 (S.fz i)
      have gx4 : GrowX [I] R₁ (upd R₁ I (IC (i + 1))) := .mut (List.mem_singleton.mpr rfl)
      have d4 : upd R₁ I (IC (i + 1)) D = some (ListC false ys e) := by rw [upd_ne (Ne.symm hID)]; exact d3
      refine S.own B C _ _ (i + 1) target v _ _ N4 upd_self ?_
      have ht := turn cenv C h' tk' c mC (upd R₁ I (IC (i + 1))) i ys v V' hfe hlt hP (mono _ _ _ _ fz4 v3) F4 N4 (g3.trans gx4)
        (fun k hk => ⟨let ⟨v, hv⟩ := c3 k (hcsl ▸ hk); ⟨v, by rw [upd_ne (show k ≠ I from fun q => by subst q; exact hIC (hcsl ▸ hk))]; exact hv⟩, hnk' k (Nat.le_of_succ_le (hcs k (hcsl ▸ hk)).2)⟩) (S.dep _ _ gx4 p3)
      rw [hcsl] at ht
      refine wpAny_mono ht (fun _ s₂ h₂ => wpAny_mono h₂ (fun ok s₃ h₃ => ?_) fun _ _ q => q) fun _ _ q => q
      have gx : ∀ {R' : Ledger}, GrowX cs (upd R₁ I (IC (i + 1))) R' → GrowX [I] (upd R L c) R' := fun g a x ha e => g a x (fun hm => by rw [hnk' a (Nat.le_of_succ_le (hcs a hm).2)] at e; cases e) ((g3.trans gx4) a x ha e)
      have dp : ∀ {R' : Ledger}, GrowX cs (upd R₁ I (IC (i + 1))) R' → GrowX [I] R R' := fun g a x ha e => gx g a x ha (upd_new hRL e)
      cases ok with
      | false =>
        obtain ⟨h5, tk5, m5, R5, rfl, F5, N5, g5, c5, v5⟩ := h₃
        exact ⟨n - (i + 1), by omega, h5, tk5, m5, R5, i + 1, ys, e, rfl, rfl, hlt, F5, N5, gx g5, g5 _ _ hIC upd_self, g5 _ _ hDcs d4, c5, v5, S.dep _ _ (dp g5) hDep⟩
      | true =>
        refine wpAny_mono h₃ (fun y s₄ h₄ => ?_) fun _ _ q => q
        obtain ⟨h5, tk5, m5, R5, rfl, F5, N5, g5, c5, v5⟩ := h₄
        have d5 := g5 _ _ hDcs d4
        refine r_append F5 N5 d5 (by have := hlen _ _ _ v3; omega) fun h6 e6 F6 N6 => ?_
        refine ⟨n - (i + 1), by omega, h6, tk5, m5, _, i + 1, ys ++ [y], e6, rfl, rfl, hlt, F6, N6, growX_mut (gx g5) hDu, ?_, upd_self, fun k hk => ?_, mono _ _ _ _ (FzLe.mut d5 rfl) v5, S.dep _ _ (growX_mut (dp g5) hDn) hDep⟩
        · rw [upd_ne hID]; exact g5 _ _ hIC upd_self
        · rw [upd_ne (show k ≠ D from fun q => by subst q; exact hDcs hk)]; exact c5 k hk
    · obtain rfl : i = n := by omega
      refine S.done B C _ mC R₁ _ _ F3 N3 i3 p3 fun h' F4 N4 => ?_
      refine fin C D c h' tk mC (drop R₁ I) ys e hFC hRL F1.above hDn hDL F4 N4 (fun a x ha e => ?_) (by rw [drop_ne (Ne.symm hID)]; exact d3) (mono _ _ _ _ (FzLe.drop i3 (S.fz i)) v3)
      rw [drop_ne (by simpa using ha)]; exact g3 a x ha e
  exact codeAny_compStart_list loop (S.self B C _ R₀ 0 _ _ N2 hI₀ loop)
end
end Mine
end
section
open PySem PySem.W PyProof.Rows
set_option maxRecDepth 100000
namespace Mine
theorem growX_drop {I : Addr} {x : Cell} {R₀ R' : Ledger} (g : GrowX [I] (upd R₀ I x) R') (h : R₀ I = none) : Grow R₀ R' := fun a c e => by
  have hne : a ≠ I := fun q => by subst q; rw [h] at e; cases e
  exact g a c (by simpa using hne) (by rw [upd_ne hne]; exact e)
section
variable {prog : Program} {w : World} {A : Around} {E : Value → Shared → Prop} {s : Shared} {env : Env} {sc scope : Scope} {cells₀ cl : List (Str × Addr)} {B : Heap} {L : Addr}
  {elt target iter : PySem.Expr} {ifs : List PySem.Expr} {pos : Pos}
def CompGo (prog : Program) (w : World) (A : Around) (B : Heap) (L : Addr) (env : Env) (sc scope : Scope) (cl : List (Str × Addr)) (elt target : PySem.Expr) (ifs : List PySem.Expr) (mm : (Str → Option Value) → Addr → Str → Option Value) (it : Value) (s : Shared) (Q : Addr → Shared → Prop) : Prop :=
  ∃ (m : Str → Option Value) (I : Addr) (n : Nat) (IC : Nat → Cell) (P : Nat → Value → Prop) (Dep : Ledger → Prop) (R : Ledger) (Inv : Nat → List Value → Ledger → Prop),
    it = .ref I ∧ Src prog w A I n IC P Dep ∧ Fr B L s.heap m ∧ Led B L s.heap R ∧ R I = some (IC 0) ∧ Dep R ∧ n ≤ 900 ∧
    (∀ i ys R R', FzLe R R' → Inv i ys R → Inv i ys R') ∧ (∀ R', FzLe R R' → Inv 0 [] R') ∧ (∀ i ys R', Inv i ys R' → ys.length ≤ i) ∧
    CTurn prog w A B L I R s env sc scope cl elt target ifs n P Dep Inv ∧
    (∀ D h tk R' ys e, Fr B L h (mm m D) → Led B L h R' → GrowX [I] R R' → R D = none → R' D = some (ListC true ys e) → Inv n ys R' → Q D { s with heap := h, toks := tk })
theorem CompGo.intro {it : Value} {I : Addr} {n : Nat} {IC : Nat → Cell} {P : Nat → Value → Prop} {Dep : Ledger → Prop} {m : Str → Option Value} {R : Ledger} {mm : (Str → Option Value) → Addr → Str → Option Value} {Q : Addr → Shared → Prop} (Inv : Nat → List Value → Ledger → Prop)
    (S : Src prog w A I n IC P Dep) (F : Fr B L s.heap m) (N : Led B L s.heap R) (hI : R I = some (IC 0)) (hDep : Dep R) (hn : n ≤ 900) (hit : it = .ref I)
    (mono : ∀ i ys R R', FzLe R R' → Inv i ys R → Inv i ys R') (hI0 : ∀ R', FzLe R R' → Inv 0 [] R') (hlen : ∀ i ys R', Inv i ys R' → ys.length ≤ i)
    (turn : CTurn prog w A B L I R s env sc scope cl elt target ifs n P Dep Inv)
    (fin : ∀ D h tk R' ys e, Fr B L h (mm m D) → Led B L h R' → GrowX [I] R R' → R D = none → R' D = some (ListC true ys e) → Inv n ys R' → Q D { s with heap := h, toks := tk }) :
    CompGo prog w A B L env sc scope cl elt target ifs mm it s Q := ⟨m, I, n, IC, P, Dep, R, Inv, hit, S, F, N, hI, hDep, hn, mono, hI0, hlen, turn, fin⟩
theorem comp_end {C D I : Addr} {c : Cell} {h : Heap} {m m' : Str → Option Value} {R R₁ : Ledger} {ys : List Value} {e : Nat} {x : Cell} (hI : R I = some x) (hc : FrameCell m c) (hRL : R L = none) (hle : B.objs.size ≤ L) (hD : R D = none) (hDL : D ≠ L) (F' : Fr B C h m') (N' : Led B C h R₁)
    (g : GrowX [I] (upd R L c) R₁) (d : R₁ D = some (ListC false ys e)) :
    ∃ cC, FrameCell m' cC ∧ Fr B L h m ∧ Led B L h (upd (upd (drop R₁ L) D (ListC true ys e)) C cC) ∧ GrowX [I] R (upd (drop R₁ L) D (ListC true ys e)) ∧ FzLe R₁ (upd (drop R₁ L) D (ListC true ys e)) ∧
      upd (drop R₁ L) D (ListC true ys e) C = none ∧ L ≠ C := by
  have hLI : L ≠ I := fun q => by subst q; rw [hRL] at hI; cases hI
  have hL : R₁ L = some c := g _ _ (by simpa using hLI) upd_self
  obtain ⟨cC, hcC, F1, N1, hC, hLC⟩ := swapFr (m' := m') F' N' hL hc hle
  have hDC : D ≠ C := ne_of_none d hC
  have dd : drop R₁ L D = some (ListC false ys e) := by rw [drop_ne hDL]; exact d
  refine ⟨cC, hcC, F1, ?_, ?_, ?_, ?_, hLC⟩
  · have := N1.flag (a := D) (fz' := true) (fz := false) (fr := false) (c := .type "list") (d := .seq ys.toArray e) (by rw [upd_ne hDC]; exact dd)
    rw [upd_comm (Ne.symm hDC)] at this
    exact this
  · refine growX_mut (fun a y ha e' => ?_) hD
    have q : a ≠ L := fun q => by subst q; rw [hRL] at e'; cases e'
    rw [drop_ne q]
    exact g a y ha (by rw [upd_ne q]; exact e')
  · exact (FzLe.drop hL hc.1.1).trans (FzLe.mut dd rfl)
  · rw [upd_ne (Ne.symm hDC), drop_ne (Ne.symm hLC)]; exact hC
theorem lc_post {C : Addr} {h h' : Heap} {m : Str → Option Value} {R₂ : Ledger} {cC : Cell} (F1 : Fr B L h m) (N1 : Led B L h (upd R₂ C cC)) (hC : R₂ C = none) (hLC : L ≠ C) (hs : Heap.SameBut C h h') : Fr B L h' m ∧ Led B L h' R₂ := by
  have hB : B.get? C = none := (N1 C cC upd_self).2.2
  exact ⟨⟨F1.ns.sameBut hs hLC, fun b o e => (hs.2 b (fun q => by subst q; rw [hB] at e; cases e)).trans (F1.keep b o e), F1.above⟩, (N1.mono (Grow.new hC)).sameX hC hs⟩
theorem FrameCell.ns {C : Addr} {h : Heap} {m : Str → Option Value} {R₂ : Ledger} {cC : Cell} (hc : FrameCell m cC) (N : Led B L h R₂) (e : R₂ C = some cC) : h.Ns C m := by
  obtain ⟨_, es, ep, hd, hk, hm⟩ := hc
  obtain ⟨o, ho, _, h2, _⟩ := N.get e
  exact ⟨o, es, ep, ho, h2.trans hd, hk, hm⟩
theorem r_ListComp {Q : Value → Shared → Prop} (V : EnvIs env sc L cells₀) (hclos : closureFor scope env = pure cl) (hkind : scope.kind = .function) (hnames : ∀ x ∈ scope.names, x.2 = .local → scope.names.lookup x.1 = some .local)
    (h : wpAny (model prog w) A (eval iter env) (fun xv s₁ => wpAny (model prog w) A (pyIter xv) (fun it s₂ => CompGo prog w A B L env sc scope cl elt target ifs (fun m _ => m) it s₂ (fun D s' => Q (.ref D) s')) E s₁) E s)
    (hs : ∀ x, foldedSetIterable iter env x = pure x := by intro _; rfl) :
    wpAny (model prog w) A (eval (.ListComp elt [⟨target, iter, ifs, 0⟩] scope pos) env) Q E s := by
  rw [eval_ListComp]
  refine wpAny_comprehension_free (use := none) rfl hs hclos hkind hnames (wpAny_mono h (fun xv s₁ h₁ => wpAny_mono h₁ (fun it s₂ h₂ => ?_) fun _ _ e => e) fun _ _ e => e)
  obtain ⟨m, I, n, IC, P, Dep, R, Inv, rfl, S, F, N, hI, hDep, hn, mono, hI0, hlen, turn, fin⟩ := h₂
  refine comp_core Inv (RR := fun acc C => compPost (model prog w) A E none Q acc C) V S F N hI hDep hn mono hI0 hlen turn ?_
  intro C D c h tk m' R₁ ys e hc hRL hle hD hDL F' N' g d v
  obtain ⟨cC, hcC, F1, N1, g1, fz, hC, hLC⟩ := comp_end hI hc hRL hle hD hDL F' N' g d
  refine ⟨m', F'.ns, fun h' hs' => ?_⟩
  obtain ⟨F2, N2⟩ := lc_post F1 N1 hC hLC hs'
  exact fin D h' tk _ ys e F2 N2 g1 hD upd_self (mono _ _ _ _ fz v)
theorem r_Assign_ListComp {y : Str} {py spos : Pos} {Q : Flow → Shared → Prop} (V : EnvIs env sc L cells₀) (hsw : swapsWith (.ListComp elt [⟨target, iter, ifs, 0⟩] scope pos) (some (.Name y py)) spos.line env = pure true)
    (hclos : closureFor scope env = pure cl) (hkind : scope.kind = .function) (hnames : ∀ x ∈ scope.names, x.2 = .local → scope.names.lookup x.1 = some .local)
    (hk : sc.kind = .function) (hl : sc.names.lookup y = some .local)
    (h : wpAny (model prog w) A (eval iter env) (fun xv s₁ => wpAny (model prog w) A (pyIter xv) (fun it s₂ => CompGo prog w A B L env sc scope cl elt target ifs (fun m D z => if z = y then some (.ref D) else m z) it s₂ (fun _ s' => Q .next s')) E s₁) E s)
    (hs : ∀ x, foldedSetIterable iter env x = pure x := by intro _; rfl) :
    wpAny (model prog w) A (exec (.Assign [.Name y py] (.ListComp elt [⟨target, iter, ifs, 0⟩] scope pos) spos) env) Q E s := by
  rw [exec_Assign_Name_used _ _ _ _ hsw]
  refine wpAny_bind (wpAny_standAt (wpAny_bind ?_))
  show wpAny _ A (do let _ ← comprehension (.ListComp elt [⟨target, iter, ifs, 0⟩] scope pos) scope env _ (newList []) false (eval iter env) (some (assign (.Name y py) env))) _ _ s
  refine wpAny_bind (wpAny_mono (wpAny_comprehension_free (use := some (assign (.Name y py) env)) (Q := fun _ s' => Q .next s') rfl hs hclos hkind hnames
    (wpAny_mono h (fun xv s₁ h₁ => wpAny_mono h₁ (fun it s₂ h₂ => ?_) fun _ _ e => e) fun _ _ e => e)) (fun _ s' hq => wpAny_pure (wpAny_pure hq)) fun _ _ e => e)
  obtain ⟨m, I, n, IC, P, Dep, R, Inv, rfl, S, F, N, hI, hDep, hn, mono, hI0, hlen, turn, fin⟩ := h₂
  refine comp_core Inv (RR := fun acc C => compPost (model prog w) A E (some (assign (.Name y py) env)) (fun _ s' => Q .next s') acc C) V S F N hI hDep hn mono hI0 hlen turn ?_
  intro C D c h tk m' R₁ ys e hc hRL hle hD hDL F' N' g d v
  obtain ⟨cC, hcC, F1, N1, g1, fz, hC, hLC⟩ := comp_end hI hc hRL hle hD hDL F' N' g d
  show wpAny _ A (assign (.Name y py) env (.ref D)) _ _ _
  refine wpAny_assign_Name (r_st V F1 N1 hk hl fun h₂ tk₂ F3 N3 => ?_)
  refine ⟨m', hcC.ns N3 upd_self, fun h' hs' => ?_⟩
  obtain ⟨F2, N2⟩ := lc_post F3 N3 hC hLC hs'
  exact fin D h' tk₂ _ ys e F2 N2 g1 hD upd_self (mono _ _ _ _ fz v)
end
end Mine
end
section
open PySem PySem.W PyProof.Rows
set_option maxRecDepth 100000
namespace Mine
/-! ## for over a list -/
def FStep (B : Heap) (L l I : Addr) (cl : Cell) (s : Shared) (J : (Str → Option Value) → Ledger → Prop) (Q : Flow → Shared → Prop) (i : Nat) (f : Flow) (s₃ : Shared) : Prop :=
  match f with
  | .next | .cont => ∃ h' tk m₂ R₂, s₃ = { s with heap := h', toks := tk } ∧ Fr B L h' m₂ ∧ Led B L h' R₂ ∧ R₂ I = some (LIt l (i + 1)) ∧ R₂ l = some cl ∧ J m₂ R₂
  | .brk => Q .next s₃
  | .ret v => Q (.ret v) s₃
section
variable {prog : Program} {w : World} {A : Around} {E : Value → Shared → Prop} {Q : Flow → Shared → Prop} {s : Shared} {env : Env} {sc : Scope} {cells : List (Str × Addr)} {B : Heap} {L l : Addr} {m : Str → Option Value} {R : Ledger} {fz : Bool} {vs : List Value} {e : Nat}
theorem r_for {x : Str} {px pos : Pos} {iter : PySem.Expr} {body : List Stmt} (J : Nat → (Str → Option Value) → Ledger → Prop) (V : EnvIs env sc L cells) (hk : sc.kind = .function) (hx : sc.names.lookup x = some .local)
    (hh : A.handled = none) (F : Fr B L s.heap m) (N : Led B L s.heap R) (hl : R l = some (ListC fz vs e)) (hJ : ∀ R', Grow R R' → J 0 m R') (hE : PassesOwn (model prog w) A env E)
    (stab : ∀ i m R₁ R' I j, R I = none → R₁ I = some (LIt l j) → GrowX [I] R₁ R' → J i m R₁ → J i m R')
    (hit : wpAny (model prog w) A (eval iter env) (fun xv s₁ => xv = .ref l ∧ s₁ = s) E s)
    (turn : ∀ i v I m₁ R₁ h₁ tk₁, R I = none → vs[i]? = some v → Fr B L h₁ (fun y => if y = x then some v else m₁ y) → Led B L h₁ R₁ → R₁ I = some (LIt l (i + 1)) → R₁ l = some (ListC fz vs e) → J i m₁ R₁ →
      wpAny (model prog w) A (execs body env) (FStep B L l I (ListC fz vs e) s (J (i + 1)) Q i) E { s with heap := h₁, toks := tk₁ })
    (done : ∀ m₁ R₁ h₁ tk₁, Fr B L h₁ m₁ → Led B L h₁ R₁ → J vs.length m₁ R₁ → Q .next { s with heap := h₁, toks := tk₁ })
    (hs : ∀ x, foldedSetIterable iter env x = pure x := by intro _; rfl) :
    wpAny (model prog w) A (exec (.For (.Name x px) iter body [] pos) env) Q E s := by
  refine wpAny_For (wpAny_mono hit (fun xv s₁ h₁ => ?_) fun _ _ q => q) hs
  obtain ⟨rfl, rfl⟩ := h₁
  refine r_iter F N hl fun h' I F' hI N' => ?_
  have hlI : l ≠ I := ne_of_none hl hI
  refine codeAny_forLoop (fun n s' => ∃ h₁ tk₁ m₁ R₁ i, s' = { s₁ with heap := h₁, toks := tk₁ } ∧ n = vs.length - i ∧ i ≤ vs.length ∧ Fr B L h₁ m₁ ∧ Led B L h₁ R₁ ∧ R₁ I = some (LIt l i) ∧ R₁ l = some (ListC fz vs e) ∧ J i m₁ R₁) ?_ vs.length
    ⟨h', s₁.toks, m, _, 0, rfl, rfl, Nat.zero_le _, F', N', upd_self, upd_new hI hl, hJ _ (Grow.new hI)⟩
  rintro n s' ⟨h₁, tk₁, m₁, R₁, i, rfl, rfl, hi, F₁, N₁, i₁, l₁, J₁⟩
  by_cases hlt : i < vs.length
  · have hv : vs[i]? = some vs[i] := List.getElem?_eq_getElem hlt
    refine r_next F₁ N₁ i₁ l₁ hv fun h₂ F₂ N₂ => ?_
    dsimp only
    have gx : GrowX [I] R₁ (upd R₁ I (LIt l (i + 1))) := .mut (List.mem_singleton.mpr rfl)
    refine wpAny_assign_Name (r_st V F₂ N₂ hk hx fun h₃ tk₃ F₃ N₃ => ?_)
    refine wpAny_mono (turn i _ I m₁ _ h₃ tk₃ hI hv F₃ N₃ upd_self (by rw [upd_ne hlI]; exact l₁) (stab _ _ _ _ _ _ hI i₁ gx J₁)) (fun f s₄ h₄ => ?_) hE
    cases f with
    | next =>
      obtain ⟨h5, tk5, m5, R5, rfl, F5, N5, i5, l5, J5⟩ := h₄
      exact ⟨vs.length - (i + 1), by omega, h5, tk5, m5, R5, i + 1, rfl, rfl, hlt, F5, N5, i5, l5, J5⟩
    | cont =>
      obtain ⟨h5, tk5, m5, R5, rfl, F5, N5, i5, l5, J5⟩ := h₄
      exact ⟨vs.length - (i + 1), by omega, h5, tk5, m5, R5, i + 1, rfl, rfl, hlt, F5, N5, i5, l5, J5⟩
    | brk => exact h₄
    | ret v => exact h₄
  · obtain rfl : i = vs.length := by omega
    refine r_end hh F₁ N₁ i₁ l₁ (by simp) fun h₂ F₂ N₂ => ?_
    dsimp only
    refine wpAny_execs_nil ?_
    exact done m₁ _ h₂ tk₁ F₂ N₂ (stab _ _ _ _ _ _ hI i₁ (fun a c ha q => by rw [drop_ne (by simpa using ha)]; exact q) J₁)
end
/-! ## a list unpacked -/
section
variable {prog : Program} {w : World} {A : Around} {E : Value → Shared → Prop} {s : Shared} {env : Env}
theorem draw_list {it t : Addr} {items : Array Value} (hne : t ≠ it) : ∀ (n i : Nat) (s : Shared) (Q : List Value → Shared → Prop), s.heap.IsListIter it t i → s.heap.IsList t items → i + n ≤ items.size →
    (∀ h', h'.IsListIter it t (i + n) → Heap.SameBut it s.heap h' → Q ((items.toList.drop i).take n) { s with heap := h' }) → wpAny (model prog w) A (draw (.ref it) n) Q E s
  | 0, i, s, Q, hit, _, _, hQ => by
    show wpAny _ _ (pure []) Q E s
    exact wpAny_pure (by simpa using hQ s.heap hit (Heap.SameBut.refl ..))
  | n + 1, i, s, Q, hit, ht, hle, hQ => by
    have hlt : i < items.size := by omega
    show wpAny _ _ (pyNext (.ref it) >>= _) Q E s
    refine wpAny_bind (wpAny_pyNext_list_item hit ht (x := items[i]) (by simp [hlt]) fun h₁ hit₁ hs₁ => ?_)
    refine wpAny_bind (wpAny_holding (draw_list hne n (i + 1) _ _ hit₁ (ht.at fun o e => hs₁.extBut _ o hne e) (by omega) fun h₂ hit₂ hs₂ => wpAny_pure ?_))
    have hd : items.toList.drop i = items[i] :: items.toList.drop (i + 1) := by simp [List.drop_eq_getElem_cons, hlt]
    have := hQ h₂ (by rw [show i + (n + 1) = i + 1 + n by omega]; exact hit₂) (hs₁.trans hs₂)
    rw [hd, List.take_succ_cons] at this
    exact this
theorem unpackItems_list {t : Addr} {items : Array Value} {Q : List Value → Shared → Prop} (hh : A.handled = none) (ht : s.heap.IsList t items)
    (hQ : ∀ h', Heap.ExtBut s.heap.objs.size s.heap h' → Q items.toList { s with heap := h' }) : wpAny (model prog w) A (unpackItems (.ref t) items.size none) Q E s := by
  have hlt : t ≠ s.heap.objs.size := by obtain ⟨o, ho, _⟩ := ht; exact Nat.ne_of_lt (Heap.lt_size ho)
  unfold unpackItems
  refine wpAny_bind ?_
  · unfold notIterableAtAll
    refine wpAny_bind (wpAny_specialOf ht.typeIs slot_list_iter.lookup ?_)
    refine wpAny_pure ?_
    simp only [Bool.false_eq_true, if_false]
    refine wpAny_bind (wpAny_holding (wpAny_pyIter_list ht ?_))
    refine wpAny_bind (wpAny_holding (draw_list hlt items.size 0 _ _ ⟨_, Heap.get?_push_size _ rfl, rfl, rfl⟩ (ht.push _) (by omega) fun h₁ hit₁ hs₁ => ?_))
    have hall : List.take items.size (List.drop 0 items.toList) = items.toList := by
      rw [List.drop_zero]; exact List.take_of_length_le (by simp)
    rw [hall]
    rw [if_neg (by simp)]
    have ht₁ : h₁.IsList t items := (ht.push _).at fun o e => hs₁.extBut _ o hlt e
    refine wpAny_bind (wpAny_holding (wpAny_pyNext_list_end hh hit₁ ht₁ (by simp) fun h₂ he₂ => ?_))
    simp only [Option.isSome_none, Bool.false_eq_true, if_false]
    refine wpAny_pure (hQ h₂ fun b o hb e => he₂ b o hb (hs₁.extBut b o hb (Heap.get?_push_of_some _ e)))
variable {B : Heap} {L t : Addr} {m : Str → Option Value} {R : Ledger} {fz : Bool} {vs : List Value} {e : Nat}
theorem r_unpackL {elts : List PySem.Expr} {k} {pos : Pos} {Q : Unit → Shared → Prop} (F : Fr B L s.heap m) (N : Led B L s.heap R) (ht : R t = some (ListC fz vs e)) (hh : A.handled = none)
    (h : ∀ h', Fr B L h' m → Led B L h' R → wpAny (model prog w) A (assignInOrder ((assignEach elts env).map (·.2)) vs) Q E { s with heap := h' })
    (hn : (assignEach elts env).length = vs.toArray.size := by rfl) (hstar : (assignEach elts env).findIdx? (·.1) = none := by rfl) :
    wpAny (model prog w) A (assign (.Tuple elts k pos) env (.ref t)) Q E s := by
  rw [assign_Tuple]
  refine wpAny_bind (wpAny_standAt ?_)
  unfold unpack
  rw [hn, hstar]
  refine wpAny_bind (wpAny_holding (unpackItems_list hh (N.isList ht) fun h' he => ?_))
  refine h h' (F.extBut he (Nat.le_refl _)) (N.keep fun b o _ _ e => he b o (Nat.ne_of_lt (Heap.lt_size e)) e)
end
/-! ## closures -/
theorem clos_of {env : Env} {sc : Scope} {L : Addr} {cells : List (Str × Addr)} (V : EnvIs env sc L cells) : ∀ (names : List (Str × NameKind)) (acc : List (Str × Addr)),
    (∀ p ∈ names, p.2 = .free → (cells.lookup p.1).isSome) →
    forIn names acc (fun p cs => if (p.2 == NameKind.free) = true then (do let a ← cellOf env p.1; pure (ForInStep.yield ((p.1, a) :: cs))) else (pure (ForInStep.yield cs) : Sem _)) =
      pure (names.foldl (fun cs p => if (p.2 == NameKind.free) = true then (p.1, (cells.lookup p.1).getD 0) :: cs else cs) acc)
  | [], acc, _ => rfl
  | (n, k) :: r, acc, h => by
    rw [List.forIn_cons]
    have ih := fun acc => clos_of V r acc fun p hp => h p (List.mem_cons_of_mem _ hp)
    by_cases q : (k == NameKind.free) = true
    · obtain ⟨a, ha⟩ := Option.isSome_iff_exists.mp (h _ (List.mem_cons_self ..) (eq_of_beq q))
      have hc : cellOf env n = pure a := by
        unfold cellOf; rw [V.cells, ha]
      simp only [q, if_true, hc, pure_bind, List.foldl_cons, ha, Option.getD_some]
      exact ih _
    · simp only [q, if_false, pure_bind, List.foldl_cons, Bool.false_eq_true]
      exact ih _
def closC (scope : Scope) (cells : List (Str × Addr)) : List (Str × Addr) := scope.names.foldl (fun cs p => if (p.2 == NameKind.free) = true then (p.1, (cells.lookup p.1).getD 0) :: cs else cs) []
theorem clos_eq {env : Env} {sc scope : Scope} {L : Addr} {cells : List (Str × Addr)} (V : EnvIs env sc L cells) (h : ∀ p ∈ scope.names, p.2 = .free → (cells.lookup p.1).isSome) : closureFor scope env = pure (closC scope cells) := by
  have := clos_of V scope.names [] h
  unfold closureFor closC
  dsimp only
  rw [this]; rfl
def closOk (names : List (Str × NameKind)) (cells : List (Str × Addr)) : Bool := names.all fun p => p.2 != .free || (cells.lookup p.1).isSome
theorem clos_ok {env : Env} {sc scope : Scope} {L : Addr} {cells : List (Str × Addr)} (V : EnvIs env sc L cells) (h : closOk scope.names cells = true := by rfl) : closureFor scope env = pure (closC scope cells) :=
  clos_eq V fun p hp hf => by
    have := List.all_eq_true.mp h p hp
    simp only [Bool.or_eq_true, bne_iff_ne, ne_eq] at this
    rcases this with h1 | h1
    · exact absurd hf h1
    · exact h1
end Mine
end
section
open PySem PySem.W PyProof.Rows
set_option maxRecDepth 100000
namespace Mine
theorem slot_bytes_index : Slot "bytes" "index" "bytes.index" :=
  .of (owner := "bytes") (n := "index") (by rw [typeLookup_type, builtinLookup_eq_fast]; kernel_rfl) (by decide +kernel) (by decide +kernel) (by decide +kernel)
    (by first | exact .inl (by decide +kernel) | exact .inr (by decide +kernel)) (by rw [isSubtype_type]; kernel_rfl)
theorem type_bytes_index : typeOf (.builtin "bytes.index") = pure (.type "method_descriptor") := by show builtinType _ = _; rw [builtinType_eq_fast]; kernel_rfl
theorem entry_bytes_index : entryFor table "bytes.index" = some Builtin.«bytes.index» := entryFor_of_tree (by kernel_rfl)
theorem args_bytes_index_2 (a b : Value) : argsOk "bytes.index" ⟨[a, b], []⟩ := by
  unfold argsOk; rw [signature?_of (id := "bytes.index") (n := ['x', 'e', 'd', 'n', 'i']) (o := ['s', 'e', 't', 'y', 'b']) (by kernel_rfl) FB.owner_bytes]; kernel_rfl
theorem no_int_buffer : typeLookup (.type "int") "__buffer__" = pure none := by rw [typeLookup_type, builtinLookup_eq_fast]; kernel_rfl
theorem gives_bytes_index (b : Array UInt8) (c : Int) (t u : Tok) (i : Nat) (h0 : 0 ≤ c) (h1 : c < 256) (hb : 1 ≤ b.size) (hf : Builtin.Bytes.find? b #[c.toNat.toUInt8] 0 b.size = some i) :
    Gives (Builtin.«bytes.index» ⟨[.bytes b t, .int c u], []⟩) (.int i) := by
  refine .of_wp fun M A E s Q hq => ?_
  show wpAny M A (Builtin.Bytes.searchArgs .bytes "index" ⟨[.bytes b t, .int c u], []⟩ >>= fun r => _) _ E s
  refine wpAny_bind ?_
  unfold Builtin.Bytes.searchArgs
  dsimp only
  refine wpAny_bind (wpAny_of_eq (a := (Value.bytes b t, [Value.int c u])) rfl ?_)
  dsimp only
  refine wpAny_bind (wpAny_of_eq (a := (none : Option Int)) rfl ?_)
  refine wpAny_bind (wpAny_of_eq (a := (none : Option Int)) rfl ?_)
  refine wpAny_bind ?_
  refine wpAny_bind ?_
  refine wpAny_specialOf (v := .int c u) (typeIs_int s c u) no_int_buffer ?_
  dsimp only
  refine wpAny_bind (wpAny_specialOf (v := .int c u) (typeIs_int s c u) no_int_buffer ?_)
  dsimp only
  refine wpAny_pure ?_
  dsimp only
  refine wpAny_bind (wpAny_specialOf (v := .int c u) (typeIs_int s c u) F.slot_int_index.lookup ?_)
  rw [if_neg (by simp)]
  refine wpAny_bind (wpAny_of_eq (a := c) rfl ?_)
  rw [if_neg (by simp; omega)]
  refine wpAny_bind (wpAny_pure ?_)
  refine wpAny_bind (wpAny_of_eq (a := b) rfl ?_)
  have hw : Builtin.Bytes.window b.size none none = (0, (b.size : Int)) := by
    have : ¬ ((b.size : Int) < 0) := by omega
    simp [Builtin.Bytes.window, this]
  rw [hw]
  dsimp only
  rw [if_neg (by simp; omega)]
  refine wpAny_pure ?_
  show wpAny M A (match Builtin.Bytes.find? b #[c.toNat.toUInt8] (0 : Int).toNat (b.size : Int).toNat with | some i => retInt i | none => _) _ E s
  rw [show (0 : Int).toNat = 0 from rfl, Int.toNat_natCast, hf]
  exact wpAny_bind (wpAny_mkInt (wpAny_pure ⟨_, rfl, hq⟩))
section
variable {prog : Program} {w : World} {A : Around} {E : Value → Shared → Prop} {s : Shared}
theorem r_bindex {b : Array UInt8} {c : Int} {t u : Tok} {Q : Value → Shared → Prop} (i : Nat) (h0 : 0 ≤ c) (h1 : c < 256) (hb : 1 ≤ b.size) (hf : Builtin.Bytes.find? b #[c.toNat.toUInt8] 0 b.size = some i)
    (h : ∀ t' tk, Q (.int i t') { s with toks := tk }) : wpAny (model prog w) A (call (.builtin "bytes.index") [.bytes b t, .int c u]) Q E s :=
  call_gives slot_bytes_index (typeIs_bytes _ _ _) entry_bytes_index (args_bytes_index_2 _ _) (gives_bytes_index b c t u i h0 h1 hb hf) (h _ _)
theorem r_bmeth {b : Array UInt8} {t : Tok} {name : Str} {id : String} {pl : Sem Bool} {Q : Value × List Value → Shared → Prop} (slot : Slot "bytes" name id)
    (hty : typeOf (.builtin id) = pure (.type "method_descriptor")) (h : Q (.builtin id, [.bytes b t]) s) : wpAny (model prog w) A (getMethod (.bytes b t) name pl) Q E s :=
  getMethod_builtin (typeIs_bytes _ _ _) FB.plainAttrs_bytes slot hty (fun _ e => nomatch e) h
variable {B : Heap} {L l : Addr} {m : Str → Option Value} {R : Ledger} {fz : Bool} {vs us : List Value} {e : Nat}
theorem r_range1 {n : Int} {t : Tok} {Q : Value → Shared → Prop} (F : Fr B L s.heap m) (N : Led B L s.heap R)
    (h : ∀ r h' tk u v, IsRange h' r 0 n 1 u t v → Fr B L h' m → Led B L h' R → Q (.ref r) { s with heap := h', toks := tk }) : wpAny (model prog w) A (call (.type "range") [.int n t]) Q E s :=
  call_range_1 (h _ _ _ _ _ (IsRange.new ..) (F.push _) (N.ext fun _ _ e => Heap.get?_push_of_some _ e))
theorem r_range2 {a b : Int} {t u : Tok} {Q : Value → Shared → Prop} (F : Fr B L s.heap m) (N : Led B L s.heap R)
    (h : ∀ r h' tk v, IsRange h' r a b 1 t u v → Fr B L h' m → Led B L h' R → Q (.ref r) { s with heap := h', toks := tk }) : wpAny (model prog w) A (call (.type "range") [.int a t, .int b u]) Q E s :=
  call_range_2 (h _ _ _ _ (IsRange.new ..) (F.push _) (N.ext fun _ _ e => Heap.get?_push_of_some _ e))
theorem r_sum {ns : List Int} {Q : Value → Shared → Prop} (hh : A.handled = none) (F : Fr B L s.heap m) (N : Led B L s.heap R) (hl : R l = some (ListC fz vs e)) (hi : IntsAre vs ns)
    (h : ∀ h' tk t', Fr B L h' m → Led B L h' R → Q (.int ns.sum t') { s with heap := h', toks := tk }) : wpAny (model prog w) A (call (.builtin "sum") [.ref l]) Q E s := by
  obtain ⟨xs, hx⟩ := hi.allInts.items
  have hl' : s.heap.IsList l (intItems xs) := hx ▸ N.isList hl
  refine sum_intListG hh hl' fun h' tk t' hk => ?_
  have e1 : ns = xs.toList.map (·.1) := by
    rw [← nums_intItems, ← hx]
    exact (show numsOf vs.toArray.toList = ns from hi.numsOf).symm
  have e2 : preSum (numAt xs) xs.size = ns.sum := by
    rw [preSum_eq, List.take_of_length_le (by simp), e1]
  rw [e2]
  exact h h' tk t' (F.keeps hk) (N.ext hk)
theorem r_notIn {x : Value} {Q : Value → Shared → Prop} (p : Value → Bool) (N : Led B L s.heap R) (hl : R l = some (ListC fz vs e)) (he : ∀ y ∈ vs, SeqAt.EqAt A.in1 s y x (p y))
    (h : Q (.bool (!vs.any p)) s) : wpAny (model prog w) A (compareOp .NotIn x (.ref l)) Q E s :=
  SeqAt.notIn_listAt p (N.isList hl) (fun y hy => he y (by simpa using hy)) (by simpa using h)
theorem Led.newAt {B : Heap} {L a : Addr} {h h' : Heap} {R : Ledger} {news : List (Addr × Obj)} {o : Obj} (fz : Bool) (N : Led B L h R) (nb : ∀ h', News B L h' news → Led B L h' R) (N' : News B L h' ((a, o) :: news))
    (hp : o.dict = none ∧ o.slots = #[] := by exact ⟨rfl, rfl⟩) : Led B L h' (upd R a ⟨fz, false, o.cls, o.data⟩) := fun b x e' => by
  by_cases q : b = a
  · subst q; rw [upd_self] at e'; cases e'
    have := N' _ (List.mem_cons_self ..)
    exact ⟨⟨_, this.1, rfl, rfl, fun _ => hp⟩, this.2⟩
  · rw [upd_ne q] at e'
    exact nb _ (fun p hp => N' p (List.mem_cons_of_mem _ hp)) b x e'
theorem r_sorted {ns : List Int} {Q : Value → Shared → Prop} (F : Fr B L s.heap m) (N : Led B L s.heap R) (hl : R l = some (ListC fz vs e)) (hi : IntsAre vs ns) (hlen : vs.length < 64)
    (h : ∀ h' q vs' ns' e', Fr B L h' m → R q = none → Led B L h' (upd R q (ListC true vs' e')) → IntsAre vs' ns' → ns'.Perm ns → ns'.Pairwise (· ≤ ·) → Q (.ref q) { s with heap := h' }) :
    wpAny (model prog w) A (call (.builtin "sorted") [.ref l]) Q E s := by
  obtain ⟨news, N1, nb⟩ := N.toNews
  exact sorted_N F N1 (N.isList hl) hi hlen fun h' vs' ns' e' F' N' hi' hp hs => h h' _ vs' ns' e' F' (N.none_of_ge (Nat.le_succ _)) (N.newAt true nb N') hi' hp hs
theorem r_mul {x : Int} {u : Tok} {v : Value} {Q : Value → Shared → Prop} (F : Fr B L s.heap m) (N : Led B L s.heap R) (hl : R l = some (ListC fz [v] e)) (h0 : -1000 ≤ x) (h1 : x ≤ 1000)
    (h : ∀ h' q, Fr B L h' m → R q = none → Led B L h' (upd R q (ListC true (List.replicate x.toNat v) 0)) → Q (.ref q) { s with heap := h' }) :
    wpAny (model prog w) A (binaryOp .Mult (.ref l) (.int x u)) Q E s := by
  obtain ⟨news, N1, nb⟩ := N.toNews
  refine mul_list F N1 (N.isL hl) (by omega) (by omega) (by simp; omega) fun h' F' N' => ?_
  have := h h' _ F' (N.none_of_ge (Nat.le_refl _)) (by
    have := N.newAt true nb N'
    have e0 : (List.replicate (if [v].toArray.isEmpty = true then 0 else x.toNat) [v].toArray).foldl (fun x1 x2 => x1 ++ x2) #[] = (List.replicate x.toNat v).toArray := by
      have : ∀ (n : Nat) (acc : Array Value), (List.replicate n #[v]).foldl (fun x1 x2 => x1 ++ x2) acc = acc ++ (List.replicate n v).toArray := by
        intro n
        induction n with
        | zero => intro acc; simp
        | succ n ih => intro acc; rw [List.replicate_succ, List.foldl_cons, ih, List.replicate_succ]; apply Array.toList_inj.mp; simp
      simpa using this x.toNat #[]
    rw [e0] at this
    exact this)
  exact this
end
end Mine
end
section
open PySem PySem.W PyProof.Rows
namespace Mine
local macro_rules | `(tactic| walk_at "mine") => `(tactic| first
  | with_reducible refine wpAny_execs_cons ?_
  | with_reducible refine wpAny_execs_nil ?_
  | ((with_reducible refine wpAny_Assign_Name ?_ ?_); rotate_left; (with_unfolding_all rfl))
  | with_reducible refine wpAny_Return_some ?_
  | with_reducible refine wpAny_BinOp ?_
  | with_reducible refine Subscript_ ?_
  | with_reducible refine wpAny_Slice ?_
  | with_reducible refine evalPart_none_step ?_
  | with_reducible refine evalPart_some_step ?_
  | with_reducible refine wpAny_Constant_int ?_
  | with_reducible refine Constant_bytes ?_
  | ((with_reducible refine' MethodCall_ ?_ ?he); (case he => (with_unfolding_all rfl)))
  | ((with_reducible refine Call_ ?_ ?_); rotate_left; (with_unfolding_all rfl))
  | ((with_reducible refine PyProof.Rows.callWith_builtin1 ?_ ?_ ?_); rotate_left; (with_unfolding_all rfl); (with_unfolding_all rfl))
  | ((with_reducible refine PyProof.Rows.callWith_type1 ?_ ?_ ?_); rotate_left; (with_unfolding_all rfl); (with_unfolding_all rfl))
  | with_reducible refine PyProof.Rows.callWith_method0 ?_
  | ((with_reducible refine PyProof.Rows.callWith_method1 ?_ ?_ ?_); rotate_left; (with_unfolding_all rfl); (with_unfolding_all rfl))
  | ((with_reducible refine' r_callWith ?D ?_ ?he); (case D => assumption); (case he => (with_unfolding_all rfl)))
  | ((with_reducible refine PyProof.Rows.spliced_more ?_ ?_); rotate_left; (with_unfolding_all rfl))
  | with_reducible refine PyProof.Rows.spliced_none ?_
  | ((with_reducible refine' r_ld ?V ?F ?hk ?hl ?hv ?hd ?_); (case V => assumption); (case F => assumption); (case hk => rfl); (case hl => rfl); (case hv => first | rfl | assumption); (case hd => decide))
  | ((with_reducible refine' r_ldn ?V ?F ?hk ?hl ?hv ?_); (case V => assumption); (case F => assumption); (case hk => rfl); (case hl => rfl); (case hv => first | rfl | assumption))
  | ((with_reducible refine' r_ldc ?V ?N ?hk ?hl ?hc ?hv ?hd ?_); (case V => assumption); (case N => assumption); (case hk => rfl); (case hl => rfl); (case hc => rfl); (case hv => assumption); (case hd => decide))
  | ((with_reducible refine' r_ldcn ?V ?N ?hk ?hl ?hc ?hv ?_); (case V => assumption); (case N => assumption); (case hk => rfl); (case hl => rfl); (case hc => rfl); (case hv => assumption))
  | ((with_reducible refine' r_blt ?V ?F ?G ?hk ?hl ?hv ?hx ?hd ?_); (case V => assumption); (case F => assumption); (case G => assumption); (case hk => rfl); (case hl => rfl); (case hv => first | exact bb_len | exact bb_int | exact bb_abs | exact bb_divmod | exact bb_IndexError | exact bb_ValueError | exact bb_sum | exact bb_range | exact bb_sorted); (case hx => decide); (case hd => decide))
  | ((with_reducible refine' r_fn _ ?V ?F ?G ?hk ?hl ?hi ?hx ?hd ?_); (case V => assumption); (case F => assumption); (case G => assumption); (case hk => rfl); (case hl => rfl); (case hx => first | exact nm1 | exact nm3 | exact nm4 | exact nm5 | exact nm6 | exact nm7 | exact nm9 | exact nm10 | exact nm11 | exact nm13 | exact nm14 | exact nm15 | exact nm16 | exact nm17 | exact nm18 ); (case hi => decide); (case hd => decide); intro fa' code' D')
  | ((with_reducible refine' r_st ?V ?F ?N ?hk ?hl ?_); (case V => assumption); (case F => assumption); (case N => assumption); (case hk => rfl); (case hl => rfl); intro h' tk' F' N')
  | ((with_reducible refine' r_stc ?V ?F ?N ?hk ?hl ?hc ?hv ?_); (case V => assumption); (case F => assumption); (case N => assumption); (case hk => rfl); (case hl => rfl); (case hc => rfl); (case hv => assumption); intro h' F' N')
  | ((with_reducible refine' r_range1 ?F ?N ?_); (case F => assumption); (case N => assumption); intro r' h' tk' u' v' hr' F' N')
  | ((with_reducible refine' r_range2 ?F ?N ?_); (case F => assumption); (case N => assumption); intro r' h' tk' v' hr' F' N')
  | ((with_reducible refine Assign_Tuple ?_ ?_ ?_); rotate_left; (with_unfolding_all rfl); (with_unfolding_all rfl))
  | ((with_reducible refine wpAny_Assign_Subscript ?_ ?_); rotate_left; (with_unfolding_all rfl))
  | ((with_reducible refine' wpAny_Expr ?_ ?hi ?hs); (case hi => exact EnvIs.inter (by assumption) rfl); (case hs => (with_unfolding_all rfl)))
  | with_reducible refine wpAny_AugAssign_Name ?_
  | ((with_reducible refine wpAny_Assign_two ?_ ?_ ?_); rotate_left; (with_unfolding_all rfl); (with_unfolding_all rfl))
  | ((with_reducible show wpAny _ _ (isTrue (PySem.Expr.Constant _ _ _) _ _) _ _ _); (refine isTrue_plain ?_))
  | with_reducible refine Constant_bool ?_
  | with_reducible refine wpAny_Break ?_
  | with_reducible refine wpAny_Continue ?_
  | with_reducible refine isTrue_not ?_
  | with_reducible refine isTrue_and ?_
  | with_reducible refine isTrue_and_nil ?_
  | with_reducible refine isTrue_or ?_
  | with_reducible refine isTrue_or_nil ?_
  | with_reducible refine UnaryOp_ ?_
  | with_reducible refine PyProof.Rows.neg_int ?_
  | ((with_reducible refine mul_int ?_ ?_); rotate_left; (exact IntMulOk.of_left (by decide)))
  | ((with_reducible refine wpAny_isTrue_Compare1 ?_ ?_); rotate_left; (with_unfolding_all rfl))
  | ((with_reducible refine wpAny_Compare1 ?_ ?_); rotate_left; (with_unfolding_all rfl))
  | ((with_reducible show wpAny _ _ (isTrue (PySem.Expr.Name _ _) _ _) _ _ _); (refine isTrue_plain ?_))
  | ((with_reducible refine' r_len ?N ?hl ?hsz ?_); (case N => assumption); (case hl => assumption); (case hsz => (try simp only [List.length_map, List.length_append, List.length_set, List.length_cons, List.length_nil]); omega); intro t' tk')
  | with_reducible refine List_ ?_
  | with_reducible refine Tuple_ ?_
  | with_reducible refine IfExp_ ?_
  | with_reducible refine PyProof.Rows.assign_Name ?_
  | with_reducible refine bindName_ ?_
  | with_reducible refine wpAny_truthy_bool ?_
  | with_reducible refine PyProof.Rows.truthy_int ?_
  | with_reducible refine add_int ?_
  | with_reducible refine sub_int ?_
  | with_reducible refine lt_int ?_
  | with_reducible refine gt_int ?_
  | with_reducible refine eq_int ?_
  | with_reducible refine iadd_int ?_
  | with_reducible refine call_int_int ?_
  | ((with_reducible refine call_abs_int ?_); intro t' tk')
  | ((with_reducible show wpAny _ _ (assignInOrder _ (_ :: _)) _ _ _); (with_unfolding_all refine wpAny_assignInOrder_more ?_))
  | ((with_reducible show wpAny _ _ (assignInOrder _ []) _ _ _); (with_unfolding_all refine wpAny_assignInOrder_none ?_))
  | ((with_reducible refine And.intro ?hF ?_); (case hF => exact ⟨_, _, by assumption⟩))
  | with_reducible refine ite_t ?_
  | with_reducible refine ite_f ?_
  | fail "mine: no step")
local macro_rules | `(tactic| walk_at "go") => `(tactic| repeat (first | walk_at "mine" | (with_reducible refine wpAny_If ?_) | dsimp only))
local macro_rules | `(tactic| walk_at "goI") => `(tactic| repeat (first | walk_at "mine" | dsimp only))
section
section
variable {prog : Program} {w : World} {A : Around} {E : Value → Shared → Prop} {s : Shared} {B : Heap} {L : Addr} {m mg mb : Str → Option Value} {R : Ledger}
def APl : List UInt8 := [65, 66, 67, 68, 69, 70, 71, 72, 73, 74, 75, 76, 77, 78, 79, 80]
theorem ap_whole : ∀ q : Fin 16, KBy.whole APl.toArray (some ((q.val : Nat) : Int)) (some (((q.val : Nat) : Int) + 1)) = false := by decide +kernel
theorem ap_picked : ∀ q : Fin 16, KBy.picked APl.toArray (some ((q.val : Nat) : Int)) (some (((q.val : Nat) : Int) + 1)) = #[UInt8.ofNat (65 + q.val)] := by decide +kernel
theorem noPy {a b : Int} (hb : (if b == 0 then 0 else b.natAbs.log2 / 30 + 1) ≤ 300) : Builtin.divisionGoesByPylong a b = false := by
  unfold Builtin.divisionGoesByPylong
  simp only [Bool.and_eq_false_iff, decide_eq_false_iff_not]
  left; omega
set_option maxRecDepth 10000 in
set_option maxHeartbeats 4000000 in
theorem int2AP {fa : Addr} {code : Value} {n : Int} {t : Tok} {Q : Value → Shared → Prop} (F : Fr B L s.heap m) (N : Led B L s.heap R) (G : Gl B mg mb) (D : FnAt B (fn 1) fa code)
    (hh : A.handled = none) (hroom : A.depth < recursionLimit) (hn : n.natAbs < 2 ^ 40)
    (h : ∀ h' tk t', Fr B L h' m → Led B L h' R → Q (.bytes (enc n.natAbs).toArray t') { s with heap := h', toks := tk }) : wpAny (model prog w) A (call (.ref fa) [.int n t]) Q E s := by
  obtain ⟨d, hd⟩ : ∃ d, d = fn 1 := ⟨_, rfl⟩
  rw [← hd] at D
  conv at hd => rhs; whnf
  subst hd
  refine r_call ["num"] F N G.lim D (by decide +kernel) hroom (fun _ _ => by rfl) ?_
  intro env L' h₁ c tk₁ V hfr hc hRL hle F₁ N₁
  clear D F N
  dsimp only
  walk_at "go"
  refine r_while (fun k m₁ R₁ => ∃ (x : Nat) (val : List UInt8), k = x ∧ HasI m₁ "num" x ∧ HasB m₁ "val" val ∧ HasB m₁ "AP" APl ∧
    enc x ++ val = enc n.natAbs ∧ x ≤ n.natAbs ∧ Grow (upd R L c) R₁) n.natAbs (by assumption) (by assumption) ?_ PassesOwn.never ?_
  · exact ⟨n.natAbs, [], rfl, HasI.of rfl (by split <;> omega), ⟨_, rfl⟩, ⟨_, rfl⟩, by simp, Nat.le_refl _, Grow.refl _⟩
  rintro k m₁ R₁ h₂ tk₂ F₂ N₂ ⟨x, val, rfl, ⟨t1, e1⟩, ⟨t2, e2⟩, ⟨t3, e3⟩, e4, e5, g₁⟩
  walk_at "go"
  split
  · rename_i hb
    have hx : k ≠ 0 := by intro q; subst q; simp at hb
    walk_at "go"
    refine r_divmod (by assumption) (by assumption) (by decide) (noPy (by decide)) ?_
    intro h₃ a₃ t31 t32 tk₃ F₃ hR₃ N₃
    dsimp only
    refine r_unpack F₃ N₃ upd_self hh ?_
    intro h₄ F₄ N₄
    walk_at "go"
    have hdiv : (k : Int).fdiv 16 = ((k / 16 : Nat) : Int) := by
      rw [Int.fdiv_eq_ediv_of_nonneg _ (by decide)]; omega
    have hmod : (k : Int).fmod 16 = ((k % 16 : Nat) : Int) := by
      rw [Int.fmod_eq_emod_of_nonneg _ (by decide)]; omega
    rw [hmod]
    refine r_bslice #[UInt8.ofNat (65 + k % 16)] (by assumption) (by assumption) ?_ ?_ (by simp) (by with_unfolding_all rfl) (by intro r; with_unfolding_all rfl) ?_
    · exact ap_whole ⟨k % 16, Nat.mod_lt _ (by decide)⟩
    · exact ap_picked ⟨k % 16, Nat.mod_lt _ (by decide)⟩
    intro h₅ t₅ tk₅ F₅ N₅
    walk_at "go"
    have hlen : (enc n.natAbs).length ≤ 10 := enc_len_le 10 _ (by omega)
    have hlen2 : val.length ≤ 10 := by rw [← e4, List.length_append] at hlen; omega
    refine KBy.add_bytes (by simp; omega) ?_
    intro t₆ tk₆
    walk_at "go"
    refine ⟨_, _, _, _, k / 16, rfl, by assumption, by assumption, by omega, k / 16, UInt8.ofNat (65 + k % 16) :: val, rfl, HasI.of rfl hdiv, HasB.of (j := UInt8.ofNat (65 + k % 16) :: val) (by simp; rfl) rfl, ?_, ?_, by omega, ?_⟩
    · exact ⟨t3, e3⟩
    · rw [← e4, enc_pos hx]; simp
    · exact g₁.trans (Grow.new hR₃)
  · rename_i hb
    have hx : k = 0 := by simpa using hb
    subst hx
    walk_at "go"
    obtain ⟨f1, f2, f3, f4⟩ := back F₂ N₂ g₁ hc hRL hle
    rw [enc_zero, List.nil_append] at e4
    rw [e4]
    exact h _ _ _ f1 (f2.mono f3)
end
end
section
section
variable {prog : Program} {w : World} {A : Around} {E : Value → Shared → Prop} {s : Shared} {B : Heap} {L l : Addr} {m mg mb : Str → Option Value} {R : Ledger} {v u : Value} {a b e : Nat}
theorem r_lt {Q : Value → Shared → Prop} (N : Led B L s.heap R) (hu : A.units < cLine) (hv : IsItem R v a) (hw : IsItem R u b) (h : Q (.bool (decide (a < b))) s) :
    wpAny (model prog w) A (compareOp .Lt v u) Q E s := CmpAt.lt_items N hu hv hw prog w E Q h
theorem r_gt {Q : Value → Shared → Prop} (N : Led B L s.heap R) (hu : A.units < cLine) (hv : IsItem R v a) (hw : IsItem R u b) (h : Q (.bool (decide (b < a))) s) :
    wpAny (model prog w) A (compareOp .Gt v u) Q E s := CmpAt.gt_items N hu hv hw prog w E Q h
theorem r_eq {Q : Value → Shared → Prop} (N : Led B L s.heap R) (hu : A.units < cLine) (hv : IsItem R v a) (hw : IsItem R u b) (h : Q (.bool (a == b)) s) :
    wpAny (model prog w) A (compareOp .Eq v u) Q E s := RcAt.items N hu hv hw prog w E Q h
theorem get_fst {ps : List (Value × Nat)} {i : Nat} {p : Value × Nat} (h : ps[i]? = some p) : (ps.map Prod.fst)[i]? = some p.1 := by simp [h]
set_option maxRecDepth 10000 in
set_option maxHeartbeats 4000000 in
theorem siftdown {fa : Addr} {code : Value} {ps : List (Value × Nat)} {pos : Nat} {t0 t1 : Tok} {Q : Value → Shared → Prop} (F : Fr B L s.heap m) (N : Led B L s.heap R) (G : Gl B mg mb) (D : FnAt B (fn 6) fa code)
    (hh : A.handled = none) (hroom : A.depth < recursionLimit) (hu : A.units + 100 < cLine) (hl : R l = some (ListC false (ps.map Prod.fst) e)) (hit : ∀ p ∈ ps, IsItem R p.1 p.2) (hlen : ps.length ≤ 1000)
    (hp : pos < ps.length) (h1 : J1 (K ps) ps.length pos) (h2 : J2 (K ps) ps.length pos (K ps pos)) (h3 : J3 (K ps) ps.length pos)
    (h : ∀ ps' e' h' tk, ps'.Perm ps → Hp (K ps') ps'.length → Fr B L h' m → Led B L h' (upd R l (ListC false (ps'.map Prod.fst) e')) → Q .none { s with heap := h', toks := tk }) :
    wpAny (model prog w) A (call (.ref fa) [.ref l, .int 0 t0, .int pos t1]) Q E s := by
  obtain ⟨d, hd⟩ : ∃ d, d = fn 6 := ⟨_, rfl⟩
  rw [← hd] at D
  conv at hd => rhs; whnf
  subst hd
  refine r_call ["heap", "startpos", "pos"] F N G.lim D (by decide +kernel) hroom (fun _ _ => by rfl) ?_
  intro env L' h₁ c tk₁ V hfr hc hRL hle F₁ N₁
  clear D F N
  dsimp only
  have hlL : upd R L c l = some (ListC false (ps.map Prod.fst) e) := upd_new hRL hl
  obtain ⟨x, hx⟩ : ∃ x, ps[pos]? = some x := ⟨ps[pos], List.getElem?_eq_getElem hp⟩
  have hu' : (A.deeper env).units < cLine := by rw [Around.deeper_units]; omega
  walk_at "go"
  refine r_get N₁ hlL rfl (by omega) (get_fst hx) ?_
  walk_at "go"
  have hxi : IsItem R x.1 x.2 := hit _ (List.mem_of_getElem? hx)
  refine wpAny_mono (r_while (Q := fun f s' => f = .next ∧ ∃ h₂ tk₂ m₁ R₁ qs e' p, s' = { s with heap := h₂, toks := tk₂ } ∧ Fr B L' h₂ m₁ ∧ Led B L' h₂ R₁ ∧ HasI m₁ "pos" (p : Nat) ∧ m₁ "heap" = some (.ref l) ∧ m₁ "newitem" = some x.1 ∧
      (qs.set p x).Perm ps ∧ p < qs.length ∧ Hp (fu (K qs) p x.2) qs.length ∧ qs.length = ps.length ∧ Grow (upd (upd R L c) l (ListC false (qs.map Prod.fst) e')) R₁)
    (fun k m₁ R₁ => ∃ (p : Nat) (qs : List (Value × Nat)) (e' : Nat), k = p ∧ HasI m₁ "pos" p ∧ HasI m₁ "startpos" 0 ∧ m₁ "heap" = some (.ref l) ∧ m₁ "newitem" = some x.1 ∧
      (qs.set p x).Perm ps ∧ p < qs.length ∧ qs.length = ps.length ∧ J1 (K qs) qs.length p ∧ J2 (K qs) qs.length p x.2 ∧ J3 (K qs) qs.length p ∧ (∀ q ∈ qs, IsItem R q.1 q.2) ∧
      Grow (upd (upd R L c) l (ListC false (qs.map Prod.fst) e')) R₁) pos (by assumption) (by assumption) ?_ PassesOwn.never ?_) (fun f s' hf => ?_) (fun _ _ x => x)
  · refine ⟨pos, ps, e, rfl, ⟨_, rfl⟩, ⟨_, rfl⟩, rfl, rfl, by rw [set_self hx], hp, rfl, h1, by rw [← K_get hx]; exact h2, h3, hit, fun a q hq => ?_⟩
    unfold upd at hq
    split at hq
    · rename_i e1; subst e1; cases hq; exact hlL
    · exact hq
  · rintro k m₁ R₁ h₂ tk₂ F₂ N₂ ⟨p, qs, e', rfl, ⟨ta, e1⟩, ⟨tb, e2⟩, e3, e4, q1, q2, q3, j1, j2, j3, qi, g⟩
    have hl₁ : R₁ l = some (ListC false (qs.map Prod.fst) e') := g _ _ upd_self
    have fz : FzLe R R₁ := ((Grow.new hRL).fz.trans (FzLe.mut hlL rfl)).trans g.fz
    walk_at "go"
    split
    · rename_i hb
      have hk : 0 < k := by simpa using hb
      have hpk := par_lt hk
      obtain ⟨q, hq⟩ : ∃ q, qs[par k]? = some q := ⟨qs[par k], List.getElem?_eq_getElem (by omega)⟩
      walk_at "go"
      refine wpAny_rshift1_int (by omega) ?_
      walk_at "go"
      refine r_get (by assumption) hl₁ (show ((k : Int) - 1) / 2 = ((par k : Nat) : Int) by unfold par; omega) (by omega) (get_fst hq) ?_
      walk_at "go"
      refine r_lt (by assumption) hu' (hxi.mono fz) ((qi _ (List.mem_of_getElem? hq)).mono fz) ?_
      walk_at "go"
      split
      · rename_i hlt
        have hlt : x.2 < q.2 := by simpa using hlt
        walk_at "go"
        refine r_set (by assumption) (by assumption) hl₁ rfl (by simpa using q2) (by simp; omega) ?_
        intro h₃ e₃ F₃ N₃
        walk_at "go"
        rw [← K_get hq] at hlt
        obtain ⟨s1, s2, s3⟩ := sd_step j1 j2 j3 hk q2 hlt
        rename Fr _ _ _ _ => Fx
        rename Led _ _ _ _ => Nx
        refine ⟨_, _, _, _, par k, rfl, Fx, Nx, hpk, par k, qs.set k q, e₃, rfl, HasI.of rfl (by unfold par; omega), ⟨tb, e2⟩, e3, e4, ?_, by simp; omega, by simp [q3], ?_, ?_, ?_, ?_, ?_⟩
        · exact (set_perm q2 hq (by omega)).trans q1
        · rw [K_set q2, List.length_set, ← K_get hq]; exact s1
        · rw [K_set q2, List.length_set, ← K_get hq]; exact s2
        · rw [K_set q2, List.length_set, ← K_get hq]; exact s3
        · intro y hy
          rcases List.mem_or_eq_of_mem_set hy with hy | rfl
          · exact qi y hy
          · exact qi _ (List.mem_of_getElem? hq)
        · rw [List.map_set]
          exact grow_over g
      · rename_i hlt
        have hlt : ¬ x.2 < q.2 := by simpa using hlt
        walk_at "go"
        rename Fr _ _ _ _ => Fx
        rename Led _ _ _ _ => Nx
        refine ⟨rfl, _, _, _, _, qs, e', k, rfl, Fx, Nx, ⟨ta, e1⟩, e3, e4, q1, q2, sd_end j1 j2 (.inr (by rw [K_get hq]; omega)), q3, g⟩
    · rename_i hb
      have hk : k = 0 := by simpa using hb
      exact ⟨rfl, _, _, _, _, qs, e', k, rfl, F₂, N₂, ⟨ta, e1⟩, e3, e4, q1, q2, sd_end j1 j2 (.inl hk), q3, g⟩
  · obtain ⟨rfl, h₂, tk₂, m₁, R₁, qs, e', p, rfl, F₂, N₂, ⟨ta, e1⟩, e3, e4, q1, q2, hH, q3, g⟩ := hf
    have hl₁ : R₁ l = some (ListC false (qs.map Prod.fst) e') := g _ _ upd_self
    walk_at "go"
    refine r_set (by assumption) (by assumption) hl₁ rfl (by simpa using q2) (by simp; omega) ?_
    intro h₃ e₃ F₃ N₃
    walk_at "go"
    have hne : l ≠ L := ne_of_none hl hRL
    have g' : Grow (upd (upd R l (ListC false ((qs.set p x).map Prod.fst) e₃)) L c) (upd R₁ l (ListC false ((qs.map Prod.fst).set p x.1) e₃)) := by
      rw [upd_comm hne, List.map_set]; exact grow_over g
    obtain ⟨f1, f2, f3, f4⟩ := back F₃ N₃ g' hc (by rw [upd_ne (Ne.symm hne)]; exact hRL) hle
    exact h (qs.set p x) e₃ _ _ q1 (by rw [K_set q2, List.length_set]; exact hH) f1 (f2.mono f3)
end
end
section
section
variable {prog : Program} {w : World} {A : Around} {E : Value → Shared → Prop} {s : Shared} {B : Heap} {L l : Addr} {m mg mb : Str → Option Value} {R : Ledger} {v u : Value} {a b e : Nat}
set_option maxRecDepth 10000 in
set_option maxHeartbeats 4000000 in
theorem siftup {fa : Addr} {code : Value} {ps : List (Value × Nat)} {t0 : Tok} {Q : Value → Shared → Prop} (F : Fr B L s.heap m) (N : Led B L s.heap R) (G : Gl B mg mb) (D : FnAt B (fn 7) fa code)
    (hh : A.handled = none) (hroom : A.depth + 10 < recursionLimit) (hu : A.units + 200 < cLine) (hl : R l = some (ListC false (ps.map Prod.fst) e)) (hit : ∀ p ∈ ps, IsItem R p.1 p.2) (hlen : ps.length ≤ 1000)
    (hp : 0 < ps.length) (h1 : J1 (K ps) ps.length 0)
    (h : ∀ ps' e' h' tk, ps'.Perm ps → Hp (K ps') ps'.length → Fr B L h' m → Led B L h' (upd R l (ListC false (ps'.map Prod.fst) e')) → Q .none { s with heap := h', toks := tk }) :
    wpAny (model prog w) A (call (.ref fa) [.ref l, .int 0 t0]) Q E s := by
  obtain ⟨d, hd⟩ : ∃ d, d = fn 7 := ⟨_, rfl⟩
  rw [← hd] at D
  conv at hd => rhs; whnf
  subst hd
  refine r_call ["heap", "pos"] F N G.lim D (by decide +kernel) (by omega) (fun _ _ => by rfl) ?_
  intro env L' h₁ c tk₁ V hfr hc hRL hle F₁ N₁
  clear D F N
  dsimp only
  have hlL : upd R L c l = some (ListC false (ps.map Prod.fst) e) := upd_new hRL hl
  obtain ⟨x, hx⟩ : ∃ x, ps[0]? = some x := ⟨ps[0], List.getElem?_eq_getElem hp⟩
  have hxi : IsItem R x.1 x.2 := hit _ (List.mem_of_getElem? hx)
  have hu' : (A.deeper env).units < cLine := by rw [Around.deeper_units]; omega
  walk_at "go"
  refine r_get (by assumption) hlL (i := 0) rfl (by omega) (get_fst hx) ?_
  walk_at "go"
  refine wpAny_mono (r_while (Q := fun f s' => f = .next ∧ ∃ h₂ tk₂ m₁ R₁ qs e' p, s' = { s with heap := h₂, toks := tk₂ } ∧ Fr B L' h₂ m₁ ∧ Led B L' h₂ R₁ ∧ HasI m₁ "pos" (p : Nat) ∧ HasI m₁ "startpos" 0 ∧ m₁ "heap" = some (.ref l) ∧ m₁ "newitem" = some x.1 ∧
      (qs.set p x).Perm ps ∧ p < qs.length ∧ qs.length = ps.length ∧ qs.length ≤ 2 * p + 1 ∧ J1 (K qs) qs.length p ∧ J3 (K qs) qs.length p ∧ (∀ q ∈ qs, IsItem R q.1 q.2) ∧ Grow (upd (upd R L c) l (ListC false (qs.map Prod.fst) e')) R₁)
    (fun k m₁ R₁ => ∃ (p : Nat) (qs : List (Value × Nat)) (e' : Nat), k = ps.length - p ∧ HasI m₁ "pos" p ∧ HasI m₁ "childpos" (2 * (p : Int) + 1) ∧ HasI m₁ "endpos" ps.length ∧ HasI m₁ "startpos" 0 ∧ m₁ "heap" = some (.ref l) ∧ m₁ "newitem" = some x.1 ∧
      (qs.set p x).Perm ps ∧ p < qs.length ∧ qs.length = ps.length ∧ J1 (K qs) qs.length p ∧ J3 (K qs) qs.length p ∧ (∀ q ∈ qs, IsItem R q.1 q.2) ∧
      Grow (upd (upd R L c) l (ListC false (qs.map Prod.fst) e')) R₁) ps.length (by assumption) (by assumption) ?_ PassesOwn.never ?_) (fun f s' hf => ?_) (fun _ _ x => x)
  · refine ⟨0, ps, e, rfl, ⟨_, rfl⟩, ⟨_, rfl⟩, HasI.of rfl (by simp), ⟨_, rfl⟩, rfl, rfl, by rw [set_self hx], hp, rfl, h1, fun _ _ _ _ q => by omega, hit, fun a q hq => ?_⟩
    unfold upd at hq
    split at hq
    · rename_i e1; subst e1; cases hq; exact hlL
    · exact hq
  · rintro k m₁ R₁ h₂ tk₂ F₂ N₂ ⟨p, qs, e', rfl, ⟨ta, e1⟩, ⟨tb, e2⟩, ⟨tc, e3⟩, ⟨td, e4⟩, e5, e6, q1, q2, q3, j1, j3, qi, g⟩
    have hl₁ : R₁ l = some (ListC false (qs.map Prod.fst) e') := g _ _ upd_self
    have fz : FzLe R R₁ := ((Grow.new hRL).fz.trans (FzLe.mut hlL rfl)).trans g.fz
    walk_at "go"
    split
    · rename_i hb
      have hb : 2 * (p : Int) + 1 < ps.length := by simpa using hb
      walk_at "goI"
      refine wpAny_mono (Q := fun (f : Flow) s' => f = .next ∧ ∃ h₃ tk₃ m₃ cc, s' = { s with heap := h₃, toks := tk₃ } ∧ Fr B L' h₃ m₃ ∧ Led B L' h₃ R₁ ∧ HasI m₃ "childpos" (cc : Nat) ∧ HasI m₃ "pos" p ∧ HasI m₃ "endpos" ps.length ∧ HasI m₃ "startpos" 0 ∧ m₃ "heap" = some (.ref l) ∧ m₃ "newitem" = some x.1 ∧
        1 ≤ cc ∧ cc < qs.length ∧ par cc = p ∧ ∀ d, 1 ≤ d → d < qs.length → par d = p → K qs cc ≤ K qs d) ?_ (fun f s' hf => ?_) (fun _ _ x => x)
      · obtain ⟨y, hy⟩ : ∃ y, qs[2 * p + 1]? = some y := ⟨qs[2 * p + 1], List.getElem?_eq_getElem (by omega)⟩
        walk_at "go"
        rename Fr _ _ _ _ => Fx
        rename Led _ _ _ _ => Nx
        split
        · rename_i hr
          have hr : 2 * (p : Int) + 1 + 1 < ps.length := by simpa using hr
          obtain ⟨z, hz⟩ : ∃ z, qs[2 * p + 2]? = some z := ⟨qs[2 * p + 2], List.getElem?_eq_getElem (by omega)⟩
          walk_at "go"
          refine r_get (by assumption) hl₁ (i := 2 * p + 1) (by omega) (by omega) (get_fst hy) ?_
          walk_at "go"
          refine r_get (by assumption) hl₁ (i := 2 * p + 2) (by omega) (by omega) (get_fst hz) ?_
          walk_at "go"
          refine r_lt (by assumption) hu' ((qi _ (List.mem_of_getElem? hy)).mono fz) ((qi _ (List.mem_of_getElem? hz)).mono fz) ?_
          walk_at "go"
          have ck : K qs (2 * p + 1) = y.2 := K_get hy
          have cz : K qs (2 * p + 2) = z.2 := K_get hz
          refine ite_nd (fun hlt => ?_) (fun hlt => ?_)
          · walk_at "go"
            rename Fr _ _ _ _ => Fx
            rename Led _ _ _ _ => Nx
            refine ⟨rfl, _, _, _, 2 * p + 1, rfl, Fx, Nx, HasI.of e2 (by omega), ⟨ta, e1⟩, ⟨tc, e3⟩, ⟨td, e4⟩, e5, e6, by omega, by omega, by unfold par; omega, fun d d1 d2 d3 => ?_⟩
            have : d = 2 * p + 1 ∨ d = 2 * p + 2 := by unfold par at d3; omega
            rcases this with rfl | rfl <;> omega
          · walk_at "go"
            rename Fr _ _ _ _ => Fx
            rename Led _ _ _ _ => Nx
            refine ⟨rfl, _, _, _, 2 * p + 2, rfl, Fx, Nx, HasI.of rfl (by omega), ⟨ta, e1⟩, ⟨tc, e3⟩, ⟨td, e4⟩, e5, e6, by omega, by omega, by unfold par; omega, fun d d1 d2 d3 => ?_⟩
            have : d = 2 * p + 1 ∨ d = 2 * p + 2 := by unfold par at d3; omega
            rcases this with rfl | rfl <;> omega
        · rename_i hr
          have hr : ¬ 2 * (p : Int) + 1 + 1 < ps.length := by simpa using hr
          walk_at "go"
          refine ⟨rfl, _, _, _, 2 * p + 1, rfl, Fx, Nx, HasI.of e2 (by omega), ⟨ta, e1⟩, ⟨tc, e3⟩, ⟨td, e4⟩, e5, e6, by omega, by omega, by unfold par; omega, fun d d1 d2 d3 => ?_⟩
          have : d = 2 * p + 1 := by unfold par at d3; omega
          subst this; omega
      · obtain ⟨rfl, h₃, tk₃, m₃, cc, rfl, F₃, N₃, ⟨tb', e2'⟩, ⟨ta', e1'⟩, ⟨tc', e3'⟩, ⟨td', e4'⟩, e5', e6', c1, c2, c3, c4⟩ := hf
        obtain ⟨y, hy⟩ : ∃ y, qs[cc]? = some y := ⟨qs[cc], List.getElem?_eq_getElem c2⟩
        have hlt := par_lt c1
        walk_at "go"
        refine r_get (by assumption) hl₁ (i := cc) rfl (by omega) (get_fst hy) ?_
        walk_at "go"
        refine r_set (by assumption) (by assumption) hl₁ (i := p) rfl (by simpa using q2) (by simp; omega) ?_
        intro h₄ e₄ F₄ N₄
        walk_at "go"
        rename Fr _ _ _ _ => Fx
        rename Led _ _ _ _ => Nx
        obtain ⟨s1, s3⟩ := su_step j1 j3 c1 c3 c4 c2
        refine ⟨_, _, _, _, ps.length - cc, rfl, Fx, Nx, by omega, cc, qs.set p y, e₄, rfl, ⟨_, rfl⟩, ⟨_, rfl⟩, ⟨tc', e3'⟩, ⟨td', e4'⟩, e5', e6', ?_, by simp; omega, by simp [q3], ?_, ?_, ?_, ?_⟩
        · exact (set_perm q2 hy (by omega)).trans q1
        · rw [K_set q2, List.length_set, ← K_get hy]; exact s1
        · rw [K_set q2, List.length_set, ← K_get hy]; exact s3
        · intro w hw
          rcases List.mem_or_eq_of_mem_set hw with hw | rfl
          · exact qi w hw
          · exact qi _ (List.mem_of_getElem? hy)
        · rw [List.map_set]; exact grow_over g
    · rename_i hb
      have hb : ¬ 2 * (p : Int) + 1 < ps.length := by simpa using hb
      exact ⟨rfl, _, _, _, _, qs, e', p, rfl, F₂, N₂, ⟨ta, e1⟩, ⟨td, e4⟩, e5, e6, q1, q2, q3, by omega, j1, j3, qi, g⟩
  · obtain ⟨rfl, h₂, tk₂, m₁, R₁, qs, e', p, rfl, F₂, N₂, ⟨ta, e1⟩, ⟨td, e4⟩, e5, e6, q1, q2, q3, q4, j1, j3, qi, g⟩ := hf
    have hl₁ : R₁ l = some (ListC false (qs.map Prod.fst) e') := g _ _ upd_self
    have fz : FzLe R R₁ := ((Grow.new hRL).fz.trans (FzLe.mut hlL rfl)).trans g.fz
    walk_at "go"
    refine r_set (by assumption) (by assumption) hl₁ (i := p) rfl (by simpa using q2) (by simp; omega) ?_
    intro h₃ e₃ F₃ N₃
    rw [← List.map_set] at N₃
    walk_at "go"
    walk_at "go"
    have hk : K (qs.set p x) p = x.2 := by rw [K_set q2, fu_self]
    refine siftdown (ps := qs.set p x) (by assumption) N₃ G (by assumption) hh (by show A.depth + 1 < _; omega) (by rw [Around.deeper_units]; omega) upd_self ?_ (by simp; omega) (by simpa using q2) ?_ ?_ ?_ ?_
    · intro y hy
      have fz' : FzLe R (upd R₁ l (ListC false ((qs.set p x).map Prod.fst) e₃)) := fz.trans (FzLe.mut hl₁ rfl)
      rcases List.mem_or_eq_of_mem_set hy with hy | rfl
      · exact (qi y hy).mono fz'
      · exact hxi.mono fz'
    · intro i i1 i2 i3 i4
      rw [List.length_set] at i2
      rw [K_set q2, fu_ne i3, fu_ne i4]; exact j1 i i1 i2 i3 i4
    · intro d d1 d2 d3
      rw [List.length_set] at d2
      unfold par at d3; omega
    · intro d d1 d2 d3
      rw [List.length_set] at d2
      unfold par at d3; omega
    intro ps' e' h₅ tk₅ p1 p2 F₅ N₅
    walk_at "go"
    rw [upd_upd] at N₅
    have hne : l ≠ L := ne_of_none hl hRL
    have g' : Grow (upd (upd R l (ListC false (ps'.map Prod.fst) e')) L c) (upd R₁ l (ListC false (ps'.map Prod.fst) e')) := by
      rw [upd_comm hne]; exact grow_over g
    obtain ⟨f1, f2, f3, f4⟩ := back F₅ N₅ g' hc (by rw [upd_ne (Ne.symm hne)]; exact hRL) hle
    exact h ps' e' _ _ (p1.trans q1) p2 f1 (f2.mono f3)
end
end
section
theorem K_snoc {α : Type} {ps : List (α × Nat)} {x : α × Nat} {i : Nat} (h : i < ps.length) : K (ps ++ [x]) i = K ps i := by
  unfold K; rw [List.getElem?_append_left h]
theorem Hp.zero {α : Type} {ps : List (α × Nat)} {v : α × Nat} (h : Hp (K ps) ps.length) (hp : 0 < ps.length) : J1 (K (ps.set 0 v)) (ps.set 0 v).length 0 := by
  intro i i1 i2 i3 i4
  rw [List.length_set] at i2
  rw [K_set hp, fu_ne i3, fu_ne i4]; exact h i i1 i2
theorem Hp.head_min {α : Type} {ps : List (α × Nat)} {x : α × Nat} (h : Hp (K ps) ps.length) (hx : ps[0]? = some x) : ∀ y ∈ ps, x.2 ≤ y.2 := by
  intro y hy
  obtain ⟨i, hi, e⟩ := List.getElem_of_mem hy
  have := h.min i hi
  rw [K_get hx, K_get (List.getElem?_eq_some_iff.mpr ⟨hi, e⟩)] at this
  exact this
section
variable {prog : Program} {w : World} {A : Around} {E : Value → Shared → Prop} {s : Shared} {B : Heap} {L l : Addr} {m mg mb : Str → Option Value} {R : Ledger} {v u : Value} {a b e : Nat}
set_option maxRecDepth 10000 in
set_option maxHeartbeats 4000000 in
theorem heappush {fa : Addr} {code : Value} {ps : List (Value × Nat)} {x : Value × Nat} {Q : Value → Shared → Prop} (F : Fr B L s.heap m) (N : Led B L s.heap R) (G : Gl B mg mb) (D : FnAt B (fn 3) fa code)
    (hh : A.handled = none) (hroom : A.depth + 20 < recursionLimit) (hu : A.units + 300 < cLine) (hl : R l = some (ListC false (ps.map Prod.fst) e)) (hit : ∀ p ∈ ps, IsItem R p.1 p.2) (hx : IsItem R x.1 x.2) (hlen : ps.length ≤ 900)
    (hH : Hp (K ps) ps.length)
    (h : ∀ ps' e' h' tk, ps'.Perm (ps ++ [x]) → Hp (K ps') ps'.length → Fr B L h' m → Led B L h' (upd R l (ListC false (ps'.map Prod.fst) e')) → Q .none { s with heap := h', toks := tk }) :
    wpAny (model prog w) A (call (.ref fa) [.ref l, x.1]) Q E s := by
  obtain ⟨d, hd⟩ : ∃ d, d = fn 3 := ⟨_, rfl⟩
  rw [← hd] at D
  conv at hd => rhs; whnf
  subst hd
  refine r_call ["heap", "item"] F N G.lim D (by decide +kernel) (by omega) (fun _ _ => by rfl) ?_
  intro env L' h₁ c tk₁ V hfr hc hRL hle F₁ N₁
  clear D F N
  dsimp only
  have hlL : upd R L c l = some (ListC false (ps.map Prod.fst) e) := upd_new hRL hl
  have hne : l ≠ L := ne_of_none hl hRL
  walk_at "go"
  refine r_meth (by assumption) hlL PySem.F.slot_list_append PySem.F.type_list_append ?_
  walk_at "go"
  refine r_append (by assumption) (by assumption) hlL (by simp; omega) ?_
  intro h₂ e₂ F₂ N₂
  rw [show ps.map Prod.fst ++ [x.1] = (ps ++ [x]).map Prod.fst by simp] at N₂
  walk_at "go"
  have hl₂ : upd (upd R L c) l (ListC false ((ps ++ [x]).map Prod.fst) e₂) l = some (ListC false ((ps ++ [x]).map Prod.fst) e₂) := upd_self
  walk_at "go"
  have e0 : (((ps ++ [x]).map Prod.fst).length : Int) - 1 = ((ps.length : Nat) : Int) := by simp
  rw [e0]
  refine siftdown (ps := ps ++ [x]) (by assumption) N₂ G (by assumption) hh (by show A.depth + 1 < _; omega) (by rw [Around.deeper_units]; omega) upd_self ?_ (by simp; omega) (by simp) ?_ ?_ ?_ ?_
  · intro y hy
    have fz' : FzLe R (upd (upd R L c) l (ListC false ((ps ++ [x]).map Prod.fst) e₂)) := (Grow.new hRL).fz.trans (FzLe.mut hlL rfl)
    rcases List.mem_append.mp hy with hy | hy
    · exact (hit y hy).mono fz'
    · rw [List.mem_singleton.mp hy]; exact hx.mono fz'
  · intro i i1 i2 i3 i4
    rw [List.length_append, List.length_singleton] at i2
    have := par_lt i1
    rw [K_snoc (by omega), K_snoc (by omega)]; exact hH i i1 (by omega)
  · intro d d1 d2 d3
    rw [List.length_append, List.length_singleton] at d2
    have := par_lt d1; omega
  · intro d d1 d2 d3
    rw [List.length_append, List.length_singleton] at d2
    have := par_lt d1; omega
  intro ps' e' h₅ tk₅ p1 p2 F₅ N₅
  walk_at "go"
  rw [upd_upd, upd_comm (Ne.symm hne)] at N₅
  obtain ⟨f1, f2, f3, f4⟩ := back F₅ N₅ (Grow.refl _) hc (by rw [upd_ne (Ne.symm hne)]; exact hRL) hle
  exact h ps' e' _ _ p1 p2 f1 (f2.mono f3)
set_option maxRecDepth 10000 in
set_option maxHeartbeats 4000000 in
theorem heapreplace {fa : Addr} {code : Value} {ps : List (Value × Nat)} {x y : Value × Nat} {Q : Value → Shared → Prop} (F : Fr B L s.heap m) (N : Led B L s.heap R) (G : Gl B mg mb) (D : FnAt B (fn 5) fa code)
    (hh : A.handled = none) (hroom : A.depth + 20 < recursionLimit) (hu : A.units + 300 < cLine) (hl : R l = some (ListC false (ps.map Prod.fst) e)) (hit : ∀ p ∈ ps, IsItem R p.1 p.2) (hx : IsItem R x.1 x.2) (hlen : ps.length ≤ 900)
    (hy : ps[0]? = some y) (hH : Hp (K ps) ps.length)
    (h : ∀ ps' e' h' tk, (y :: ps').Perm (x :: ps) → Hp (K ps') ps'.length → Fr B L h' m → Led B L h' (upd R l (ListC false (ps'.map Prod.fst) e')) → Q y.1 { s with heap := h', toks := tk }) :
    wpAny (model prog w) A (call (.ref fa) [.ref l, x.1]) Q E s := by
  obtain ⟨d, hd⟩ : ∃ d, d = fn 5 := ⟨_, rfl⟩
  rw [← hd] at D
  conv at hd => rhs; whnf
  subst hd
  refine r_call ["heap", "item"] F N G.lim D (by decide +kernel) (by omega) (fun _ _ => by rfl) ?_
  intro env L' h₁ c tk₁ V hfr hc hRL hle F₁ N₁
  clear D F N
  dsimp only
  have hlL : upd R L c l = some (ListC false (ps.map Prod.fst) e) := upd_new hRL hl
  have hne : l ≠ L := ne_of_none hl hRL
  have hp : 0 < ps.length := (List.getElem?_eq_some_iff.mp hy).1
  walk_at "go"
  refine r_get (by assumption) hlL (i := 0) rfl (by omega) (get_fst hy) ?_
  walk_at "go"
  refine r_set (by assumption) (by assumption) hlL (i := 0) rfl (by simpa using hp) (by simp; omega) ?_
  intro h₂ e₂ F₂ N₂
  rw [← List.map_set] at N₂
  walk_at "go"
  walk_at "go"
  refine siftup (ps := ps.set 0 x) (by assumption) N₂ G (by assumption) hh (by show A.depth + 1 + 10 < _; omega) (by rw [Around.deeper_units]; omega) upd_self ?_ (by simp; omega) (by simpa using hp) (hH.zero hp) ?_
  · intro z hz
    have fz' : FzLe R (upd (upd R L c) l (ListC false ((ps.set 0 x).map Prod.fst) e₂)) := (Grow.new hRL).fz.trans (FzLe.mut hlL rfl)
    rcases List.mem_or_eq_of_mem_set hz with hz | rfl
    · exact (hit z hz).mono fz'
    · exact hx.mono fz'
  intro ps' e' h₅ tk₅ p1 p2 F₅ N₅
  walk_at "go"
  rw [upd_upd, upd_comm (Ne.symm hne)] at N₅
  obtain ⟨f1, f2, f3, f4⟩ := back F₅ N₅ (Grow.refl _) hc (by rw [upd_ne (Ne.symm hne)]; exact hRL) hle
  refine h ps' e' _ _ ?_ p2 f1 (f2.mono f3)
  match ps, hy, p1 with
  | z :: r, hy, p1 =>
    simp at hy; subst hy
    exact ((List.Perm.cons z p1).trans (List.Perm.swap x z r))
end
end
section
section
variable {prog : Program} {w : World} {A : Around} {E : Value → Shared → Prop} {s : Shared} {B : Heap} {L l : Addr} {m mg mb : Str → Option Value} {R : Ledger} {v u : Value} {a b e : Nat}
theorem snoc_of_ne {α : Type} {l : List α} (h : 0 < l.length) : ∃ r x, l = r ++ [x] := ⟨l.dropLast, l.getLast (by intro e; subst e; simp at h), (List.dropLast_concat_getLast _).symm⟩
set_option maxRecDepth 10000 in
set_option maxHeartbeats 4000000 in
theorem heappop {fa : Addr} {code : Value} {ps : List (Value × Nat)} {Q : Value → Shared → Prop} (F : Fr B L s.heap m) (N : Led B L s.heap R) (G : Gl B mg mb) (D : FnAt B (fn 4) fa code)
    (hh : A.handled = none) (hroom : A.depth + 20 < recursionLimit) (hu : A.units + 300 < cLine) (hl : R l = some (ListC false (ps.map Prod.fst) e)) (hit : ∀ p ∈ ps, IsItem R p.1 p.2) (hlen : ps.length ≤ 900)
    (hp : 0 < ps.length) (hH : Hp (K ps) ps.length)
    (h : ∀ y ps' e' h' tk, (y :: ps').Perm ps → (∀ z ∈ ps, y.2 ≤ z.2) → Hp (K ps') ps'.length → Fr B L h' m → Led B L h' (upd R l (ListC false (ps'.map Prod.fst) e')) → Q y.1 { s with heap := h', toks := tk }) :
    wpAny (model prog w) A (call (.ref fa) [.ref l]) Q E s := by
  obtain ⟨d, hd⟩ : ∃ d, d = fn 4 := ⟨_, rfl⟩
  rw [← hd] at D
  conv at hd => rhs; whnf
  subst hd
  refine r_call ["heap"] F N G.lim D (by decide +kernel) (by omega) (fun _ _ => by rfl) ?_
  intro env L' h₁ c tk₁ V hfr hc hRL hle F₁ N₁
  clear D F N
  dsimp only
  obtain ⟨qs, x, rfl⟩ := snoc_of_ne hp
  have hlL : upd R L c l = some (ListC false ((qs ++ [x]).map Prod.fst) e) := upd_new hRL hl
  have hne : l ≠ L := ne_of_none hl hRL
  have hlen' : qs.length + 1 ≤ 900 := by simpa using hlen
  walk_at "go"
  refine r_meth (by assumption) hlL PySem.F.slot_list_pop PySem.F.type_list_pop ?_
  walk_at "go"
  rw [List.map_append] at hlL
  refine r_pop (vs := qs.map Prod.fst) (x := x.1) (by assumption) (by assumption) hlL (by simp; omega) ?_
  intro h₂ e₂ F₂ N₂
  walk_at "go"
  refine r_truthy (by assumption) upd_self (by simp; omega) ?_
  intro tk₃
  have hHq : Hp (K qs) qs.length := by
    intro i i1 i2
    have := par_lt i1
    have h3 := hH i i1 (by simp; omega)
    rw [K_snoc (by omega), K_snoc (by omega)] at h3; exact h3
  cases qs with
  | nil =>
    refine ite_f ?_
    walk_at "go"
    rename Fr _ _ _ _ => Fx
    rename Led _ _ _ _ => Nx
    rw [upd_comm (Ne.symm hne)] at Nx
    obtain ⟨f1, f2, f3, f4⟩ := back Fx Nx (Grow.refl _) hc (by rw [upd_ne (Ne.symm hne)]; exact hRL) hle
    refine h x [] e₂ _ _ (List.Perm.refl _) ?_ hHq f1 (f2.mono f3)
    intro z hz
    have e0 : z = x := by simpa using hz
    rw [e0]; exact Nat.le_refl _
  | cons y r =>
    refine ite_t ?_
    have hy : (y :: r)[0]? = some y := rfl
    have hl₂ : upd (upd R L c) l (ListC false ((y :: r).map Prod.fst) e₂) l = some (ListC false ((y :: r).map Prod.fst) e₂) := upd_self
    walk_at "go"
    refine r_get (by assumption) hl₂ (i := 0) rfl (by omega) (get_fst hy) ?_
    walk_at "go"
    refine r_set (by assumption) (by assumption) hl₂ (i := 0) rfl (by simp) (by simp at *; omega) ?_
    intro h₄ e₄ F₄ N₄
    rw [← List.map_set, upd_upd] at N₄
    walk_at "go"
    walk_at "go"
    refine siftup (ps := (y :: r).set 0 x) (by assumption) N₄ G (by assumption) hh (by show A.depth + 1 + 10 < _; omega) (by rw [Around.deeper_units]; omega) upd_self ?_ (by simp at *; omega) (by simp) (hHq.zero (by simp)) ?_
    · intro z hz
      have fz' : FzLe R (upd (upd R L c) l (ListC false (((y :: r).set 0 x).map Prod.fst) e₄)) := (Grow.new hRL).fz.trans (FzLe.mut (upd_new hRL hl) rfl)
      rcases List.mem_or_eq_of_mem_set hz with hz | rfl
      · exact (hit z (List.mem_append_left _ hz)).mono fz'
      · exact (hit z (List.mem_append_right _ (List.mem_singleton.mpr rfl))).mono fz'
    intro ps' e' h₅ tk₅ p1 p2 F₅ N₅
    walk_at "go"
    rw [upd_upd, upd_comm (Ne.symm hne)] at N₅
    obtain ⟨f1, f2, f3, f4⟩ := back F₅ N₅ (Grow.refl _) hc (by rw [upd_ne (Ne.symm hne)]; exact hRL) hle
    refine h y ps' e' _ _ ?_ (hH.head_min rfl) p2 f1 (f2.mono f3)
    refine List.Perm.cons y (p1.trans ?_)
    show (x :: r).Perm (r ++ [x])
    exact (List.perm_append_comm (l₁ := [x]) (l₂ := r))
end
end
section
def num (x : Int) : Int := x / 4 % 2 ^ 40 - 70000
theorem num_lt (x : Int) : (num x).natAbs < 2 ^ 40 := by
  unfold num
  have h1 := Int.emod_nonneg (x / 4) (show (2 : Int) ^ 40 ≠ 0 by decide)
  have h2 := Int.emod_lt_of_pos (x / 4) (show (0 : Int) < 2 ^ 40 by decide)
  omega
section
variable {prog : Program} {w : World} {A : Around} {E : Value → Shared → Prop} {s : Shared} {B : Heap} {L l : Addr} {m mg mb : Str → Option Value} {R : Ledger} {v u : Value} {a b e : Nat}
set_option maxRecDepth 10000 in
set_option maxHeartbeats 4000000 in
theorem three_way {fa : Addr} {code : Value} {Q : Value → Shared → Prop} (F : Fr B L s.heap m) (N : Led B L s.heap R) (G : Gl B mg mb) (D : FnAt B (fn 11) fa code)
    (hroom : A.depth < recursionLimit) (hu : A.units + 100 < cLine) (hv : IsItem R v a) (hw : IsItem R u b)
    (h : ∀ h' tk t', Fr B L h' m → Led B L h' R → Q (.int (b2i (decide (b < a)) - b2i (decide (a < b))) t') { s with heap := h', toks := tk }) :
    wpAny (model prog w) A (call (.ref fa) [v, u]) Q E s := by
  obtain ⟨d, hd⟩ : ∃ d, d = fn 11 := ⟨_, rfl⟩
  rw [← hd] at D
  conv at hd => rhs; whnf
  subst hd
  refine r_call ["x", "y"] F N G.lim D (by decide +kernel) (by omega) (fun _ _ => by rfl) ?_
  intro env L' h₁ c tk₁ V hfr hc hRL hle F₁ N₁
  clear D F N
  dsimp only
  have fz : FzLe R (upd R L c) := (Grow.new hRL).fz
  have hu' : (A.deeper env).units < cLine := by rw [Around.deeper_units]; omega
  walk_at "go"
  refine r_gt (by assumption) hu' (hv.mono fz) (hw.mono fz) ?_
  walk_at "go"
  refine r_lt (by assumption) hu' (hv.mono fz) (hw.mono fz) ?_
  walk_at "go"
  refine sub_bool ?_
  dsimp only
  obtain ⟨f1, f2, f3, f4⟩ := back F₁ N₁ (Grow.refl _) hc hRL hle
  exact h _ _ _ f1 (f2.mono f3)
set_option maxRecDepth 10000 in
set_option maxHeartbeats 4000000 in
theorem law_number {fa : Addr} {code : Value} {x : Int} {t : Tok} {Q : Value → Shared → Prop} (F : Fr B L s.heap m) (N : Led B L s.heap R) (G : Gl B mg mb) (D : FnAt B (fn 13) fa code)
    (hroom : A.depth < recursionLimit)
    (h : ∀ h' tk t', Fr B L h' m → Led B L h' R → Q (.int (num x) t') { s with heap := h', toks := tk }) :
    wpAny (model prog w) A (call (.ref fa) [.int x t]) Q E s := by
  obtain ⟨d, hd⟩ : ∃ d, d = fn 13 := ⟨_, rfl⟩
  rw [← hd] at D
  conv at hd => rhs; whnf
  subst hd
  refine r_call ["x"] F N G.lim D (by decide +kernel) (by omega) (fun _ _ => by rfl) ?_
  intro env L' h₁ c tk₁ V hfr hc hRL hle F₁ N₁
  clear D F N
  dsimp only
  walk_at "go"
  refine floordiv_int (by decide) ?_ (.inl (noPy (by decide)))
  walk_at "go"
  refine pow_int (by decide) (by decide) ?_
  walk_at "go"
  refine mod_int' (by decide) ?_
  walk_at "go"
  have e0 : (x.fdiv 4).fmod (2 ^ (40 : Int).toNat) - 70000 = num x := by
    unfold num
    rw [Int.fdiv_eq_ediv_of_nonneg _ (by decide), Int.fmod_eq_emod_of_nonneg _ (by decide)]; rfl
  rw [e0]
  obtain ⟨f1, f2, f3, f4⟩ := back F₁ N₁ (Grow.refl _) hc hRL hle
  exact h _ _ _ f1 (f2.mono f3)
set_option maxRecDepth 10000 in
set_option maxHeartbeats 4000000 in
theorem law_item {fa : Addr} {code : Value} {x : Int} {t : Tok} {Q : Value → Shared → Prop} (F : Fr B L s.heap m) (N : Led B L s.heap R) (G : Gl B mg mb) (D : FnAt B (fn 14) fa code)
    (hh : A.handled = none) (hroom : A.depth + 10 < recursionLimit) (hu : A.units + 100 < cLine)
    (h : ∀ h' tk R' v, Grow R R' → IsItem R' v (num x).natAbs → Fr B L h' m → Led B L h' R' → Q v { s with heap := h', toks := tk }) :
    wpAny (model prog w) A (call (.ref fa) [.int x t]) Q E s := by
  obtain ⟨d, hd⟩ : ∃ d, d = fn 14 := ⟨_, rfl⟩
  rw [← hd] at D
  conv at hd => rhs; whnf
  subst hd
  refine r_call ["x"] F N G.lim D (by decide +kernel) (by omega) (fun _ _ => by rfl) ?_
  intro env L' h₁ c tk₁ V hfr hc hRL hle F₁ N₁
  clear D F N
  dsimp only
  have hr : (A.deeper env).depth < recursionLimit := by show A.depth + 1 < _; omega
  walk_at "go"
  refine law_number (by assumption) (by assumption) G (by assumption) hr ?_
  intro h₂ tk₂ t₂ F₂ N₂
  walk_at "go"
  refine int2AP (by assumption) (by assumption) G (by assumption) hh hr (num_lt x) ?_
  intro h₃ tk₃ t₃ F₃ N₃
  walk_at "go"
  have hlen : (enc (num x).natAbs).length ≤ 10 := enc_len_le 10 _ (by have := num_lt x; omega)
  refine len_bytes (by simp; omega) ?_
  walk_at "go"
  refine law_number (by assumption) (by assumption) G (by assumption) hr ?_
  intro h₄ tk₄ t₄ F₄ N₄
  walk_at "go"
  refine int2AP (by assumption) (by assumption) G (by assumption) hh hr (num_lt x) ?_
  intro h₅ tk₅ t₅ F₅ N₅
  walk_at "go"
  refine r_newList true (by assumption) (by assumption) (by simp [sizeLine]) ?_
  intro h₆ n₆ F₆ hn₆ N₆
  walk_at "go"
  have g : Grow (upd R L c) (upd (upd R L c) n₆ (ListC true [.int ((enc (num x).natAbs).toArray.size : Int) (tk₃ + 1), .bytes (enc (num x).natAbs).toArray t₅] 0)) := Grow.new hn₆
  obtain ⟨f1, f2, f3, f4⟩ := back F₆ N₆ g hc hRL hle
  exact h _ _ _ _ f3 (IsItem.mono ⟨n₆, tk₃ + 1, t₅, rfl, by rw [upd_self]; simp⟩ f4) f1 f2
end
end
section
section
variable {prog : Program} {w : World} {A : Around} {E : Value → Shared → Prop} {s : Shared} {B : Heap} {L l : Addr} {m mg mb : Str → Option Value} {R : Ledger} {v u : Value} {a b e : Nat}
def Srt (qs : List (Value × Nat)) : Prop := qs.Pairwise fun x y => x.2 ≤ y.2
set_option maxRecDepth 10000 in
set_option maxHeartbeats 4000000 in
theorem law_listed {fa : Addr} {code : Value} {ps : List (Value × Nat)} {Q : Value → Shared → Prop} (F : Fr B L s.heap m) (N : Led B L s.heap R) (G : Gl B mg mb) (D : FnAt B (fn 15) fa code)
    (hh : A.handled = none) (hroom : A.depth + 30 < recursionLimit) (hu : A.units + 400 < cLine) (hl : R l = some (ListC false (ps.map Prod.fst) e)) (hit : ∀ p ∈ ps, IsItem R p.1 p.2) (hlen : ps.length ≤ 900)
    (hH : Hp (K ps) ps.length)
    (h : ∀ q qs R' h' tk e', qs.Perm ps → Srt qs → Grow R R' → R' q = some (ListC true (qs.map Prod.fst) e') → Fr B L h' m → Led B L h' R' → Q (.ref q) { s with heap := h', toks := tk }) :
    wpAny (model prog w) A (call (.ref fa) [.ref l]) Q E s := by
  obtain ⟨d, hd⟩ : ∃ d, d = fn 15 := ⟨_, rfl⟩
  rw [← hd] at D
  conv at hd => rhs; whnf
  subst hd
  refine r_call ["heap"] F N G.lim D (by decide +kernel) (by omega) (fun _ _ => by rfl) ?_
  intro env L' h₁ c tk₁ V hfr hc hRL hle F₁ N₁
  clear D F N
  dsimp only
  have hlL : upd R L c l = some (ListC false (ps.map Prod.fst) e) := upd_new hRL hl
  have hne : l ≠ L := ne_of_none hl hRL
  have fz₀ : FzLe R (upd R L c) := (Grow.new hRL).fz
  have hu' : (A.deeper env).units < cLine := by rw [Around.deeper_units]; omega
  generalize hR₀ : upd R L c = R₀ at *
  walk_at "go"
  refine Assign_Tuple_swapped (names := ["rest", "listed"]) ?_ rfl (by rw [V.eta]; rfl)
  walk_at "go"
  refine r_slice false (ps.map Prod.fst) (by assumption) (by assumption) hlL .none .none .none (by decide) (pick_all _) (by simp; omega) (by with_unfolding_all rfl) (by intro _; with_unfolding_all rfl) ?_
  intro h₂ r F₂ hr N₂
  walk_at "go"
  refine r_newList true (by assumption) (by assumption) (by simp [sizeLine]) ?_
  intro h₃ q F₃ hq N₃
  walk_at "go"
  refine r_newTuple true (by assumption) (by assumption) (by simp [sizeLine]) ?_
  intro h₄ tp F₄ htp N₄
  dsimp only
  refine r_unpackItems F₄ N₄ upd_self hh rfl ?_
  intro h₅ F₅ N₅
  show wpAny _ _ (assignInOrder [fun v => bindName env "listed" v, fun v => bindName env "rest" v] [.ref q, .ref r]) _ _ _
  walk_at "go"
  rename Fr _ _ _ _ => Fx
  rename Led _ _ _ _ => Nx
  have hrq : r ≠ q := ne_of_none upd_self hq
  have hq₀ : R₀ q = none := by rw [upd_ne (Ne.symm hrq)] at hq; exact hq
  refine r_while (fun k m₁ R₁ => ∃ (qs rs : List (Value × Nat)) (er eq q₁ : Nat), k = rs.length ∧ m₁ "rest" = some (.ref r) ∧ m₁ "listed" = some (.ref q₁) ∧ R₁ r = some (ListC false (rs.map Prod.fst) er) ∧ R₁ q₁ = some (ListC true (qs.map Prod.fst) eq) ∧
    (qs ++ rs).Perm ps ∧ Srt qs ∧ (∀ x ∈ qs, ∀ y ∈ rs, x.2 ≤ y.2) ∧ Hp (K rs) rs.length ∧ Grow R₀ R₁) ps.length Fx Nx ?_ PassesOwn.never ?_
  · refine ⟨[], ps, 0, 0, q, rfl, rfl, rfl, upd_new htp (upd_new hq upd_self), upd_new htp upd_self, List.Perm.refl _, List.Pairwise.nil, fun x hx => by simp at hx, hH, (Grow.new hr).trans ((Grow.new hq).trans (Grow.new htp))⟩
  rintro k m₁ R₁ h₆ tk₆ F₆ N₆ ⟨qs, rs, er, eq, q₁, rfl, e1, e2, e3, e4, p1, p2, p3, p4, g⟩
  have hperm := p1.length_eq
  rw [List.length_append] at hperm
  walk_at "go"
  refine r_newList true (by assumption) (by assumption) (by simp [sizeLine]) ?_
  intro h₇ n₇ F₇ hn₇ N₇
  dsimp only
  refine r_ne_nil N₇ (upd_new hn₇ e3) upd_self hu' ?_
  walk_at "go"
  split
  · rename_i hb
    have hpos : 0 < rs.length := by
      cases rs with
      | nil => simp at hb
      | cons x r => simp
    walk_at "go"
    refine heappop (ps := rs) (by assumption) (by assumption) G (by assumption) hh (by show A.depth + 1 + 20 < _; omega) (by rw [Around.deeper_units]; omega) (upd_new hn₇ e3) ?_ (by omega) hpos p4 ?_
    · intro p hp
      exact (hit p (p1.subset (List.mem_append_right _ hp))).mono (fz₀.trans (g.fz.trans (Grow.new hn₇).fz))
    intro y ps' e' h₈ tk₈ y1 y2 y3 F₈ N₈
    walk_at "go"
    refine r_newList true (by assumption) (by assumption) (by simp [sizeLine]) ?_
    intro h₉ n₉ F₉ hn₉ N₉
    dsimp only
    have hr1 : r ≠ q₁ := fun e => by subst e; rw [e3] at e4; simp at e4
    have l4 : upd (upd (upd R₁ n₇ (ListC true [] 0)) r (ListC false (ps'.map Prod.fst) e')) n₉ (ListC true [y.1] 0) q₁ = some (ListC true (qs.map Prod.fst) eq) :=
      upd_new hn₉ (by rw [upd_ne (Ne.symm hr1)]; exact upd_new hn₇ e4)
    have hlen' : qs.length + 1 ≤ 1000 := by omega
    refine r_add true F₉ N₉ l4 upd_self (by simpa using hlen') ?_
    intro h₁₀ n₁₀ F₁₀ hn₁₀ N₁₀
    walk_at "go"
    rename Fr _ _ _ _ => Fy
    rename Led _ _ _ _ => Ny
    have hyl := y1.length_eq
    simp only [List.length_cons] at hyl
    refine ⟨_, _, _, _, ps'.length, rfl, Fy, Ny, by omega, qs ++ [y], ps', e', 0, n₁₀, rfl, e1, rfl, ?_, ?_, ?_, ?_, ?_, y3, ?_⟩
    · exact upd_new hn₁₀ (upd_new hn₉ upd_self)
    · rw [upd_self]; simp
    · have : (qs ++ [y] ++ ps').Perm (qs ++ rs) := by
        rw [List.append_assoc]; exact List.Perm.append_left qs y1
      exact this.trans p1
    · unfold Srt
      rw [List.pairwise_append]
      refine ⟨p2, List.pairwise_singleton _ _, fun x hx z hz => ?_⟩
      rw [List.mem_singleton.mp hz]
      exact p3 x hx y (y1.subset (List.mem_cons_self ..))
    · intro x hx z hz
      have hz' : z ∈ rs := y1.subset (List.mem_cons_of_mem _ hz)
      rcases List.mem_append.mp hx with hx | hx
      · exact p3 x hx z hz'
      · rw [List.mem_singleton.mp hx]; exact y2 z hz'
    · have g1 : Grow R₀ (upd (upd R₁ n₇ (ListC true [] 0)) r (ListC false (ps'.map Prod.fst) e')) := grow_mut (g.trans (Grow.new hn₇)) hr
      exact (g1.trans (Grow.new hn₉)).trans (Grow.new hn₁₀)
  · rename_i hb
    have hnil : rs = [] := by
      cases rs with
      | nil => rfl
      | cons x r => simp at hb
    subst hnil
    walk_at "go"
    rename Fr _ _ _ _ => Fy
    rename Led _ _ _ _ => Ny
    subst hR₀
    obtain ⟨f1, f2, f3, f4⟩ := back Fy Ny (g.trans (Grow.new hn₇)) hc hRL hle
    refine h q₁ qs _ _ _ eq (by simpa using p1) p2 f3 (f4 _ _ (upd_new hn₇ e4) rfl) f1 f2
end
end
section
section
variable {prog : Program} {w : World} {A : Around} {E : Value → Shared → Prop} {s : Shared} {B : Heap} {L x y : Addr} {m mg mb : Str → Option Value} {R : Ledger} {envc : Env} {outer : List Env} {ex ey : Nat}
theorem nil_or_snoc {α : Type} (l : List α) : l = [] ∨ ∃ r x, l = r ++ [x] := by
  cases l with
  | nil => exact .inl rfl
  | cons a r => exact .inr (snoc_of_ne (by simp))
set_option maxRecDepth 10000 in
set_option maxHeartbeats 4000000 in
theorem unorderable {fa : Addr} {code : Value} {ps qs : List (Value × Nat)} {Q : Value → Shared → Prop} (F : Fr B L s.heap m) (N : Led B L s.heap R) (G : Gl B mg mb) (D : FnAt B (fn 10) fa code)
    (hh : A.handled = none) (hroom : A.depth + 10 < recursionLimit) (hu : A.units + 100 < cLine) (hfr : A.frames = some (envc :: outer)) (hFs : Frs B L R envc outer)
    (hx : R x = some (ListC false (ps.map Prod.fst) ex)) (hy : R y = some (ListC false (qs.map Prod.fst) ey)) (hxy : x ≠ y) (hit : ∀ p ∈ ps, IsItem R p.1 p.2) (hiq : ∀ p ∈ qs, IsItem R p.1 p.2) (hlp : ps.length ≤ 400) (hlq : qs.length ≤ 400)
    (hnp : ND ps) (hnq : ND qs)
    (h : ∀ t a R' h' tk ea ey', GrowX [x, y] R R' → R' t = some (TupC true [.ref a, .ref y] 0) → R' a = some (ListC false ((uMiss ps qs).map Prod.fst) ea) → R' y = some (ListC false ((uLeft ps qs).map Prod.fst) ey') → Fr B L h' m → Led B L h' R' → Q (.ref t) { s with heap := h', toks := tk }) :
    wpAny (model prog w) A (call (.ref fa) [.ref x, .ref y]) Q E s := by
  obtain ⟨d, hd⟩ : ∃ d, d = fn 10 := ⟨_, rfl⟩
  rw [← hd] at D
  conv at hd => rhs; whnf
  subst hd
  refine r_call ["expected", "actual"] F N G.lim D (by decide +kernel) (by omega) (fun _ _ => by rfl) ?_
  intro env L' h₁ c tk₁ V hfrm hc hRL hle F₁ N₁
  clear D F N
  dsimp only
  have hxL : x ≠ L := ne_of_none hx hRL
  have hyL : y ≠ L := ne_of_none hy hRL
  have hx₀ : upd R L c x = some (ListC false (ps.map Prod.fst) ex) := upd_new hRL hx
  have hy₀ : upd R L c y = some (ListC false (qs.map Prod.fst) ey) := upd_new hRL hy
  have fz₀ : FzLe R (upd R L c) := (Grow.new hRL).fz
  have hu' : (A.deeper env).units + 1 < cLine := by rw [Around.deeper_units]; omega
  have hX : ∀ z ∈ [x, y], ∀ k, upd R L c z = some k → k.fz = false ∧ k.fr = false := by
    intro z hz k hk
    rcases List.mem_cons.mp hz with rfl | hz
    · rw [hx₀] at hk; cases hk; exact ⟨rfl, rfl⟩
    · rw [List.mem_singleton.mp hz, hy₀] at hk; cases hk; exact ⟨rfl, rfl⟩
  have hFs' : Frs B L' (upd R L c) env (envc :: outer) := by
    refine ⟨hfrm, by rw [V.scope]; decide, fun en he => ?_⟩
    rcases List.mem_cons.mp he with rfl | he
    · obtain ⟨⟨_, h2⟩, es, ep, h3, _⟩ := hc
      exact ⟨hFs.kind, L, c, hFs.frame, upd_self, h2, es, ep, h3⟩
    · exact (hFs.out.grow (Grow.new hRL)) en he
  generalize hR₀ : upd R L c = R₀ at *
  walk_at "go"
  refine r_newList false (by assumption) (by assumption) (by simp [sizeLine]) ?_
  intro h₂ a F₂ ha N₂
  walk_at "go"
  rename Fr _ _ _ _ => Fx
  rename Led _ _ _ _ => Nx
  have hxa : x ≠ a := ne_of_none hx₀ ha
  have hya : y ≠ a := ne_of_none hy₀ ha
  have iz : ∀ {R₁ : Ledger}, GrowX [x, y] R₀ R₁ → FzLe R R₁ := fun g => fz₀.trans (g.fz fun z hz k hk => (hX z hz k hk).1)
  refine r_while (fun k m₁ R₁ => ∃ (es ds : List (Value × Nat)) (e1 e2 e3 : Nat), k = es.length ∧ es ++ ds = ps ∧ m₁ "expected" = some (.ref x) ∧ m₁ "actual" = some (.ref y) ∧ m₁ "missing" = some (.ref a) ∧
    R₁ x = some (ListC false (es.map Prod.fst) e1) ∧ R₁ y = some (ListC false ((uLeft ds qs).map Prod.fst) e2) ∧ R₁ a = some (ListC false ((uMiss ds qs).map Prod.fst) e3) ∧ GrowX [x, y] R₀ R₁) ps.length Fx Nx ?_ PassesOwn.never ?_
  · exact ⟨ps, [], ex, ey, 0, rfl, by simp, rfl, rfl, rfl, upd_new ha hx₀, by rw [uLeft_nil]; exact upd_new ha hy₀, by rw [uMiss_nil]; exact upd_self, .new ha⟩
  rintro k m₁ R₁ h₃ tk₃ F₃ N₃ ⟨es, ds, e1, e2, e3, rfl, hes, m1, m2, m3, r1, r2, r3, g⟩
  have hle1 : es.length + ds.length = ps.length := by rw [← hes, List.length_append]
  have hleL : (uLeft ds qs).length ≤ 400 := Nat.le_trans (List.length_filter_le _ _) hlq
  have hleM : (uMiss ds qs).length ≤ 400 := by unfold uMiss; rw [List.length_reverse]; exact Nat.le_trans (List.length_filter_le _ _) (by omega)
  walk_at "go"
  refine r_truthy (by assumption) r1 (by simp; omega) ?_
  intro tk₄
  rcases nil_or_snoc es with rfl | ⟨es', p, rfl⟩
  · refine ite_f ?_
    walk_at "go"
    refine r_newTuple true (by assumption) (by assumption) (by simp [sizeLine]) ?_
    intro h₅ t F₅ ht N₅
    dsimp only
    obtain rfl : ds = ps := by simpa using hes
    subst hR₀
    have hg5 : GrowX [x, y] (upd R L c) (upd R₁ t (TupC true [.ref a, .ref y] 0)) := g.trans (.new ht)
    obtain ⟨f1, f2, f3, f4⟩ := backX F₅ N₅ hg5 (by simp [Ne.symm hxL, Ne.symm hyL]) hc hRL hle
    have hLR : R₁ L = some c := g _ _ (by simp [Ne.symm hxL, Ne.symm hyL]) upd_self
    have htL : t ≠ L := fun q => by rw [q, hLR] at ht; cases ht
    have haL : a ≠ L := fun q => by rw [q, upd_self] at ha; cases ha
    exact h t a _ _ _ e3 e2 f3 (by rw [drop_ne htL]; exact upd_self) (by rw [drop_ne haL]; exact upd_new ht r3) (by rw [drop_ne hyL]; exact upd_new ht r2) f1 f2
  · rw [show (!(List.map Prod.fst (es' ++ [p])).isEmpty) = true from by simp]
    refine ite_t ?_
    have hp : p ∈ ps := by rw [← hes]; simp
    have hpi : IsItem R p.1 p.2 := hit p hp
    have hds : has ds p.2 = false := by
      rw [has_false]; intro q hq e
      have hnd : ND ((es' ++ [p]) ++ ds) := by rw [hes]; exact hnp
      exact (List.pairwise_append.mp hnd).2.2 p (by simp) q hq e.symm
    walk_at "go"
    refine r_meth (by assumption) r1 PySem.F.slot_list_pop PySem.F.type_list_pop ?_
    walk_at "go"
    rw [List.map_append] at r1
    simp only [List.length_append, List.length_singleton] at hle1
    refine r_pop (vs := es'.map Prod.fst) (x := p.1) (by assumption) (by assumption) r1 (by simp; omega) ?_
    intro h₅ e₅ F₅ N₅
    walk_at "go"
    rename Fr _ _ _ _ => Fy
    rename Led _ _ _ _ => Ny
    have hxm : x ∈ [x, y] := by simp
    have hym : y ∈ [x, y] := by simp
    have g5 : GrowX [x, y] R₀ (upd R₁ x (ListC false (es'.map Prod.fst) e₅)) := g.trans (.mut hxm)
    generalize hR5 : upd R₁ x (ListC false (es'.map Prod.fst) e₅) = R₅ at *
    have r5x : R₅ x = some (ListC false (es'.map Prod.fst) e₅) := by rw [← hR5]; exact upd_self
    have r5y : R₅ y = some (ListC false ((uLeft ds qs).map Prod.fst) e2) := by rw [← hR5, upd_ne (Ne.symm hxy)]; exact r2
    have r5a : R₅ a = some (ListC false ((uMiss ds qs).map Prod.fst) e3) := by rw [← hR5, upd_ne (Ne.symm hxa)]; exact r3
    refine r_try (outer := envc :: outer) (cls := "ValueError") (fun _ m' R' => R' = R₅ ∧ has qs p.2 = false ∧ m' "expected" = some (.ref x) ∧ m' "actual" = some (.ref y) ∧ m' "missing" = some (.ref a) ∧ m' "item" = some p.1) V G rfl rfl bb_ValueError (by decide) (by decide) sub_VB sub_VT sub_VV (by show (A.deeper env).frames = _; simp [Around.deeper, hfr]) ?_ ?_ ?_
    · rintro _ m' R' ⟨rfl, _⟩
      exact hFs'.growX g5 fun z hz k hk => (hX z hz k hk).2
    · walk_at "go"
      refine r_meth (by assumption) r5y PySem.F.slot_list_remove PySem.F.type_list_remove ?_
      walk_at "go"
      have hiL : ∀ q ∈ uLeft ds qs, IsItem R₅ q.1 q.2 := fun q hq => (hiq q (List.mem_filter.mp hq).1).mono (iz g5)
      cases hq : has qs p.2 with
      | true =>
        have h1 := uLeft_has (qs := qs) hds
        rw [hq, has_iff] at h1
        obtain ⟨r, hr, er⟩ := h1
        obtain ⟨j, hj, ej⟩ := List.getElem_of_mem hr
        have hj' : (uLeft ds qs)[j]? = some r := List.getElem?_eq_some_iff.mpr ⟨hj, ej⟩
        refine r_remove (by assumption) (by assumption) hu' r5y hiL (hpi.mono (iz g5)) (by omega) j r hj' er (fun q r' hq' hlt => by rw [← er]; exact nd_before (hnq.filter _) hj' hq' hlt) ?_
        intro h₇ e₇ F₇ N₇
        walk_at "go"
        rw [uLeft_hit hnq hj' er] at N₇
        refine ⟨_, _, _, _, es'.length, rfl, F₇, N₇, by simp, es', p :: ds, e₅, e₇, e3, rfl, by rw [← hes]; simp, m1, m2, m3, ?_, upd_self, ?_, ?_⟩
        · rw [upd_ne hxy]; exact r5x
        · rw [upd_ne (Ne.symm hya), uMiss_hit hq]; exact r5a
        · exact g5.trans (.mut hym)
      | false =>
        refine r_remove_miss (by assumption) hh hu' r5y hiL (hpi.mono (iz g5)) ?_ ?_
        · have h1 := uLeft_has (qs := qs) hds
          rw [hq, has_false] at h1; exact h1
        intro h₇ tk₇ z hz
        obtain ⟨n1, n2, n3⟩ := newExc Fy Ny hz
        exact ⟨z, _, _, _, R₅, _, _, rfl, rfl, n3, n1, n2, rfl, by first | exact hq | rfl, m1, m2, m3, rfl⟩
    · rintro z h₇ tk₇ m' R' c2 Y₇ F₇ N₇ ⟨rfl, hq, m1', m2', m3', m4'⟩
      walk_at "go"
      refine r_meth (by assumption) r5a PySem.F.slot_list_append PySem.F.type_list_append ?_
      walk_at "go"
      refine r_append (by assumption) (by assumption) r5a (by simp; omega) ?_
      intro h₈ e₈ F₈ N₈
      walk_at "go"
      rw [show (uMiss ds qs).map Prod.fst ++ [p.1] = (uMiss (p :: ds) qs).map Prod.fst by rw [uMiss_miss hq]; simp] at N₈
      refine ⟨_, _, _, _, es'.length, rfl, F₈, N₈, by simp, es', p :: ds, e₅, e2, e₈, rfl, by rw [← hes]; simp, m1', m2', m3', ?_, ?_, upd_self, ?_⟩
      · rw [upd_ne hxa]; exact r5x
      · rw [upd_ne hya, uLeft_miss hq]; exact r5y
      · exact growX_mut g5 ha
end
end
section
section
variable {prog : Program} {w : World} {A : Around} {E : Value → Shared → Prop} {s : Shared} {B : Heap} {L l : Addr} {m mg mb : Str → Option Value} {R : Ledger} {env : Env} {sc : Scope} {cells : List (Str × Addr)} {fz : Bool} {e : Nat}
theorem r_skip {lst idx val : Str} {p1 p2 p3 p4 p5 p6 p7 p8 p9 : Pos} {k9 : Nat} {ps : List (Value × Nat)} {i : Nat} {v : Value} {k : Nat} {Q : Flow → Shared → Prop} (V : EnvIs env sc L cells) (hk : sc.kind = .function)
    (hl1 : sc.names.lookup lst = some .local) (hl2 : sc.names.lookup idx = some .local) (hl3 : sc.names.lookup val = some .local)
    (hd1 : (lst == ("__debug__" : Str)) = false) (hd2 : (idx == ("__debug__" : Str)) = false) (hd3 : (val == ("__debug__" : Str)) = false)
    (F : Fr B L s.heap m) (N : Led B L s.heap R) (hu : A.units < cLine) (hm1 : m lst = some (.ref l)) (hm2 : HasI m idx i) (hm3 : m val = some v)
    (hl : R l = some (ListC fz (ps.map Prod.fst) e)) (hit : ∀ p ∈ ps, IsItem R p.1 p.2) (hv : IsItem R v k) (hi : i < 100000) (hne : ∀ p, ps[i]? = some p → p.2 ≠ k) (hH : HOk A R) (hE : PassesOwn (model prog w) A env E)
    (hq : ∀ h' tk, i < ps.length → Fr B L h' m → Led B L h' R → Q .next { s with heap := h', toks := tk })
    (he : ps.length ≤ i → ∀ h' tk x c2, (A.handled = none → c2 = .none) → IsExc B L h' R x "IndexError" c2 false → Fr B L h' m → Led B L h' R → E (.ref x) { s with heap := h', toks := tk }) :
    wpAny (model prog w) A (exec (.While (.Compare (.Subscript (.Name lst p1) (.Name idx p2) p3) [.Eq] [.Name val p4] p5) [.AugAssign (.Name idx p6) .Add (.Constant (.int 1) k9 p7) p8] [] p9) env) Q E s := by
  refine r_while (fun _ m₁ R₁ => m₁ = m ∧ R₁ = R ∧ True) 0 F N ⟨rfl, rfl, trivial⟩ hE ?_
  rintro n m₁ R₁ h₁ tk₁ F₁ N₁ ⟨rfl, rfl, _⟩
  obtain ⟨t, hm2⟩ := hm2
  refine wpAny_isTrue_Compare1 ?_ rfl
  refine Subscript_ ?_
  refine r_ld V F₁ hk hl1 hm1 hd1 ?_
  refine r_ld V F₁ hk hl2 hm2 hd2 ?_
  refine r_get_or F₁ N₁ hH hl rfl hi (by with_unfolding_all rfl) (fun u hu' => ?_) (fun hlen h' tk x c2 hz Y F' N' => he (by simpa using hlen) h' tk x c2 hz Y F' N')
  obtain ⟨p, hp, rfl⟩ : ∃ p, ps[i]? = some p ∧ p.1 = u := by
    rw [List.getElem?_map] at hu'
    obtain ⟨p, hp, e⟩ := Option.map_eq_some_iff.mp hu'
    exact ⟨p, hp, e⟩
  refine r_ld V F₁ hk hl3 hm3 hd3 ?_
  refine r_eq N₁ hu (hit p (List.mem_of_getElem? hp)) hv ?_
  have : (p.2 == k) = false := by simpa using hne p hp
  rw [this]
  refine wpAny_truthy_bool (ite_f (hq h₁ tk₁ (lt_of_get hp) F₁ N₁))
end
end
section
structure SdSt (ps qs : List (Value × Nat)) (R₀ : Ledger) (x y a1 a2 : Addr) (i j : Nat) (m : Str → Option Value) (R : Ledger) : Prop where
  vi : HasI m "i" i
  vj : HasI m "j" j
  ex : m "expected" = some (.ref x)
  ac : m "actual" = some (.ref y)
  mi : m "missing" = some (.ref a1)
  un : m "unexpected" = some (.ref a2)
  r1 : ∃ e1, R a1 = some (ListC false ((difT ps qs i).map Prod.fst) e1)
  r2 : ∃ e2, R a2 = some (ListC false ((difT qs ps j).map Prod.fst) e2)
  g : Grow R₀ R
  fro : Fro ps qs i j
section
variable {prog : Program} {w : World} {A : Around} {E : Value → Shared → Prop} {s : Shared} {B : Heap} {L l : Addr} {m : Str → Option Value} {R : Ledger} {env : Env} {sc : Scope} {cells : List (Str × Addr)} {fz : Bool} {e : Nat}
theorem r_fin {p1 p2 p3 p4 p5 p6 p7 p8 p9 q6 q7 q8 : Pos} {k9 k8 : Nat} {ps : List (Value × Nat)} {i : Nat} {v : Value} {k : Nat} {Q : Flow → Shared → Prop} (V : EnvIs env sc L cells) (hk : sc.kind = .function)
    (hl1 : sc.names.lookup ("actual" : Str) = some .local) (hl2 : sc.names.lookup ("j" : Str) = some .local) (hl3 : sc.names.lookup ("a" : Str) = some .local)
    (F : Fr B L s.heap m) (N : Led B L s.heap R) (hu : A.units < cLine) (hm1 : m "actual" = some (.ref l)) (hm2 : HasI m "j" i) (hm3 : m "a" = some v)
    (hl : R l = some (ListC fz (ps.map Prod.fst) e)) (hit : ∀ p ∈ ps, IsItem R p.1 p.2) (hv : IsItem R v k) (hi : i < 10000) (hne : ∀ p, ps[i + 1]? = some p → p.2 ≠ k) (hH : HOk A R) (hE : PassesOwn (model prog w) A env E)
    (hq : ∀ h' tk t, i + 1 < ps.length → Fr B L h' (fun y => if y = "j" then some (.int ((i + 1 : Nat) : Int) t) else m y) → Led B L h' R → Q .next { s with heap := h', toks := tk })
    (he : ps.length ≤ i + 1 → ∀ h' tk t x c2, IsExc B L h' R x "IndexError" c2 false → Fr B L h' (fun y => if y = "j" then some (.int ((i + 1 : Nat) : Int) t) else m y) → Led B L h' R → E (.ref x) { s with heap := h', toks := tk }) :
    wpAny (model prog w) A (execs [.AugAssign (.Name "j" q6) .Add (.Constant (.int 1) k8 q7) q8, .While (.Compare (.Subscript (.Name "actual" p1) (.Name "j" p2) p3) [.Eq] [.Name "a" p4] p5) [.AugAssign (.Name "j" p6) .Add (.Constant (.int 1) k9 p7) p8] [] p9] env) Q E s := by
  obtain ⟨t, hm2⟩ := hm2
  refine wpAny_execs_cons ?_
  refine wpAny_AugAssign_Name ?_
  refine r_ldn V F hk hl2 hm2 ?_
  refine wpAny_Constant_int ?_
  refine iadd_int ?_
  rw [show (i : Int) + 1 = ((i + 1 : Nat) : Int) by omega]
  refine r_st V F N hk hl2 ?_
  intro h' tk' F' N'
  dsimp only
  refine wpAny_execs_cons ?_
  refine r_skip (i := i + 1) V hk hl1 hl2 hl3 (by decide) (by decide) (by decide) F' N' hu hm1 ⟨_, rfl⟩ hm3 hl hit hv (by omega) hne hH hE (fun h₂ tk₂ hlt F₂ N₂ => ?_) (fun hlen h₂ tk₂ x c2 _ Y F₂ N₂ => he hlen _ _ _ x c2 Y F₂ N₂)
  dsimp only
  exact wpAny_execs_nil (hq _ _ _ hlt F₂ N₂)
end
section
variable {prog : Program} {w : World} {A : Around} {E : Value → Shared → Prop} {s : Shared} {B : Heap} {L x y : Addr} {m mg mb : Str → Option Value} {R : Ledger} {envc : Env} {outer : List Env} {ex ey : Nat} {fx fy : Bool}
set_option maxRecDepth 10000 in
set_option maxHeartbeats 4000000 in
theorem sortedDiff {fa : Addr} {code : Value} {ps qs : List (Value × Nat)} {Q : Value → Shared → Prop} (F : Fr B L s.heap m) (N : Led B L s.heap R) (G : Gl B mg mb) (D : FnAt B (fn 9) fa code)
    (hh : A.handled = none) (hroom : A.depth + 10 < recursionLimit) (hu : A.units + 100 < cLine) (hfr : A.frames = some (envc :: outer)) (hFs : Frs B L R envc outer)
    (hx : R x = some (ListC fx (ps.map Prod.fst) ex)) (hy : R y = some (ListC fy (qs.map Prod.fst) ey)) (hit : ∀ p ∈ ps, IsItem R p.1 p.2) (hiq : ∀ p ∈ qs, IsItem R p.1 p.2) (hlp : ps.length ≤ 400) (hlq : qs.length ≤ 400)
    (hp : SS ps) (hq : SS qs)
    (h : ∀ t a1 a2 R' h' tk e1 e2, Grow R R' → R' t = some (TupC true [.ref a1, .ref a2] 0) → R' a1 = some (ListC false ((dif ps qs).map Prod.fst) e1) → R' a2 = some (ListC false ((dif qs ps).map Prod.fst) e2) → Fr B L h' m → Led B L h' R' → Q (.ref t) { s with heap := h', toks := tk }) :
    wpAny (model prog w) A (call (.ref fa) [.ref x, .ref y]) Q E s := by
  obtain ⟨d, hd⟩ : ∃ d, d = fn 9 := ⟨_, rfl⟩
  rw [← hd] at D
  conv at hd => rhs; whnf
  subst hd
  refine r_call ["expected", "actual"] F N G.lim D (by decide +kernel) (by omega) (fun _ _ => by rfl) ?_
  intro env L' h₁ c tk₁ V hfrm hc hRL hle F₁ N₁
  clear D F N
  dsimp only
  have hx₀ : upd R L c x = some (ListC fx (ps.map Prod.fst) ex) := upd_new hRL hx
  have hy₀ : upd R L c y = some (ListC fy (qs.map Prod.fst) ey) := upd_new hRL hy
  have fz₀ : FzLe R (upd R L c) := (Grow.new hRL).fz
  have hu' : (A.deeper env).units < cLine := by rw [Around.deeper_units]; omega
  have hFs' : Frs B L' (upd R L c) env (envc :: outer) := by
    refine ⟨hfrm, by rw [V.scope]; decide, fun en he => ?_⟩
    rcases List.mem_cons.mp he with rfl | he
    · obtain ⟨⟨_, h2⟩, es, ep, h3, _⟩ := hc
      exact ⟨hFs.kind, L, c, hFs.frame, upd_self, h2, es, ep, h3⟩
    · exact (hFs.out.grow (Grow.new hRL)) en he
  have hfr' : (A.deeper env).frames = some (env :: envc :: outer) := by simp [Around.deeper, hfr]
  generalize hR₀ : upd R L c = R₀ at *
  walk_at "go"
  refine r_newList false (by assumption) (by assumption) (by simp [sizeLine]) ?_
  intro h₂ a1 F₂ ha1 N₂
  walk_at "go"
  refine r_newList false (by assumption) (by assumption) (by simp [sizeLine]) ?_
  intro h₃ a2 F₃ ha2 N₃
  walk_at "go"
  rename Fr _ _ _ _ => Fx
  rename Led _ _ _ _ => Nx
  have h12 : a1 ≠ a2 := ne_of_none upd_self ha2
  have ha2₀ : R₀ a2 = none := by rw [upd_ne (Ne.symm h12)] at ha2; exact ha2
  refine wpAny_mono (r_while (Q := fun f s' => f = .next ∧ ∃ h₄ tk₄ m₄ R₄ e1 e2, s' = { s with heap := h₄, toks := tk₄ } ∧ Fr B L' h₄ m₄ ∧ Led B L' h₄ R₄ ∧ m₄ "missing" = some (.ref a1) ∧ m₄ "unexpected" = some (.ref a2) ∧
      R₄ a1 = some (ListC false ((dif ps qs).map Prod.fst) e1) ∧ R₄ a2 = some (ListC false ((dif qs ps).map Prod.fst) e2) ∧ Grow R₀ R₄)
    (fun k m₁ R₁ => ∃ i j, k = (ps.length - i) + (qs.length - j) ∧ SdSt ps qs R₀ x y a1 a2 i j m₁ R₁) (ps.length + qs.length) Fx Nx ?_ PassesOwn.never ?_) (fun f s' hf => ?_) (fun _ _ x => x)
  · exact ⟨0, 0, by simp, ⟨_, rfl⟩, ⟨_, rfl⟩, rfl, rfl, rfl, rfl, ⟨0, by rw [difT_zero]; exact upd_new ha2 upd_self⟩, ⟨0, by rw [difT_zero]; exact upd_self⟩, (Grow.new ha1).trans (Grow.new ha2), Fro.zero _ _⟩
  · rintro k m₁ R₁ h₄ tk₄ F₄ N₄ ⟨i, j, rfl, S⟩
    have hP : ∀ (c : Value) (m' : Str → Option Value) (R' : Ledger), (∃ i j, SdSt ps qs R₀ x y a1 a2 i j m' R' ∧ (ps.length ≤ i ∨ qs.length ≤ j)) → Frs B L' R' env (envc :: outer) := by
      rintro _ m' R' ⟨i, j, S', _⟩; exact hFs'.grow S'.g
    have fz : FzLe R R₁ := fz₀.trans S.g.fz
    have hi := S.fro.hi
    have hj := S.fro.hj
    obtain ⟨ti, vi⟩ := S.vi
    obtain ⟨tj, vj⟩ := S.vj
    obtain ⟨q1, r1⟩ := S.r1
    obtain ⟨q2, r2⟩ := S.r2
    have s1 := S.ex
    have s2 := S.ac
    have s3 := S.mi
    have s4 := S.un
    have hxR := S.g _ _ hx₀
    have hyR := S.g _ _ hy₀
    have hd1 : (difT ps qs i).length ≤ 400 := Nat.le_trans (List.length_filter_le _ _) (Nat.le_trans (List.length_take_le' _ _) hlp)
    have hd2 : (difT qs ps j).length ≤ 400 := Nat.le_trans (List.length_filter_le _ _) (Nat.le_trans (List.length_take_le' _ _) hlq)
    walk_at "go"
    refine r_try (outer := envc :: outer) (cls := "IndexError") (fun _ m' R' => ∃ i j, SdSt ps qs R₀ x y a1 a2 i j m' R' ∧ (ps.length ≤ i ∨ qs.length ≤ j)) V G rfl rfl bb_IndexError (by decide) (by decide) sub_IB sub_IT sub_II hfr' hP ?_ ?_
    · walk_at "go"
      refine r_get_or (by assumption) (by assumption) (.inl hh) hxR rfl (by omega) (by with_unfolding_all rfl) (fun v hv => ?_) (fun hlen h' tk z c2 _ Y F' N' => ⟨z, h', tk, m₁, R₁, c2, false, rfl, rfl, Y, F', N', i, j, S, .inl (by simpa using hlen)⟩)
      obtain ⟨e, he, rfl⟩ : ∃ p, ps[i]? = some p ∧ p.1 = v := by
        rw [List.getElem?_map] at hv
        obtain ⟨p, hp, e⟩ := Option.map_eq_some_iff.mp hv
        exact ⟨p, hp, e⟩
      walk_at "go"
      rename Fr _ _ _ _ => Fe
      rename Led _ _ _ _ => Ned
      refine r_get_or Fe Ned (.inl hh) hyR rfl (by omega) (by with_unfolding_all rfl) (fun v hv => ?_) (fun hlen h' tk z c2 _ Y F' N' => ⟨z, h', tk, _, R₁, c2, false, rfl, rfl, Y, F', N', i, j, ⟨S.vi, S.vj, S.ex, S.ac, S.mi, S.un, S.r1, S.r2, S.g, S.fro⟩, .inr (by simpa using hlen)⟩)
      obtain ⟨a, ha, rfl⟩ : ∃ p, qs[j]? = some p ∧ p.1 = v := by
        rw [List.getElem?_map] at hv
        obtain ⟨p, hp, e⟩ := Option.map_eq_some_iff.mp hv
        exact ⟨p, hp, e⟩
      have hei := (hit e (List.mem_of_getElem? he)).mono fz
      have hai := (hiq a (List.mem_of_getElem? ha)).mono fz
      walk_at "go"
      refine r_lt (by assumption) hu' hei hai ?_
      walk_at "go"
      refine ite_d (fun hlt => ?_) (fun hnlt => ?_)
      · walk_at "go"
        refine r_meth (by assumption) r1 PySem.F.slot_list_append PySem.F.type_list_append ?_
        walk_at "go"
        refine r_append (by assumption) (by assumption) r1 (by simp; omega) ?_
        intro h₅ e₅ F₅ N₅
        walk_at "go"
        rename Fr _ _ _ _ => Fy
        rename Led _ _ _ _ => Ny
        have hin := S.fro.not_in hq he ha hlt
        rw [show (difT ps qs i).map Prod.fst ++ [e.1] = (difT ps qs (i + 1)).map Prod.fst by rw [difT_out he hin]; simp] at Ny
        have fz2 : FzLe R (upd R₁ a1 (ListC false ((difT ps qs (i + 1)).map Prod.fst) e₅)) := fz.trans (FzLe.mut r1 rfl)
        have g2 : Grow R₀ (upd R₁ a1 (ListC false ((difT ps qs (i + 1)).map Prod.fst) e₅)) := grow_mut S.g ha1
        have hfro := S.fro.lt hp hq he ha hlt
        have hlt' := lt_of_get he
        have r2' : upd R₁ a1 (ListC false ((difT ps qs (i + 1)).map Prod.fst) e₅) a2 = some (ListC false ((difT qs ps j).map Prod.fst) q2) := by rw [upd_ne (Ne.symm h12)]; exact r2
        refine r_skip (i := i + 1) V rfl rfl rfl rfl (by decide) (by decide) (by decide) Fy Ny hu' s1 (HasI.of rfl (by omega)) rfl (g2 _ _ hx₀) (fun p hp' => (hit p hp').mono fz2) ((hit e (List.mem_of_getElem? he)).mono fz2) (by omega)
          (fun p hp' => Ne.symm (nd_before hp.nd hp' he (by omega))) (.inl hh) (excSt_passes hfr' hP) (fun h' tk _ F' N' => ?_) (fun hlen h' tk z c2 _ Y F' N' => ?_)
        · walk_at "go"
          exact ⟨h', tk, _, _, _, rfl, F', N', by omega, i + 1, j, rfl, HasI.of rfl (by omega), S.vj, S.ex, S.ac, S.mi, S.un, ⟨e₅, upd_self⟩, ⟨q2, r2'⟩, g2, hfro⟩
        · exact ⟨z, h', tk, _, _, c2, false, rfl, rfl, Y, F', N', i + 1, j, ⟨HasI.of rfl (by omega), S.vj, S.ex, S.ac, S.mi, S.un, ⟨e₅, upd_self⟩, ⟨q2, r2'⟩, g2, hfro⟩, .inl hlen⟩
      · walk_at "go"
        refine r_gt (by assumption) hu' hei hai ?_
        walk_at "go"
        refine ite_d (fun hgt => ?_) (fun hngt => ?_)
        · walk_at "go"
          refine r_meth (by assumption) r2 PySem.F.slot_list_append PySem.F.type_list_append ?_
          walk_at "go"
          refine r_append (by assumption) (by assumption) r2 (by simp; omega) ?_
          intro h₅ e₅ F₅ N₅
          walk_at "go"
          rename Fr _ _ _ _ => Fy
          rename Led _ _ _ _ => Ny
          have hin := S.fro.swap.not_in hp ha he hgt
          rw [show (difT qs ps j).map Prod.fst ++ [a.1] = (difT qs ps (j + 1)).map Prod.fst by rw [difT_out ha hin]; simp] at Ny
          have fz2 : FzLe R (upd R₁ a2 (ListC false ((difT qs ps (j + 1)).map Prod.fst) e₅)) := fz.trans (FzLe.mut r2 rfl)
          have g2 : Grow R₀ (upd R₁ a2 (ListC false ((difT qs ps (j + 1)).map Prod.fst) e₅)) := grow_mut S.g ha2₀
          have hfro := (S.fro.swap.lt hq hp ha he hgt).swap
          have hlt' := lt_of_get ha
          have r1' : upd R₁ a2 (ListC false ((difT qs ps (j + 1)).map Prod.fst) e₅) a1 = some (ListC false ((difT ps qs i).map Prod.fst) q1) := by rw [upd_ne h12]; exact r1
          refine r_skip (i := j + 1) V rfl rfl rfl rfl (by decide) (by decide) (by decide) Fy Ny hu' s2 (HasI.of rfl (by omega)) rfl (g2 _ _ hy₀) (fun p hp' => (hiq p hp').mono fz2) ((hiq a (List.mem_of_getElem? ha)).mono fz2) (by omega)
            (fun p hp' => Ne.symm (nd_before hq.nd hp' ha (by omega))) (.inl hh) (excSt_passes hfr' hP) (fun h' tk _ F' N' => ?_) (fun hlen h' tk z c2 _ Y F' N' => ?_)
          · walk_at "go"
            exact ⟨h', tk, _, _, _, rfl, F', N', by omega, i, j + 1, rfl, S.vi, HasI.of rfl (by omega), S.ex, S.ac, S.mi, S.un, ⟨q1, r1'⟩, ⟨e₅, upd_self⟩, g2, hfro⟩
          · exact ⟨z, h', tk, _, _, c2, false, rfl, rfl, Y, F', N', i, j + 1, ⟨S.vi, HasI.of rfl (by omega), S.ex, S.ac, S.mi, S.un, ⟨q1, r1'⟩, ⟨e₅, upd_self⟩, g2, hfro⟩, .inr hlen⟩
        · have heq : e.2 = a.2 := by omega
          have hfro := S.fro.eq hp hq he ha heq
          have hlt1 := lt_of_get he
          have hlt2 := lt_of_get ha
          have d1 : difT ps qs (i + 1) = difT ps qs i := difT_in he (has_get ha heq.symm)
          have d2 : difT qs ps (j + 1) = difT qs ps j := difT_in ha (has_get he heq)
          walk_at "go"
          rename Fr _ _ _ _ => Fy
          rename Led _ _ _ _ => Ny
          have mkS : ∀ {mm : Str → Option Value} {RR : Ledger}, HasI mm "i" (i + 1 : Nat) → HasI mm "j" (j + 1 : Nat) → mm "expected" = some (.ref x) → mm "actual" = some (.ref y) → mm "missing" = some (.ref a1) → mm "unexpected" = some (.ref a2) → Grow R₁ RR → SdSt ps qs R₀ x y a1 a2 (i + 1) (j + 1) mm RR := by
            intro mm RR k1 k2 k3 k4 k5 k6 gr
            exact ⟨k1, k2, k3, k4, k5, k6, ⟨q1, by rw [d1]; exact gr _ _ r1⟩, ⟨q2, by rw [d2]; exact gr _ _ r2⟩, S.g.trans gr, hfro⟩
          obtain ⟨mY, FY, y1, y2, y3, y4, y5, y6, y7, y8⟩ : ∃ mY, Fr B L' _ mY ∧ HasI mY "i" (i + 1 : Nat) ∧ HasI mY "j" j ∧ mY "expected" = some (.ref x) ∧ mY "actual" = some (.ref y) ∧ mY "missing" = some (.ref a1) ∧ mY "unexpected" = some (.ref a2) ∧ mY "e" = some e.1 ∧ mY "a" = some a.1 :=
            ⟨_, Fy, HasI.of rfl (by omega), S.vj, s1, s2, s3, s4, rfl, rfl⟩
          clear Fy
          obtain ⟨tjY, y2⟩ := y2
          refine wpAny_Try_finally ?_
          refine wpAny_mono (Q := fun f s' => f = .next ∧ ∃ h₅ tk₅, s' = { s with heap := h₅, toks := tk₅ } ∧ Fr B L' h₅ mY ∧ Led B L' h₅ R₁) (E := ExcSt B L' s "IndexError" fun c2 m' R' => c2 = .none ∧ m' = mY ∧ R' = R₁ ∧ ps.length ≤ i + 1) ?_ ?_ ?_
          · refine wpAny_execs_cons ?_
            refine r_skip (i := i + 1) V rfl rfl rfl rfl (by decide) (by decide) (by decide) FY Ny hu' y3 y1 y7 hxR (fun p hp' => (hit p hp').mono fz) hei (by omega)
              (fun p hp' => Ne.symm (nd_before hp.nd hp' he (by omega))) (.inl hh) (excSt_passes hfr' ?_) (fun h' tk _ F' N' => ?_) (fun hlen h' tk z c2 hz Y F' N' => ?_)
            · rintro _ _ _ ⟨_, _, rfl, _⟩; exact hFs'.grow S.g
            · exact wpAny_execs_nil ⟨rfl, h', tk, rfl, F', N'⟩
            · exact ⟨z, h', tk, _, _, c2, false, rfl, rfl, Y, F', N', hz hh, rfl, rfl, hlen⟩
          · rintro f s' ⟨rfl, h₅, tk₅, rfl, F₅, N₅⟩
            dsimp only
            refine wpAny_execs_nil ?_
            refine wpAny_mono (E := ExcSt B L' s "IndexError" fun _ m' R' => ∃ i j, SdSt ps qs R₀ x y a1 a2 i j m' R' ∧ (ps.length ≤ i ∨ qs.length ≤ j)) (r_fin (i := j) V rfl rfl rfl rfl F₅ N₅ hu' y4 ⟨tjY, y2⟩ y8 hyR (fun p hp' => (hiq p hp').mono fz) hai (by omega)
              (fun p hp' => Ne.symm (nd_before hq.nd hp' ha (by omega))) (.inl hh) (excSt_passes hfr' hP) (fun h' tk t hlt F' N' => ?_) (fun hlen h' tk t z c2 Y F' N' => ?_)) (fun _ _ q => q) (excSt_passes hfr' hP)
            · dsimp only
              walk_at "go"
              exact ⟨h', tk, _, _, _, rfl, F', N', by omega, i + 1, j + 1, rfl, mkS y1 ⟨_, rfl⟩ y3 y4 y5 y6 (Grow.refl _)⟩
            · exact ⟨z, h', tk, _, _, c2, false, rfl, rfl, Y, F', N', i + 1, j + 1, mkS y1 ⟨_, rfl⟩ y3 y4 y5 y6 (Grow.refl _), .inr hlen⟩
          · rintro v s' ⟨z, h₅, tk₅, m₅, R₅, c2, nt, rfl, rfl, Y₅, F₅, N₅, rfl, rfl, rfl, hlen⟩
            have hFz : Frs B L' R₅ env (envc :: outer) := hFs'.grow S.g
            refine r_note hfr' hFz F₅ N₅ Y₅ fun h₆ F₆ N₆ Y₆ => ?_
            refine ⟨ref_ne_byPass _, ?_⟩
            refine r_note hfr' hFz F₆ N₆ Y₆ fun h₇ F₇ N₇ Y₇ => ?_
            refine r_setFlight hFz F₇ N₇ Y₇ fun h₈ F₈ N₈ Y₈ => ?_
            obtain ⟨xs, tb, tc, tvs, v1, v2, v3, v4, v5, v6, N₉⟩ := promote N₈ Y₈
            have g9 : Grow R₅ (upd (upd R₅ z ⟨false, true, .type "IndexError", .fields xs⟩) tb ⟨false, true, tc, .fields tvs⟩) := (Grow.new v5).trans (Grow.new (by rw [upd_ne v4]; exact v6))
            have hz9 : upd (upd R₅ z ⟨false, true, .type "IndexError", .fields xs⟩) tb ⟨false, true, tc, .fields tvs⟩ z = some ⟨false, true, .type "IndexError", .fields xs⟩ := by rw [upd_ne (Ne.symm v4)]; exact upd_self
            have ht9 : upd (upd R₅ z ⟨false, true, .type "IndexError", .fields xs⟩) tb ⟨false, true, tc, .fields tvs⟩ tb = some ⟨false, true, tc, .fields tvs⟩ := upd_self
            generalize upd (upd R₅ z ⟨false, true, .type "IndexError", .fields xs⟩) tb ⟨false, true, tc, .fields tvs⟩ = R₉ at *
            have hfr9 : ((A.deeper env).mark (some (.ref z))).frames = some (env :: envc :: outer) := hfr'
            refine wpAny_mono (E := ExcSt B L' s "IndexError" fun _ m' R' => ∃ i j, SdSt ps qs R₀ x y a1 a2 i j m' R' ∧ (ps.length ≤ i ∨ qs.length ≤ j)) (r_fin (i := j) V rfl rfl rfl rfl F₈ N₉ hu' y4 ⟨tjY, y2⟩ y8 (g9 _ _ hyR) (fun p hp' => (hiq p hp').mono (fz.trans g9.fz)) (hai.mono g9.fz) (by omega)
              (fun p hp' => Ne.symm (nd_before hq.nd hp' ha (by omega))) (.inr ⟨z, _, xs, rfl, hz9, rfl, v2⟩) (excSt_passes hfr9 hP) (fun h' tk t hlt F' N' => ?_) (fun hlen h' tk t z' c2 Y F' N' => ?_)) (fun _ _ q => q) (excSt_passesAt hfr9 hP)
            · dsimp only
              obtain ⟨Nd, Yd⟩ := demote N' hz9 ht9 v1 v2 v3 v4
              have gd : Grow R₅ (drop (drop R₉ z) tb) := fun a k ha' => by
                rw [drop_ne (ne_of_none ha' v6), drop_ne (ne_of_none ha' v5)]; exact g9 _ _ ha'
              refine r_passOn (hFz.grow gd) F' Nd Yd fun h'' F'' N'' Y'' => ?_
              exact ⟨z, h'', tk, _, _, _, true, rfl, rfl, Y'', F'', N'', i + 1, j + 1, mkS y1 ⟨_, rfl⟩ y3 y4 y5 y6 gd, .inl hlen⟩
            · exact ⟨z', h', tk, _, _, c2, false, rfl, rfl, Y, F', N', i + 1, j + 1, mkS y1 ⟨_, rfl⟩ y3 y4 y5 y6 g9, .inr hlen⟩
    · rintro z h₅ tk₅ m' R' c2 Y F₅ N₅ ⟨i', j', S', hend⟩
      obtain ⟨ti', vi'⟩ := S'.vi
      obtain ⟨tj', vj'⟩ := S'.vj
      obtain ⟨q1', r1'⟩ := S'.r1
      obtain ⟨q2', r2'⟩ := S'.r2
      have s1' := S'.ex
      have s2' := S'.ac
      have s3' := S'.mi
      have s4' := S'.un
      have hl1 : (difT ps qs i').length + (ps.drop i').length ≤ 400 := by
        have := congrArg List.length (difT_end S'.fro hend)
        rw [List.length_append] at this
        rw [this]; exact Nat.le_trans (List.length_filter_le _ _) hlp
      have hl2 : (difT qs ps j').length + (qs.drop j').length ≤ 400 := by
        have := congrArg List.length (difT_end S'.fro.swap hend.symm)
        rw [List.length_append] at this
        rw [this]; exact Nat.le_trans (List.length_filter_le _ _) hlq
      walk_at "go"
      refine r_meth (by assumption) r1' PySem.F.slot_list_extend PySem.F.type_list_extend ?_
      walk_at "go"
      refine r_slice true ((ps.drop i').map Prod.fst) (by assumption) (by assumption) (S'.g _ _ hx₀) (.int _ _) .none .none (by decide) (by rw [pick_from, List.map_drop]) (by simp; omega) (by with_unfolding_all rfl) (by intro _; with_unfolding_all rfl) ?_
      intro h₆ b1 F₆ hb1 N₆
      walk_at "go"
      refine r_extend (by assumption) (by assumption) (upd_new hb1 r1') upd_self (by simp at hl1 ⊢; omega) ?_
      intro h₇ e₇ F₇ N₇
      rw [← List.map_append, difT_end S'.fro hend] at N₇
      have g7 : Grow R₀ (upd (upd R' b1 (ListC true ((ps.drop i').map Prod.fst) 0)) a1 (ListC false ((dif ps qs).map Prod.fst) e₇)) := grow_mut (S'.g.trans (Grow.new hb1)) ha1
      have r2₇ : upd (upd R' b1 (ListC true ((ps.drop i').map Prod.fst) 0)) a1 (ListC false ((dif ps qs).map Prod.fst) e₇) a2 = some (ListC false ((difT qs ps j').map Prod.fst) q2') := by
        rw [upd_ne (Ne.symm h12)]; exact upd_new hb1 r2'
      generalize hR7 : upd (upd R' b1 (ListC true ((ps.drop i').map Prod.fst) 0)) a1 (ListC false ((dif ps qs).map Prod.fst) e₇) = R₇ at *
      have r1₇ : R₇ a1 = some (ListC false ((dif ps qs).map Prod.fst) e₇) := by rw [← hR7]; exact upd_self
      walk_at "go"
      refine r_meth (by assumption) r2₇ PySem.F.slot_list_extend PySem.F.type_list_extend ?_
      walk_at "go"
      refine r_slice true ((qs.drop j').map Prod.fst) (by assumption) (by assumption) (g7 _ _ hy₀) (.int _ _) .none .none (by decide) (by rw [pick_from, List.map_drop]) (by simp; omega) (by with_unfolding_all rfl) (by intro _; with_unfolding_all rfl) ?_
      intro h₈ b2 F₈ hb2 N₈
      walk_at "go"
      refine r_extend (by assumption) (by assumption) (upd_new hb2 r2₇) upd_self (by simp at hl2 ⊢; omega) ?_
      intro h₉ e₉ F₉ N₉
      rw [← List.map_append, difT_end S'.fro.swap hend.symm] at N₉
      walk_at "go"
      exact ⟨rfl, _, _, _, _, e₇, e₉, rfl, F₉, N₉, s3', s4', by rw [upd_ne h12]; exact upd_new hb2 r1₇, upd_self, grow_mut (g7.trans (Grow.new hb2)) ha2₀⟩
  · obtain ⟨rfl, h₄, tk₄, m₄, R₄, e1, e2, rfl, F₄, N₄, s3, s4, r1, r2, g⟩ := hf
    walk_at "go"
    refine r_newTuple true (by assumption) (by assumption) (by simp [sizeLine]) ?_
    intro h₅ t F₅ ht N₅
    dsimp only
    subst hR₀
    obtain ⟨f1, f2, f3, f4⟩ := back F₅ N₅ (g.trans (Grow.new ht)) hc hRL hle
    have hLR : R₄ L = some c := g _ _ upd_self
    have htL : t ≠ L := fun q => by rw [q, hLR] at ht; cases ht
    have ha1L : a1 ≠ L := fun q => by rw [q, upd_self] at ha1; cases ha1
    have ha2L : a2 ≠ L := fun q => by rw [q, upd_self] at ha2₀; cases ha2₀
    exact h t a1 a2 _ _ _ e1 e2 f3 (by rw [drop_ne htL]; exact upd_self) (by rw [drop_ne ha1L]; exact upd_new ht r1) (by rw [drop_ne ha2L]; exact upd_new ht r2) f1 f2
end
end
section
/-! ## values as data -/
inductive Al {α : Type} (P : Value → α → Prop) : List Value → List α → Prop
  | nil : Al P [] []
  | cons {v : Value} {x : α} {vs : List Value} {xs : List α} : P v x → Al P vs xs → Al P (v :: vs) (x :: xs)
theorem Al.len {α : Type} {P : Value → α → Prop} {vs : List Value} {xs : List α} (h : Al P vs xs) : vs.length = xs.length := by
  induction h with
  | nil => rfl
  | cons _ _ ih => simp [ih]
theorem Al.imp {α : Type} {P P' : Value → α → Prop} {vs : List Value} {xs : List α} (h : Al P vs xs) (f : ∀ v x, P v x → P' v x) : Al P' vs xs := by
  induction h with
  | nil => exact .nil
  | cons a _ ih => exact .cons (f _ _ a) ih
theorem Al.append {α : Type} {P : Value → α → Prop} {vs us : List Value} {xs ys : List α} (h : Al P vs xs) (h' : Al P us ys) : Al P (vs ++ us) (xs ++ ys) := by
  induction h with
  | nil => exact h'
  | cons a _ ih => exact .cons a ih
theorem Al.snoc {α : Type} {P : Value → α → Prop} {vs : List Value} {xs : List α} {v : Value} {x : α} (h : Al P vs xs) (h' : P v x) : Al P (vs ++ [v]) (xs ++ [x]) := h.append (.cons h' .nil)
def IsI (_ : Ledger) (v : Value) (n : Int) : Prop := ∃ t, v = .int n t
def IsLs {α : Type} (P : Ledger → Value → α → Prop) (R : Ledger) (v : Value) (xs : List α) : Prop := ∃ a vs e, v = .ref a ∧ R a = some (ListC true vs e) ∧ Al (P R) vs xs
def Mono {α : Type} (P : Ledger → Value → α → Prop) : Prop := ∀ R R' v x, FzLe R R' → P R v x → P R' v x
theorem IsI.mono : Mono IsI := fun _ _ _ _ _ h => h
theorem IsLs.mono {α : Type} {P : Ledger → Value → α → Prop} (h : Mono P) : Mono (IsLs P) := fun R R' v xs g ⟨a, vs, e, e1, e2, e3⟩ => ⟨a, vs, e, e1, g _ _ e2 rfl, e3.imp fun v x => h R R' v x g⟩
theorem Al.ints {R : Ledger} {vs : List Value} {xs : List Int} (h : Al (IsI R) vs xs) : IntsAre vs xs := by
  induction h with
  | nil => exact .nil
  | cons a _ ih => obtain ⟨t, rfl⟩ := a; exact .cons _ t ih
theorem Al.ofInts {R : Ledger} {vs : List Value} {xs : List Int} (h : IntsAre vs xs) : Al (IsI R) vs xs := by
  induction h with
  | nil => exact .nil
  | cons n t _ ih => exact .cons ⟨t, rfl⟩ ih
theorem turn_grow {I L : Addr} {x c : Cell} {R₀ R₁ : Ledger} (g : GrowX [I] (upd (upd R₀ I x) L c) R₁) (hI : R₀ I = none) (hL : upd R₀ I x L = none) : Grow R₀ R₁ := fun a y e => by
  have h1 : a ≠ I := fun q => by subst q; rw [hI] at e; cases e
  have e' : upd R₀ I x a = some y := by rw [upd_ne h1]; exact e
  exact g a y (by simpa using h1) (by rw [upd_ne (ne_of_none e' hL)]; exact e')
theorem ap_find : ∀ q : Fin 16, Builtin.Bytes.find? APl.toArray #[(((UInt8.ofNat (65 + q.val)).toNat : Int)).toNat.toUInt8] 0 16 = some q.val := by decide +kernel
theorem bits16 : ∀ q : Fin 16, Builtin.Int.intBits ((q.val : Nat) : Int) ≤ 4 := by decide +kernel
section
variable {prog : Program} {w : World} {A : Around} {E : Value → Shared → Prop} {s : Shared} {B : Heap} {L : Addr} {m : Str → Option Value} {R : Ledger}
abbrev RIc (a : Int) (n : Nat) (i : Nat) : Cell := RIt (a + i) ((n : Int) - i)
theorem r_iterN {r : Addr} {a b : Int} {t u v : Tok} {Q : Value → Shared → Prop} (n : Nat) (F : Fr B L s.heap m) (N : Led B L s.heap R) (hr : IsRange s.heap r a b 1 t u v) (hn : (b - a).toNat = n) (ha : -2000 ≤ a) (ha' : a ≤ 2000) (hb : -2000 ≤ b) (hb' : b ≤ 2000)
    (h : ∀ h' I, Fr B L h' m → R I = none → Led B L h' (upd R I (RIc a n 0)) → Q (.ref I) { s with heap := h' }) : wpAny (model prog w) A (pyIter (.ref r)) Q E s := by
  refine r_iterR F N hr (small_one (by omega) (by omega) (by omega) (by omega)) fun h' I F' hI N' => h h' I F' hI ?_
  rw [rangeSize_one] at N'
  have e1 : a + ((0 : Nat) : Int) = a := by omega
  have e2 : (n : Int) - ((0 : Nat) : Int) = (if a < b then b - a else 0) := by split <;> omega
  unfold RIc
  rw [e1, e2]; exact N'
end
section
variable {prog : Program} {w : World} {A : Around} {E : Value → Shared → Prop} {s : Shared} {B : Heap} {L l : Addr} {m mg mb : Str → Option Value} {R : Ledger} {v u : Value} {a b e : Nat} {fz : Bool}
set_option maxRecDepth 10000 in
set_option maxHeartbeats 4000000 in
theorem law_read {fa : Addr} {code : Value} {ps : List (Value × Nat)} {Q : Value → Shared → Prop} (F : Fr B L s.heap m) (N : Led B L s.heap R) (G : Gl B mg mb) (D : FnAt B (fn 16) fa code)
    (hh : A.handled = none) (hroom : A.depth + 30 < recursionLimit) (hl : R l = some (ListC fz (ps.map Prod.fst) e)) (hit : ∀ p ∈ ps, IsItem R p.1 p.2) (hb : ∀ p ∈ ps, p.2 < 2 ^ 40) (hlen : ps.length ≤ 900)
    (h : ∀ h' tk R' v, Grow R R' → IsLs IsI R' v (ps.map fun p => (p.2 : Int)) → Fr B L h' m → Led B L h' R' → Q v { s with heap := h', toks := tk }) :
    wpAny (model prog w) A (call (.ref fa) [.ref l]) Q E s := by
  obtain ⟨d, hd⟩ : ∃ d, d = fn 16 := ⟨_, rfl⟩
  rw [← hd] at D
  conv at hd => rhs; whnf
  subst hd
  refine r_call ["items"] F N G.lim D (by decide +kernel) (by omega) (fun _ _ => by rfl) ?_
  intro env L' h₁ c tk₁ V hfr hc hRL hle F₁ N₁
  clear D F N
  dsimp only
  have hlL : upd R L c l = some (ListC fz (ps.map Prod.fst) e) := upd_new hRL hl
  have fz₀ : FzLe R (upd R L c) := (Grow.new hRL).fz
  generalize hR₀ : upd R L c = R₀ at *
  walk_at "go"
  refine r_ListComp (B := B) V (clos_ok V) rfl (by decide) ?_
  walk_at "go"
  refine r_iter F₁ N₁ hlL ?_
  intro h₂ I F₂ hI N₂
  have hlI : l ≠ I := ne_of_none hlL hI
  have hh' : (A.deeper env).handled = none := hh
  refine CompGo.intro (n := (ps.map Prod.fst).length) (P := fun i v => (ps.map Prod.fst)[i]? = some v) (Dep := fun R => R l = some (ListC fz (ps.map Prod.fst) e)) (fun i ys R' => Al (IsI R') ys ((ps.take i).map fun p : Value × Nat => (p.2 : Int))) (Src.list (e := e) (fz := fz) (vs := ps.map Prod.fst) hh' hlI) F₂ N₂ upd_self (by rw [upd_ne hlI]; exact hlL) (by simpa using hlen) rfl
    (fun i ys R R' g x => x.imp fun v x q => IsI.mono _ _ v x g q) (fun R' _ => .nil) (fun i ys R' x => by have := x.len; simp at this; omega) ?_ ?_
  · intro cenv C h₃ tk₃ c₃ mC R₁ i ys v Vc hfrm hi hP hInv F₃ N₃ g hcs hdep
    rw [List.getElem?_map] at hP
    obtain ⟨p, hp, rfl⟩ := Option.map_eq_some_iff.mp hP
    have hpm : p ∈ ps := List.mem_of_getElem? hp
    have hlt := hb p hpm
    have g₀ : Grow R₀ R₁ := turn_grow g hI N₂.none_L
    obtain ⟨a, t, t', ea, ra⟩ := (hit p hpm).mono (fz₀.trans g₀.fz)
    rw [ea]
    change ∀ k ∈ [C + 1 + 1, C + 1], _ at hcs
    have Vc : EnvIs cenv _ C [("text", C + 1 + 1), ("size", C + 1)] := Vc
    obtain ⟨⟨v1, k1⟩, k1'⟩ := hcs (C + 1) (by simp)
    obtain ⟨⟨v2, k2⟩, k2'⟩ := hcs (C + 1 + 1) (by simp)
    refine r_unpackL F₃ N₃ ra hh' ?_
    intro h₄ F₄ N₄
    walk_at "go"
    have hne : C + 1 + 1 ≠ C + 1 := Nat.succ_ne_self _
    refine r_stc Vc (by assumption) (by assumption) rfl rfl rfl (by rw [upd_ne hne]; exact k2) ?_
    intro h₅ F₅ N₅
    have z1 : upd (upd R₁ (C + 1) (CelC (.type "cell") (some (.int (enc p.2).length t)))) (C + 1 + 1) (CelC (.type "cell") (some (.bytes (enc p.2).toArray t'))) (C + 1) = some (CelC (.type "cell") (some (.int (enc p.2).length t))) := by
      rw [upd_ne (Ne.symm hne)]; exact upd_self
    have z2 : upd (upd R₁ (C + 1) (CelC (.type "cell") (some (.int (enc p.2).length t)))) (C + 1 + 1) (CelC (.type "cell") (some (.bytes (enc p.2).toArray t'))) (C + 1 + 1) = some (CelC (.type "cell") (some (.bytes (enc p.2).toArray t'))) := upd_self
    have gx : GrowX [C + 1 + 1, C + 1] R₁ (upd (upd R₁ (C + 1) (CelC (.type "cell") (some (.int (enc p.2).length t)))) (C + 1 + 1) (CelC (.type "cell") (some (.bytes (enc p.2).toArray t')))) :=
      (GrowX.mut (by simp)).trans (GrowX.mut (by simp))
    generalize upd (upd R₁ (C + 1) (CelC (.type "cell") (some (.int (enc p.2).length t)))) (C + 1 + 1) (CelC (.type "cell") (some (.bytes (enc p.2).toArray t'))) = R₂ at *
    walk_at "go"
    refine wpAny_tests_nil ?_
    rw [if_pos rfl]
    walk_at "go"
    refine r_ListComp (B := B) Vc (clos_ok Vc) rfl (by decide) ?_
    walk_at "go"
    rename IsRange _ _ _ _ _ _ _ _ => hr
    have hle10 : (enc p.2).length ≤ 10 := enc_len_le 10 _ (by omega)
    refine r_iterN (enc p.2).length (by assumption) (by assumption) hr (by omega) (by omega) (by omega) (by omega) (by omega) ?_
    intro h₆ I₂ F₆ hI₂ N₆
    refine CompGo.intro (n := (enc p.2).length) (P := fun i v => ∃ t, v = .int (0 + i) t) (Dep := fun _ => True) (fun i ys R' => Al (IsI R') ys ((List.range i).map (rd p.2))) (Src.range hh') F₆ N₆ upd_self trivial (by omega) rfl
      (fun i ys R R' g x => x.imp fun v x q => IsI.mono _ _ v x g q) (fun _ _ => .nil) (fun i ys R' x => by have := x.len; simp at this; omega) ?_ ?_
    · intro cenv₂ C₂ h₇ tk₇ c₇ mC₇ R₃ k zs v₃ Vc₂ hfrm₂ hk hP₂ hInv₂ F₇ N₇ g₂ hcs₂ hdep₂
      obtain ⟨tv, rfl⟩ := hP₂
      have g₃ : Grow R₂ R₃ := turn_grow g₂ hI₂ N₆.none_L
      have z1' := g₃ _ _ z1
      have z2' := g₃ _ _ z2
      obtain ⟨d, hd1, hd2, hd3⟩ := enc_get hk
      walk_at "go"
      refine wpAny_tests_nil ?_
      rw [if_pos rfl]
      walk_at "go"
      refine r_bmeth slot_bytes_index type_bytes_index ?_
      walk_at "go"
      refine subscriptTail_builtin (typeIs_bytes _ _ _) FB.slot_bytes_getitem.lookup (getItem_bytes (by omega) (by omega) (by omega) ?_)
      have e0 : (0 + (k : Int)).toNat = k := by omega
      rw [e0, hd3]
      walk_at "go"
      refine r_bindex d (by omega) (by have := (UInt8.ofNat (65 + d)).toNat_lt; omega) (by decide) (ap_find ⟨d, hd1⟩) ?_
      intro t₈ tk₈
      walk_at "go"
      have eb : Builtin.Int.intBits 16 = 5 := by decide +kernel
      refine pow_int (by omega) (by rw [eb]; omega) ?_
      walk_at "go"
      refine mul_int ?_ (by
        have := bits16 ⟨d, hd1⟩
        dsimp only at this
        have h2 : ¬ (Builtin.Int.intBits (d : Int) > shortFactorBits) := by unfold shortFactorBits; omega
        unfold IntMulOk; rw [decide_eq_false h2]; simp)
      rename Fr _ _ _ _ => Fz
      rename Led _ _ _ _ => Nz
      refine ⟨_, _, _, _, rfl, Fz, Nz, GrowX.refl _ _, (fun k hk => nomatch (show k ∈ [] from hk)), ?_⟩
      rw [List.range_succ, List.map_append]
      refine hInv₂.snoc ?_
      have e1 : ((enc p.2).length - 1 - (0 + (k : Int))).toNat = (enc p.2).length - 1 - k := by omega
      unfold rd IsI
      rw [e1, hd2]; exact ⟨_, rfl⟩
    · intro Dd₂ h₇ tk₇ R₃ zs e₃ F₇ N₇ g₂ hD₂ hD₂' hInv₂
      have g₃ : Grow R₂ R₃ := growX_drop g₂ hI₂
      walk_at "go"
      refine r_sum hh' F₇ N₇ hD₂' hInv₂.ints ?_
      rw [rd_sum]
      intro h₈ tk₈ t₈ F₈ N₈
      refine ⟨_, _, _, _, rfl, F₈, N₈, gx.trans (.of g₃), (fun k hk => ?_), ?_⟩
      · rcases List.mem_cons.mp (show k ∈ [C + 1 + 1, C + 1] from hk) with rfl | hk
        · exact ⟨_, g₃ _ _ z2⟩
        · rw [List.mem_singleton.mp hk]; exact ⟨_, g₃ _ _ z1⟩
      · rw [take_succ' hp, List.map_append]
        refine Al.snoc (v := .int (p.2 : Int) t₈) (hInv.imp fun v x q => IsI.mono _ _ v x (FzLe.refl _) q) ⟨t₈, rfl⟩
  · intro Dd h₃ tk₃ R' ys e' F₃ N₃ g hD hD' hInv
    have g₀ : Grow R₀ R' := growX_drop g hI
    walk_at "go"
    subst hR₀
    obtain ⟨f1, f2, f3, f4⟩ := back F₃ N₃ g₀ hc hRL hle
    refine h _ _ _ _ f3 ⟨Dd, ys, e', rfl, f4 _ _ hD' rfl, ?_⟩ f1 f2
    rw [List.length_map, List.take_length] at hInv
    exact hInv.imp fun v x q => q
end
end
section
/-! pure: what is told and what is due -/
open PySem
abbrev Asc (l : List Nat) : Prop := l.Pairwise (· < ·)
def ins (n : Nat) : List Nat → List Nat
  | [] => [n]
  | a :: l => if n < a then n :: a :: l else a :: ins n l
theorem ins_perm (n : Nat) (l : List Nat) : (ins n l).Perm (n :: l) := by
  induction l with
  | nil => exact .refl _
  | cons a l ih =>
    unfold ins
    split
    · exact .refl _
    · exact (List.Perm.cons a ih).trans (List.Perm.swap n a l)
theorem ins_asc {n : Nat} {l : List Nat} (h : Asc l) (hn : n ∉ l) : Asc (ins n l) := by
  induction l with
  | nil => exact List.pairwise_singleton _ _
  | cons a l ih =>
    obtain ⟨h1, h2⟩ := List.pairwise_cons.mp h
    unfold ins
    split
    · rename_i hlt
      refine List.pairwise_cons.mpr ⟨fun b hb => ?_, h⟩
      rcases List.mem_cons.mp hb with rfl | hb
      · exact hlt
      · exact Nat.lt_trans hlt (h1 b hb)
    · rename_i hlt
      refine List.pairwise_cons.mpr ⟨fun b hb => ?_, ih h2 (fun q => hn (List.mem_cons_of_mem _ q))⟩
      rcases List.mem_cons.mp ((ins_perm n l).subset hb) with rfl | hb
      · have : b ≠ a := fun q => hn (q ▸ List.mem_cons_self ..)
        omega
      · exact h1 b hb
theorem Asc.le {l : List Nat} (h : Asc l) : l.Pairwise (· ≤ ·) := h.imp Nat.le_of_lt
theorem perm_asc {l l' : List Nat} (h : l.Pairwise (· ≤ ·)) (h' : l'.Pairwise (· ≤ ·)) (p : l.Perm l') : l = l' :=
  List.Perm.eq_of_pairwise (fun _ _ _ _ x y => Nat.le_antisymm x y) h h' p
theorem perm_ascI {l l' : List Int} (h : l.Pairwise (· ≤ ·)) (h' : l'.Pairwise (· ≤ ·)) (p : l.Perm l') : l = l' :=
  List.Perm.eq_of_pairwise (fun _ _ _ _ x y => Int.le_antisymm x y) h h' p
def dn (C S : List Nat) : List Nat := C.filter fun k => !S.contains k
abbrev toI (l : List Nat) : List Int := l.map (fun k : Nat => (k : Int))
abbrev Ent := List Int ⊕ List (List (List Int))
structure St where
  S : List Nat
  C : List Nat
  out : List Ent
def asked (S C : List Nat) : Ent := .inr [[toI (dn C S), toI (dn S C)], [(toI (dn C S)).reverse, toI (dn S C)], List.replicate (S.length - 1) [-1, 1, 0]]
def stp (st : St) (x : Int) : St :=
  let n := (num x).natAbs
  if x % 4 < 2 then if n ∈ st.S then st else ⟨ins n st.S, st.C, st.out⟩
  else if x % 4 = 2 then (match st.S with
    | [] => st
    | a :: S' => if n ∈ a :: S' then st else ⟨ins n S', st.C, st.out ++ [.inl [(a : Int)]]⟩)
  else ⟨st.S, st.S, st.out ++ [asked st.S st.C]⟩
structure Wf (st : St) (i : Nat) : Prop where
  s : Asc st.S
  c : Asc st.C
  sb : ∀ k ∈ st.S, k < 2 ^ 40
  cb : ∀ k ∈ st.C, k < 2 ^ 40
  sl : st.S.length ≤ i
  cl : st.C.length ≤ i
  ol : st.out.length ≤ i
def st₀ : St := ⟨[], [], []⟩
theorem wf₀ : Wf st₀ 0 := ⟨.nil, .nil, fun _ h => (nomatch h), fun _ h => (nomatch h), Nat.le_refl _, Nat.le_refl _, Nat.le_refl _⟩
theorem Wf.up {st : St} {i : Nat} (h : Wf st i) : Wf st (i + 1) := ⟨h.s, h.c, h.sb, h.cb, Nat.le_succ_of_le h.sl, Nat.le_succ_of_le h.cl, Nat.le_succ_of_le h.ol⟩
theorem ins_len (n : Nat) (l : List Nat) : (ins n l).length = l.length + 1 := by simpa using (ins_perm n l).length_eq
theorem stp_wf {st : St} {i : Nat} (h : Wf st i) (x : Int) : Wf (stp st x) (i + 1) := by
  unfold stp
  dsimp only
  have hb := num_lt x
  split
  · split
    · exact h.up
    · rename_i hn
      exact ⟨ins_asc h.s hn, h.c, fun k hk => by
        rcases List.mem_cons.mp ((ins_perm _ _).subset hk) with rfl | hk
        · exact hb
        · exact h.sb k hk, h.cb, by rw [ins_len]; exact Nat.succ_le_succ h.sl, Nat.le_succ_of_le h.cl, Nat.le_succ_of_le h.ol⟩
  · split
    · split
      · exact h.up
      · rename_i a S' e
        have hs := h.s
        have hsb := h.sb
        have hsl := h.sl
        rw [e] at hs hsb hsl
        split
        · exact h.up
        · rename_i hn
          refine ⟨ins_asc (List.pairwise_cons.mp hs).2 (fun q => hn (List.mem_cons_of_mem _ q)), h.c, fun k hk => ?_, h.cb, ?_, Nat.le_succ_of_le h.cl, ?_⟩
          · rcases List.mem_cons.mp ((ins_perm _ _).subset hk) with rfl | hk
            · exact hb
            · exact hsb k (List.mem_cons_of_mem _ hk)
          · simp only at hsl ⊢
            rw [ins_len]
            simp only [List.length_cons] at hsl
            omega
          · have := h.ol
            simp; omega
    · refine ⟨h.s, h.s, h.sb, h.sb, Nat.le_succ_of_le h.sl, Nat.le_succ_of_le h.sl, ?_⟩
      have := h.ol
      simp; omega
def run (ns : List Int) : St := ns.foldl stp st₀
theorem run_snoc {ns : List Int} {i : Nat} {x : Int} (h : ns[i]? = some x) : run (ns.take (i + 1)) = stp (run (ns.take i)) x := by
  unfold run; rw [take_succ' h, List.foldl_append]; rfl
theorem run_wf (ns : List Int) : ∀ i, i ≤ ns.length → Wf (run (ns.take i)) i
  | 0, _ => wf₀
  | i + 1, h => by
    rw [run_snoc (List.getElem?_eq_getElem h)]
    exact stp_wf (run_wf ns i (Nat.le_of_lt h)) _
/-! keys -/
variable {α : Type}
abbrev ks (ps : List (α × Nat)) : List Nat := ps.map Prod.snd
theorem has_ks (ps : List (α × Nat)) (k : Nat) : has ps k = (ks ps).contains k := by
  rw [Bool.eq_iff_iff, has_iff]
  simp [ks]
theorem ks_dif (ps qs : List (α × Nat)) : ks (dif ps qs) = dn (ks ps) (ks qs) := by
  unfold dif dn ks
  rw [List.filter_map]
  congr 1
  apply List.filter_congr
  intro p _
  simp [has_ks]
theorem ks_uMiss (ps qs : List (α × Nat)) : ks (uMiss ps qs) = (dn (ks ps) (ks qs)).reverse := by
  rw [← ks_dif]; unfold uMiss ks; rw [List.map_reverse]; rfl
theorem ks_uLeft (ps qs : List (α × Nat)) : ks (uLeft ps qs) = dn (ks qs) (ks ps) := by
  rw [← ks_dif]; rfl
theorem SS_of {ps : List (α × Nat)} (h : Asc (ks ps)) : SS ps := List.pairwise_map.mp h
theorem mem_ks {ps : List (α × Nat)} {p : α × Nat} (h : p ∈ ps) : p.2 ∈ ks ps := List.mem_map_of_mem h
theorem heap_push {ps ps' : List (α × Nat)} {x : α × Nat} {S : List Nat} (h : (ks ps).Perm S) (p : ps'.Perm (ps ++ [x])) : (ks ps').Perm (ins x.2 S) := by
  refine (p.map Prod.snd).trans ?_
  rw [List.map_append]
  refine List.Perm.trans ?_ (ins_perm _ _).symm
  exact List.perm_append_comm.trans (List.Perm.cons _ h)
theorem heap_head {ps : List (α × Nat)} {y : α × Nat} {a : Nat} {S : List Nat} (h : (ks ps).Perm (a :: S)) (hS : Asc (a :: S)) (hy : y ∈ ps) (hmin : ∀ p ∈ ps, y.2 ≤ p.2) : y.2 = a := by
  have h1 : y.2 ∈ a :: S := h.subset (mem_ks hy)
  obtain ⟨p, hp, e⟩ := List.mem_map.mp (h.symm.subset (List.mem_cons_self ..))
  have h2 := hmin p hp
  rcases List.mem_cons.mp h1 with h1 | h1
  · exact h1
  · have := (List.pairwise_cons.mp hS).1 _ h1
    omega
theorem heap_repl {ps ps' : List (α × Nat)} {x y : α × Nat} {a : Nat} {S : List Nat} (h : (ks ps).Perm (a :: S)) (p : (y :: ps').Perm (x :: ps)) (e : y.2 = a) : (ks ps').Perm (ins x.2 S) := by
  have h1 : (a :: ks ps').Perm (x.2 :: ks ps) := by
    have := p.map Prod.snd
    simp only [List.map_cons, e] at this
    exact this
  have h2 := h1.trans ((List.Perm.cons x.2 h).trans (List.Perm.swap a x.2 S))
  exact (List.Perm.cons_inv h2).trans (ins_perm _ _).symm
theorem listed_eq {ps qs : List (α × Nat)} {S : List Nat} (h : (ks ps).Perm S) (hS : Asc S) (p : qs.Perm ps) (hs : qs.Pairwise fun x y => x.2 ≤ y.2) : ks qs = S :=
  perm_asc (List.pairwise_map.mpr hs) hS.le ((p.map Prod.snd).trans h)
theorem dn_sub {C S : List Nat} {k : Nat} (h : k ∈ dn C S) : k ∈ C := (List.mem_filter.mp h).1
end
section
set_option maxRecDepth 100000
def IsE (R : Ledger) (v : Value) : Ent → Prop
  | .inl l => IsLs IsI R v l
  | .inr l => IsLs (IsLs (IsLs IsI)) R v l
theorem IsE.mono : Mono IsE := fun R R' v x g h => by
  cases x with
  | inl l => exact IsLs.mono IsI.mono R R' v l g h
  | inr l => exact IsLs.mono (IsLs.mono (IsLs.mono IsI.mono)) R R' v l g h
def Eqs {α : Type} (d : Nat) (P : Ledger → Value → α → Prop) : Prop := ∀ (A : Around) (s : Shared) (B : Heap) (L : Addr) (R : Ledger) (v u : Value) (x : α), A.units + d < cLine → Led B L s.heap R → P R v x → P R u x → SeqAt.EqAt A s v u true
theorem Eqs.int : Eqs 0 IsI := fun A s B L R v u x _ _ h1 h2 => by
  obtain ⟨t, rfl⟩ := h1
  obtain ⟨t', rfl⟩ := h2
  have := SeqAt.EqAt.int_int (A := A) (s := s) x t x t'
  simpa using this
theorem Al.two {α : Type} {P : Value → α → Prop} : ∀ {vs us : List Value} {xs : List α}, Al P vs xs → Al P us xs → ∀ j (h1 : j < vs.length) (h2 : j < us.length), ∃ x, P vs[j] x ∧ P us[j] x
  | _, _, _, .nil, .nil, j, h1, _ => by simp at h1
  | _, _, _, .cons a ha, .cons b hb, 0, _, _ => ⟨_, a, b⟩
  | _, _, _, .cons a ha, .cons b hb, j + 1, h1, h2 => Al.two ha hb j (by simpa using h1) (by simpa using h2)
theorem eqs_rc {α : Type} {d : Nat} {P : Ledger → Value → α → Prop} (h : Eqs d P) {A : Around} {s : Shared} {B : Heap} {L : Addr} {R : Ledger} {v u : Value} {x : List α} (hu : A.units + (d + 1) < cLine) (N : Led B L s.heap R) (h1 : IsLs P R v x) (h2 : IsLs P R u x) : SeqAt.RcAt A s v u true := by
  obtain ⟨a, vs, e, rfl, ra, al⟩ := h1
  obtain ⟨b, us, e', rfl, rb, bl⟩ := h2
  have := SeqAt.RcAt.lists (A := A) (s := s) (e := fun _ => true) (N.isList ra) (N.isList rb) (by simp [al.len, bl.len]) (by omega) (fun j q1 q2 => by
    obtain ⟨y, y1, y2⟩ := al.two bl j (by simpa using q1) (by simpa using q2)
    have := h A.in1 s B L R vs[j] us[j] y (by rw [Around.in1_units]; omega) N y1 y2
    simpa using this)
  have e : ((List.range vs.toArray.size).all fun _ => true) = true := by simp
  rw [e] at this
  exact this
theorem Eqs.ls {α : Type} {d : Nat} {P : Ledger → Value → α → Prop} (h : Eqs d P) : Eqs (d + 1) (IsLs P) := fun A s B L R v u x hu N h1 h2 => by
  have rc := eqs_rc h hu N h1 h2
  obtain ⟨a, vs, e, rfl, ra, al⟩ := h1
  obtain ⟨b, us, e', rfl, rb, bl⟩ := h2
  by_cases q : a = b
  · subst q; exact SeqAt.EqAt.same _
  · exact SeqAt.EqAt.of_refs q rc
theorem Eqs.up {α : Type} {d d' : Nat} {P : Ledger → Value → α → Prop} (h : Eqs d P) (hd : d ≤ d') : Eqs d' P := fun A s B L R v u x hu => h A s B L R v u x (by omega)
theorem Eqs.ent : Eqs 3 IsE := fun A s B L R v u x hu N h1 h2 => by
  cases x with
  | inl l => exact Eqs.up Eqs.int.ls (by omega) A s B L R v u l hu N h1 h2
  | inr l => exact Eqs.int.ls.ls.ls A s B L R v u l hu N h1 h2
theorem keyIs_any {R : Ledger} {ps : List (Value × Nat)} {k : Nat} (hit : ∀ p ∈ ps, IsItem R p.1 p.2) : (ps.map Prod.fst).any (keyIs ps k) = (ks ps).contains k := by
  rw [← has_ks, List.any_map]
  unfold has
  rw [Bool.eq_iff_iff, List.any_eq_true, List.any_eq_true]
  constructor
  · rintro ⟨p, hp, h⟩; exact ⟨p, hp, by rw [← keyIs_eq hit hp]; exact h⟩
  · rintro ⟨p, hp, h⟩; exact ⟨p, hp, by rw [Function.comp, keyIs_eq hit hp]; exact h⟩
/-! a list frozen -/
def frz (R : Ledger) (a : Addr) : Ledger := fun b => if b = a then (R b).map (fun c => { c with fz := true }) else R b
theorem frz_self {R : Ledger} {a : Addr} {c : Cell} (h : R a = some c) : frz R a a = some { c with fz := true } := by simp [frz, h]
theorem frz_any {R : Ledger} {a b : Addr} {fz : Bool} {vs : List Value} {e : Nat} (h : R b = some (ListC fz vs e)) : ∃ fz', frz R a b = some (ListC fz' vs e) := by
  by_cases q : b = a
  · subst q; exact ⟨true, frz_self h⟩
  · exact ⟨fz, by simp [frz, q, h]⟩
theorem frz_fz (R : Ledger) (a : Addr) : FzLe R (frz R a) := fun b x h hx => by
  by_cases q : b = a
  · subst q; rw [frz_self h]; cases x; cases hx; rfl
  · simp [frz, q, h]
theorem frz_grow {R₀ R : Ledger} {a : Addr} (g : Grow R₀ R) (h : R₀ a = none) : Grow R₀ (frz R a) := fun b x e => by
  have q : b ≠ a := ne_of_none e h
  simp only [frz, q, if_false]; exact g _ _ e
theorem Led.frz {B : Heap} {L : Addr} {h : Heap} {R : Ledger} (N : Led B L h R) (a : Addr) : Led B L h (frz R a) := fun b x e => by
  by_cases q : b = a
  · subst q
    simp only [Mine.frz, if_true] at e
    cases hx : R b with
    | none => rw [hx] at e; cases e
    | some c =>
      rw [hx] at e
      cases e
      obtain ⟨⟨o, ho, h1⟩, r⟩ := N _ _ hx
      exact ⟨⟨o, ho, h1⟩, r⟩
  · simp only [Mine.frz, q, if_false] at e; exact N b x e
theorem growX_out {X : List Addr} {R₀ R R' : Ledger} (g : GrowX X R R') (g₀ : Grow R₀ R) (h : ∀ x ∈ X, R₀ x = none) : Grow R₀ R' := fun a c e => g a c (fun hm => by rw [h a hm] at e; cases e) (g₀ a c e)
section
variable {prog : Program} {w : World} {A : Around} {E : Value → Shared → Prop} {s : Shared} {B : Heap} {L l : Addr} {m : Str → Option Value} {R : Ledger} {fz : Bool} {vs : List Value} {e : Nat}
theorem r_notInItems {ps : List (Value × Nat)} {v : Value} {k : Nat} {Q : Value → Shared → Prop} (N : Led B L s.heap R) (hu : A.units + 1 < cLine) (hl : R l = some (ListC fz (ps.map Prod.fst) e)) (hit : ∀ p ∈ ps, IsItem R p.1 p.2) (hv : IsItem R v k)
    (h : Q (.bool (!decide (k ∈ ks ps))) s) : wpAny (model prog w) A (compareOp .NotIn v (.ref l)) Q E s := by
  refine r_notIn (keyIs ps k) N hl (fun y hy => keyIs_at N (by rw [Around.in1_units]; exact hu) hit hv y (by simpa using hy)) ?_
  rw [keyIs_any hit]
  simpa using h
theorem r_notInInts {xs : List Nat} {k : Nat} {t : Tok} {Q : Value → Shared → Prop} (N : Led B L s.heap R) (hl : R l = some (ListC fz vs e)) (hi : Al (IsI R) vs (toI xs))
    (h : Q (.bool (!decide (k ∈ xs))) s) : wpAny (model prog w) A (compareOp .NotIn (.int k t) (.ref l)) Q E s := by
  refine r_notIn (fun y => match y with | .int i _ => i == (k : Int) | _ => false) N hl (fun y hy => ?_) ?_
  · have : ∃ i t, y = .int i t := by
      have h1 := hi.ints
      clear hi h hl
      generalize toI xs = zs at h1
      induction h1 with
      | nil => cases hy
      | cons n t _ ih =>
        rcases List.mem_cons.mp hy with rfl | hy
        · exact ⟨n, t, rfl⟩
        · exact ih hy
    obtain ⟨i, t', rfl⟩ := this
    exact SeqAt.EqAt.int_int i t' k t
  · have e1 : (vs.any fun y => match y with | .int i _ => i == (k : Int) | _ => false) = decide (k ∈ xs) := by
      have h1 := hi.ints
      clear hi h hl
      induction xs generalizing vs with
      | nil => cases h1; rfl
      | cons a xs ih =>
        cases h1 with
        | cons n t h2 =>
          rw [List.any_cons, ih h2]
          have e0 : ((a : Int) == (k : Int)) = decide (k = a) := by
            rw [Bool.eq_iff_iff]; simp only [beq_iff_eq, decide_eq_true_eq]; omega
          show ((a : Int) == (k : Int) || decide (k ∈ xs)) = decide (k ∈ a :: xs)
          rw [e0, Bool.eq_iff_iff]; simp only [Bool.or_eq_true, decide_eq_true_eq, List.mem_cons]
    rw [e1]; exact h
end
end
section
/-! ## _law_told: the asking branch -/
def forB (i : Nat) : List Stmt := match (fn i).body[1]? with | some (PySem.Stmt.For _ _ b _ _) => b | _ => []
def ifB : List Stmt → List Stmt × List Stmt
  | _ :: PySem.Stmt.If _ b o _ :: _ => (b, o)
  | PySem.Stmt.If _ b o _ :: _ => (b, o)
  | _ => ([], [])
def askB : List Stmt := (ifB (ifB (ifB (forB 17)).2).2).1
def ask2B : List Stmt := askB.drop 3
def IsP2 (qs : List (Value × Nat)) (R : Ledger) (v : Value) (j : Nat) : Prop := ∃ a p p', v = .ref a ∧ R a = some (ListC true [p.1, p'.1] 0) ∧ qs[j]? = some p ∧ qs[j + 1]? = some p'
theorem IsP2.mono {qs : List (Value × Nat)} : Mono (IsP2 qs) := fun _ _ _ _ g ⟨a, p, p', e1, e2, e3⟩ => ⟨a, p, p', e1, g _ _ e2 rfl, e3⟩
/-- what the loop keeps -/
structure TJ (R₀ : Ledger) (kc : Addr) (ccl : Value) (st : St) (m : Str → Option Value) (R : Ledger) (hp cl tl : Addr) (ps cs : List (Value × Nat)) (us : List Value) (e1 e2 e3 : Nat) (v : Option Value) : Prop where
  mh : m "heap" = some (.ref hp)
  mc : m "client" = some (.ref cl)
  mt : m "told" = some (.ref tl)
  rh : R hp = some (ListC false (ps.map Prod.fst) e1)
  hi : ∀ p ∈ ps, IsItem R p.1 p.2
  hH : Hp (K ps) ps.length
  hk : (ks ps).Perm st.S
  rc : R cl = some (ListC true (cs.map Prod.fst) e2)
  ci : ∀ p ∈ cs, IsItem R p.1 p.2
  ck : ks cs = st.C
  rt : R tl = some (ListC true us e3)
  ta : Al (IsE R) us st.out
  gr : Grow R₀ R
  nh : R₀ hp = none
  rk : R kc = some (CelC ccl v)
def TJE (R₀ : Ledger) (kc : Addr) (ccl : Value) (st : St) (m : Str → Option Value) (R : Ledger) : Prop := ∃ hp cl tl ps cs us e1 e2 e3 v, TJ R₀ kc ccl st m R hp cl tl ps cs us e1 e2 e3 v
section
variable {prog : Program} {w : World} {A : Around} {E : Value → Shared → Prop} {s : Shared} {B : Heap} {L : Addr} {m mg mb : Str → Option Value} {R R₀ : Ledger} {env : Env} {outer : List Env} {kc : Addr} {ccl : Value} {st : St} {i : Nat}
  {hp cl tl : Addr} {ps cs : List (Value × Nat)} {us : List Value} {e1 e2 e3 : Nat} {v : Option Value}
theorem Al.get {α : Type} {P : Value → α → Prop} {vs : List Value} {xs : List α} (h : Al P vs xs) : ∀ {j : Nat} {v : Value}, vs[j]? = some v → ∀ {y : α}, xs[j]? = some y → P v y := by
  induction h with
  | nil => intro j v hv; simp at hv
  | cons a _ ih =>
    intro j v hv y hy
    cases j with
    | zero => simp at hv hy; subst hv hy; exact a
    | succ j => exact ih (by simpa using hv) (by simpa using hy)
theorem get2 {α : Type} {l : List α} {j : Nat} (h : j < l.length) : ∃ x, l[j]? = some x := ⟨l[j], List.getElem?_eq_getElem h⟩
set_option maxRecDepth 10000 in
set_option maxHeartbeats 4000000 in
theorem told_ask2 {Q : Flow → Shared → Prop} {q ra : Addr} {qs : List (Value × Nat)} {rv : List Value} {eq re : Nat} (V : EnvIs env (fn 17).scope L [("listed", kc)]) (F : Fr B L s.heap m) (N : Led B L s.heap R) (G : Gl B mg mb) (hh : A.handled = none) (hroom : A.depth + 60 < recursionLimit) (hu : A.units + 500 < cLine)
    (hfr : A.frames = some (env :: outer)) (hFs : Frs B L R env outer) (hw : Wf st i) (hi : i ≤ 60) (J : TJ R₀ kc ccl st m R hp cl tl ps cs us e1 e2 e3 (some (.ref q)))
    (rq : R q = some (ListC true (qs.map Prod.fst) eq)) (qi : ∀ p ∈ qs, IsItem R p.1 p.2) (kq : ks qs = st.S) (mr : m "rising" = some (.ref ra)) (rr : R ra = some (ListC true rv re)) (hR : Al (IsLs IsI R) rv (List.replicate (st.S.length - 1) [-1, 1, 0]))
    (h : ∀ h' tk m' R', Fr B L h' m' → Led B L h' R' → Grow R R' → TJE R₀ kc ccl ⟨st.S, st.S, st.out ++ [asked st.S st.C]⟩ m' R' → Q .next { s with heap := h', toks := tk }) :
    wpAny (model prog w) A (execs ask2B env) Q E s := by
  obtain ⟨b, hb⟩ : ∃ b, b = ask2B := ⟨_, rfl⟩
  rw [← hb]
  conv at hb => rhs; whnf
  subst hb
  obtain ⟨sc, hsc⟩ : ∃ d, d = (fn 17).scope := ⟨_, rfl⟩
  rw [← hsc] at V
  conv at hsc => rhs; whnf
  subst hsc
  obtain ⟨mh, mc, mt, rh, hpi, hH, hk, rc, ci, ck, rt, ta, gr, nh, rk⟩ := J
  have lq : qs.length ≤ 60 := by
    have : (ks qs).length ≤ i := by rw [kq]; exact hw.sl
    simp [ks] at this; omega
  have lc : cs.length ≤ 60 := by
    have : (ks cs).length ≤ i := by rw [ck]; exact hw.cl
    simp [ks] at this; omega
  have hRL := N.none_L
  have gf : ∀ {R' : Ledger}, Grow R R' → TJ R₀ kc ccl st m R' hp cl tl ps cs us e1 e2 e3 (some (.ref q)) := fun g =>
    ⟨mh, mc, mt, g _ _ rh, fun p hp => (hpi p hp).mono g.fz, hH, hk, g _ _ rc, fun p hp => (ci p hp).mono g.fz, ck, g _ _ rt, ta.imp fun v x => IsE.mono _ _ v x g.fz, gr.trans g, nh, g _ _ rk⟩
  have sc : SS cs := SS_of (by rw [ck]; exact hw.c)
  have sq : SS qs := SS_of (by rw [kq]; exact hw.s)
  walk_at "go"
  refine sortedDiff (ps := cs) (qs := qs) F N G (by assumption) hh (by omega) (by omega) hfr hFs rc rq ci qi (by omega) (by omega) sc sq ?_
  intro t1 a1 a2 R₁ h₁ tk₁ y1 y2 g₁ r1 r2 r3 F₁ N₁
  walk_at "go"
  refine r_slice false (cs.map Prod.fst) F₁ N₁ (g₁ _ _ rc) .none .none .none (by decide) (pick_all _) (by simp; omega) (by with_unfolding_all rfl) (by intro _; with_unfolding_all rfl) ?_
  intro h₂ x₁ F₂ hx₁ N₂
  have rq₂ : upd R₁ x₁ (ListC false (cs.map Prod.fst) 0) q = some (ListC true (qs.map Prod.fst) eq) := upd_new hx₁ (g₁ _ _ rq)
  have rk₂ : upd R₁ x₁ (ListC false (cs.map Prod.fst) 0) kc = some (CelC ccl (some (.ref q))) := upd_new hx₁ (g₁ _ _ rk)
  walk_at "go"
  refine r_slice false (qs.map Prod.fst) F₂ N₂ rq₂ .none .none .none (by decide) (pick_all _) (by simp; omega) (by with_unfolding_all rfl) (by intro _; with_unfolding_all rfl) ?_
  intro h₃ x₂ F₃ hx₂ N₃
  have hx12 : x₁ ≠ x₂ := ne_of_none upd_self hx₂
  have g₃ : Grow R₁ (upd (upd R₁ x₁ (ListC false (cs.map Prod.fst) 0)) x₂ (ListC false (qs.map Prod.fst) 0)) := (Grow.new hx₁).trans (Grow.new hx₂)
  have f₃ := (g₁.trans g₃).fz
  walk_at "go"
  refine unorderable (ps := cs) (qs := qs) F₃ N₃ G (by assumption) hh (by omega) (by omega) hfr (hFs.grow (g₁.trans g₃)) (upd_new hx₂ upd_self) upd_self hx12 (fun p hp => (ci p hp).mono f₃) (fun p hp => (qi p hp).mono f₃) (by omega) (by omega) sc.nd sq.nd ?_
  intro t2 a3 R₄ h₄ tk₄ y3 y4 g₄ r4 r5 r6 F₄ N₄
  have hx₁R₁ : R₁ x₁ = none := hx₁
  have hx₂R₁ : R₁ x₂ = none := by rw [upd_ne (Ne.symm hx12)] at hx₂; exact hx₂
  have g₁₄ : Grow R₁ R₄ := growX_out g₄ g₃ (by intro z hz; rcases List.mem_cons.mp hz with rfl | hz; exact hx₁R₁; rw [List.mem_singleton.mp hz]; exact hx₂R₁)
  walk_at "go"
  refine r_newList true F₄ N₄ (by simp [sizeLine]) ?_
  intro h₅ n₅ F₅ hn₅ N₅
  have g₄₅ : Grow R₄ (upd R₄ n₅ (ListC true [.ref t1, .ref t2] 0)) := Grow.new hn₅
  have rb : upd R₄ n₅ (ListC true [.ref t1, .ref t2] 0) n₅ = some (ListC true [.ref t1, .ref t2] 0) := upd_self
  generalize upd R₄ n₅ (ListC true [.ref t1, .ref t2] 0) = R₅ at *
  have gR : Grow R R₅ := (g₁.trans g₁₄).trans g₄₅
  have ci₅ : ∀ p ∈ cs, IsItem R₅ p.1 p.2 := fun p hp => (ci p hp).mono gR.fz
  have qi₅ : ∀ p ∈ qs, IsItem R₅ p.1 p.2 := fun p hp => (qi p hp).mono gR.fz
  have cb : ∀ p ∈ cs, p.2 < 2 ^ 40 := fun p hp => hw.cb _ (ck ▸ mem_ks hp)
  have qb : ∀ p ∈ qs, p.2 < 2 ^ 40 := fun p hp => hw.sb _ (kq ▸ mem_ks hp)
  obtain ⟨bs, hbs⟩ : ∃ bs, bs = [(dif cs qs, dif qs cs), (uMiss cs qs, uLeft cs qs)] := ⟨_, rfl⟩
  have hB : ∀ (j : Nat) (v : Value), [Value.ref t1, Value.ref t2][j]? = some v → ∃ (t x1 x2 : Addr) (b1 b2 : List (Value × Nat)) (c1 c2 : Nat), v = .ref t ∧ R₅ t = some (TupC true [.ref x1, .ref x2] 0) ∧ R₅ x1 = some (ListC false (b1.map Prod.fst) c1) ∧ R₅ x2 = some (ListC false (b2.map Prod.fst) c2) ∧
      (∀ p ∈ b1, IsItem R₅ p.1 p.2) ∧ (∀ p ∈ b2, IsItem R₅ p.1 p.2) ∧ (∀ p ∈ b1, p.2 < 2 ^ 40) ∧ (∀ p ∈ b2, p.2 < 2 ^ 40) ∧ b1.length ≤ 900 ∧ b2.length ≤ 900 ∧ bs[j]? = some (b1, b2) := by
    have s1 : ∀ {ps qs : List (Value × Nat)}, ∀ p ∈ dif ps qs, p ∈ ps := fun p hp => (List.mem_filter.mp hp).1
    have l1 : ∀ {ps qs : List (Value × Nat)}, (dif ps qs).length ≤ ps.length := List.length_filter_le _ _
    have s2 : ∀ p ∈ uMiss cs qs, p ∈ cs := fun p hp => s1 p (List.mem_reverse.mp hp)
    have l2 : (uMiss cs qs).length ≤ cs.length := by unfold uMiss; rw [List.length_reverse]; exact l1
    intro j v hv
    match j with
    | 0 =>
      simp at hv; subst hv
      exact ⟨t1, a1, a2, _, _, y1, y2, rfl, g₄₅ _ _ (g₁₄ _ _ r1), g₄₅ _ _ (g₁₄ _ _ r2), g₄₅ _ _ (g₁₄ _ _ r3), fun p hp => ci₅ p (s1 p hp), fun p hp => qi₅ p (s1 p hp), fun p hp => cb p (s1 p hp), fun p hp => qb p (s1 p hp), Nat.le_trans l1 (by omega), Nat.le_trans l1 (by omega), by rw [hbs]; rfl⟩
    | 1 =>
      simp at hv; subst hv
      exact ⟨t2, a3, x₂, _, _, y3, y4, rfl, g₄₅ _ _ r4, g₄₅ _ _ r5, g₄₅ _ _ r6, fun p hp => ci₅ p (s2 p hp), fun p hp => qi₅ p (s1 p hp), fun p hp => cb p (s2 p hp), fun p hp => qb p (s1 p hp), Nat.le_trans l2 (by omega), Nat.le_trans l1 (by omega), by rw [hbs]; rfl⟩
    | j + 2 => simp at hv
  walk_at "go"
  refine Assign_Tuple_swapped (names := ["told", "client"]) ?_ rfl (by rw [V.eta]; rfl)
  walk_at "go"
  refine r_ListComp (B := B) V (clos_ok V) rfl (by decide) ?_
  walk_at "go"
  refine r_iter (by assumption) (by assumption) rb ?_
  intro h₆ I₆ F₆ hI₆ N₆
  have hbI : n₅ ≠ I₆ := ne_of_none rb hI₆
  refine CompGo.intro (n := [Value.ref t1, Value.ref t2].length) (P := fun i v => [Value.ref t1, Value.ref t2][i]? = some v) (Dep := fun R => R n₅ = some (ListC true [Value.ref t1, Value.ref t2] 0)) (fun i ys R' => Al (IsLs (IsLs IsI) R') ys ((bs.take i).map fun b : List (Value × Nat) × List (Value × Nat) => [toI (ks b.1), toI (ks b.2)]))
    (Src.list hh hbI) F₆ N₆ upd_self (by rw [upd_ne hbI]; exact rb) (by simp) rfl
    (fun i ys R R' g x => x.imp fun v x q => IsLs.mono (IsLs.mono IsI.mono) _ _ v x g q) (fun _ _ => .nil) (fun i ys R' x => by have := x.len; simp at this; omega) ?_ ?_
  · intro cenv C h₇ tk₇ c₇ mC R₇ k zs v₇ Vc hfrm hlt hv hInv F₇ N₇ g₇ hcs hdep
    have g₇ : Grow R₅ R₇ := turn_grow g₇ hI₆ N₆.none_L
    obtain ⟨t, x1, x2, b1, b2, c1, c2, rfl, q1, q2, q3, q4, q5, q6, q7, q8, q9, q10⟩ := hB k v₇ hv
    refine r_unpack (by assumption) (by assumption) (g₇ _ _ q1) hh ?_
    intro h₈ F₈ N₈
    walk_at "go"
    refine wpAny_tests_nil ?_
    rw [if_pos rfl]
    walk_at "go"
    refine law_read (ps := b1) (by assumption) (by assumption) G (by assumption) hh (by omega) (g₇ _ _ q2) (fun p hp => (q4 p hp).mono g₇.fz) q6 q8 ?_
    intro h₉ tk₉ R₉ v₉ g₉ i₉ F₉ N₉
    walk_at "go"
    refine law_read (ps := b2) (by assumption) (by assumption) G (by assumption) hh (by omega) (g₉ _ _ (g₇ _ _ q3)) (fun p hp => (q5 p hp).mono (g₇.trans g₉).fz) q7 q9 ?_
    intro h₁₀ tk₁₀ R₁₀ v₁₀ g₁₀ i₁₀ F₁₀ N₁₀
    walk_at "go"
    refine r_newList true (by assumption) (by assumption) (by simp [sizeLine]) ?_
    intro h₁₁ n₁₁ F₁₁ hn₁₁ N₁₁
    have gn : Grow R₁₀ (upd R₁₀ n₁₁ (ListC true [v₉, v₁₀] 0)) := Grow.new hn₁₁
    have gA : Grow R₇ (upd R₁₀ n₁₁ (ListC true [v₉, v₁₀] 0)) := (g₉.trans g₁₀).trans gn
    refine ⟨_, _, _, _, rfl, F₁₁, N₁₁, .of gA, (fun k hk => nomatch (show k ∈ [] from hk)), ?_⟩
    rw [take_succ' q10, List.map_append]
    refine (hInv.imp fun v x q => IsLs.mono (IsLs.mono IsI.mono) _ _ v x gA.fz q).snoc ⟨n₁₁, _, 0, rfl, upd_self, ?_⟩
    have e9 : ∀ b : List (Value × Nat), toI (ks b) = b.map fun p => (p.2 : Int) := fun b => by simp [toI, ks]
    show Al _ [v₉, v₁₀] [toI (ks b1), toI (ks b2)]
    rw [e9, e9]
    exact .cons (IsLs.mono IsI.mono _ _ _ _ (g₁₀.trans gn).fz i₉) (.cons (IsLs.mono IsI.mono _ _ _ _ gn.fz i₁₀) .nil)
  intro ea h₇ tk₇ R₇ ev ee F₇ N₇ g₇ _ re₇ hE
  have g₇ : Grow R₅ R₇ := growX_drop g₇ hI₆
  walk_at "go"
  refine r_newList true (by assumption) (by assumption) (by simp [sizeLine]) ?_
  intro h₈ n₈ F₈ hn₈ N₈
  have evl : ev.length = 2 := by have := hE.len; rw [hbs] at this; simpa using this
  walk_at "go"
  refine r_add true F₈ N₈ (upd_new hn₈ re₇) upd_self (by simp [evl]) ?_
  intro h₉ n₉ F₉ hn₉ N₉
  walk_at "go"
  refine r_newList true (by assumption) (by assumption) (by simp [sizeLine]) ?_
  intro h₁₀ n₁₀ F₁₀ hn₁₀ N₁₀
  have g₁₀ : Grow R₇ (upd (upd (upd R₇ n₈ (ListC true [.ref ra] 0)) n₉ (ListC true (ev ++ [.ref ra]) 0)) n₁₀ (ListC true [.ref n₉] 0)) := ((Grow.new hn₈).trans (Grow.new hn₉)).trans (Grow.new hn₁₀)
  have rn₉ : upd (upd (upd R₇ n₈ (ListC true [.ref ra] 0)) n₉ (ListC true (ev ++ [.ref ra]) 0)) n₁₀ (ListC true [.ref n₉] 0) n₉ = some (ListC true (ev ++ [.ref ra]) 0) := upd_new hn₁₀ upd_self
  have rn₁₀ : upd (upd (upd R₇ n₈ (ListC true [.ref ra] 0)) n₉ (ListC true (ev ++ [.ref ra]) 0)) n₁₀ (ListC true [.ref n₉] 0) n₁₀ = some (ListC true [.ref n₉] 0) := upd_self
  generalize upd (upd (upd R₇ n₈ (ListC true [.ref ra] 0)) n₉ (ListC true (ev ++ [.ref ra]) 0)) n₁₀ (ListC true [.ref n₉] 0) = R₁₀ at *
  have gA : Grow R R₁₀ := (gR.trans g₇).trans g₁₀
  have usl : us.length ≤ 60 := by have := ta.len; have := hw.ol; omega
  walk_at "go"
  refine r_add true F₁₀ N₁₀ (gA _ _ rt) rn₁₀ (by simp; omega) ?_
  intro h₁₁ n₁₁ F₁₁ hn₁₁ N₁₁
  have rk₁₁ : upd R₁₀ n₁₁ (ListC true (us ++ [.ref n₉]) 0) kc = some (CelC ccl (some (.ref q))) := upd_new hn₁₁ (gA _ _ rk)
  walk_at "go"
  refine r_newTuple true (by assumption) (by assumption) (by simp [sizeLine]) ?_
  intro h₁₂ n₁₂ F₁₂ hn₁₂ N₁₂
  dsimp only
  refine r_unpackItems F₁₂ N₁₂ upd_self hh rfl ?_
  intro h₁₃ F₁₃ N₁₃
  show wpAny _ _ (assignInOrder [fun v => bindName env "client" v, fun v => bindName env "told" v] [.ref q, .ref n₁₁]) _ _ _
  walk_at "go"
  have gB : Grow R₁₀ (upd (upd R₁₀ n₁₁ (ListC true (us ++ [.ref n₉]) 0)) n₁₂ (TupC true [.ref n₁₁, .ref q] 0)) := (Grow.new hn₁₁).trans (Grow.new hn₁₂)
  have rn₁₁ : upd (upd R₁₀ n₁₁ (ListC true (us ++ [.ref n₉]) 0)) n₁₂ (TupC true [.ref n₁₁, .ref q] 0) n₁₁ = some (ListC true (us ++ [.ref n₉]) 0) := upd_new hn₁₂ upd_self
  rename Fr _ _ _ _ => Fz
  rename Led _ _ _ _ => Nz
  generalize upd (upd R₁₀ n₁₁ (ListC true (us ++ [.ref n₉]) 0)) n₁₂ (TupC true [.ref n₁₁, .ref q] 0) = R₁₂ at *
  have J := gf (gA.trans gB)
  refine h _ _ _ _ Fz Nz (gA.trans gB) ⟨hp, q, n₁₁, ps, qs, us ++ [.ref n₉], e1, eq, 0, some (.ref q), ⟨mh, rfl, rfl, J.rh, J.hi, J.hH, J.hk, (gA.trans gB) _ _ rq, fun p hp => (qi p hp).mono (gA.trans gB).fz, kq, rn₁₁, J.ta.snoc ?_, J.gr, nh, J.rk⟩⟩
  refine ⟨n₉, ev ++ [.ref ra], 0, rfl, gB _ _ rn₉, ?_⟩
  have ff : FzLe R₇ R₁₂ := (g₁₀.trans gB).fz
  rw [hbs] at hE
  have hE' : Al (IsLs (IsLs IsI) R₇) ev [[toI (ks (dif cs qs)), toI (ks (dif qs cs))], [toI (ks (uMiss cs qs)), toI (ks (uLeft cs qs))]] := hE
  rw [ks_dif, ks_dif, ks_uMiss, ks_uLeft, ck, kq] at hE'
  have er : toI (dn st.C st.S).reverse = (toI (dn st.C st.S)).reverse := List.map_reverse
  rw [er] at hE'
  refine (hE'.imp fun v x => IsLs.mono (IsLs.mono IsI.mono) _ _ v x ff).snoc ?_
  exact ⟨ra, rv, re, rfl, (gA.trans gB) _ _ rr, hR.imp fun v x => IsLs.mono IsI.mono _ _ v x (gA.trans gB).fz⟩
end
end
section
section
variable {prog : Program} {w : World} {A : Around} {E : Value → Shared → Prop} {s : Shared} {B : Heap} {L : Addr} {m mg mb : Str → Option Value} {R R₀ : Ledger} {env : Env} {outer : List Env} {kc : Addr} {ccl : Value} {st : St} {i : Nat}
  {hp cl tl : Addr} {ps cs : List (Value × Nat)} {us : List Value} {e1 e2 e3 : Nat} {v : Option Value}
set_option maxRecDepth 10000 in
set_option maxHeartbeats 4000000 in
theorem told_ask {Q : Flow → Shared → Prop} (V : EnvIs env (fn 17).scope L [("listed", kc)]) (F : Fr B L s.heap m) (N : Led B L s.heap R) (G : Gl B mg mb) (hh : A.handled = none) (hroom : A.depth + 60 < recursionLimit) (hu : A.units + 500 < cLine)
    (hfr : A.frames = some (env :: outer)) (hFs : Frs B L R env outer) (hw : Wf st i) (hi : i ≤ 60) (J : TJ R₀ kc ccl st m R hp cl tl ps cs us e1 e2 e3 v) (hkc : R₀ kc = none)
    (h : ∀ h' tk m' R', Fr B L h' m' → Led B L h' R' → GrowX [kc] R R' → TJE R₀ kc ccl ⟨st.S, st.S, st.out ++ [asked st.S st.C]⟩ m' R' → Q .next { s with heap := h', toks := tk }) :
    wpAny (model prog w) A (execs askB env) Q E s := by
  obtain ⟨b, hb⟩ : ∃ b, b = askB := ⟨_, rfl⟩
  rw [← hb]
  conv at hb => rhs; whnf
  subst hb
  obtain ⟨sc, hsc⟩ : ∃ d, d = (fn 17).scope := ⟨_, rfl⟩
  rw [← hsc] at V
  conv at hsc => rhs; whnf
  subst hsc
  obtain ⟨mh, mc, mt, rh, hpi, hH, hk, rc, ci, ck, rt, ta, gr, nh, rk⟩ := J
  have hpl : ps.length ≤ 60 := by
    have := hk.length_eq
    have := hw.sl
    simp [ks] at *; omega
  walk_at "go"
  refine law_listed (ps := ps) F N G (by assumption) hh (by omega) (by omega) rh hpi (by omega) hH ?_
  intro q qs R₁ h₁ tk₁ eq pq sq g₁ rq F₁ N₁
  have kq : ks qs = st.S := listed_eq hk hw.s pq sq
  have lq : qs.length ≤ 60 := by rw [pq.length_eq]; exact hpl
  have qi : ∀ p ∈ qs, IsItem R₁ p.1 p.2 := fun p hp => (hpi p (pq.subset hp)).mono g₁.fz
  have rk₁ := g₁ _ _ rk
  walk_at "go"
  have z₂ : upd R₁ kc (CelC ccl (some (.ref q))) kc = some (CelC ccl (some (.ref q))) := upd_self
  have g₂ : GrowX [kc] R (upd R₁ kc (CelC ccl (some (.ref q)))) := (GrowX.of g₁).trans (.mut (by simp))
  have gr₂ : Grow R₀ (upd R₁ kc (CelC ccl (some (.ref q)))) := grow_mut (gr.trans g₁) hkc
  have f₂ : FzLe R₁ (upd R₁ kc (CelC ccl (some (.ref q)))) := FzLe.mut rk₁ rfl
  have rq₂ := f₂ _ _ rq rfl
  generalize upd R₁ kc (CelC ccl (some (.ref q))) = R₂ at *
  refine r_Assign_ListComp (B := B) V (by rw [V.eta]; rfl) (clos_ok V) rfl (by decide) rfl rfl ?_
  walk_at "go"
  rename IsRange _ _ _ _ _ _ _ _ => hr
  refine r_iterN (qs.length - 1) (by assumption) (by assumption) hr (by simp <;> omega) (by omega) (by omega) (by simp <;> omega) (by simp <;> omega) ?_
  intro h₃ I₃ F₃ hI₃ N₃
  refine CompGo.intro (n := qs.length - 1) (P := fun i v => ∃ t, v = .int (1 + i) t) (Dep := fun _ => True) (fun i ys R' => Al (IsP2 qs R') ys (List.range i)) (Src.range hh) F₃ N₃ upd_self trivial (by omega) rfl
    (fun i ys R R' g x => x.imp fun v x q => IsP2.mono _ _ v x g q) (fun _ _ => .nil) (fun i ys R' x => by have := x.len; simp at this; omega) ?_ ?_
  · intro cenv C h₄ tk₄ c₄ mC R₃ k ys v₄ Vc hfrm hlt hP hInv F₄ N₄ g₃ hcs hdep
    obtain ⟨tv, rfl⟩ := hP
    have g₃ : Grow R₂ R₃ := turn_grow g₃ hI₃ N₃.none_L
    have z₃ := g₃ _ _ z₂
    have rq₃ := g₃ _ _ rq₂
    obtain ⟨p1, hp1⟩ := get2 (l := qs) (j := k) (by omega)
    obtain ⟨p2, hp2⟩ := get2 (l := qs) (j := k + 1) (by omega)
    walk_at "go"
    refine wpAny_tests_nil ?_
    rw [if_pos rfl]
    walk_at "go"
    refine r_get (i := k) (by assumption) rq₃ (by omega) (by omega) (get_fst hp1) ?_
    walk_at "go"
    refine r_get (i := k + 1) (by assumption) rq₃ (by omega) (by omega) (get_fst hp2) ?_
    walk_at "go"
    refine r_newList true (by assumption) (by assumption) (by simp [sizeLine]) ?_
    intro h₅ n₅ F₅ hn₅ N₅
    refine ⟨_, _, _, _, rfl, F₅, N₅, .of (Grow.new hn₅), (fun k hk => nomatch (show k ∈ [] from hk)), ?_⟩
    rw [List.range_succ]
    exact (hInv.imp fun v x q => IsP2.mono _ _ v x (Grow.new hn₅).fz q).snoc ⟨n₅, p1, p2, rfl, upd_self, hp1, hp2⟩
  intro pa h₄ tk₄ R₃ pv pe F₄ N₄ g₃ _ rp₃ hP
  have g₃ : Grow R₂ R₃ := growX_drop g₃ hI₃
  have z₃ := g₃ _ _ z₂
  have rq₃ := g₃ _ _ rq₂
  walk_at "go"
  refine r_Assign_ListComp (B := B) V (by rw [V.eta]; rfl) (clos_ok V) rfl (by decide) rfl rfl ?_
  walk_at "go"
  refine r_iter (by assumption) (by assumption) rp₃ ?_
  intro h₅ I₅ F₅ hI₅ N₅
  have hpI : pa ≠ I₅ := ne_of_none rp₃ hI₅
  refine CompGo.intro (n := pv.length) (P := fun i v => pv[i]? = some v) (Dep := fun R => R pa = some (ListC true pv pe)) (fun i ys R' => Al (IsLs IsI R') ys (List.replicate i [-1, 1, 0])) (Src.list hh hpI) F₅ N₅ upd_self (by rw [upd_ne hpI]; exact rp₃) (by have := hP.len; simp at this; omega) rfl
    (fun i ys R R' g x => x.imp fun v x q => IsLs.mono IsI.mono _ _ v x g q) (fun _ _ => .nil) (fun i ys R' x => by have := x.len; simp at this; omega) ?_ ?_
  · intro cenv C h₆ tk₆ c₆ mC R₅ k ys v₆ Vc hfrm hlt hv hInv F₆ N₆ g₅ hcs hdep
    have g₅ : Grow R₃ R₅ := turn_grow g₅ hI₅ N₅.none_L
    have hkl : k < qs.length - 1 := by have := hP.len; simp at this; omega
    obtain ⟨p1, hp1⟩ := get2 (l := qs) (j := k) (by omega)
    obtain ⟨p2, hp2⟩ := get2 (l := qs) (j := k + 1) (by omega)
    have hv' : ∃ a, v₆ = .ref a ∧ R₃ a = some (ListC true [p1.1, p2.1] 0) := by
      have := hP.get hv (y := k) (List.getElem?_eq_some_iff.mpr ⟨by simpa using hkl, by simp⟩)
      obtain ⟨a, p, p', e, r, q1, q2⟩ := this
      rw [hp1] at q1; cases q1
      rw [hp2] at q2; cases q2
      exact ⟨a, e, r⟩
    obtain ⟨a, rfl, ra⟩ := hv'
    have i1 : IsItem R₅ p1.1 p1.2 := (qi p1 (List.mem_of_getElem? hp1)).mono ((f₂.trans g₃.fz).trans g₅.fz)
    have i2 : IsItem R₅ p2.1 p2.2 := (qi p2 (List.mem_of_getElem? hp2)).mono ((f₂.trans g₃.fz).trans g₅.fz)
    have hlt12 : p1.2 < p2.2 := by
      have ha := hw.s
      rw [← kq] at ha
      obtain ⟨q1, e1⟩ := List.getElem?_eq_some_iff.mp hp1
      obtain ⟨q2, e2⟩ := List.getElem?_eq_some_iff.mp hp2
      have := List.pairwise_iff_getElem.mp (SS_of ha) k (k + 1) q1 q2 (Nat.lt_succ_self k)
      rw [e1, e2] at this; exact this
    refine r_unpackL (by assumption) (by assumption) (g₅ _ _ ra) hh ?_
    intro h₇ F₇ N₇
    walk_at "go"
    refine wpAny_tests_nil ?_
    rw [if_pos rfl]
    walk_at "go"
    refine three_way (a := p1.2) (b := p2.2) (by assumption) (by assumption) G (by assumption) (by omega) (by omega) i1 i2 ?_
    intro h₈ tk₈ t₈ F₈ N₈
    walk_at "go"
    refine three_way (a := p2.2) (b := p1.2) (by assumption) (by assumption) G (by assumption) (by omega) (by omega) i2 i1 ?_
    intro h₉ tk₉ t₉ F₉ N₉
    walk_at "go"
    refine three_way (a := p1.2) (b := p1.2) (by assumption) (by assumption) G (by assumption) (by omega) (by omega) i1 i1 ?_
    intro h₁₀ tk₁₀ t₁₀ F₁₀ N₁₀
    walk_at "go"
    refine r_newList true (by assumption) (by assumption) (by simp [sizeLine]) ?_
    intro h₁₁ n₁₁ F₁₁ hn₁₁ N₁₁
    refine ⟨_, _, _, _, rfl, F₁₁, N₁₁, .of (Grow.new hn₁₁), (fun k hk => nomatch (show k ∈ [] from hk)), ?_⟩
    rw [List.replicate_succ']
    refine (hInv.imp fun v x q => IsLs.mono IsI.mono _ _ v x (Grow.new hn₁₁).fz q).snoc ⟨n₁₁, _, 0, rfl, upd_self, ?_⟩
    have d1 : decide (p2.2 < p1.2) = false := by simp; omega
    have d2 : decide (p1.2 < p2.2) = true := by simp; omega
    have d3 : decide (p1.2 < p1.2) = false := by simp
    rw [d1, d2, d3]
    exact .cons ⟨_, rfl⟩ (.cons ⟨_, rfl⟩ (.cons ⟨_, rfl⟩ .nil))
  intro ra h₆ tk₆ R₅ rv re F₆ N₆ g₅ _ rr₅ hRi
  have g₅ : Grow R₃ R₅ := growX_drop g₅ hI₅
  have z₅ := g₅ _ _ z₃
  have rq₅ := g₅ _ _ rq₃
  have gR : Grow R₂ R₅ := g₃.trans g₅
  have gX : GrowX [kc] R R₅ := g₂.trans (.of gR)
  have hne : ∀ {a : Addr} {fz : Bool} {vs : List Value} {e : Nat}, R a = some (ListC fz vs e) → a ∉ [kc] := fun ha hm => by
    rw [List.mem_singleton.mp hm, rk] at ha; simp at ha
  have fX : FzLe R R₅ := gX.fz fun x hx k hk => by
    rw [List.mem_singleton.mp hx, rk] at hk; cases hk; rfl
  have kl : qs.length = st.S.length := by rw [← kq]; simp [ks]
  refine told_ask2 V F₆ N₆ G hh hroom hu hfr ⟨hFs.frame, hFs.kind, ?_⟩ hw hi
    ⟨mh, mc, mt, gX _ _ (hne rh) rh, fun p hp => (hpi p hp).mono fX, hH, hk, gX _ _ (hne rc) rc, fun p hp => (ci p hp).mono fX, ck, gX _ _ (hne rt) rt, ta.imp fun v x => IsE.mono _ _ v x fX, gr₂.trans gR, nh, z₅⟩
    rq₅ (fun p hp => (qi p hp).mono (f₂.trans gR.fz)) kq rfl rr₅ (by have := hP.len; rw [List.length_range] at this; rw [this, kl] at hRi; exact hRi) ?_
  · refine FrOuter.grow (fun en he => ?_) gR
    obtain ⟨q1, Li, c, q2, q3, q4⟩ := hFs.out en he
    refine ⟨q1, Li, c, q2, g₂ _ _ (fun hm => ?_) q3, q4⟩
    rw [List.mem_singleton.mp hm, rk] at q3
    cases q3
    obtain ⟨_, es, ep, q5⟩ := q4
    cases q5
  · intro h₇ tk₇ m₇ R₇ F₇ N₇ g₇ J₇
    exact h _ _ _ _ F₇ N₇ (gX.trans (.of g₇)) J₇
end
end
section
/-! ## _law_told: a turn -/
theorem stp_low {st : St} {x : Int} (h : x % 4 < 2) : stp st x = if (num x).natAbs ∈ st.S then st else ⟨ins (num x).natAbs st.S, st.C, st.out⟩ := by
  unfold stp; rw [if_pos h]
theorem stp_two_nil {st : St} {x : Int} (h : x % 4 = 2) (e : st.S = []) : stp st x = st := by
  unfold stp; dsimp only; rw [if_neg (by omega), if_pos h, e]
theorem stp_two {st : St} {x : Int} {a : Nat} {S : List Nat} (h : x % 4 = 2) (e : st.S = a :: S) : stp st x = if (num x).natAbs ∈ a :: S then st else ⟨ins (num x).natAbs S, st.C, st.out ++ [.inl [(a : Int)]]⟩ := by
  unfold stp; dsimp only; rw [if_neg (by omega), if_pos h, e]
theorem stp_ask {st : St} {x : Int} (h : x % 4 = 3) : stp st x = ⟨st.S, st.S, st.out ++ [asked st.S st.C]⟩ := by
  unfold stp; dsimp only; rw [if_neg (by omega), if_neg (by omega)]
section
variable {prog : Program} {w : World} {A : Around} {E : Value → Shared → Prop} {s : Shared} {B : Heap} {L : Addr} {m mg mb : Str → Option Value} {R R₀ : Ledger} {env : Env} {outer : List Env} {kc : Addr} {ccl : Value} {st : St} {i : Nat}
  {hp cl tl : Addr} {ps cs : List (Value × Nat)} {us : List Value} {e1 e2 e3 : Nat} {v : Option Value}
theorem TJ.grow {R' : Ledger} {m' : Str → Option Value} (J : TJ R₀ kc ccl st m R hp cl tl ps cs us e1 e2 e3 v) (g : Grow R R') (h1 : m' "heap" = m "heap") (h2 : m' "client" = m "client") (h3 : m' "told" = m "told") : TJ R₀ kc ccl st m' R' hp cl tl ps cs us e1 e2 e3 v :=
  ⟨h1.trans J.mh, h2.trans J.mc, h3.trans J.mt, g _ _ J.rh, fun p hp => (J.hi p hp).mono g.fz, J.hH, J.hk, g _ _ J.rc, fun p hp => (J.ci p hp).mono g.fz, J.ck, g _ _ J.rt, J.ta.imp fun v x => IsE.mono _ _ v x g.fz, J.gr.trans g, J.nh, g _ _ J.rk⟩
set_option maxRecDepth 10000 in
set_option maxHeartbeats 4000000 in
theorem told_turn {Q : Flow → Shared → Prop} {x : Int} {t : Tok} (V : EnvIs env (fn 17).scope L [("listed", kc)]) (F : Fr B L s.heap (fun y => if y = "x" then some (.int x t) else m y)) (N : Led B L s.heap R) (G : Gl B mg mb) (hh : A.handled = none) (hroom : A.depth + 70 < recursionLimit) (hu : A.units + 600 < cLine)
    (hfr : A.frames = some (env :: outer)) (hFs : Frs B L R env outer) (hw : Wf st i) (hi : i ≤ 60) (J : TJ R₀ kc ccl st m R hp cl tl ps cs us e1 e2 e3 v) (hkc : R₀ kc = none)
    (h : ∀ h' tk m' R', Fr B L h' m' → Led B L h' R' → GrowX [hp, kc] R R' → TJE R₀ kc ccl (stp st x) m' R' → Q .next { s with heap := h', toks := tk }) :
    wpAny (model prog w) A (execs (forB 17) env) Q E s := by
  obtain ⟨b, hb⟩ : ∃ b, b = forB 17 := ⟨_, rfl⟩
  rw [← hb]
  conv at hb => rhs; whnf
  subst hb
  obtain ⟨sc, hsc⟩ : ∃ d, d = (fn 17).scope := ⟨_, rfl⟩
  have V₀ := V
  rw [← hsc] at V
  conv at hsc => rhs; whnf
  subst hsc
  have hpl : ps.length ≤ 60 := by
    have := J.hk.length_eq
    have := hw.sl
    simp [ks] at *; omega
  have usl : us.length ≤ 60 := by have := J.ta.len; have := hw.ol; omega
  have mh := J.mh
  have mc := J.mc
  have mt := J.mt
  have hpk : hp ≠ kc := fun q => by
    have h1 := J.rh; rw [q, J.rk] at h1; simp at h1
  walk_at "go"
  refine law_item F N G (by assumption) hh (by omega) (by omega) ?_
  intro h₁ tk₁ R₁ it g₁ ii F₁ N₁
  walk_at "go"
  refine mod_int' (by decide) ?_
  have em : x.fmod 4 = x % 4 := Int.fmod_eq_emod_of_nonneg _ (by decide)
  rw [em]
  walk_at "go"
  have hu1 : A.units + 1 < cLine := by omega
  have J₁ : ∀ {R' : Ledger}, Grow R₁ R' → TJ R₀ kc ccl st (fun y => if y = "item" then some it else if y = "x" then some (.int x t) else m y) R' hp cl tl ps cs us e1 e2 e3 v := fun g => J.grow (g₁.trans g) rfl rfl rfl
  have J₀ := J₁ (Grow.refl _)
  have same : ∀ {h' : Heap} {tk : Nat} {R' : Ledger}, stp st x = st → Fr B L h' (fun y => if y = "item" then some it else if y = "x" then some (.int x t) else m y) → Led B L h' R' → Grow R₁ R' → Q .next { s with heap := h', toks := tk } := fun e F' N' g =>
    h _ _ _ _ F' N' (.of (g₁.trans g)) (by rw [e]; exact ⟨hp, cl, tl, ps, cs, us, e1, e2, e3, v, J₁ g⟩)
  have inS : ∀ k, k ∈ ks ps ↔ k ∈ st.S := fun k => J.hk.mem_iff
  have x03 : 0 ≤ x % 4 ∧ x % 4 < 4 := ⟨Int.emod_nonneg _ (by decide), Int.emod_lt_of_pos _ (by decide)⟩
  refine ite_d (fun hx => ?_) (fun hx => ?_)
  · walk_at "go"
    refine r_notInItems (by assumption) hu1 J₀.rh J₀.hi ii ?_
    walk_at "go"
    refine ite_nd (fun hin => ?_) (fun hin => ?_)
    · walk_at "go"
      refine mod_int' (by decide) ?_
      rw [em]
      walk_at "go"
      rw [show (x % 4 == 2) = false by simp; omega]
      walk_at "go"
      refine mod_int' (by decide) ?_
      rw [em]
      walk_at "go"
      rw [show (x % 4 == 3) = false by simp; omega]
      walk_at "go"
      refine same ?_ (by assumption) (by assumption) (Grow.refl _)
      rw [stp_low hx, if_pos ((inS _).mp hin)]
    · walk_at "go"
      refine heappush (ps := ps) (x := (it, (num x).natAbs)) (by assumption) (by assumption) G (by assumption) hh (by omega) (by omega) J₀.rh J₀.hi ii (by omega) J.hH ?_
      intro ps' e' h₃ tk₃ p1 p2 F₃ N₃
      have fz : FzLe R₁ (upd R₁ hp (ListC false (ps'.map Prod.fst) e')) := FzLe.mut J₀.rh rfl
      walk_at "go"
      refine h _ _ _ _ F₃ N₃ ((GrowX.of g₁).trans (.mut (by simp))) ?_
      rw [stp_low hx, if_neg (fun q => hin ((inS _).mpr q))]
      refine ⟨hp, cl, tl, ps', cs, us, e', e2, e3, v, ⟨mh, mc, mt, upd_self, ?_, p2, heap_push J.hk p1, fz _ _ J₀.rc rfl, fun p hp => (J₀.ci p hp).mono fz, J.ck, fz _ _ J₀.rt rfl, J₀.ta.imp fun v x => IsE.mono _ _ v x fz, grow_mut J₀.gr J.nh, J.nh, by rw [upd_ne (Ne.symm hpk)]; exact J₀.rk⟩⟩
      intro p hp
      have := p1.subset hp
      rcases List.mem_append.mp this with q | q
      · exact (J₀.hi p q).mono fz
      · rw [List.mem_singleton.mp q]; exact ii.mono fz
  · walk_at "go"
    refine mod_int' (by decide) ?_
    rw [em]
    walk_at "go"
    by_cases hx2 : x % 4 = 2
    · rw [show (x % 4 == 2) = true by simp [hx2]]
      walk_at "go"
      refine r_newList true (by assumption) (by assumption) (by simp [sizeLine]) ?_
      intro h₃ n₃ F₃ hn₃ N₃
      have g₃ : Grow R₁ (upd R₁ n₃ (ListC true [] 0)) := Grow.new hn₃
      have J₃ := J₁ g₃
      dsimp only
      refine r_ne_nil N₃ J₃.rh upd_self (by omega) ?_
      walk_at "go"
      split
      · rename_i hb
        obtain ⟨a, S, eS⟩ : ∃ a S, st.S = a :: S := by
          cases e : st.S with
          | nil =>
            have := J.hk.length_eq
            rw [e] at this
            have : ps = [] := by simpa [ks] using this
            subst this; simp at hb
          | cons a S => exact ⟨a, S, rfl⟩
        walk_at "go"
        refine r_notInItems (by assumption) hu1 J₃.rh J₃.hi (ii.mono g₃.fz) ?_
        walk_at "go"
        refine ite_nd (fun hin => ?_) (fun hin => ?_)
        · walk_at "go"
          refine mod_int' (by decide) ?_
          rw [em]
          walk_at "go"
          rw [show (x % 4 == 3) = false by simp; omega]
          walk_at "go"
          refine same ?_ (by assumption) (by assumption) g₃
          rw [stp_two hx2 eS, if_pos (eS ▸ (inS _).mp hin)]
        · have hpos : 0 < ps.length := by
            cases ps with
            | nil => simp at hb
            | cons p r => simp
          obtain ⟨y, hy⟩ := get2 hpos
          have hmin := Hp.head_min J.hH hy
          have hym := List.mem_of_getElem? hy
          have hya : y.2 = a := heap_head (eS ▸ J.hk) (eS ▸ hw.s) hym hmin
          walk_at "go"
          refine heapreplace (ps := ps) (x := (it, (num x).natAbs)) (y := y) (by assumption) (by assumption) G (by assumption) hh (by omega) (by omega) J₃.rh J₃.hi (ii.mono g₃.fz) (by omega) hy J.hH ?_
          intro ps' e' h₄ tk₄ p1 p2 F₄ N₄
          have fz : FzLe (upd R₁ n₃ (ListC true [] 0)) (upd (upd R₁ n₃ (ListC true [] 0)) hp (ListC false (ps'.map Prod.fst) e')) := FzLe.mut J₃.rh rfl
          walk_at "go"
          refine r_newList true (by assumption) (by assumption) (by simp [sizeLine]) ?_
          intro h₅ n₅ F₅ hn₅ N₅
          have fz5 := fz.trans (Grow.new (c := ListC true [y.1] 0) hn₅).fz
          walk_at "go"
          refine law_read (ps := [y]) (by assumption) (by assumption) G (by assumption) hh (by omega) upd_self (fun p hp => by rw [List.mem_singleton.mp hp]; exact (J₃.hi y hym).mono fz5) (fun p hp => by rw [List.mem_singleton.mp hp]; exact hw.sb _ ((inS _).mp (mem_ks hym))) (by simp) ?_
          intro h₆ tk₆ R₆ v₆ g₆ i₆ F₆ N₆
          walk_at "go"
          refine r_newList true (by assumption) (by assumption) (by simp [sizeLine]) ?_
          intro h₇ n₇ F₇ hn₇ N₇
          have g₇ : Grow (upd (upd R₁ n₃ (ListC true [] 0)) hp (ListC false (ps'.map Prod.fst) e')) (upd R₆ n₇ (ListC true [v₆] 0)) := ((Grow.new hn₅).trans g₆).trans (Grow.new hn₇)
          have fz7 := fz.trans g₇.fz
          walk_at "go"
          refine r_add true F₇ N₇ (fz7 _ _ J₃.rt rfl) upd_self (by simp; omega) ?_
          intro h₈ n₈ F₈ hn₈ N₈
          have g₈ := g₇.trans (Grow.new (c := ListC true (us ++ [v₆]) 0) hn₈)
          have fz8 := fz.trans g₈.fz
          walk_at "go"
          rename Fr _ _ _ _ => Fz
          rename Led _ _ _ _ => Nz
          have gx : GrowX [hp, kc] R (upd (upd R₆ n₇ (ListC true [v₆] 0)) n₈ (ListC true (us ++ [v₆]) 0)) :=
            ((GrowX.of (g₁.trans g₃)).trans (.mut (a := hp) (by simp))).trans (.of g₈)
          refine h _ _ _ _ Fz Nz gx ?_
          rw [stp_two hx2 eS, if_neg (fun q => hin ((inS _).mpr (eS ▸ q)))]
          refine ⟨hp, cl, n₈, ps', cs, us ++ [v₆], e', e2, 0, v, ⟨mh, mc, rfl, g₈ _ _ upd_self, ?_, p2, heap_repl (eS ▸ J.hk) p1 hya, fz8 _ _ J₃.rc rfl, fun p hp => (J₃.ci p hp).mono fz8, J.ck, upd_self, (J₃.ta.imp fun v x => IsE.mono _ _ v x fz8).snoc ?_, (grow_mut J₃.gr J.nh).trans g₈, J.nh, g₈ _ _ (by rw [upd_ne (Ne.symm hpk)]; exact J₃.rk)⟩⟩
          · intro p hp
            have : p ∈ (it, (num x).natAbs) :: ps := p1.subset (List.mem_cons_of_mem _ hp)
            rcases List.mem_cons.mp this with q | q
            · rw [q]; exact (ii.mono g₃.fz).mono fz8
            · exact (J₃.hi p q).mono fz8
          · have gq : Grow R₆ (upd (upd R₆ n₇ (ListC true [v₆] 0)) n₈ (ListC true (us ++ [v₆]) 0)) := (Grow.new hn₇).trans (Grow.new hn₈)
            have := IsLs.mono IsI.mono _ _ _ _ gq.fz i₆
            rw [show [y].map (fun p : Value × Nat => (p.2 : Int)) = [(a : Int)] by simp [hya]] at this
            exact this
      · rename_i hb
        have eS : st.S = [] := by
          have := J.hk.length_eq
          have hps : ps = [] := by
            cases ps with
            | nil => rfl
            | cons p r => simp at hb
          rw [hps] at this
          simpa [ks] using this.symm
        walk_at "go"
        refine mod_int' (by decide) ?_
        rw [em]
        walk_at "go"
        rw [show (x % 4 == 3) = false by simp; omega]
        walk_at "go"
        exact same (stp_two_nil hx2 eS) (by assumption) (by assumption) g₃
    · rw [show (x % 4 == 2) = false by simp [hx2]]
      walk_at "go"
      refine mod_int' (by decide) ?_
      rw [em]
      have hx3 : x % 4 = 3 := by omega
      walk_at "go"
      rw [show (x % 4 == 3) = true by simp [hx3]]
      refine ite_t ?_
      refine told_ask V₀ (by assumption) (by assumption) G hh (by omega) (by omega) hfr (hFs.grow g₁) hw hi J₀ hkc ?_
      intro h₃ tk₃ m₃ R₃ F₃ N₃ g₃ J₃
      walk_at "go"
      refine h _ _ _ _ F₃ N₃ ((GrowX.of g₁).trans (fun a c ha e => g₃ a c (fun q => ha (by simp at q; simp [q])) e)) ?_
      rw [stp_ask hx3]; exact J₃
end
end
section
/-! ## _law_told -/
theorem TJE.stab {R₀ R R' : Ledger} {kc I l : Addr} {j : Nat} {ccl : Value} {st : St} {m : Str → Option Value} (J : TJE R₀ kc ccl st m R) (hI : R₀ I = none) (hR : R I = some (LIt l j)) (g : GrowX [I] R R') : TJE R₀ kc ccl st m R' := by
  obtain ⟨hp, cl, tl, ps, cs, us, e1, e2, e3, v, J⟩ := J
  have ne : ∀ {a : Addr} {fz : Bool} {vs : List Value} {e : Nat}, R a = some (ListC fz vs e) → R' a = some (ListC fz vs e) := fun ha => g _ _ (fun hm => by
    rw [List.mem_singleton.mp hm, hR] at ha; simp at ha) ha
  have fz : FzLe R R' := g.fz fun x hx k hk => by rw [List.mem_singleton.mp hx, hR] at hk; cases hk; rfl
  exact ⟨hp, cl, tl, ps, cs, us, e1, e2, e3, v, ⟨J.mh, J.mc, J.mt, ne J.rh, fun p hp => (J.hi p hp).mono fz, J.hH, J.hk, ne J.rc, fun p hp => (J.ci p hp).mono fz, J.ck, ne J.rt, J.ta.imp fun v x => IsE.mono _ _ v x fz,
    growX_out g J.gr (fun x hx => by rw [List.mem_singleton.mp hx]; exact hI), J.nh, g _ _ (fun hm => by have := J.rk; rw [List.mem_singleton.mp hm, hR] at this; simp at this) J.rk⟩⟩
section
variable {prog : Program} {w : World} {A : Around} {E : Value → Shared → Prop} {s : Shared} {B : Heap} {L l : Addr} {m mg mb : Str → Option Value} {R : Ledger} {envc : Env} {outer : List Env} {e : Nat}
set_option maxRecDepth 10000 in
set_option maxHeartbeats 4000000 in
theorem law_told {fa : Addr} {code : Value} {ns : List Int} {vs : List Value} {Q : Value → Shared → Prop} (F : Fr B L s.heap m) (N : Led B L s.heap R) (G : Gl B mg mb) (D : FnAt B (fn 17) fa code)
    (hh : A.handled = none) (hroom : A.depth + 80 < recursionLimit) (hu : A.units + 700 < cLine) (hfr : A.frames = some (envc :: outer)) (hFs : Frs B L R envc outer)
    (hl : R l = some (ListC true vs e)) (hv : IntsAre vs ns) (hlen : ns.length ≤ 60)
    (h : ∀ h' tk R' v, Grow R R' → IsLs IsE R' v (run ns).out → Fr B L h' m → Led B L h' R' → Q v { s with heap := h', toks := tk }) :
    wpAny (model prog w) A (call (.ref fa) [.ref l]) Q E s := by
  have hvl : vs.length = ns.length := hv.length
  obtain ⟨d, hd⟩ : ∃ d, d = fn 17 := ⟨_, rfl⟩
  rw [← hd] at D
  refine r_callC "numbers" F N G.lim D (by rw [hd]; decide +kernel) (by omega) (fun _ _ => by rw [hd]; rfl) ?_
  intro env L' h₁ c tk₁ cells R₁ V hcells hfrm hc hRL hle F₁ N₁ g₁ hcs
  rw [hd] at V
  have V₀ := V
  conv at hd => rhs; whnf
  subst hd
  subst hcells
  have V : EnvIs env _ L' [("listed", L' + 1)] := V
  obtain ⟨⟨ccl, rk⟩, nk⟩ := hcs "listed" (L' + 1) rfl
  clear D F N
  dsimp only
  have hlL : R₁ l = some (ListC true vs e) := g₁ _ _ (upd_new hRL hl)
  have hu' : (A.deeper env).units + 600 < cLine := by rw [Around.deeper_units]; omega
  have hh' : (A.deeper env).handled = none := hh
  have hFr₀ : FrOuter (upd R L c) (envc :: outer) := by
    intro en he
    rcases List.mem_cons.mp he with rfl | he
    · obtain ⟨⟨_, h2⟩, es, ep, h3, _⟩ := hc
      exact ⟨hFs.kind, L, c, hFs.frame, upd_self, h2, es, ep, h3⟩
    · exact (hFs.out.grow (Grow.new hRL)) en he
  generalize hR₀ : upd R L c = R₀ at *
  walk_at "go"
  refine Assign_Tuple_swapped (names := ["heap", "client", "told"]) ?_ rfl (by rw [V.eta]; rfl)
  walk_at "go"
  refine r_newList false (by assumption) (by assumption) (by simp [sizeLine]) ?_
  intro h₂ hp F₂ hhp N₂
  walk_at "go"
  refine r_newList true (by assumption) (by assumption) (by simp [sizeLine]) ?_
  intro h₃ cl F₃ hcl N₃
  walk_at "go"
  refine r_newList true (by assumption) (by assumption) (by simp [sizeLine]) ?_
  intro h₄ tl F₄ htl N₄
  walk_at "go"
  refine r_newTuple true (by assumption) (by assumption) (by simp [sizeLine]) ?_
  intro h₅ tp F₅ htp N₅
  dsimp only
  refine r_unpackItems F₅ N₅ upd_self hh' rfl ?_
  intro h₆ F₆ N₆
  show wpAny _ _ (assignInOrder [fun v => bindName env "told" v, fun v => bindName env "client" v, fun v => bindName env "heap" v] [.ref tl, .ref cl, .ref hp]) _ _ _
  walk_at "go"
  have g₂ : Grow R₁ (upd (upd (upd (upd R₁ hp (ListC false [] 0)) cl (ListC true [] 0)) tl (ListC true [] 0)) tp (TupC true [.ref hp, .ref cl, .ref tl] 0)) := ((Grow.new hhp).trans (Grow.new hcl)).trans ((Grow.new htl).trans (Grow.new htp))
  have r1 : upd (upd (upd (upd R₁ hp (ListC false [] 0)) cl (ListC true [] 0)) tl (ListC true [] 0)) tp (TupC true [.ref hp, .ref cl, .ref tl] 0) hp = some (ListC false [] 0) := upd_new htp (upd_new htl (upd_new hcl upd_self))
  have r2 : upd (upd (upd (upd R₁ hp (ListC false [] 0)) cl (ListC true [] 0)) tl (ListC true [] 0)) tp (TupC true [.ref hp, .ref cl, .ref tl] 0) cl = some (ListC true [] 0) := upd_new htp (upd_new htl upd_self)
  have r3 : upd (upd (upd (upd R₁ hp (ListC false [] 0)) cl (ListC true [] 0)) tl (ListC true [] 0)) tp (TupC true [.ref hp, .ref cl, .ref tl] 0) tl = some (ListC true [] 0) := upd_new htp upd_self
  rename Fr _ _ _ _ => Fz
  rename Led _ _ _ _ => Nz
  generalize upd (upd (upd (upd R₁ hp (ListC false [] 0)) cl (ListC true [] 0)) tl (ListC true [] 0)) tp (TupC true [.ref hp, .ref cl, .ref tl] 0) = R₂ at *
  have g₁₂ := g₁.trans g₂
  have nhp : R₀ hp = none := by
    cases q : R₀ hp with
    | none => rfl
    | some x => rw [g₁ _ _ q] at hhp; cases hhp
  have hKn : hp ∉ [L' + 1] := fun hm => by rw [List.mem_singleton.mp hm, rk] at hhp; cases hhp
  refine r_for (fz := true) (vs := vs) (e := e) (fun i m R => TJE R₀ (L' + 1) ccl (run (ns.take i)) m R) V rfl rfl hh' Fz Nz (g₂ _ _ hlL) ?_ PassesOwn.never ?_ ?_ ?_ ?_
  · intro R' g
    refine ⟨hp, cl, tl, [], [], [], 0, 0, 0, none, ⟨rfl, rfl, rfl, g _ _ r1, fun _ h => (nomatch h), fun i _ h => absurd h (Nat.not_lt_zero _), .refl _, g _ _ r2, fun _ h => (nomatch h), rfl, g _ _ r3, .nil, g₁₂.trans g, nhp, g _ _ (g₂ _ _ rk)⟩⟩
  · intro i m' R' R'' I j hI hR g J
    refine J.stab ?_ hR g
    cases q : R₀ I with
    | none => rfl
    | some x => rw [g₁₂ _ _ q] at hI; cases hI
  · walk_at "go"
    exact ⟨rfl, rfl⟩
  · intro i v I m' R' h' tk' hI hvi F' N' hR' hl' J
    have hlt : i < vs.length := lt_of_get hvi
    obtain ⟨t, ht⟩ := hv.get i ns[i] (List.getElem?_eq_getElem (hvl ▸ hlt))
    rw [hvi] at ht
    cases ht
    obtain ⟨hp', cl', tl', ps, cs, us, e1, e2, e3, vv, J⟩ := J
    have nI : I ∉ [hp', L' + 1] := fun hm => by
      rcases List.mem_cons.mp hm with q | q
      · have := J.rh; rw [← q, hR'] at this; simp at this
      · have := J.rk; rw [← List.mem_singleton.mp q, hR'] at this; simp at this
    have nl : l ∉ [hp', L' + 1] := fun hm => by
      rcases List.mem_cons.mp hm with q | q
      · have := J.rh; rw [← q, hl'] at this; simp at this
      · have := J.rk; rw [← List.mem_singleton.mp q, hl'] at this; simp at this
    refine told_turn (R₀ := R₀) (outer := envc :: outer) V₀ F' N' G hh' (by show A.depth + 1 + 70 < _; omega) hu' (Around.frames_deeper hfr) ⟨hfrm, by rw [V.scope]; decide, hFr₀.grow J.gr⟩ (run_wf ns i (by omega)) (by omega) J nk ?_
    intro h'' tk'' m'' R'' F'' N'' g'' J''
    refine ⟨_, _, _, _, rfl, F'', N'', g'' _ _ nI hR', g'' _ _ nl hl', ?_⟩
    rw [run_snoc (List.getElem?_eq_getElem (hvl ▸ hlt))]
    exact J''
  · intro m' R' h' tk' F' N' J
    obtain ⟨hp', cl', tl', ps, cs, us, e1, e2, e3, vv, J⟩ := J
    have mt := J.mt
    walk_at "go"
    subst hR₀
    obtain ⟨f1, f2, f3, f4⟩ := back F' N' J.gr hc hRL hle
    have ta := J.ta
    rw [hvl, List.take_length] at ta
    exact h _ _ _ _ f3 ⟨tl', us, e3, rfl, f4 _ _ J.rt rfl, ta.imp fun v x => IsE.mono _ _ v x f4⟩ f1 f2
end
end
section
/-! ## _law_due -/
def duB : List Stmt := (ifB (forB 18)).1
def dqB : List Stmt := (ifB (ifB (forB 18)).2).1
structure DJ (R₀ : Ledger) (k1 k2 : Addr) (q1 q2 : Value) (st : St) (m : Str → Option Value) (R : Ledger) (sv cl du : Addr) (xs ys us : List Value) (e1 e2 e3 : Nat) : Prop where
  ks : R k1 = some (CelC q1 (some (.ref sv)))
  kc : R k2 = some (CelC q2 (some (.ref cl)))
  md : m "due" = some (.ref du)
  rs : R sv = some (ListC true xs e1)
  sa : Al (IsI R) xs (toI st.S)
  rc : R cl = some (ListC true ys e2)
  ca : Al (IsI R) ys (toI st.C)
  rd : R du = some (ListC true us e3)
  da : Al (IsE R) us st.out
  gr : Grow R₀ R
def DJE (R₀ : Ledger) (k1 k2 : Addr) (q1 q2 : Value) (st : St) (m : Str → Option Value) (R : Ledger) : Prop := ∃ sv cl du xs ys us e1 e2 e3, DJ R₀ k1 k2 q1 q2 st m R sv cl du xs ys us e1 e2 e3
theorem toI_len (l : List Nat) : (toI l).length = l.length := by simp
theorem Al.lenI {R : Ledger} {xs : List Value} {l : List Nat} (h : Al (IsI R) xs (toI l)) : xs.length = l.length := by rw [h.len, toI_len]
theorem Al.drop {α : Type} {P : Value → α → Prop} {vs : List Value} {xs : List α} (h : Al P vs xs) : ∀ j, Al P (vs.drop j) (xs.drop j) := by
  induction h with
  | nil => intro j; simp; exact .nil
  | cons a t ih =>
    intro j
    cases j with
    | zero => exact .cons a t
    | succ j => exact ih j
theorem Al.take {α : Type} {P : Value → α → Prop} {vs : List Value} {xs : List α} (h : Al P vs xs) : ∀ j, Al P (vs.take j) (xs.take j) := by
  induction h with
  | nil => intro j; simp; exact .nil
  | cons a t ih =>
    intro j
    cases j with
    | zero => exact .nil
    | succ j => exact .cons a (ih j)
theorem Al.reverse {α : Type} {P : Value → α → Prop} {vs : List Value} {xs : List α} (h : Al P vs xs) : Al P vs.reverse xs.reverse := by
  induction h with
  | nil => exact .nil
  | cons a _ ih => rw [List.reverse_cons, List.reverse_cons]; exact ih.snoc a
theorem Al.replicate {α : Type} {P : Value → α → Prop} {v : Value} {x : α} (h : P v x) : ∀ n, Al P (List.replicate n v) (List.replicate n x)
  | 0 => .nil
  | n + 1 => .cons h (Al.replicate h n)
theorem toI_asc {l : List Nat} (h : Asc l) : (toI l).Pairwise (· ≤ ·) := List.pairwise_map.mpr (h.imp fun {a b} (hab : a < b) => by omega)
theorem ins_toI {n : Nat} {S : List Nat} {zs : List Int} (hS : Asc S) (hn : n ∉ S) (hp : zs.Perm (toI S ++ [(n : Int)])) (hs : zs.Pairwise (· ≤ ·)) : zs = toI (ins n S) := by
  refine perm_ascI hs (toI_asc (ins_asc hS hn)) (hp.trans ?_)
  have := ((ins_perm n S).map (fun k : Nat => (k : Int))).symm
  exact List.perm_append_comm.trans this
section
variable {prog : Program} {w : World} {A : Around} {E : Value → Shared → Prop} {s : Shared} {B : Heap} {L : Addr} {m mg mb : Str → Option Value} {R R₀ : Ledger} {env : Env} {k1 k2 : Addr} {q1 q2 : Value} {st : St} {i : Nat}
  {sv cl du : Addr} {xs ys us : List Value} {e1 e2 e3 : Nat}
theorem DJ.grow {R' : Ledger} {m' : Str → Option Value} (J : DJ R₀ k1 k2 q1 q2 st m R sv cl du xs ys us e1 e2 e3) (g : Grow R R') (h1 : m' "due" = m "due") : DJ R₀ k1 k2 q1 q2 st m' R' sv cl du xs ys us e1 e2 e3 :=
  ⟨g _ _ J.ks, g _ _ J.kc, h1.trans J.md, g _ _ J.rs, J.sa.imp fun v x => IsI.mono _ _ v x g.fz, g _ _ J.rc, J.ca.imp fun v x => IsI.mono _ _ v x g.fz, g _ _ J.rd, J.da.imp fun v x => IsE.mono _ _ v x g.fz, J.gr.trans g⟩
def duB2 : List Stmt := duB.drop 1
set_option maxRecDepth 10000 in
set_option maxHeartbeats 4000000 in
/-- the server's list turned -/
theorem due_in2 {n : Nat} {S' : List Nat} {x : Int} {j : Nat} {t : Tok} {Q : Flow → Shared → Prop} (V : EnvIs env (fn 18).scope L [("client", k2), ("server", k1)]) (F : Fr B L s.heap m) (N : Led B L s.heap R) (G : Gl B mg mb)
    (hw : Asc st.S) (hi : st.S.length ≤ 60) (J : DJ R₀ k1 k2 q1 q2 st m R sv cl du xs ys us e1 e2 e3) (mx : ∃ t, m "x" = some (.int x t)) (mn : m "number" = some (.int n t)) (hk1 : R₀ k1 = none) (hk12 : k2 ≠ k1)
    (hj : (x % 4).fdiv 2 = (j : Int)) (hS : st.S.drop j = S') (hn : n ∉ S')
    (h : ∀ h' tk m' R', Fr B L h' m' → Led B L h' R' → GrowX [k1, k2] R R' → DJE R₀ k1 k2 q1 q2 ⟨ins n S', st.C, st.out⟩ m' R' → Q .next { s with heap := h', toks := tk }) :
    wpAny (model prog w) A (execs duB2 env) Q E s := by
  obtain ⟨b, hb⟩ : ∃ b, b = duB2 := ⟨_, rfl⟩
  rw [← hb]
  conv at hb => rhs; whnf
  subst hb
  obtain ⟨sc, hsc⟩ : ∃ d, d = (fn 18).scope := ⟨_, rfl⟩
  rw [← hsc] at V
  conv at hsc => rhs; whnf
  subst hsc
  obtain ⟨tx, mx⟩ := mx
  have jks := J.ks
  have xl : xs.length = st.S.length := J.sa.lenI
  walk_at "go"
  refine mod_int' (by decide) ?_
  rw [Int.fmod_eq_emod_of_nonneg _ (by decide)]
  walk_at "go"
  refine floordiv_int (by decide) ?_ (.inl (noPy (by decide)))
  rw [hj]
  walk_at "go"
  refine r_slice true (xs.drop j) (by assumption) (by assumption) J.rs (.int _ _) .none .none (by decide) (pick_from _ _) (by omega) (by with_unfolding_all rfl) (by intro _; with_unfolding_all rfl) ?_
  intro h₂ n₂ F₂ hn₂ N₂
  walk_at "go"
  refine r_newList true (by assumption) (by assumption) (by simp [sizeLine]) ?_
  intro h₃ n₃ F₃ hn₃ N₃
  walk_at "go"
  refine r_add true F₃ N₃ (upd_new hn₃ upd_self) upd_self (by simp; omega) ?_
  intro h₄ n₄ F₄ hn₄ N₄
  walk_at "go"
  have al : ∀ R', Al (IsI R') (xs.drop j ++ [.int n t]) (toI S' ++ [(n : Int)]) := fun R' => by
    refine Al.snoc ?_ ⟨t, rfl⟩
    have := J.sa.drop j
    rw [← hS]
    rw [show toI (st.S.drop j) = (toI st.S).drop j by simp [toI]]
    exact this.imp fun v x q => q
  refine r_sorted F₄ N₄ upd_self (al R).ints (by simp; omega) ?_
  intro h₅ q vs' ns' e' F₅ hq N₅ iv hp hs
  have hns : ns' = toI (ins n S') := ins_toI (by rw [← hS]; exact List.Pairwise.drop hw) hn hp hs
  subst hns
  have g : Grow R (upd (upd (upd (upd R n₂ (ListC true (xs.drop j) 0)) n₃ (ListC true [.int n t] 0)) n₄ (ListC true (xs.drop j ++ [.int n t]) 0)) q (ListC true vs' e')) := ((Grow.new hn₂).trans (Grow.new hn₃)).trans ((Grow.new hn₄).trans (Grow.new hq))
  have rq : upd (upd (upd (upd R n₂ (ListC true (xs.drop j) 0)) n₃ (ListC true [.int n t] 0)) n₄ (ListC true (xs.drop j ++ [.int n t]) 0)) q (ListC true vs' e') q = some (ListC true vs' e') := upd_self
  generalize upd (upd (upd (upd R n₂ (ListC true (xs.drop j) 0)) n₃ (ListC true [.int n t] 0)) n₄ (ListC true (xs.drop j ++ [.int n t]) 0)) q (ListC true vs' e') = R₅ at *
  have J5 : DJ R₀ k1 k2 q1 q2 st m R₅ sv cl du xs ys us e1 e2 e3 := J.grow g rfl
  have jks5 := J5.ks
  walk_at "go"
  rename Fr _ _ _ _ => Fz
  rename Led _ _ _ _ => Nz
  have fz : FzLe R₅ (upd R₅ k1 (CelC q1 (some (.ref q)))) := FzLe.mut jks5 rfl
  exact h _ _ _ _ Fz Nz ((GrowX.of g).trans (.mut (by simp))) ⟨q, cl, du, vs', ys, us, e', e2, e3, ⟨upd_self, by rw [upd_ne hk12]; exact J5.kc, J5.md, fz _ _ rq rfl, Al.ofInts iv, fz _ _ J5.rc rfl, J5.ca.imp fun v x q => q, fz _ _ J5.rd rfl, J5.da.imp fun v x => IsE.mono _ _ v x fz, grow_mut J5.gr hk1⟩⟩
end
end
section
section
variable {prog : Program} {w : World} {A : Around} {E : Value → Shared → Prop} {s : Shared} {B : Heap} {L : Addr} {m mg mb : Str → Option Value} {R R₀ : Ledger} {env : Env} {k1 k2 : Addr} {q1 q2 : Value} {st : St} {i : Nat}
  {sv cl du : Addr} {xs ys us : List Value} {e1 e2 e3 : Nat}
set_option maxRecDepth 10000 in
set_option maxHeartbeats 4000000 in
theorem due_in {n : Nat} {x : Int} {t : Tok} {Q : Flow → Shared → Prop} (V : EnvIs env (fn 18).scope L [("client", k2), ("server", k1)]) (F : Fr B L s.heap m) (N : Led B L s.heap R) (G : Gl B mg mb)
    (hw : Wf st i) (hi : i ≤ 60) (J : DJ R₀ k1 k2 q1 q2 st m R sv cl du xs ys us e1 e2 e3) (mx : ∃ t, m "x" = some (.int x t)) (mn : m "number" = some (.int n t)) (hk1 : R₀ k1 = none) (hk12 : k2 ≠ k1)
    (hj : x % 4 < 2 ∨ x % 4 = 2 ∧ ∃ a S', st.S = a :: S') (hn : n ∉ st.S) (hs : stp st x = (if x % 4 < 2 then ⟨ins n st.S, st.C, st.out⟩ else ⟨ins n (st.S.drop 1), st.C, st.out ++ (st.S.take 1).map fun a => .inl [(a : Int)]⟩))
    (h : ∀ h' tk m' R', Fr B L h' m' → Led B L h' R' → GrowX [k1, k2] R R' → DJE R₀ k1 k2 q1 q2 (stp st x) m' R' → Q .next { s with heap := h', toks := tk }) :
    wpAny (model prog w) A (execs duB env) Q E s := by
  obtain ⟨b, hb⟩ : ∃ b, b = duB := ⟨_, rfl⟩
  rw [← hb]
  conv at hb => rhs; whnf
  subst hb
  obtain ⟨sc, hsc⟩ : ∃ d, d = (fn 18).scope := ⟨_, rfl⟩
  have V₀ := V
  rw [← hsc] at V
  conv at hsc => rhs; whnf
  subst hsc
  have sl : st.S.length ≤ 60 := Nat.le_trans hw.sl hi
  have ul : us.length ≤ 60 := by have := J.da.len; have := hw.ol; omega
  have xl : xs.length = st.S.length := J.sa.lenI
  have x0 : 0 ≤ x % 4 := Int.emod_nonneg _ (by decide)
  obtain ⟨tx, mx⟩ := mx
  have md := J.md
  have jks := J.ks
  walk_at "go"
  refine mod_int' (by decide) ?_
  rw [Int.fmod_eq_emod_of_nonneg _ (by decide)]
  walk_at "go"
  rcases hj with hx | ⟨hx, a, S', eS⟩
  · rw [show (x % 4 == 2) = false by simp; omega]
    walk_at "go"
    refine r_newList true (by assumption) (by assumption) (by simp [sizeLine]) ?_
    intro h₃ n₃ F₃ hn₃ N₃
    walk_at "go"
    refine r_add true F₃ N₃ (upd_new hn₃ J.rd) upd_self (by simp; omega) ?_
    intro h₄ n₄ F₄ hn₄ N₄
    have g : Grow R (upd (upd R n₃ (ListC true [] 0)) n₄ (ListC true (us ++ []) 0)) := (Grow.new hn₃).trans (Grow.new hn₄)
    have rq : upd (upd R n₃ (ListC true [] 0)) n₄ (ListC true (us ++ []) 0) n₄ = some (ListC true (us ++ []) 0) := upd_self
    have J4 : DJ R₀ k1 k2 q1 q2 st m (upd (upd R n₃ (ListC true [] 0)) n₄ (ListC true (us ++ []) 0)) sv cl du xs ys us e1 e2 e3 := J.grow g rfl
    generalize upd (upd R n₃ (ListC true [] 0)) n₄ (ListC true (us ++ []) 0) = R₄ at *
    dsimp only
    walk_at "mine"
    dsimp only
    rename Fr _ _ _ _ => Fz
    rename Led _ _ _ _ => Nz
    refine due_in2 (st := st) (n := n) (j := 0) (S' := st.S) V₀ Fz Nz G hw.s sl ⟨J4.ks, J4.kc, rfl, J4.rs, J4.sa, J4.rc, J4.ca, rq, by rw [List.append_nil]; exact J4.da, J4.gr⟩ ⟨tx, mx⟩ mn hk1 hk12 (by rw [Int.fdiv_eq_ediv_of_nonneg _ (by decide)]; omega) rfl hn ?_
    intro h₅ tk₅ m₅ R₅ F₅ N₅ g₅ J₅
    refine h _ _ _ _ F₅ N₅ ((GrowX.of g).trans g₅) ?_
    rw [hs, if_pos hx]; exact J₅
  · rw [show (x % 4 == 2) = true by simp [hx]]
    walk_at "go"
    refine r_slice true (xs.take 1) (by assumption) (by assumption) J.rs .none (.int _ _) .none (by decide) (pick_to _ 1) (by omega) (by with_unfolding_all rfl) (by intro _; with_unfolding_all rfl) ?_
    intro h₂ n₂ F₂ hn₂ N₂
    walk_at "go"
    refine r_newList true (by assumption) (by assumption) (by simp [sizeLine]) ?_
    intro h₃ n₃ F₃ hn₃ N₃
    walk_at "go"
    refine r_add true F₃ N₃ (upd_new hn₃ (upd_new hn₂ J.rd)) upd_self (by simp; omega) ?_
    intro h₄ n₄ F₄ hn₄ N₄
    have g34 : Grow (upd R n₂ (ListC true (xs.take 1) 0)) (upd (upd (upd R n₂ (ListC true (xs.take 1) 0)) n₃ (ListC true [.ref n₂] 0)) n₄ (ListC true (us ++ [.ref n₂]) 0)) := (Grow.new hn₃).trans (Grow.new hn₄)
    have g : Grow R (upd (upd (upd R n₂ (ListC true (xs.take 1) 0)) n₃ (ListC true [.ref n₂] 0)) n₄ (ListC true (us ++ [.ref n₂]) 0)) := (Grow.new hn₂).trans g34
    have rq : upd (upd (upd R n₂ (ListC true (xs.take 1) 0)) n₃ (ListC true [.ref n₂] 0)) n₄ (ListC true (us ++ [.ref n₂]) 0) n₄ = some (ListC true (us ++ [.ref n₂]) 0) := upd_self
    have rn : upd (upd (upd R n₂ (ListC true (xs.take 1) 0)) n₃ (ListC true [.ref n₂] 0)) n₄ (ListC true (us ++ [.ref n₂]) 0) n₂ = some (ListC true (xs.take 1) 0) := g34 _ _ upd_self
    have J4 : DJ R₀ k1 k2 q1 q2 st m (upd (upd (upd R n₂ (ListC true (xs.take 1) 0)) n₃ (ListC true [.ref n₂] 0)) n₄ (ListC true (us ++ [.ref n₂]) 0)) sv cl du xs ys us e1 e2 e3 := J.grow g rfl
    generalize upd (upd (upd R n₂ (ListC true (xs.take 1) 0)) n₃ (ListC true [.ref n₂] 0)) n₄ (ListC true (us ++ [.ref n₂]) 0) = R₄ at *
    dsimp only
    walk_at "mine"
    dsimp only
    rename Fr _ _ _ _ => Fz
    rename Led _ _ _ _ => Nz
    have ent : IsE R₄ (.ref n₂) (.inl [(a : Int)]) := by
      refine ⟨n₂, xs.take 1, 0, rfl, rn, ?_⟩
      have := J4.sa.take 1
      rw [eS] at this
      exact this
    refine due_in2 (st := ⟨st.S, st.C, st.out ++ [.inl [(a : Int)]]⟩) (n := n) (j := 1) (S' := st.S.drop 1) V₀ Fz Nz G hw.s sl ⟨J4.ks, J4.kc, rfl, J4.rs, J4.sa, J4.rc, J4.ca, rq, J4.da.snoc ent, J4.gr⟩ ⟨tx, mx⟩ mn hk1 hk12 (by rw [hx]; rfl) rfl (fun q => hn (List.mem_of_mem_drop q)) ?_
    intro h₅ tk₅ m₅ R₅ F₅ N₅ g₅ J₅
    refine h _ _ _ _ F₅ N₅ ((GrowX.of g).trans g₅) ?_
    rw [hs, if_neg (by omega)]
    rw [show (st.S.take 1).map (fun a : Nat => (Sum.inl [(a : Int)] : Ent)) = [.inl [(a : Int)]] by rw [eS]; rfl]
    exact J₅
end
end
section
section
variable {prog : Program} {w : World} {A : Around} {E : Value → Shared → Prop} {s : Shared} {B : Heap} {L l b : Addr} {m : Str → Option Value} {R : Ledger} {fz fz2 : Bool} {vs us : List Value} {e e2 : Nat}
theorem rn_list {Q : Value → Shared → Prop} (F : Fr B L s.heap m) (N : Led B L s.heap R) (hsz : vs.length ≤ 1000)
    (h : ∀ h' n R', Fr B L h' m → Led B L h' R' → Grow R R' → R n = none → R' n = some (ListC true vs 0) → Q (.ref n) { s with heap := h' }) : wpAny (model prog w) A (newList vs) Q E s :=
  r_newList true F N (sz1000 hsz) fun h' n F' hn N' => h h' n _ F' N' (Grow.new hn) hn upd_self
theorem rn_add {Q : Value → Shared → Prop} (F : Fr B L s.heap m) (N : Led B L s.heap R) (hl : R l = some (ListC fz vs e)) (hb : R b = some (ListC fz2 us e2)) (hsz : vs.length + us.length ≤ 1000)
    (h : ∀ h' n R', Fr B L h' m → Led B L h' R' → Grow R R' → R n = none → R' n = some (ListC true (vs ++ us) 0) → Q (.ref n) { s with heap := h' }) : wpAny (model prog w) A (binaryOp .Add (.ref l) (.ref b)) Q E s :=
  r_add true F N hl hb hsz fun h' n F' hn N' => h h' n _ F' N' (Grow.new hn) hn upd_self
theorem rn_mul {x : Int} {u : Tok} {v : Value} {Q : Value → Shared → Prop} (F : Fr B L s.heap m) (N : Led B L s.heap R) (hl : R l = some (ListC fz [v] e)) (h0 : -1000 ≤ x) (h1 : x ≤ 1000)
    (h : ∀ h' n R', Fr B L h' m → Led B L h' R' → Grow R R' → R n = none → R' n = some (ListC true (List.replicate x.toNat v) 0) → Q (.ref n) { s with heap := h' }) : wpAny (model prog w) A (binaryOp .Mult (.ref l) (.int x u)) Q E s :=
  r_mul F N hl h0 h1 fun h' n F' hn N' => h h' n _ F' N' (Grow.new hn) hn upd_self
end
theorem dn_in {C S : List Nat} {i c : Nat} (h : C[i]? = some c) (hc : c ∈ S) : dn (C.take (i + 1)) S = dn (C.take i) S := by
  unfold dn; rw [take_succ' h, List.filter_append]; simp [hc]
theorem dn_out {C S : List Nat} {i c : Nat} (h : C[i]? = some c) (hc : c ∉ S) : dn (C.take (i + 1)) S = dn (C.take i) S ++ [c] := by
  unfold dn; rw [take_succ' h, List.filter_append]; simp [hc]
section
variable {prog : Program} {w : World} {A : Around} {E : Value → Shared → Prop} {s : Shared} {B : Heap} {L : Addr} {m mg mb : Str → Option Value} {R R₀ : Ledger} {env : Env} {k1 k2 : Addr} {q1 q2 : Value} {st : St} {i : Nat}
  {sv cl du : Addr} {xs ys us : List Value} {e1 e2 e3 : Nat}
def dqB1 : List Stmt := dqB.take 1
def dqB2 : List Stmt := dqB.drop 1
set_option maxRecDepth 10000 in
set_option maxHeartbeats 4000000 in
theorem due_ask {Q : Flow → Shared → Prop} (V : EnvIs env (fn 18).scope L [("client", k2), ("server", k1)]) (F : Fr B L s.heap m) (N : Led B L s.heap R) (G : Gl B mg mb) (hh : A.handled = none)
    (hw : Wf st i) (hi : i ≤ 60) (J : DJ R₀ k1 k2 q1 q2 st m R sv cl du xs ys us e1 e2 e3) (hk2 : R₀ k2 = none) (hk12 : k2 ≠ k1)
    (h : ∀ h' tk m' R', Fr B L h' m' → Led B L h' R' → GrowX [k1, k2] R R' → DJE R₀ k1 k2 q1 q2 ⟨st.S, st.S, st.out ++ [asked st.S st.C]⟩ m' R' → Q .next { s with heap := h', toks := tk }) :
    wpAny (model prog w) A (execs dqB env) Q E s := by
  obtain ⟨b, hb⟩ : ∃ b, b = dqB := ⟨_, rfl⟩
  rw [← hb]
  conv at hb => rhs; whnf
  subst hb
  obtain ⟨sc, hsc⟩ : ∃ d, d = (fn 18).scope := ⟨_, rfl⟩
  have V₀ := V
  rw [← hsc] at V
  conv at hsc => rhs; whnf
  subst hsc
  have sl : st.S.length ≤ 60 := Nat.le_trans hw.sl hi
  have cll : st.C.length ≤ 60 := Nat.le_trans hw.cl hi
  have ul : us.length ≤ 60 := by have := J.da.len; have := hw.ol; omega
  have xl : xs.length = st.S.length := J.sa.lenI
  have yl : ys.length = st.C.length := J.ca.lenI
  have md := J.md
  have jks := J.ks
  have jkc := J.kc
  walk_at "go"
  refine Assign_Tuple_swapped (names := ["gone", "new"]) ?_ rfl (by rw [V.eta]; rfl)
  walk_at "go"
  refine r_ListComp (B := B) V (clos_ok V) rfl (by decide) ?_
  walk_at "go"
  refine r_iter F N J.rc ?_
  intro h₁ I₁ F₁ hI₁ N₁
  have hcI : cl ≠ I₁ := ne_of_none J.rc hI₁
  refine CompGo.intro (n := ys.length) (P := fun i v => ys[i]? = some v) (Dep := fun R => R cl = some (ListC true ys e2)) (fun i zs R' => Al (IsI R') zs (toI (dn (st.C.take i) st.S))) (Src.list hh hcI) F₁ N₁ upd_self (by rw [upd_ne hcI]; exact J.rc) (by omega) rfl
    (fun i ys R R' g x => x.imp fun v x q => q) (fun _ _ => .nil) (fun i zs R' x => by have := x.lenI; have := List.length_filter_le (fun k => !st.S.contains k) (st.C.take i); unfold dn at *; simp at *; omega) ?_ ?_
  · intro cenv C h₂ tk₂ c₂ mC R₂ k zs v₂ Vc hfrm hlt hv hInv F₂ N₂ g₂ hcs hdep
    have g₂ : Grow R R₂ := turn_grow g₂ hI₁ N₁.none_L
    obtain ⟨cc, hcc⟩ := get2 (l := st.C) (j := k) (by omega)
    have hvi : IsI R v₂ (cc : Int) := J.ca.get hv (by simp [toI, hcc])
    obtain ⟨tv, rfl⟩ := hvi
    have jks₂ := g₂ _ _ jks
    walk_at "go"
    refine wpAny_tests_one ?_
    walk_at "go"
    refine r_notInInts (by assumption) (g₂ _ _ J.rs) (J.sa.imp fun v x q => q) ?_
    walk_at "go"
    refine ite_nd (fun hin => ?_) (fun hin => ?_)
    · rename Fr _ _ _ _ => Fz
      rename Led _ _ _ _ => Nz
      refine ⟨_, _, _, _, rfl, Fz, Nz, GrowX.refl _ _, (fun k hk => nomatch (show k ∈ [] from hk)), ?_⟩
      rw [dn_in hcc hin]; exact hInv
    · walk_at "go"
      rename Fr _ _ _ _ => Fz
      rename Led _ _ _ _ => Nz
      refine ⟨_, _, _, _, rfl, Fz, Nz, GrowX.refl _ _, (fun k hk => nomatch (show k ∈ [] from hk)), ?_⟩
      rw [dn_out hcc hin, show toI (dn (st.C.take k) st.S ++ [cc]) = toI (dn (st.C.take k) st.S) ++ [(cc : Int)] by simp [toI]]
      exact hInv.snoc ⟨tv, rfl⟩
  intro ga h₂ tk₂ R₂ gv ge F₂ N₂ g₂ _ rg₂ hG
  have g₂ : Grow R R₂ := growX_drop g₂ hI₁
  rw [yl, List.take_length] at hG
  have jks₂ := g₂ _ _ jks
  have jkc₂ := g₂ _ _ jkc
  walk_at "go"
  refine r_ListComp (B := B) V (clos_ok V) rfl (by decide) ?_
  walk_at "go"
  refine r_iter F₂ N₂ (g₂ _ _ J.rs) ?_
  intro h₃ I₃ F₃ hI₃ N₃
  have hsI : sv ≠ I₃ := ne_of_none (g₂ _ _ J.rs) hI₃
  refine CompGo.intro (n := xs.length) (P := fun i v => xs[i]? = some v) (Dep := fun R => R sv = some (ListC true xs e1)) (fun i zs R' => Al (IsI R') zs (toI (dn (st.S.take i) st.C))) (Src.list hh hsI) F₃ N₃ upd_self (by rw [upd_ne hsI]; exact g₂ _ _ J.rs) (by omega) rfl
    (fun i ys R R' g x => x.imp fun v x q => q) (fun _ _ => .nil) (fun i zs R' x => by have := x.lenI; have := List.length_filter_le (fun k => !st.C.contains k) (st.S.take i); unfold dn at *; simp at *; omega) ?_ ?_
  · intro cenv C h₄ tk₄ c₄ mC R₄ k zs v₄ Vc hfrm hlt hv hInv F₄ N₄ g₄ hcs hdep
    have g₄ : Grow R₂ R₄ := turn_grow g₄ hI₃ N₃.none_L
    obtain ⟨cc, hcc⟩ := get2 (l := st.S) (j := k) (by omega)
    have hvi : IsI R v₄ (cc : Int) := J.sa.get hv (by simp [toI, hcc])
    obtain ⟨tv, rfl⟩ := hvi
    have jkc₄ := g₄ _ _ jkc₂
    walk_at "go"
    refine wpAny_tests_one ?_
    walk_at "go"
    refine r_notInInts (by assumption) (g₄ _ _ (g₂ _ _ J.rc)) (J.ca.imp fun v x q => q) ?_
    walk_at "go"
    refine ite_nd (fun hin => ?_) (fun hin => ?_)
    · rename Fr _ _ _ _ => Fz
      rename Led _ _ _ _ => Nz
      refine ⟨_, _, _, _, rfl, Fz, Nz, GrowX.refl _ _, (fun k hk => nomatch (show k ∈ [] from hk)), ?_⟩
      rw [dn_in hcc hin]; exact hInv
    · walk_at "go"
      rename Fr _ _ _ _ => Fz
      rename Led _ _ _ _ => Nz
      refine ⟨_, _, _, _, rfl, Fz, Nz, GrowX.refl _ _, (fun k hk => nomatch (show k ∈ [] from hk)), ?_⟩
      rw [dn_out hcc hin, show toI (dn (st.S.take k) st.C ++ [cc]) = toI (dn (st.S.take k) st.C) ++ [(cc : Int)] by simp [toI]]
      exact hInv.snoc ⟨tv, rfl⟩
  intro na h₄ tk₄ R₄ nv ne F₄ N₄ g₄ _ rn₄ hN
  have g₄ : Grow R₂ R₄ := growX_drop g₄ hI₃
  rw [xl, List.take_length] at hN
  have gvl : gv.length ≤ 60 := by rw [hG.lenI]; exact Nat.le_trans (List.length_filter_le _ _) cll
  walk_at "go"
  refine r_newTuple true (by assumption) (by assumption) (by simp [sizeLine]) ?_
  intro h₅ n₅ F₅ hn₅ N₅
  dsimp only
  refine r_unpackItems F₅ N₅ upd_self hh rfl ?_
  intro h₆ F₆ N₆
  have g₆ : Grow R₄ (upd R₄ n₅ (TupC true [.ref ga, .ref na] 0)) := Grow.new hn₅
  generalize upd R₄ n₅ (TupC true [.ref ga, .ref na] 0) = R₆ at *
  have gA : Grow R R₆ := (g₂.trans g₄).trans g₆
  have rg₆ := (g₄.trans g₆) _ _ rg₂
  have rn₆ := g₆ _ _ rn₄
  show wpAny _ _ (assignInOrder [fun v => bindName env "new" v, fun v => bindName env "gone" v] [.ref na, .ref ga]) _ _ _
  walk_at "go"
  refine Assign_Tuple ?_ rfl (by rw [V.eta]; rfl)
  walk_at "go"
  refine rn_list (by assumption) (by assumption) (by simp) ?_
  intro h₇ n₇ R₇ F₇ N₇ g₇ _ r₇
  walk_at "go"
  refine r_slice true gv.reverse F₇ N₇ (g₇ _ _ rg₆) .none .none (.int _ _) (by decide) (krv_pick _) (by omega) (by with_unfolding_all rfl) (by intro _; with_unfolding_all rfl) ?_
  intro h₈ n₈ F₈ hn₈ N₈
  have g₈ : Grow R₇ (upd R₇ n₈ (ListC true gv.reverse 0)) := Grow.new hn₈
  have r₈ : upd R₇ n₈ (ListC true gv.reverse 0) n₈ = some (ListC true gv.reverse 0) := upd_self
  generalize upd R₇ n₈ (ListC true gv.reverse 0) = R₈ at *
  walk_at "go"
  refine rn_list (by assumption) (by assumption) (by simp) ?_
  intro h₉ n₉ R₉ F₉ N₉ g₉ _ r₉
  walk_at "go"
  refine rn_list (by assumption) (by assumption) (by simp) ?_
  intro h₁₀ n₁₀ R₁₀ F₁₀ N₁₀ g₁₀ _ r₁₀
  walk_at "go"
  refine rn_list (by assumption) (by assumption) (by simp) ?_
  intro h₁₁ n₁₁ R₁₁ F₁₁ N₁₁ g₁₁ _ r₁₁
  have gB : Grow R R₁₁ := gA.trans (((g₇.trans g₈).trans (g₉.trans g₁₀)).trans g₁₁)
  have jks₁₁ := gB _ _ jks
  have rs₁₁ := gB _ _ J.rs
  walk_at "go"
  refine rn_mul (by assumption) (by assumption) r₁₁ (by omega) (by omega) ?_
  intro h₁₂ n₁₂ R₁₂ F₁₂ N₁₂ g₁₂ _ r₁₂
  walk_at "go"
  refine rn_list (by assumption) (by assumption) (by simp) ?_
  intro h₁₃ n₁₃ R₁₃ F₁₃ N₁₃ g₁₃ _ r₁₃
  walk_at "go"
  refine rn_list (by assumption) (by assumption) (by simp) ?_
  intro h₁₄ n₁₄ R₁₄ F₁₄ N₁₄ g₁₄ _ r₁₄
  have gC : Grow R R₁₄ := gB.trans ((g₁₂.trans g₁₃).trans g₁₄)
  walk_at "go"
  refine rn_add (by assumption) (by assumption) (gC _ _ J.rd) r₁₄ (by simp; omega) ?_
  intro h₁₅ n₁₅ R₁₅ F₁₅ N₁₅ g₁₅ _ r₁₅
  have gD : Grow R R₁₅ := gC.trans g₁₅
  have jks₁₅ := gD _ _ jks
  walk_at "go"
  refine r_newTuple true (by assumption) (by assumption) (by simp [sizeLine]) ?_
  intro h₁₆ n₁₆ F₁₆ hn₁₆ N₁₆
  dsimp only
  refine r_unpack F₁₆ N₁₆ upd_self hh ?_
  intro h₁₇ F₁₇ N₁₇
  have g₁₆ : Grow R₁₅ (upd R₁₅ n₁₆ (TupC true [.ref n₁₅, .ref sv] 0)) := Grow.new hn₁₆
  generalize upd R₁₅ n₁₆ (TupC true [.ref n₁₅, .ref sv] 0) = R₁₆ at *
  have gE : Grow R R₁₆ := gD.trans g₁₆
  have J16 : DJ R₀ k1 k2 q1 q2 st m R₁₆ sv cl du xs ys us e1 e2 e3 := J.grow gE rfl
  have jkc₁₆ := J16.kc
  walk_at "go"
  rename Fr _ _ _ _ => Fz
  rename Led _ _ _ _ => Nz
  have fz : FzLe R₁₆ (upd R₁₆ k2 (CelC q2 (some (.ref sv)))) := FzLe.mut jkc₁₆ rfl
  have gF : Grow R₁₄ R₁₆ := g₁₅.trans g₁₆
  have gG : Grow R₁₁ R₁₆ := (g₁₂.trans g₁₃).trans (g₁₄.trans gF)
  have gH : Grow R₆ R₁₆ := (((g₇.trans g₈).trans (g₉.trans g₁₀)).trans g₁₁).trans gG
  have ent : IsE R₁₆ (.ref n₁₃) (asked st.S st.C) := by
    have hg : IsLs IsI R₁₆ (.ref ga) (toI (dn st.C st.S)) := ⟨ga, gv, ge, rfl, gH _ _ rg₆, hG.imp fun v x q => q⟩
    have hn : IsLs IsI R₁₆ (.ref na) (toI (dn st.S st.C)) := ⟨na, nv, ne, rfl, gH _ _ rn₆, hN.imp fun v x q => q⟩
    have hr : IsLs IsI R₁₆ (.ref n₈) (toI (dn st.C st.S)).reverse := ⟨n₈, gv.reverse, 0, rfl, (((g₉.trans g₁₀).trans g₁₁).trans gG) _ _ r₈, (hG.imp fun v x q => q).reverse⟩
    have h3 : IsLs IsI R₁₆ (.ref n₁₀) [-1, 1, 0] := ⟨n₁₀, _, 0, rfl, (g₁₁.trans gG) _ _ r₁₀, .cons ⟨_, rfl⟩ (.cons ⟨_, rfl⟩ (.cons ⟨_, rfl⟩ .nil))⟩
    refine ⟨n₁₃, _, 0, rfl, (g₁₄.trans gF) _ _ r₁₃, .cons ⟨n₇, _, 0, rfl, (((g₈.trans (g₉.trans g₁₀)).trans g₁₁).trans gG) _ _ r₇, .cons hg (.cons hn .nil)⟩ (.cons ⟨n₉, _, 0, rfl, ((g₁₀.trans g₁₁).trans gG) _ _ r₉, .cons hr (.cons hn .nil)⟩ (.cons ⟨n₁₂, _, 0, rfl, (g₁₃.trans (g₁₄.trans gF)) _ _ r₁₂, ?_⟩ .nil))⟩
    have e0 : ((xs.length : Int) - 1).toNat = st.S.length - 1 := by rw [xl]; omega
    rw [e0]
    exact Al.replicate h3 _
  exact h _ _ _ _ Fz Nz ((GrowX.of gE).trans (.mut (by simp))) ⟨sv, sv, n₁₅, xs, xs, us ++ [.ref n₁₃], e1, e1, 0, ⟨by rw [upd_ne (Ne.symm hk12)]; exact J16.ks, upd_self, rfl, fz _ _ J16.rs rfl, J16.sa.imp fun v x q => q, fz _ _ J16.rs rfl, J16.sa.imp fun v x q => q, fz _ _ (g₁₆ _ _ r₁₅) rfl, (J16.da.snoc ent).imp fun v x => IsE.mono _ _ v x fz, grow_mut J16.gr hk2⟩⟩
end
end
section
section
variable {prog : Program} {w : World} {A : Around} {E : Value → Shared → Prop} {s : Shared} {B : Heap} {L : Addr} {m mg mb : Str → Option Value} {R R₀ : Ledger} {env : Env} {k1 k2 : Addr} {q1 q2 : Value} {st : St} {i : Nat}
  {sv cl du : Addr} {xs ys us : List Value} {e1 e2 e3 : Nat}
set_option maxRecDepth 10000 in
set_option maxHeartbeats 4000000 in
theorem due_turn {Q : Flow → Shared → Prop} {x : Int} {t : Tok} (V : EnvIs env (fn 18).scope L [("client", k2), ("server", k1)]) (F : Fr B L s.heap (fun y => if y = "x" then some (.int x t) else m y)) (N : Led B L s.heap R) (G : Gl B mg mb) (hh : A.handled = none)
    (hroom : A.depth + 20 < recursionLimit) (hu : A.units + 100 < cLine) (hw : Wf st i) (hi : i ≤ 60) (J : DJ R₀ k1 k2 q1 q2 st m R sv cl du xs ys us e1 e2 e3) (hk1 : R₀ k1 = none) (hk2 : R₀ k2 = none) (hk12 : k2 ≠ k1)
    (h : ∀ h' tk m' R', Fr B L h' m' → Led B L h' R' → GrowX [k1, k2] R R' → DJE R₀ k1 k2 q1 q2 (stp st x) m' R' → Q .next { s with heap := h', toks := tk }) :
    wpAny (model prog w) A (execs (forB 18) env) Q E s := by
  obtain ⟨b, hb⟩ : ∃ b, b = forB 18 := ⟨_, rfl⟩
  rw [← hb]
  conv at hb => rhs; whnf
  subst hb
  obtain ⟨sc, hsc⟩ : ∃ d, d = (fn 18).scope := ⟨_, rfl⟩
  have V₀ := V
  rw [← hsc] at V
  conv at hsc => rhs; whnf
  subst hsc
  have sl : st.S.length ≤ 60 := Nat.le_trans hw.sl hi
  have xl : xs.length = st.S.length := J.sa.lenI
  have x03 : 0 ≤ x % 4 ∧ x % 4 < 4 := ⟨Int.emod_nonneg _ (by decide), Int.emod_lt_of_pos _ (by decide)⟩
  have em : x.fmod 4 = x % 4 := Int.fmod_eq_emod_of_nonneg _ (by decide)
  have jks := J.ks
  have md := J.md
  have habs : (if num x < 0 then - num x else num x) = ((num x).natAbs : Int) := by split <;> omega
  walk_at "go"
  refine law_number F N G (by assumption) (by omega) ?_
  intro h₁ tk₁ t₁ F₁ N₁
  walk_at "go"
  refine mod_int' (by decide) ?_
  rw [em]
  walk_at "go"
  rename Fr _ _ _ _ => Fz
  rename Led _ _ _ _ => Nz
  have same : ∀ {h' : Heap} {tk : Nat} {m' : Str → Option Value} {R' : Ledger}, stp st x = st → Fr B L h' m' → Led B L h' R' → Grow R R' → m' "due" = m "due" → Q .next { s with heap := h', toks := tk } := fun e F' N' g e' =>
    h _ _ _ _ F' N' (.of g) (by rw [e]; exact ⟨sv, cl, du, xs, ys, us, e1, e2, e3, J.grow g e'⟩)
  refine ite_d (fun hx => ?_) (fun hx => ?_)
  · walk_at "go"
    rw [habs]
    refine r_notInInts Nz J.rs J.sa ?_
    walk_at "go"
    refine ite_nd (fun hin => ?_) (fun hin => ?_)
    · walk_at "go"
      refine mod_int' (by decide) ?_
      rw [em]
      walk_at "go"
      rw [show (x % 4 == 3) = false by simp; omega]
      walk_at "go"
      refine same ?_ Fz Nz (Grow.refl _) rfl
      by_cases hx2 : x % 4 < 2
      · rw [stp_low hx2, if_pos hin]
      · cases e : st.S with
        | nil => rw [e] at hin; cases hin
        | cons a S' => rw [stp_two (by omega) e, if_pos (e ▸ hin)]
    · have hst : (x % 4 < 2 ∨ x % 4 = 2 ∧ ∃ a S', st.S = a :: S') → stp st x = (if x % 4 < 2 then ⟨ins (num x).natAbs st.S, st.C, st.out⟩ else ⟨ins (num x).natAbs (st.S.drop 1), st.C, st.out ++ (st.S.take 1).map fun a => .inl [(a : Int)]⟩) := by
        rintro (q | ⟨q, a, S', e⟩)
        · rw [stp_low q, if_neg hin, if_pos q]
        · rw [stp_two q e, if_neg (e ▸ hin), if_neg (by omega), e]; rfl
      walk_at "go"
      refine mod_int' (by decide) ?_
      rw [em]
      walk_at "go"
      refine ite_d (fun hx2 => ?_) (fun hx2 => ?_)
      · repeat (first | with_reducible refine ite_t ?_ | with_reducible refine isTrue_and_nil ?_ | dsimp only)
        refine due_in (n := (num x).natAbs) (x := x) V₀ Fz Nz G hw hi (J.grow (Grow.refl _) rfl) ⟨_, rfl⟩ (by show some _ = some _; rw [habs]) hk1 hk12 (.inl hx2) hin (hst (.inl hx2)) ?_
        intro h' tk' m' R' F' N' g' J'
        walk_at "go"
        exact h _ _ _ _ F' N' g' J'
      · have hx2' : x % 4 = 2 := by omega
        walk_at "go"
        refine rn_list (by assumption) (by assumption) (by simp) ?_
        intro h₃ n₃ R₃ F₃ N₃ g₃ _ r₃
        dsimp only
        refine r_ne_nil N₃ (g₃ _ _ J.rs) r₃ (by omega) ?_
        walk_at "go"
        split
        · rename_i hb
          have hne : ∃ a S', st.S = a :: S' := by
            cases e : st.S with
            | nil =>
              rw [e] at xl
              have : xs = [] := by simpa using xl
              subst this; simp at hb
            | cons a S' => exact ⟨a, S', rfl⟩
          repeat (first | with_reducible refine ite_t ?_ | with_reducible refine isTrue_and_nil ?_ | dsimp only)
          refine due_in (n := (num x).natAbs) (x := x) V₀ F₃ N₃ G hw hi (J.grow g₃ rfl) ⟨_, rfl⟩ (by show some _ = some _; rw [habs]) hk1 hk12 (.inr ⟨hx2', hne⟩) hin (hst (.inr ⟨hx2', hne⟩)) ?_
          intro h' tk' m' R' F' N' g' J'
          walk_at "go"
          exact h _ _ _ _ F' N' ((GrowX.of g₃).trans g') J'
        · rename_i hb
          have e : st.S = [] := by
            have : xs = [] := by
              cases xs with
              | nil => rfl
              | cons a r => simp at hb
            rw [this] at xl
            simpa using xl.symm
          walk_at "go"
          refine mod_int' (by decide) ?_
          rw [em]
          walk_at "go"
          rw [show (x % 4 == 3) = false by simp; omega]
          walk_at "go"
          exact same (stp_two_nil hx2' e) F₃ N₃ g₃ rfl
  · have hx3 : x % 4 = 3 := by omega
    walk_at "go"
    refine mod_int' (by decide) ?_
    rw [em]
    walk_at "go"
    rw [show (x % 4 == 3) = true by simp [hx3]]
    refine ite_t ?_
    refine due_ask V₀ Fz Nz G hh hw hi (J.grow (Grow.refl _) rfl) hk2 hk12 ?_
    intro h' tk' m' R' F' N' g' J'
    walk_at "go"
    refine h _ _ _ _ F' N' g' ?_
    rw [stp_ask hx3]; exact J'
end
end
section
/-! ## _law_due -/
theorem DJE.stab {R₀ R R' : Ledger} {k1 k2 I l : Addr} {j : Nat} {q1 q2 : Value} {st : St} {m : Str → Option Value} (J : DJE R₀ k1 k2 q1 q2 st m R) (hI : R₀ I = none) (hR : R I = some (LIt l j)) (g : GrowX [I] R R') : DJE R₀ k1 k2 q1 q2 st m R' := by
  obtain ⟨sv, cl, du, xs, ys, us, e1, e2, e3, J⟩ := J
  have ne : ∀ {a : Addr} {fz : Bool} {vs : List Value} {e : Nat}, R a = some (ListC fz vs e) → R' a = some (ListC fz vs e) := fun ha => g _ _ (fun hm => by
    rw [List.mem_singleton.mp hm, hR] at ha; simp at ha) ha
  have nc : ∀ {a : Addr} {c : Value} {v : Option Value}, R a = some (CelC c v) → R' a = some (CelC c v) := fun ha => g _ _ (fun hm => by
    rw [List.mem_singleton.mp hm, hR] at ha; simp at ha) ha
  have fz : FzLe R R' := g.fz fun x hx k hk => by rw [List.mem_singleton.mp hx, hR] at hk; cases hk; rfl
  exact ⟨sv, cl, du, xs, ys, us, e1, e2, e3, ⟨nc J.ks, nc J.kc, J.md, ne J.rs, J.sa.imp fun v x q => q, ne J.rc, J.ca.imp fun v x q => q, ne J.rd, J.da.imp fun v x => IsE.mono _ _ v x fz,
    growX_out g J.gr (fun x hx => by rw [List.mem_singleton.mp hx]; exact hI)⟩⟩
section
variable {prog : Program} {w : World} {A : Around} {E : Value → Shared → Prop} {s : Shared} {B : Heap} {L l : Addr} {m mg mb : Str → Option Value} {R : Ledger} {e : Nat}
set_option maxRecDepth 10000 in
set_option maxHeartbeats 4000000 in
theorem law_due {fa : Addr} {code : Value} {ns : List Int} {vs : List Value} {Q : Value → Shared → Prop} (F : Fr B L s.heap m) (N : Led B L s.heap R) (G : Gl B mg mb) (D : FnAt B (fn 18) fa code)
    (hh : A.handled = none) (hroom : A.depth + 80 < recursionLimit) (hu : A.units + 700 < cLine)
    (hl : R l = some (ListC true vs e)) (hv : IntsAre vs ns) (hlen : ns.length ≤ 60)
    (h : ∀ h' tk R' v, Grow R R' → IsLs IsE R' v (run ns).out → Fr B L h' m → Led B L h' R' → Q v { s with heap := h', toks := tk }) :
    wpAny (model prog w) A (call (.ref fa) [.ref l]) Q E s := by
  have hvl : vs.length = ns.length := hv.length
  obtain ⟨d, hd⟩ : ∃ d, d = fn 18 := ⟨_, rfl⟩
  rw [← hd] at D
  refine r_callC "numbers" F N G.lim D (by rw [hd]; decide +kernel) (by omega) (fun _ _ => by rw [hd]; rfl) ?_
  intro env L' h₁ c tk₁ cells R₁ V hcells hfrm hc hRL hle F₁ N₁ g₁ hcs
  rw [hd] at V
  have V₀ := V
  conv at hd => rhs; whnf
  subst hd
  subst hcells
  have V : EnvIs env _ L' [("client", L' + 1 + 1), ("server", L' + 1)] := V
  obtain ⟨⟨q1, rk1⟩, nk1⟩ := hcs "server" (L' + 1) rfl
  obtain ⟨⟨q2, rk2⟩, nk2⟩ := hcs "client" (L' + 1 + 1) rfl
  have k12 : L' + 1 + 1 ≠ L' + 1 := Nat.succ_ne_self _
  clear D F N
  dsimp only
  have hlL : R₁ l = some (ListC true vs e) := g₁ _ _ (upd_new hRL hl)
  have hu' : (A.deeper env).units + 600 < cLine := by rw [Around.deeper_units]; omega
  have hh' : (A.deeper env).handled = none := hh
  generalize hR₀ : upd R L c = R₀ at *
  walk_at "go"
  refine Assign_Tuple ?_ rfl (by rw [V.eta]; rfl)
  walk_at "go"
  refine rn_list (by assumption) (by assumption) (by simp) ?_
  intro h₂ sv R₂ F₂ N₂ g₂ _ r₂
  walk_at "go"
  refine rn_list (by assumption) (by assumption) (by simp) ?_
  intro h₃ cl R₃ F₃ N₃ g₃ _ r₃
  walk_at "go"
  refine rn_list (by assumption) (by assumption) (by simp) ?_
  intro h₄ du R₄ F₄ N₄ g₄ _ r₄
  walk_at "go"
  refine r_newTuple true (by assumption) (by assumption) (by simp [sizeLine]) ?_
  intro h₅ tp F₅ htp N₅
  dsimp only
  refine r_unpack F₅ N₅ upd_self hh' ?_
  intro h₆ F₆ N₆
  have g₅ : Grow R₄ (upd R₄ tp (TupC true [.ref sv, .ref cl, .ref du] 0)) := Grow.new htp
  generalize upd R₄ tp (TupC true [.ref sv, .ref cl, .ref du] 0) = R₅ at *
  have gA : Grow R₁ R₅ := (g₂.trans g₃).trans (g₄.trans g₅)
  have rk1₅ := gA _ _ rk1
  have rk2₅ := gA _ _ rk2
  walk_at "go"
  refine r_stc V (by assumption) (by assumption) rfl rfl rfl (by rw [upd_ne k12]; exact rk2₅) ?_
  intro h₇ F₇ N₇
  have f₅ : FzLe R₅ (upd (upd R₅ (L' + 1) (CelC q1 (some (.ref sv)))) (L' + 1 + 1) (CelC q2 (some (.ref cl)))) := (FzLe.mut rk1₅ rfl).trans (FzLe.mut (by rw [upd_ne k12]; exact rk2₅) rfl)
  have c1 : upd (upd R₅ (L' + 1) (CelC q1 (some (.ref sv)))) (L' + 1 + 1) (CelC q2 (some (.ref cl))) (L' + 1) = some (CelC q1 (some (.ref sv))) := by rw [upd_ne (Ne.symm k12)]; exact upd_self
  have c2 : upd (upd R₅ (L' + 1) (CelC q1 (some (.ref sv)))) (L' + 1 + 1) (CelC q2 (some (.ref cl))) (L' + 1 + 1) = some (CelC q2 (some (.ref cl))) := upd_self
  have gR : Grow R₀ (upd (upd R₅ (L' + 1) (CelC q1 (some (.ref sv)))) (L' + 1 + 1) (CelC q2 (some (.ref cl)))) := grow_mut (grow_mut (g₁.trans gA) nk1) nk2
  have r2 := f₅ _ _ ((g₃.trans (g₄.trans g₅)) _ _ r₂) rfl
  have r3 := f₅ _ _ ((g₄.trans g₅) _ _ r₃) rfl
  have r4 := f₅ _ _ (g₅ _ _ r₄) rfl
  have hlR := f₅ _ _ (gA _ _ hlL) rfl
  generalize upd (upd R₅ (L' + 1) (CelC q1 (some (.ref sv)))) (L' + 1 + 1) (CelC q2 (some (.ref cl))) = R₇ at *
  walk_at "go"
  rename Fr _ _ _ _ => Fz
  rename Led _ _ _ _ => Nz
  refine r_for (fz := true) (vs := vs) (e := e) (fun i m R => DJE R₀ (L' + 1) (L' + 1 + 1) q1 q2 (run (ns.take i)) m R) V rfl rfl hh' Fz Nz hlR ?_ PassesOwn.never ?_ ?_ ?_ ?_
  · intro R' g
    exact ⟨sv, cl, du, [], [], [], 0, 0, 0, ⟨g _ _ c1, g _ _ c2, rfl, g _ _ r2, .nil, g _ _ r3, .nil, g _ _ r4, .nil, gR.trans g⟩⟩
  · intro i m' R' R'' I j hI hR g J
    refine J.stab ?_ hR g
    cases q : R₀ I with
    | none => rfl
    | some x => rw [gR _ _ q] at hI; cases hI
  · walk_at "go"
    exact ⟨rfl, rfl⟩
  · intro i v I m' R' h' tk' hI hvi F' N' hR' hl' J
    have hlt : i < vs.length := lt_of_get hvi
    obtain ⟨t, ht⟩ := hv.get i ns[i] (List.getElem?_eq_getElem (hvl ▸ hlt))
    rw [hvi] at ht
    cases ht
    obtain ⟨sv', cl', du', xs, ys, us, e1, e2, e3, J⟩ := J
    have nI : I ∉ [L' + 1, L' + 1 + 1] := fun hm => by
      rcases List.mem_cons.mp hm with q | q
      · have := J.ks; rw [← q, hR'] at this; simp at this
      · have := J.kc; rw [← List.mem_singleton.mp q, hR'] at this; simp at this
    have nl : l ∉ [L' + 1, L' + 1 + 1] := fun hm => by
      rcases List.mem_cons.mp hm with q | q
      · have := J.ks; rw [← q, hl'] at this; simp at this
      · have := J.kc; rw [← List.mem_singleton.mp q, hl'] at this; simp at this
    refine due_turn (R₀ := R₀) V₀ F' N' G hh' (by show A.depth + 1 + 20 < _; omega) (by omega) (run_wf ns i (by omega)) (by omega) J nk1 nk2 k12 ?_
    intro h'' tk'' m'' R'' F'' N'' g'' J''
    refine ⟨_, _, _, _, rfl, F'', N'', g'' _ _ nI hR', g'' _ _ nl hl', ?_⟩
    rw [run_snoc (List.getElem?_eq_getElem (hvl ▸ hlt))]
    exact J''
  · intro m' R' h' tk' F' N' J
    obtain ⟨sv', cl', du', xs, ys, us, e1, e2, e3, J⟩ := J
    have md := J.md
    walk_at "go"
    subst hR₀
    obtain ⟨f1, f2, f3, f4⟩ := back F' N' J.gr hc hRL hle
    have da := J.da
    rw [hvl, List.take_length] at da
    exact h _ _ _ _ f3 ⟨du', us, e3, rfl, f4 _ _ J.rd rfl, da.imp fun v x => IsE.mono _ _ v x f4⟩ f1 f2
end
end
section
/-! ## law -/
theorem ints_app {vs us : List Value} {ns ms : List Int} (h : IntsAre vs ns) (h' : IntsAre us ms) : IntsAre (vs ++ us) (ns ++ ms) := by
  induction h with
  | nil => exact h'
  | cons n t _ ih => exact .cons n t ih
theorem ints_tk {vs : List Value} {ns : List Int} (h : IntsAre vs ns) : ∀ j, IntsAre (vs.take j) (ns.take j) := by
  induction h with
  | nil => intro j; simp; exact .nil
  | cons n t _ ih =>
    intro j
    cases j with
    | zero => exact .nil
    | succ j => exact .cons n t (ih j)
def isI : Value → Bool
  | .int _ _ => true
  | _ => false
theorem ints_of : ∀ (vs : List Value), vs.all isI = true → ∃ ns, IntsAre vs ns ∧ ns.length = vs.length
  | [], _ => ⟨[], .nil, rfl⟩
  | v :: r, h => by
    rw [List.all_cons, Bool.and_eq_true] at h
    obtain ⟨ns, h1, h2⟩ := ints_of r h.2
    cases v with
    | int i t => exact ⟨i :: ns, .cons i t h1, by simp [h2]⟩
    | _ => exact absurd h.1 (by simp [isI])
theorem ex_ints {R : Ledger} {n e : Nat} {vs1 vs2 vs3 : List Value} {ns : List Int} (_ : R n = some (ListC true ((vs1 ++ vs2) ++ vs3) e)) (h1 : vs1.all isI = true) (h3 : vs3.all isI = true) (h2 : IntsAre vs2 ns) :
    ∃ ns', IntsAre ((vs1 ++ vs2) ++ vs3) ns' ∧ ns'.length = vs1.length + ns.length + vs3.length := by
  obtain ⟨m1, a1, b1⟩ := ints_of vs1 h1
  obtain ⟨m3, a3, b3⟩ := ints_of vs3 h3
  exact ⟨_, ints_app (ints_app a1 h2) a3, by simp [b1, b3]; omega⟩
section
variable {prog : Program} {w : World} {A : Around} {E : Value → Shared → Prop} {s : Shared} {B : Heap} {L sl : Addr} {m mg mb : Str → Option Value} {R : Ledger} {env : Env} {vs : List Value} {ns : List Int}
theorem r_sliceB {h₀ : Heap} {gn : Array GenState} {dr : Drawn} {tk : Nat} {os : OsState} {value slice : PySem.Expr} {vl vu vk : Value} {lo hi st : Option Int} {ops : List Value} {Q : Value → Shared → Prop} (us : List Value) (F : Fr B L h₀ m) (N : Led B L h₀ R)
    (hL : h₀.IsList sl vs.toArray) (pl : IsPart vl lo) (pu : IsPart vu hi) (pk : IsPart vk st) (h0 : st ≠ some 0) (hp : slicePick vs.toArray lo hi st = us.toArray) (hz : vs.length ≤ 1000)
    (hs : subscripted slice false (.ref sl) (.ref h₀.objs.size) = operate ops (getItem (.ref sl) (.ref h₀.objs.size)))
    (hg : ∀ (r : Value), letTemporaryGo value (.ref sl) r = pure ())
    (h : ∀ h' n R', Fr B L h' m → Led B L h' R' → Grow R R' → R n = none → R' n = some (ListC true us 0) → Q (.ref n) { heap := h', gens := gn, drawn := dr, toks := tk, os := os }) :
    wpAny (model prog w) A (subscriptTail value slice (.ref sl) (.ref h₀.objs.size)) Q E { heap := h₀.push { cls := .type "slice", data := .fields #[vl, vu, vk] }, gens := gn, drawn := dr, toks := tk, os := os } := by
  have F1 : Fr B L (h₀.push { cls := .type "slice", data := .fields #[vl, vu, vk] }) m := F.push _
  have N1 : Led B L (h₀.push { cls := .type "slice", data := .fields #[vl, vu, vk] }) R := N.ext fun _ _ e => Heap.get?_push_of_some _ e
  refine subscriptTail_ops (Heap.IsList.typeIs (hL.push _)) list_getitem_lookup (wpAny_getItem_list_slice (hL.push _) (Heap.IsSliceOf.new ..) pl pu pk h0 ?_ (by simpa using sz1000 hz)) hs hg
  rw [hp]
  exact h _ _ _ (F1.push _) (N1.push F1 _ true) (Grow.new (N1.none_of_ge (Nat.le_refl _))) (N1.none_of_ge (Nat.le_refl _)) upd_self
theorem r_eqE {v u : Value} {xs : List Ent} {Q : Value → Shared → Prop} (N : Led B L s.heap R) (hu : A.units + 5 < cLine) (h1 : IsLs IsE R v xs) (h2 : IsLs IsE R u xs) (h : Q (.bool true) s) : wpAny (model prog w) A (compareOp .Eq v u) Q E s := by
  obtain ⟨a, va, ea, rfl, ra, al⟩ := h1
  obtain ⟨b, vb, eb, rfl, rb, bl⟩ := h2
  refine SeqAt.eq_listAt (e := fun _ => true) (N.isList ra) (N.isList rb) (by simp [al.len, bl.len]) (by omega) (fun j q1 q2 => ?_) ?_
  · obtain ⟨y, y1, y2⟩ := al.two bl j (by simpa using q1) (by simpa using q2)
    have := Eqs.ent A.in1 s B L R va[j] vb[j] y (by rw [Around.in1_units]; omega) N y1 y2
    simpa using this
  · have e : ((List.range va.toArray.size).all fun _ => true) = true := by simp
    rw [e]; exact h
set_option maxRecDepth 10000 in
set_option maxHeartbeats 4000000 in
theorem law_body {d : DefRec} {Q : Flow → Shared → Prop} (hd : d = fn 19) (V : EnvIs env d.scope L []) (hfrm : env.frame = some L) (F : Fr B L s.heap m) (G : Gl B mg mb) (hh : A.handled = none) (hroom : A.depth + 90 < recursionLimit) (hu : A.units + 800 < cLine) (hfr : A.frames = some [env])
    (ms : m "script" = some (.ref sl)) (hsl : B.IsList sl vs.toArray) (hv : IntsAre vs ns) (hlen : ns.length ≤ 63)
    (h : ∀ h' tk m', Fr B L h' m' → Q (.ret (.bool true)) { s with heap := h', toks := tk }) :
    wpAny (model prog w) A (execs d.body env) Q E s := by
  have hvl : vs.length = ns.length := hv.length
  have N : Led B L s.heap (fun _ => none) := fun a c e => nomatch e
  conv at hd => rhs; whnf
  subst hd
  walk_at "go"
  refine rn_list (by assumption) (by assumption) (by simp) ?_
  intro h₂ n₂ R₂ F₂ N₂ g₂ _ r₂
  walk_at "go"
  refine r_sliceB (vs.take 8) F₂ N₂ (hsl.at fun o e => F₂.keep _ o e) .none (.int _ _) .none (by decide) (pick_to _ 8) (by omega) (by with_unfolding_all rfl) (by intro _; with_unfolding_all rfl) ?_
  intro h₃ n₃ R₃ F₃ N₃ g₃ _ r₃
  walk_at "go"
  refine rn_add F₃ N₃ (g₃ _ _ r₂) r₃ (by simp; omega) ?_
  intro h₄ n₄ R₄ F₄ N₄ g₄ _ r₄
  walk_at "go"
  refine rn_list (by assumption) (by assumption) (by simp) ?_
  intro h₅ n₅ R₅ F₅ N₅ g₅ _ r₅
  walk_at "go"
  refine rn_add F₅ N₅ (g₅ _ _ r₄) r₅ (by simp; omega) ?_
  intro h₆ n₆ R₆ F₆ N₆ g₆ _ r₆
  walk_at "go"
  obtain ⟨ns2, hv2, hl2⟩ := ex_ints r₆ rfl rfl (ints_tk hv 8)
  have hl2' : ns2.length ≤ 60 := by
    rw [hl2, List.length_take]; simp only [List.length_cons, List.length_nil]; omega
  have hFs : ∀ R', Frs B L R' env [] := fun R' => ⟨hfrm, by rw [V.scope]; decide, fun en he => nomatch he⟩
  refine law_told (by assumption) (by assumption) G (by assumption) hh (by omega) (by omega) hfr (hFs _) r₆ hv2 hl2' ?_
  intro h₇ tk₇ R₇ v₇ g₇ i₇ F₇ N₇
  walk_at "go"
  refine law_due (by assumption) (by assumption) G (by assumption) hh (by omega) (by omega) (g₇ _ _ r₆) hv2 hl2' ?_
  intro h₈ tk₈ R₈ v₈ g₈ i₈ F₈ N₈
  walk_at "go"
  exact r_eqE N₈ (by omega) (IsLs.mono IsE.mono _ _ _ _ g₈.fz i₇) i₈ (h _ _ _ F₈)
end
end
end Mine
end
open PySem PySem.W PyProof.Rows
set_option maxRecDepth 100000
namespace Mine
theorem gl_of {p : Program} {loose : List Str} {mean : ExcName → Option Value} {mg mb : Str → Option Value} {h : Heap} (T : Top p loose mean mg mb h) (hm : (recsOf p).take 15 = fnIdx.map fn)
    (hf : ∀ x ∈ bltNames, x ∉ startupNames ∧ x ∉ loose ∧ x ∉ (recsOf p).map (·.name) ∧ x ∉ (litsOf p).map (·.1) ∧ x ∉ (clssOf p loose).map (·.name)) : Gl h mg mb where
  g := T.g
  b := T.b
  lim := T.nolimit
  fns := fun i hi => by
    obtain ⟨a, o, pm, code, doc, h1, h2, h3, h4⟩ := T.fn (fn i) (List.mem_of_mem_take (i := 15) (by rw [hm]; exact List.mem_map_of_mem hi))
    exact ⟨a, code, h1, ⟨o, pm, doc, h2, h3⟩, h4⟩
  blt := fun x hx => by
    obtain ⟨a, b, c, d, e⟩ := hf x hx
    exact ⟨T.free x a b c d e, T.builtins x (fun q => by subst q; revert hx; decide +kernel)⟩
end Mine
set_option maxHeartbeats 8000000 in
theorem PySem.Challenge.cw_oy0088_01_holds : PySem.Challenge.rw_oy0088_01.Holds := by
  (w_on; o_law; k_head; (case hw => w_witness2); w_strict (
  k_go0
  with_reducible rename Top _ _ _ _ _ _ => T'
  with_reducible rename Fr _ _ _ _ => F'
  with_reducible rename Heap.IsList _ _ _ => hL'
  with_reducible rename IntsAre _ _ => hI'
  with_reducible rename (_ : Array GenState) = _ => hg'
  have hlt : ∀ n : Nat, ¬ (63 : Int) < (n : Int) → n ≤ 63 := fun n h => by omega
  have G' := Mine.gl_of T' (by kernel_rfl) (by decide +kernel)
  with_reducible rename ¬ (_ < _) => hc'
  have hl63 := hlt _ hc'
  refine Mine.law_body (B := ?zB) (L := ?zL) (m := ?zm) (mg := ?zg) (mb := ?zb) (sl := ?zs) (vs := ?zv) (ns := ?zn) ?y1 ?y2 ?y3 ?y4 ?y5 ?y6 ?y7 ?y8 ?y9 ?y10 ?y11 ?y12 ?y13 ?y14
  case y4 => exact F'
  case y5 => exact G'
  case y11 => exact hL'
  case y12 => exact hI'
  case y13 => exact hl63
  case y1 => kernel_rfl
  case y2 => exact ⟨rfl, rfl, rfl, rfl, rfl⟩
  case y3 => rfl
  case y6 => rfl
  case y7 => exact (show callerA.depth + 1 + 90 < recursionLimit by decide)
  case y8 => rw [Around.deeper_units]; decide
  case y9 => exact Around.frames_deeper rfl
  case y10 => rfl
  case y14 => (intro h2 tk2 m2 F2; refine goodW_bool F2 hg' (raisesW_false ?_) ?_; (· wrow_none_raised); (· wrow_post))))

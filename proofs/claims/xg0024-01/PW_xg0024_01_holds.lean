import PyProof.Rows.All
import Wide.All
import OpenK.AllK
import Wide.FinOn
import PySem.Challenge.RW_xg0024_01
set_option Elab.async false
section
open PySem PySem.W PyProof.Rows
set_option maxRecDepth 100000
namespace Mine
theorem fresh_MA : True := by w_top off; trivial
abbrev P : Program := PySem.Challenge.pw_xg0024_01
def stAt (k : Nat) : Stmt := P.main.body.getD k (.Pass default)
def bodyAt (k : Nat) : List Stmt := match stAt k with | .FunctionDef _ _ b _ _ _ _ _ _ _ => b | _ => []
def scopeAt (k : Nat) : Scope := match stAt k with | .FunctionDef _ _ _ _ _ _ sc _ _ _ => sc | _ => default
def parsAt (k : Nat) : Arguments := match stAt k with | .FunctionDef _ a _ _ _ _ _ _ _ _ => a | _ => default
def nameAt (k : Nat) : Str := match stAt k with | .FunctionDef n _ _ _ _ _ _ _ _ _ => n | _ => Str.empty
/-- every object kept -/
def Ext (h h' : Heap) : Prop := ∀ b o, h.get? b = some o → h'.get? b = some o
theorem Ext.refl (h : Heap) : Ext h h := fun _ _ e => e
theorem Ext.trans {a b c : Heap} (x : Ext a b) (y : Ext b c) : Ext a c := fun i o e => y i o (x i o e)
def FnAt (h : Heap) (mg : Str → Option Value) (k : Nat) : Prop :=
  ∃ a o pm code doc, mg (nameAt k) = some (.ref a) ∧ h.get? a = some o ∧ o.data = .func (Calls.docDef (nameAt k) (parsAt k) (bodyAt k) (scopeAt k) pm code doc) ∧ h.CodeRec code (nameAt k)
def patA : Flt.PatRec := ⟨"IPV4_RE", [14, 8, 1, 2, 4294967295, 1, 1, 46, 0, 16, 46, 24, 9, 1, 4294967295, 13, 4, 8, 0, 0, 1, 6, 5, 1], 0, 0⟩
def patB : Flt.PatRec := ⟨"_twin_re_1", [14, 4, 0, 1, 1, 6, 1, 16, 46, 1], 0, 1⟩
/-- what stands at the top and is asked by name -/
structure Gd (mg mb : Str → Option Value) (h : Heap) : Prop where
  g : h.Ns mainGlobals mg
  b : h.Ns builtinsNs mb
  lim : h.NoLimit
  fn : ∀ k ∈ [2, 5, 6, 7, 10, 12, 13, 14, 15], FnAt h mg k
  bi : ∀ x ∈ (["list", "range", "len", "sum", "zip", "round"] : List Str), mg x = none ∧ mb x = bootBuiltins x
  patA : ∃ a, mg "IPV4_RE" = some (.ref a) ∧ Flt.IsPattern h a Mine.patA
  patB : ∃ a, mg "_twin_re_1" = some (.ref a) ∧ Flt.IsPattern h a Mine.patB
theorem FnAt.ext {h h' : Heap} {mg : Str → Option Value} {k : Nat} (x : FnAt h mg k) (e : Ext h h') : FnAt h' mg k := by
  obtain ⟨a, o, pm, cd, doc, h1, h2, h3, h4⟩ := x
  exact ⟨a, o, pm, cd, doc, h1, e _ _ h2, h3, h4.keeps e⟩
theorem Gd.ext {mg mb : Str → Option Value} {h h' : Heap} (G : Gd mg mb h) (e : Ext h h') : Gd mg mb h' where
  g := G.g.keeps e
  b := G.b.keeps e
  lim := G.lim.keeps e
  fn := fun k hk => (G.fn k hk).ext e
  bi := G.bi
  patA := let ⟨a, h1, h2⟩ := G.patA; ⟨a, h1, h2.keeps e⟩
  patB := let ⟨a, h1, h2⟩ := G.patB; ⟨a, h1, h2.keeps e⟩
/-- room around a call -/
structure Room (A : Around) (n : Nat) : Prop where
  hh : A.handled = none
  depth : A.depth + n < recursionLimit
  units : A.units + 100 * n < cLine
theorem Room.less {A : Around} {n m : Nat} (r : Room A n) (h : m ≤ n) : Room A m := ⟨r.hh, by have := r.depth; omega, by have := r.units; omega⟩
theorem Room.deeper {A : Around} {n : Nat} {env : Env} (r : Room A (n + 1)) : Room (A.deeper env) n := ⟨r.hh, by have := r.depth; simp only [Around.deeper]; omega, by have := r.units; simp only [Around.deeper]; omega⟩
end Mine
end
section
open PySem PySem.W PyProof.Rows
set_option maxRecDepth 100000
set_option maxHeartbeats 1000000
namespace Mine
theorem fresh_MG : True := by w_top off; trivial
section
variable {prog : Program} {w : World} {A : Around} {E : Value → Shared → Prop} {s : Shared} {env : Env}
theorem while_rule {test : Expr} {body : List Stmt} {pos : Pos} {Q : Flow → Shared → Prop} (I : Nat → Shared → Prop)
    (turn : ∀ n s E', I n s → wpAny (model prog w) A (isTrue test env (eval test env)) (fun b s₂ =>
        if b = true then wpAny (model prog w) A (execs body env) (fun f s₃ => match f with
            | .next | .cont => ∃ m, m < n ∧ I m s₃
            | .brk => Q .next s₃
            | .ret v => Q (.ret v) s₃) E' s₂
        else Q .next s₂) E' s)
    (n : Nat) (h : I n s) : wpAny (model prog w) A (exec (.While test body [] pos) env) Q E s := by
  refine wpAny_While (codeAny_whileLoop I (fun n s hI => ?_) n h)
  refine wpAny_mono (turn n s _ hI) (fun b s₂ hb => ?_) fun _ _ e => e
  cases b with
  | true =>
    simp only [if_true] at hb ⊢
    exact wpAny_mono hb (fun f s₃ hf => by cases f <;> exact hf) fun _ _ e => e
  | false =>
    simp only [Bool.false_eq_true, if_false] at hb ⊢
    exact wpAny_execs_nil hb
/-- a list, written to the last -/
def LL (h : Heap) (D : Addr) (vs : List Value) : Prop := ∃ n, IsL h D vs.toArray n
theorem LL.isList {h : Heap} {D : Addr} {vs : List Value} (x : LL h D vs) : h.IsList D vs.toArray := let ⟨_, y⟩ := x; IsL.isList y
theorem LL.ext {h h' : Heap} {D : Addr} {vs : List Value} (x : LL h D vs) (e : Ext h h') : LL h' D vs := let ⟨n, y⟩ := x; ⟨n, e _ _ y⟩
theorem LL.same {h h' : Heap} {D b : Addr} {vs : List Value} (x : LL h D vs) (e : Heap.SameBut b h h') (hb : D ≠ b) : LL h' D vs := let ⟨n, y⟩ := x; ⟨n, (e.2 D hb).trans y⟩
theorem LL.ne_ns {h : Heap} {D L : Addr} {vs : List Value} {m : Str → Option Value} (x : LL h D vs) (y : h.Ns L m) : D ≠ L := by
  rintro rfl
  obtain ⟨n, x⟩ := x
  obtain ⟨o, es, ep, ho, hd, _⟩ := y
  have x' : h.get? D = _ := x
  rw [ho] at x'
  cases x'
  cases hd
theorem LL.lt {h : Heap} {D : Addr} {vs : List Value} (x : LL h D vs) : D < h.objs.size := let ⟨_, y⟩ := x; Heap.lt_size y
theorem get_fresh (h : Heap) {a : Addr} (ha : h.objs.size ≤ a) : h.get? a = none := by
  cases e : h.get? a with
  | none => rfl
  | some o => exact absurd (Heap.lt_size e) (Nat.not_lt.mpr ha)
theorem newList_L {M : Model} {vs : List Value} {Q : Value → Shared → Prop} (hsz : vs.length ≤ 1000)
    (h : ∀ h' D, Ext s.heap h' → s.heap.get? D = none → LL h' D vs → Q (.ref D) { s with heap := h' }) : wpAny M A (newList vs) Q E s :=
  wpAny_newObj_type (h _ _ (fun _ _ e => Heap.get?_push_of_some _ e) (get_fresh _ (Nat.le_refl _)) ⟨0, Heap.get?_push_size _ rfl⟩)
    (by show vs.toArray.size ≤ sizeLine; rw [List.size_toArray, sizeLine_eq]; omega)
theorem append_L {D : Addr} {vs : List Value} {x : Value} {Q : Value → Shared → Prop} (hl : LL s.heap D vs) (hz : vs.length ≤ 1000)
    (h : ∀ h', Heap.SameBut D s.heap h' → LL h' D (vs ++ [x]) → Q .none { s with heap := h' }) : wpAny (model prog w) A (call (.builtin "list.append") [.ref D, x]) Q E s := by
  obtain ⟨n, hl⟩ := hl
  refine wpAny_call_entry F.slot_list_append (IsL.isList hl).typeIs F.entry_list_append ?_ (F.args_list_append_2 _ _)
  show wpAny _ _ (updateSeq D (·.push x) >>= fun _ => ret .none) _ _ s
  refine wpAny_bind (wpAny_updateSeq hl rfl (wpAny_pure ⟨.none, rfl, h _ (Heap.SameBut.update ..) ?_⟩) (by rw [sizeLine_eq, List.size_toArray]; omega) (by rw [sizeLine_eq, Array.size_push, List.size_toArray]; omega))
  have := IsL.update hl (·.push x)
  rw [List.push_toArray] at this
  exact ⟨_, this⟩
theorem getAppend_L {M : Model} {D : Addr} {vs : List Value} {pl : Sem Bool} {Q : Value × List Value → Shared → Prop} (hl : LL s.heap D vs) (h : Q (.builtin "list.append", [.ref D]) s) :
    wpAny M A (getMethod (.ref D) "append" pl) Q E s := by
  obtain ⟨n, hl⟩ := hl
  exact Calls.getMethod_list_append hl rfl rfl h
theorem item_at {value slice : PySem.Expr} {l : Addr} {vs : List Value} {k : Int} {u : Tok} {v : Value} {Q : Value → Shared → Prop}
    (hl : s.heap.IsList l vs.toArray) (h0 : 0 ≤ k) (hhi : k < 1000) (hx : vs[k.toNat]? = some v) (h : Q v s)
    (hs : subscripted slice false (.ref l) (.int k u) = operate [.ref l, .int k u] (getItem (.ref l) (.int k u)) := by with_unfolding_all rfl) :
    wpAny (model prog w) A (subscriptTail value slice (.ref l) (.int k u)) Q E s :=
  tail_any hl.typeIs slot_list_getitem.lookup (wpAny_getItem_list hl h0 (by omega) (by simpa using hx) h) hs
theorem item_last {value slice : PySem.Expr} {l : Addr} {vs : List Value} {u : Tok} {v : Value} {Q : Value → Shared → Prop}
    (hl : s.heap.IsList l (vs ++ [v]).toArray) (h : Q v s)
    (hs : subscripted slice false (.ref l) (.int (-1) u) = operate [.ref l, .int (-1) u] (getItem (.ref l) (.int (-1) u)) := by with_unfolding_all rfl) :
    wpAny (model prog w) A (subscriptTail value slice (.ref l) (.int (-1) u)) Q E s :=
  tail_any hl.typeIs slot_list_getitem.lookup (wpAny_getItem_list_neg hl (by decide) (by simp; omega) (by decide) (by
    have e : (-1 + (((vs ++ [v]).toArray.size : Nat) : Int)).toNat = vs.length := by simp; omega
    rw [e]; simp) h) hs

abbrev lobj (vs : List Value) (n : Nat) : Obj := { cls := .type "list", data := .seq vs.toArray n }
theorem LL.news {h₀ h : Heap} {L D : Addr} {vs : List Value} (x : LL h D vs) (hL : D ≠ L) (hD : h₀.get? D = none) : ∃ n, News h₀ L h [(D, lobj vs n)] := by
  obtain ⟨n, y⟩ := x
  exact ⟨n, fun p hp => by rw [List.mem_singleton.mp hp]; exact ⟨y, hL, hD⟩⟩
theorem LL.of_news {h₀ h : Heap} {L D : Addr} {vs : List Value} {n : Nat} {news : List (Addr × Obj)} (N : News h₀ L h news) (hm : (D, lobj vs n) ∈ news) : LL h D vs := ⟨n, (N _ hm).1⟩

theorem Fr_same {h₀ h h' : Heap} {L D : Addr} {m : Str → Option Value} (F : Fr h₀ L h m) (hs : Heap.SameBut D h h') (hD : h₀.get? D = none) (hne : D ≠ L) : Fr h₀ L h' m :=
  ⟨F.ns.sameBut hs (Ne.symm hne), fun b o e => (hs.2 b (fun q => by rw [q, hD] at e; cases e)).trans (F.keep b o e), F.above⟩
/-- a loop over range(n): J over the ledger, turn by turn -/
theorem iter_rangeJ {env : Env} {h₀ : Heap} {x : Str} {body : List Stmt} {Q : Flow → Shared → Prop} {r : Addr} {t₀ u₀ v₀ : Tok} {n : Nat} {m₀ : Str → Option Value} {news : List (Addr × Obj)} (J : Nat → (Str → Option Value) → List (Addr × Obj) → Prop)
    (hh : A.handled = none) (hr : IsRange s.heap r 0 (n : Int) 1 t₀ u₀ v₀) (hn : n ≤ 1000) (F : Fr h₀ env.locals s.heap m₀) (N : News h₀ env.locals s.heap news) (hj : J 0 m₀ news)
    (turn : ∀ (i : Nat) t m₁ news₁ h tk own, i < n → news₁.map (·.1) = news.map (·.1) → OwnOff own (news.map (·.1)) → J i m₁ news₁ → Fr h₀ env.locals h (fun y => if y = x then some (.int (i : Int) t) else m₁ y) → News h₀ env.locals h (news₁ ++ own) →
      wpAny (model prog w) A (execs body env) (InvPostN h₀ env.locals (J (i + 1)) own (news.map (·.1)) { s with heap := h, toks := tk } Q) E { s with heap := h, toks := tk })
    (done : ∀ m₁ news₁ h tk, J n m₁ news₁ → Fr h₀ env.locals h m₁ → News h₀ env.locals h news₁ → Q .next { s with heap := h, toks := tk }) :
    wpAny (model prog w) A (pyIter (.ref r)) (fun it s₂ => LoopAtV prog w A h₀ env x body Q E it s₂) E s := by
  have hsmall : Builtin.Range.small 0 (n : Int) 1 = true := small_one (by omega) (by omega) (by omega) (by omega)
  have hsz : Builtin.Range.rangeSize 0 (n : Int) 1 = (n : Int) := by
    rw [rangeSize_one]; split <;> omega
  refine wpAny_pyIter_range hr hsmall ?_
  have W : Walks prog w A s.heap.objs.size [s.heap.objs.size] [s.heap.objs.size] n (fun i v => i < n ∧ ∃ t, v = .int (0 + i * 1) t)
      (fun i h => IsRangeIter h s.heap.objs.size (0 + (i : Nat) * 1) ((n : Int) - (i : Nat)) 1) := (Walks.range hh _ 0 1 n).bound
  let J' : Nat → (Str → Option Value) → List (Addr × Obj) → Prop := fun i m₁ news₁ => news₁.map (·.1) = news.map (·.1) ∧ J i m₁ news₁
  refine ⟨_, _, _, n, _, _, m₀, news, J', rfl, W, ?_, ?_, ?_, (by show IsRangeIter _ _ _ _ _; rw [hsz]; simpa using Heap.get?_push_size _ rfl), F.push _, (fun p hp => ⟨Heap.get?_push_of_some _ (N p hp).1, (N p hp).2⟩), ⟨rfl, hj⟩, ?_, ?_⟩
  · intro hm
    exact absurd F.ns.lt ((List.mem_singleton.mp hm) ▸ Nat.lt_irrefl _)
  · intro b hb
    rw [List.mem_singleton.mp hb]
    exact next_is_new F
  · intro p hp hI
    exact absurd (Heap.lt_size (N p hp).1) ((List.mem_singleton.mp hI) ▸ Nat.lt_irrefl _)
  · rintro i v m₁ news₁ s₁ own ⟨hh', tk', rfl⟩ hin ⟨_, t, rfl⟩ ⟨hadr, hJ⟩ hoff hown _ _ _ F₁ N₁
    have hsep : OwnOff own (news.map (·.1)) := by
      intro p hp b hb e
      obtain ⟨q, hq, rfl⟩ := List.mem_map.mp hb
      have h1 := List.mem_singleton.mp (hown p hp)
      exact absurd (Heap.lt_size (N q hq).1) (by rw [← e, h1]; exact Nat.lt_irrefl _)
    have hlt' : i < n := hin
    have N₂ : News h₀ env.locals hh' (news₁ ++ own) := fun p hp => N₁ p ((List.mem_append.mp hp).elim (fun h => List.mem_append.mpr (.inr h)) fun h => List.mem_append.mpr (.inl h))
    have e0 : (0 + (i : Int) * 1) = (i : Int) := by omega
    rw [e0] at F₁
    refine wpAny_mono (turn i t m₁ news₁ hh' tk' own hlt' hadr hsep hJ F₁ N₂) (fun f s₂ p => ?_) fun _ _ e => e
    have fin : InvEndN h₀ env.locals (J (i + 1)) own (news.map (·.1)) { s with heap := hh', toks := tk' } s₂ → LoopStepU h₀ env.locals [s.heap.objs.size] own (J' (i + 1)) { s with heap := hh', toks := tk' } .next s₂ := by
      rintro ⟨h', tk, m', news', nx, e, F', N', hn, ho, ha, hm⟩
      refine ⟨rfl, h', tk, m', nx, e, F', fun p hp => N' p ((List.mem_append.mp hp).elim (ho p) (hn p)), fun p hp hq => ?_, ha, hm⟩
      have h1 : p.1 ∈ nx.map (·.1) := List.mem_map.mpr ⟨p, hp, rfl⟩
      rw [ha, ← hadr] at h1
      obtain ⟨q, hq1, hq2⟩ := List.mem_map.mp h1
      exact hoff q hq1 (by rw [hq2]; exact hq)
    cases f with
    | ret v => exact .ret p
    | brk => exact .brk p
    | next => exact .next (fin p)
    | cont => exact .cont (fin p)
  · rintro h' tk m' news' F' N' _ ⟨_, hJ⟩
    exact done m' news' h' tk hJ F' N'
end
end Mine
end
section
open PySem PySem.W PyProof.Rows
set_option maxRecDepth 100000
set_option maxHeartbeats 4000000
namespace Mine
theorem fresh_MR : True := by w_top off; trivial
theorem pat_ga : typeLookup (.type "re.Pattern") "__getattribute__" = pure (some (.builtin "object.__getattribute__")) := by rw [typeLookup_type, builtinLookup_eq_fast]; kernel_rfl
theorem pat_attrs : PlainAttrs "re.Pattern" := ⟨⟨_, pat_ga, by decide +kernel⟩, by rw [typeLookup_type, builtinLookup_eq_fast]; kernel_rfl⟩
theorem slot_search : Slot "re.Pattern" "search" "re.Pattern.search" :=
  .of (owner := "re.Pattern") (n := "search") (by rw [typeLookup_type, builtinLookup_eq_fast]; kernel_rfl) (by decide +kernel) (by decide +kernel) (by decide +kernel)
    (by first | exact .inl (by decide +kernel) | exact .inr (by decide +kernel)) (by rw [isSubtype_type]; kernel_rfl)
theorem type_search : typeOf (.builtin "re.Pattern.search") = pure (.type "method_descriptor") := by show builtinType _ = _; rw [builtinType_eq_fast]; kernel_rfl
theorem entry_search : entryFor table "re.Pattern.search" = some Builtin.«re.Pattern.search» := entryFor_of_tree (by kernel_rfl)
theorem slot_sub : Slot "re.Pattern" "sub" "re.Pattern.sub" :=
  .of (owner := "re.Pattern") (n := "sub") (by rw [typeLookup_type, builtinLookup_eq_fast]; kernel_rfl) (by decide +kernel) (by decide +kernel) (by decide +kernel)
    (by first | exact .inl (by decide +kernel) | exact .inr (by decide +kernel)) (by rw [isSubtype_type]; kernel_rfl)
theorem type_sub : typeOf (.builtin "re.Pattern.sub") = pure (.type "method_descriptor") := by show builtinType _ = _; rw [builtinType_eq_fast]; kernel_rfl
theorem entry_sub : entryFor table "re.Pattern.sub" = some Builtin.«re.Pattern.sub» := entryFor_of_tree (by kernel_rfl)
theorem entry_subloop : entryFor table "re.Pattern.sub.loop" = some Builtin.«re.Pattern.sub.loop» := entryFor_of_tree (by kernel_rfl)
theorem owner_pat : Manifest.owners.lookup (String.ofList ['n','r','e','t','t','a','P','.','e','r'].reverse) = some Manifest.sig_re_Pattern := by kernel_rfl
theorem args_search (a b : Value) : argsOk "re.Pattern.search" ⟨[a, b], []⟩ := by
  unfold argsOk; rw [signature?_of (id := "re.Pattern.search") (n := ['h','c','r','a','e','s']) (o := ['n','r','e','t','t','a','P','.','e','r']) (by kernel_rfl) owner_pat]; kernel_rfl
theorem args_sub (a b c : Value) : argsOk "re.Pattern.sub" ⟨[a, b, c], []⟩ := by
  unfold argsOk; rw [signature?_of (id := "re.Pattern.sub") (n := ['b','u','s']) (o := ['n','r','e','t','t','a','P','.','e','r']) (by kernel_rfl) owner_pat]; kernel_rfl
end Mine
end
section
open PySem
set_option maxRecDepth 100000
set_option maxHeartbeats 1000000
namespace Mine.Rx
theorem fresh_MS : True := by w_top off; trivial
open PySem.Sre PySem.Sre.M

theorem runFor_add (a b : Nat) : ∀ m : M, runFor (a + b) m = runFor b (runFor a m) := by
  induction a with
  | zero => intro m; rw [Nat.zero_add]; rfl
  | succ a ih =>
    intro m
    rw [Nat.succ_add]
    show (if m.outcome.isSome then m else runFor (a + b) m.step) = runFor b (if m.outcome.isSome then m else runFor a m.step)
    by_cases h : m.outcome.isSome = true
    · rw [if_pos h, if_pos h]
      cases b with
      | zero => rfl
      | succ b => show _ = (if m.outcome.isSome then m else runFor b m.step); rw [if_pos h]
    · rw [if_neg h, if_neg h, ih]
theorem runFor_fix {m : M} (h : m.outcome.isSome = true) (k : Nat) : runFor k m = m := by
  cases k with
  | zero => rfl
  | succ k => show (if m.outcome.isSome then m else _) = m; rw [if_pos h]
theorem runFor_step {m : M} (h : m.outcome = none) (k : Nat) : runFor (k + 1) m = runFor k m.step := by
  show (if m.outcome.isSome then m else _) = _
  rw [h]; rfl

/-- an attempt at p -/
def att (code text : Array Nat) (pc p : Nat) (first : Bool) (seen : Seen) : M :=
  { code, text, lim := text.size, start := p, lastStart := text.size, pc, pos := p, handed := p, outermost := first, marks := #[],
    frames := [{ wait := .nextStart, pc := pc, pos := p, outermost := first }], weight := 1, seen }
def codeA : Array Nat := #[14, 8, 1, 2, 4294967295, 1, 1, 46, 0, 16, 46, 24, 9, 1, 4294967295, 13, 4, 8, 0, 0, 1, 6, 5, 1]
def codeB : Array Nat := #[14, 4, 0, 1, 1, 6, 1, 16, 46, 1]

/-- the answer no, at the foot -/
def no1 (code text : Array Nat) (pc q p : Nat) (pc₀ : Nat) (first : Bool) (seen : Seen) : M :=
  { code, text, lim := text.size, start := p, lastStart := text.size, pc := q, pos := pc, handed := p, outermost := first, marks := #[],
    frames := [{ wait := .nextStart, pc := pc₀, pos := p, outermost := first }], weight := 1, seen, answer := some false }

theorem A_lit_no {text : Array Nat} {p : Nat} {first : Bool} {seen : Seen} (h : ¬ (p < text.size ∧ text[p]?.getD 0 = 46)) :
    (att codeA text 9 p first seen).step = no1 codeA text p 9 p 9 first (seen.add 16) := by
  show M.exec (att codeA text 9 p first seen) = _
  unfold att M.exec
  by_cases hp : p ≥ text.size
  · simp [word, codeA, ops, hp, say, no1]
  · have hc : (text[p]?.getD 0 == 46) = false := beq_eq_false_iff_ne.mpr fun e => h ⟨by omega, e⟩
    simp [word, codeA, ops, hp, say, no1, accepts, hc]
/-- behind the dot -/
def dot1 (text : Array Nat) (p : Nat) (first : Bool) (seen : Seen) : M :=
  { code := codeA, text, lim := text.size, start := p, lastStart := text.size, pc := 11, pos := p + 1, handed := p, outermost := first, marks := #[],
    frames := [{ wait := .nextStart, pc := 9, pos := p, outermost := first }], weight := 1, seen }
theorem A_lit_yes {text : Array Nat} {p : Nat} {first : Bool} {seen : Seen} (hp : p < text.size) (hc : text[p]?.getD 0 = 46) :
    (att codeA text 9 p first seen).step = dot1 text p first (seen.add 16) := by
  show M.exec (att codeA text 9 p first seen) = _
  unfold att M.exec
  have hp' : ¬ p ≥ text.size := by omega
  have hc' : (text[p]?.getD 0 == 46) = true := by rw [hc]; rfl
  simp [word, codeA, ops, hp', dot1, accepts, itemWidth, hc']
theorem run_no {text : Array Nat} {p : Nat} (hd : ∀ q : Nat, isDigit (text[q]?.getD 0) = false) (n : Nat) (s1 : Seen) :
    ∃ s2, Sre.run codeA text 15 n p 0 s1 = .ok (0, s2) := by
  cases n with
  | zero => exact ⟨_, rfl⟩
  | succ n =>
    have h := hd p
    refine ⟨((s1.add 8).add 55).add 0, ?_⟩
    unfold Sre.run accepts
    simp only [codeA, ops]
    simp [inSet, ops, category, h]
    rfl
theorem A_rep {text : Array Nat} {p : Nat} {first : Bool} {seen : Seen} (hd : ∀ q : Nat, isDigit (text[q]?.getD 0) = false) :
    ∃ seen', (dot1 text p first seen).step = no1 codeA text (p + 1) 11 p 9 first seen' := by
  show ∃ seen', M.exec (dot1 text p first seen) = _
  unfold dot1 M.exec
  by_cases hp : p + 1 ≥ text.size
  · have h1 : (1 : Int) > (text.size : Int) - ((p + 1 : Nat) : Int) := by omega
    refine ⟨seen.add 24, ?_⟩
    simp [word, codeA, ops, say, no1]
    intro h
    omega
  · have h1 : ¬ (1 : Int) > (text.size : Int) - ((p + 1 : Nat) : Int) := by omega
    obtain ⟨s2, e⟩ := run_no hd (p := p + 1) (min 4294967295 ((text.size : Int) - ((p + 1 : Nat) : Int)).toNat) ((seen.add 24).add 13)
    refine ⟨s2, ?_⟩
    simp [word, codeA, ops, say, no1]
    rw [if_neg (by omega)]
    simp [codeA] at e
    rw [e]
    rfl
theorem no_next {code text : Array Nat} {pc q p pc₀ : Nat} {first : Bool} {seen : Seen} (hf : code.getD 2 0 ≠ 4) (hp : p < text.size) :
    (no1 code text pc q p pc₀ first seen).step = att code text pc₀ (p + 1) false seen := by
  have hf' : code[2]?.getD 0 ≠ 4 := by simpa using hf
  simp [M.step, M.resume, attemptFrom, no1, hasFirstSet, hf', hp, attemptAt, M.attempt, putBack, att]
theorem no_end {code text : Array Nat} {pc q p pc₀ : Nat} {first : Bool} {seen : Seen} (hp : ¬ p < text.size) :
    ((no1 code text pc q p pc₀ first seen).step.step).outcome = some .failed := by
  have : (no1 code text pc q p pc₀ first seen).step = say { (no1 code text pc q p pc₀ first seen) with answer := none, frames := [], weight := 0, pc := pc₀, pos := p } false := by
    simp [M.step, M.resume, no1, hp, putBack, say]
  rw [this]
  rfl

theorem att_open (code text : Array Nat) (pc p : Nat) (first : Bool) (seen : Seen) : (att code text pc p first seen).outcome = none := rfl
theorem no1_open (code text : Array Nat) (pc q p pc₀ : Nat) (first : Bool) (seen : Seen) : (no1 code text pc q p pc₀ first seen).outcome = none := rfl
/-- the first pattern is found nowhere where no figure stands -/
theorem A_none {text : Array Nat} (hd : ∀ q : Nat, isDigit (text[q]?.getD 0) = false) : ∀ (n p : Nat) (first : Bool) (seen : Seen), text.size - p = n → p ≤ text.size →
    ∃ k m', k ≤ 3 * n + 5 ∧ runFor k (att codeA text 9 p first seen) = m' ∧ m'.outcome = some .failed := by
  intro n
  induction n with
  | zero =>
    intro p first seen hn hp
    have h0 : ¬ p < text.size := by omega
    have e := A_lit_no (first := first) (seen := seen) (fun h => h0 h.1 : ¬ (p < text.size ∧ text[p]?.getD 0 = 46))
    refine ⟨3, _, by omega, ?_, no_end (code := codeA) (text := text) (pc := p) (q := 9) (p := p) (pc₀ := 9) (first := first) (seen := seen.add 16) h0⟩
    rw [runFor_step (att_open ..), e, runFor_step (no1_open ..), runFor_step]
    · rfl
    · simp [M.step, M.resume, no1, h0, say]
  | succ n ih =>
    intro p first seen hn hp
    have hlt : p < text.size := by omega
    by_cases hc : text[p]?.getD 0 = 46
    · have e := A_lit_yes (first := first) (seen := seen) hlt hc
      obtain ⟨s2, e2⟩ := A_rep (p := p) (first := first) (seen := seen.add 16) hd
      obtain ⟨k, m', hk, hr, ho⟩ := ih (p + 1) false s2 (by omega) (by omega)
      refine ⟨k + 1 + 1 + 1, m', by omega, ?_, ho⟩
      rw [runFor_step (att_open ..), e, runFor_step rfl, e2, runFor_step (no1_open ..), no_next (by decide) hlt]
      exact hr
    · have e := A_lit_no (first := first) (seen := seen) (fun h => hc h.2 : ¬ (p < text.size ∧ text[p]?.getD 0 = 46))
      obtain ⟨k, m', hk, hr, ho⟩ := ih (p + 1) false (seen.add 16) (by omega) (by omega)
      refine ⟨k + 1 + 1, m', by omega, ?_, ho⟩
      rw [runFor_step (att_open ..), e, runFor_step (no1_open ..), no_next (by decide) hlt]
      exact hr
theorem searchA {text : Array Nat} (h2 : 2 ≤ text.size) : forSearch codeA text 0 0 text.size false = att codeA text 9 0 true ((({} : Seen)).add 14) := by
  unfold forSearch
  have : ¬ text.size < 2 := by omega
  simp [header, codeA, ops, this, attemptFrom, hasFirstSet, attemptAt, M.attempt, att]
  rfl

/-- a row begins at p, with a dot -/
def bm (text : Array Nat) (p : Nat) : Prop := (p = 0 ∨ text[p - 1]?.getD 0 = 10) ∧ p < text.size ∧ text[p]?.getD 0 = 46
/-- behind the row's begin -/
def bol (text : Array Nat) (pc pos p : Nat) (first : Bool) (seen : Seen) : M :=
  { code := codeB, text, lim := text.size, start := p, lastStart := text.size, pc, pos, handed := p, outermost := first, marks := #[],
    frames := [{ wait := .nextStart, pc := 5, pos := p, outermost := first }], weight := 1, seen }
theorem B_at_no {text : Array Nat} {p : Nat} {first : Bool} {seen : Seen} (h : ¬ (p = 0 ∨ text[p - 1]?.getD 0 = 10)) :
    ∃ seen', (att codeB text 5 p first seen).step = no1 codeB text p 5 p 5 first seen' := by
  show ∃ seen', M.exec (att codeB text 5 p first seen) = _
  unfold att M.exec
  have h1 : (p == 0) = false := beq_eq_false_iff_ne.mpr fun e => h (.inl e)
  have h2 : (text[p - 1]?.getD 0 == 10) = false := beq_eq_false_iff_ne.mpr fun e => h (.inr e)
  refine ⟨(seen.add 6).add 44, ?_⟩
  simp [word, codeB, ops, isAt, h1, h2, say, no1]
theorem B_at_yes {text : Array Nat} {p : Nat} {first : Bool} {seen : Seen} (h : p = 0 ∨ text[p - 1]?.getD 0 = 10) :
    ∃ seen', (att codeB text 5 p first seen).step = bol text 7 p p first seen' := by
  show ∃ seen', M.exec (att codeB text 5 p first seen) = _
  unfold att M.exec
  have h1 : (p == 0 || text[p - 1]?.getD 0 == 10) = true := by rw [Bool.or_eq_true, beq_iff_eq, beq_iff_eq]; exact h
  refine ⟨(seen.add 6).add 44, ?_⟩
  simp [word, codeB, ops, isAt, h1, say, bol]
theorem B_lit_no {text : Array Nat} {p : Nat} {first : Bool} {seen : Seen} (h : ¬ (p < text.size ∧ text[p]?.getD 0 = 46)) :
    ∃ seen', (bol text 7 p p first seen).step = no1 codeB text p 7 p 5 first seen' := by
  refine ⟨seen.add 16, ?_⟩
  show M.exec (bol text 7 p p first seen) = _
  unfold bol M.exec
  by_cases hp : p ≥ text.size
  · simp [word, codeB, ops, hp, say, no1]
  · have hc : (text[p]?.getD 0 == 46) = false := beq_eq_false_iff_ne.mpr fun e => h ⟨by omega, e⟩
    simp [word, codeB, ops, hp, say, no1, accepts, hc]
theorem B_lit_yes {text : Array Nat} {p : Nat} {first : Bool} {seen : Seen} (hp : p < text.size) (hc : text[p]?.getD 0 = 46) :
    ∃ seen', (bol text 7 p p first seen).step = bol text 9 (p + 1) p first seen' := by
  refine ⟨seen.add 16, ?_⟩
  show M.exec (bol text 7 p p first seen) = _
  unfold bol M.exec
  have hp' : ¬ p ≥ text.size := by omega
  have hc' : (text[p]?.getD 0 == 46) = true := by rw [hc]; rfl
  simp [word, codeB, ops, hp', accepts, itemWidth, hc']
theorem B_end {text : Array Nat} {p : Nat} {first : Bool} {seen : Seen} :
    ∃ m', runFor 3 (bol text 9 (p + 1) p first seen) = m' ∧ m'.outcome = some .matched ∧ m'.start = p ∧ m'.handed = p + 1 ∧ m'.marks = #[] ∧ m'.lastmark = -1 := by
  refine ⟨_, rfl, ?_⟩
  simp [runFor, bol, M.step, M.exec, word, codeB, ops, say, M.resume]
theorem B_find {text : Array Nat} {p : Nat} (hm : bm text p) : ∀ (n q : Nat) (first : Bool) (seen : Seen), p - q = n → q ≤ p → (∀ r, q ≤ r → r < p → ¬ bm text r) →
    ∃ k m', k ≤ 3 * n + 5 ∧ runFor k (att codeB text 5 q first seen) = m' ∧ m'.outcome = some .matched ∧ m'.start = p ∧ m'.handed = p + 1 ∧ m'.marks = #[] ∧ m'.lastmark = -1 := by
  intro n
  induction n with
  | zero =>
    intro q first seen hn hq _
    have : q = p := by omega
    subst this
    obtain ⟨s1, e1⟩ := B_at_yes (first := first) (seen := seen) hm.1
    obtain ⟨s2, e2⟩ := B_lit_yes (first := first) (seen := s1) hm.2.1 hm.2.2
    obtain ⟨m', hr, rest⟩ := B_end (text := text) (p := q) (first := first) (seen := s2)
    refine ⟨3 + 1 + 1, m', by omega, ?_, rest⟩
    rw [runFor_step (att_open ..), e1, runFor_step rfl, e2]
    exact hr
  | succ n ih =>
    intro q first seen hn hq hno
    have hlt : q < text.size := by have := hm.2.1; omega
    have hq0 := hno q (Nat.le_refl _) (by omega)
    have ih' := fun seen' => ih (q + 1) false seen' (by omega) (by omega) fun r h1 h2 => hno r (by omega) h2
    by_cases h1 : q = 0 ∨ text[q - 1]?.getD 0 = 10
    · obtain ⟨s1, e1⟩ := B_at_yes (first := first) (seen := seen) h1
      obtain ⟨s2, e2⟩ := B_lit_no (first := first) (seen := s1) (fun h => hq0 ⟨h1, h⟩ : ¬ (q < text.size ∧ text[q]?.getD 0 = 46))
      obtain ⟨k, m', hk, hr, rest⟩ := ih' s2
      refine ⟨k + 1 + 1 + 1, m', by omega, ?_, rest⟩
      rw [runFor_step (att_open ..), e1, runFor_step rfl, e2, runFor_step (no1_open ..), no_next (by decide) hlt]
      exact hr
    · obtain ⟨s1, e1⟩ := B_at_no (first := first) (seen := seen) h1
      obtain ⟨k, m', hk, hr, rest⟩ := ih' s1
      refine ⟨k + 1 + 1, m', by omega, ?_, rest⟩
      rw [runFor_step (att_open ..), e1, runFor_step (no1_open ..), no_next (by decide) hlt]
      exact hr
theorem B_none {text : Array Nat} : ∀ (n q : Nat) (first : Bool) (seen : Seen), text.size - q = n → q ≤ text.size → (∀ r, q ≤ r → ¬ bm text r) →
    ∃ k m', k ≤ 3 * n + 5 ∧ runFor k (att codeB text 5 q first seen) = m' ∧ m'.outcome = some .failed := by
  intro n
  induction n with
  | zero =>
    intro q first seen hn hq _
    have h0 : ¬ q < text.size := by omega
    have fin : ∀ (c : Nat) (seen' : Seen), ∃ m', runFor 2 (no1 codeB text q c q 5 first seen') = m' ∧ m'.outcome = some .failed := fun c seen' => by
      refine ⟨_, ?_, no_end (code := codeB) (text := text) (pc := q) (q := c) (p := q) (pc₀ := 5) (first := first) (seen := seen') h0⟩
      rw [runFor_step (no1_open ..), runFor_step]
      · rfl
      · simp [M.step, M.resume, no1, h0, say]
    by_cases h1 : q = 0 ∨ text[q - 1]?.getD 0 = 10
    · obtain ⟨s1, e1⟩ := B_at_yes (first := first) (seen := seen) h1
      obtain ⟨s2, e2⟩ := B_lit_no (first := first) (seen := s1) (fun h => h0 h.1 : ¬ (q < text.size ∧ text[q]?.getD 0 = 46))
      obtain ⟨m', hr, ho⟩ := fin 7 s2
      refine ⟨2 + 1 + 1, m', by omega, ?_, ho⟩
      rw [runFor_step (att_open ..), e1, runFor_step rfl, e2]
      exact hr
    · obtain ⟨s1, e1⟩ := B_at_no (first := first) (seen := seen) h1
      obtain ⟨m', hr, ho⟩ := fin 5 s1
      refine ⟨2 + 1, m', by omega, ?_, ho⟩
      rw [runFor_step (att_open ..), e1]
      exact hr
  | succ n ih =>
    intro q first seen hn hq hno
    have hlt : q < text.size := by omega
    have hq0 := hno q (Nat.le_refl _)
    have ih' := fun seen' => ih (q + 1) false seen' (by omega) (by omega) fun r h1 => hno r (by omega)
    by_cases h1 : q = 0 ∨ text[q - 1]?.getD 0 = 10
    · obtain ⟨s1, e1⟩ := B_at_yes (first := first) (seen := seen) h1
      obtain ⟨s2, e2⟩ := B_lit_no (first := first) (seen := s1) (fun h => hq0 ⟨h1, h⟩ : ¬ (q < text.size ∧ text[q]?.getD 0 = 46))
      obtain ⟨k, m', hk, hr, ho⟩ := ih' s2
      refine ⟨k + 1 + 1 + 1, m', by omega, ?_, ho⟩
      rw [runFor_step (att_open ..), e1, runFor_step rfl, e2, runFor_step (no1_open ..), no_next (by decide) hlt]
      exact hr
    · obtain ⟨s1, e1⟩ := B_at_no (first := first) (seen := seen) h1
      obtain ⟨k, m', hk, hr, ho⟩ := ih' s1
      refine ⟨k + 1 + 1, m', by omega, ?_, ho⟩
      rw [runFor_step (att_open ..), e1, runFor_step (no1_open ..), no_next (by decide) hlt]
      exact hr
theorem searchB {text : Array Nat} {p : Nat} (h2 : p < text.size) : forSearch codeB text 0 p text.size false = att codeB text 5 p true ((({} : Seen)).add 14) := by
  unfold forSearch
  have h3 : ¬ p > text.size := by omega
  have h4 : ¬ text.size - p < 1 := by omega
  have h4' : ¬ text.size - p = 0 := by omega
  have h5 : ¬ text.size ≤ p := by omega
  simp [header, codeB, ops, h3, h4, h4', h5, attemptFrom, hasFirstSet, attemptAt, M.attempt, att]
  rfl
theorem searchB_end {text : Array Nat} : ∃ m', runFor 1 (forSearch codeB text 0 text.size text.size false) = m' ∧ m'.outcome = some .failed := by
  refine ⟨_, rfl, ?_⟩
  unfold forSearch
  simp [header, codeB, ops, runFor, say]
  rfl
end Mine.Rx
end
section
open PySem PySem.W PyProof.Rows
set_option maxRecDepth 100000
set_option maxHeartbeats 1000000
namespace Mine
theorem fresh_MW : True := by w_top off; trivial
open Mine.Rx
section
variable {M : Model} {A : Around} {E : Value → Shared → Prop} {s : Shared}
theorem wp_drive {Q : Sre.M → Shared → Prop} : ∀ (n k : Nat) (m m' : Sre.M), Sre.M.runFor k m = m' → m'.outcome.isSome = true → k ≤ 4 * n → 0 < n → Q m' s → wpAny M A (Builtin.Re.reDrive n m) Q E s := by
  intro n
  induction n with
  | zero => intro k m m' _ _ _ h _; exact absurd h (Nat.lt_irrefl _)
  | succ n ih =>
    intro k m m' hr ho hk _ hq
    show wpAny M A (if (Sre.M.runFor 4 m).outcome.isSome = true then pure (Sre.M.runFor 4 m) else rule "sre.turn" >>= fun _ => Builtin.Re.reDrive n (Sre.M.runFor 4 m)) Q E s
    by_cases h4 : (Sre.M.runFor 4 m).outcome.isSome = true
    · rw [if_pos h4]
      have : Sre.M.runFor 4 m = m' := by
        rcases Nat.le_total k 4 with h | h
        · obtain ⟨j, hj⟩ := Nat.exists_eq_add_of_le h
          rw [← hr] at ho ⊢
          rw [hj, runFor_add, runFor_fix ho]
        · obtain ⟨j, rfl⟩ := Nat.exists_eq_add_of_le h
          rw [runFor_add, runFor_fix h4] at hr
          exact hr
      rw [this]
      exact wpAny_pure hq
    · rw [if_neg h4]
      have h : 4 ≤ k := by
        rcases Nat.lt_or_ge k 4 with h | h
        · exfalso
          obtain ⟨j, hj⟩ := Nat.exists_eq_add_of_le (Nat.le_of_lt h)
          apply h4
          rw [← hr] at ho
          rw [hj, runFor_add, runFor_fix ho]
          exact ho
        · exact h
      obtain ⟨j, rfl⟩ := Nat.exists_eq_add_of_le h
      rw [runFor_add] at hr
      have hn : 0 < n := by
        rcases Nat.eq_zero_or_pos n with h0 | h0
        · subst h0
          have : j = 0 := by omega
          subst this
          exfalso; apply h4
          rw [← hr] at ho
          exact ho
        · exact h0
      exact wpAny_bind (wpAny_rule (ih j _ m' hr ho (by omega) hn hq))
theorem wp_rules {α : Type} (l : List α) (c : α → Bool) (t : α → String) {Q : PUnit → Shared → Prop} (h : Q ⟨⟩ s) :
    wpAny M A (forIn l PUnit.unit fun i _ => if c i = true then do rule (t i); pure (ForInStep.yield PUnit.unit) else pure (ForInStep.yield PUnit.unit)) Q E s := by
  induction l with
  | nil => exact wpAny_pure h
  | cons a l ih =>
    simp only [List.forIn_cons]
    refine wpAny_bind ?_
    by_cases hc : c a = true
    · rw [if_pos hc]; exact wpAny_bind (wpAny_rule (wpAny_pure ih))
    · rw [if_neg hc]; exact wpAny_pure ih
theorem wp_toEnd {k : Nat} {m m' : Sre.M} {Q : Option Sre.M → Shared → Prop} (hr : Sre.M.runFor k m = m') (hk : k ≤ 2 ^ 64)
    (h : (m'.outcome = some .matched ∧ Q (some m') s) ∨ (m'.outcome = some .failed ∧ Q none s)) : wpAny M A (Builtin.Re.reRunToEnd m) Q E s := by
  unfold Builtin.Re.reRunToEnd
  have ho : m'.outcome.isSome = true := by rcases h with h | h <;> rw [h.1] <;> rfl
  refine wpAny_bind (wp_drive (2 ^ 64) k m m' hr ho (by omega) (by decide) ?_)
  refine wpAny_bind ?_
  refine wp_rules (List.range Sre.names.size) (fun i => m'.seen.has i) (fun i => Sre.names.getD i "") ?_
  rcases h with h | h
  · rw [h.1]; exact wpAny_pure h.2
  · rw [h.1]; exact wpAny_pure h.2
end

section
variable {prog : Program} {w : World} {A : Around} {E : Value → Shared → Prop} {s : Shared}
theorem named_search (x : Value) : Builtin.Re.reNamed "re.Pattern.search" "search" ["string", "pos", "endpos"] 1 [x] [] = pure [some x, none, none] := by rfl
theorem target_search {P : Addr} {x : Str} {t : Tok} {r : Flt.PatRec} {Q : Builtin.Re.ReTarget → Shared → Prop} (hP : Flt.IsPattern s.heap P r) (hk : r.kind = 0) (hx : x.length < 2 ^ 62)
    (h : Q { pattern := .ref P, string := .str x t, code := r.code.toArray, text := x.cps, kind := 0, groups := r.groups, pos := 0, lim := x.cps.size } s) :
    wpAny (model prog w) A (Builtin.Re.reTarget "re.Pattern.search" "search" ⟨[.ref P, .str x t], []⟩) Q E s := by
  obtain ⟨fs, T, ws, n, h1, h2, h3, h4, h5, h6⟩ := hP
  unfold Builtin.Re.reTarget
  refine wpAny_bind (wpAny_of_eq (named_search _) ?_)
  refine wpAny_bind (wpAny_pure ?_)
  refine wpAny_bind (wpAny_pure ?_)
  refine wpAny_bind (wpAny_fieldsOf h1 rfl ?_)
  refine wpAny_bind (wpAny_pure ?_)
  dsimp only
  rw [if_neg (by simp), h4, hk, if_neg (by simp)]
  refine wpAny_bind (wpAny_pure ?_)
  refine wpAny_bind ?_
  unfold Builtin.Re.reRawItems
  rw [h2]
  refine wpAny_bind (wpAny_seqItems h5 rfl ?_)
  refine wpAny_pure (wpAny_pure ?_)
  have e1 : (((some ws).getD #[]).map Builtin.Re.reRawOf).map (fun x => x.toNat) = r.code.toArray := by
    apply Array.ext'
    rw [← h6]
    simp
  have e2 : min (Int.toNat 0) x.cps.size = 0 := by simp
  have e3 : min (2 ^ 63 - 1 : Int).toNat x.cps.size = x.cps.size := by
    have : x.cps.size < 2 ^ 62 := hx
    have : (2 ^ 63 - 1 : Int).toNat = 9223372036854775807 := by decide
    rw [this]; omega
  rw [e1, e2, e3, h3]
  exact h
theorem call_search {P : Addr} {x : Str} {t : Tok} {Q : Value → Shared → Prop} (hP : Flt.IsPattern s.heap P patA) (h2 : 2 ≤ x.cps.size) (hx : x.cps.size < 1000)
    (hd : ∀ q : Nat, Sre.isDigit (x.cps[q]?.getD 0) = false) (h : Q .none s) : wpAny (model prog w) A (call (.builtin "re.Pattern.search") [.ref P, .str x t]) Q E s := by
  have hT : s.TypeIs (.ref P) "re.Pattern" := by obtain ⟨fs, T, ws, n, h1, _⟩ := hP; exact ⟨_, h1, rfl⟩
  refine wpAny_call_entry slot_search hT entry_search ?_ (args_search _ _)
  unfold Builtin.«re.Pattern.search»
  refine wpAny_bind (target_search hP rfl (by have : x.length = x.cps.size := rfl; omega) ?_)
  unfold Builtin.Re.reAnswer
  dsimp only
  have hc : patA.code.toArray = codeA := rfl
  rw [hc, show patA.groups = 0 from rfl, searchA h2]
  obtain ⟨k, m', hk, hr, ho⟩ := A_none hd (x.cps.size - 0) 0 true ((({} : Sre.Seen)).add 14) rfl (Nat.zero_le _)
  refine wpAny_bind (wp_toEnd hr (by omega) (.inr ⟨ho, ?_⟩))
  exact wpAny_pure ⟨_, rfl, h⟩
end
end Mine
end
section
open PySem PySem.W PyProof.Rows
set_option maxRecDepth 100000
set_option maxHeartbeats 1000000
namespace Mine
theorem fresh_MJ : True := by w_top off; trivial
open PySem.Builtin
theorem bj_slot : Slot "bytes" "join" "bytes.join" :=
  .of (owner := "bytes") (n := "join") (by rw [typeLookup_type, builtinLookup_eq_fast]; kernel_rfl) (by decide +kernel) (by decide +kernel) (by decide +kernel)
    (by first | exact .inl (by decide +kernel) | exact .inr (by decide +kernel)) (by rw [isSubtype_type]; kernel_rfl)
theorem bj_type : typeOf (.builtin "bytes.join") = pure (.type "method_descriptor") := by show builtinType _ = _; rw [builtinType_eq_fast]; kernel_rfl
theorem bj_entry : entryFor table "bytes.join" = some Builtin.«bytes.join» := entryFor_of_tree (by kernel_rfl)
theorem bj_owner : Manifest.owners.lookup (String.ofList ['s','e','t','y','b'].reverse) = some Manifest.sig_bytes := by kernel_rfl
theorem bj_args (a b : Value) : argsOk "bytes.join" ⟨[a, b], []⟩ := by
  unfold argsOk; rw [signature?_of (id := "bytes.join") (n := ['n','i','o','j']) (o := ['s','e','t','y','b']) (by kernel_rfl) bj_owner]; kernel_rfl
theorem bytes_attrs : PlainAttrs "bytes" := ⟨⟨"bytes.__getattribute__", by rw [typeLookup_type, builtinLookup_eq_fast]; kernel_rfl, by decide +kernel⟩, by rw [typeLookup_type, builtinLookup_eq_fast]; kernel_rfl⟩
theorem take_eq {id : String} {b : Array UInt8} {t : Tok} : Bytes.takeBufferQuiet? id (.bytes b t) 0 = pure (some (b, none)) := by
  have h : Bytes.takeBuffer? id (.bytes b t) 0 = pure (some (b, none)) := by
    unfold Bytes.takeBuffer?
    rw [KBy.special_eq KBy.look_buffer, KBy.own_buffer, show ((0 : Int) == Bytes.fullReadOnly) = false from by decide, KBy.buffer_eq]
    kernel_rfl
  unfold Bytes.takeBufferQuiet?
  rw [h]
  rfl

def bcat (l : List (Array UInt8)) : Array UInt8 := (l.map (·.toList)).flatten.toArray
theorem joined_nil (l : List (Array UInt8)) : Bytes.joined #[] l = bcat l := by
  have key : ∀ (l : List (Array UInt8)) (k : Nat) (acc : Array UInt8), (l.zipIdx k).foldl (fun out (p : Array UInt8 × Nat) => (if p.2 > 0 then out ++ #[] else out) ++ p.1) acc = acc ++ bcat l := by
    intro l
    induction l with
    | nil => intro k acc; apply Array.ext'; simp [bcat]
    | cons a l ih =>
      intro k acc
      rw [List.zipIdx_cons, List.foldl_cons, ih]
      apply Array.ext'
      by_cases h : k > 0 <;> simp [bcat, h]
  have := key l 0 #[]
  rw [Array.empty_append] at this
  exact this
section
variable {prog : Program} {w : World} {A : Around} {E : Value → Shared → Prop} {s : Shared}
/-- bytes, in order -/
inductive BytesAre : List Value → List (Array UInt8) → Prop
  | nil : BytesAre [] []
  | cons (b : Array UInt8) (t : Tok) {vs bs} : BytesAre vs bs → BytesAre (.bytes b t :: vs) (b :: bs)
theorem BytesAre.length : ∀ {vs : List Value} {bs : List (Array UInt8)}, BytesAre vs bs → vs.length = bs.length
  | _, _, .nil => rfl
  | _, _, .cons _ _ h => by simp [h.length]
theorem BytesAre.get : ∀ {vs : List Value} {bs : List (Array UInt8)}, BytesAre vs bs → ∀ (i : Nat) (d : Value), i < bs.length → ∃ t, vs.getD i d = .bytes (bs.getD i #[]) t
  | _, _, .nil, i, _, h => absurd h (Nat.not_lt_zero _)
  | _, _, .cons b t h, 0, _, _ => ⟨t, rfl⟩
  | _, _, .cons b t h, i + 1, d, hi => by
    obtain ⟨u, e⟩ := h.get i d (by simpa using hi)
    exact ⟨u, by simpa using e⟩
theorem letGo_all {taken : List (Value × Option Value)} {keep : List Value} {Q : Unit → Shared → Prop} {M : Model} (hn : ∀ p ∈ taken, p.2 = none) (h : Q () s) : wpAny M A (Bytes.joinLetGo taken keep) Q E s := by
  induction taken with
  | nil => exact wpAny_pure h
  | cons p r ih =>
    obtain ⟨x, w⟩ := p
    have : w = none := hn (x, w) (.head _)
    subst this
    unfold Bytes.joinLetGo
    exact wpAny_bind (wpAny_letGo (ih fun q hq => hn q (.tail _ hq)))
theorem call_bjoin {l : Addr} {vs : List Value} {bs : List (Array UInt8)} {t : Tok} {Q : Value → Shared → Prop} (hl : s.heap.IsList l vs.toArray) (hb : BytesAre vs bs) (h2 : 2 ≤ bs.length) (hsz : ((bs.map (·.size)).sum) ≤ 16777216)
    (h : ∀ t' k, Q (.bytes (bcat bs) t') { s with toks := k }) : wpAny (model prog w) A (call (.builtin "bytes.join") [.bytes #[] t, .ref l]) Q E s := by
  refine wpAny_call_entry bj_slot (typeIs_bytes s #[] t) bj_entry ?_ (bj_args _ _)
  have hvl := hb.length
  obtain ⟨o, ho, hc, n, hd⟩ := id hl
  show wpAny _ _ (Bytes.joinM .bytes ⟨[.bytes #[] t, .ref l], []⟩) _ _ s
  unfold Bytes.joinM
  refine wpAny_bind (wpAny_of_eq (a := (Value.bytes #[] t, Value.ref l)) rfl ?_)
  dsimp only
  rw [if_pos (by rfl)]
  refine wpAny_bind ?_
  unfold Bytes.joinItems
  refine wpAny_bind (wpAny_typeOf hl.typeIs ?_)
  rw [if_pos (by decide)]
  refine wpAny_pure ?_
  refine wpAny_bind (wpAny_seqItems ho hd ?_)
  dsimp only
  rw [if_pos (by rfl)]
  rcases hb with _ | ⟨b0, t0, hb⟩
  · exact absurd h2 (by simp)
  rcases hb with _ | ⟨b1, t1, hb⟩
  · exact absurd h2 (by simp)
  with_unfolding_all (show wpAny _ _ (forIn [:_] (#[], []) _ >>= _) _ _ _)
  refine wpAny_bind ?_
  have hb' : BytesAre (Value.bytes b0 t0 :: Value.bytes b1 t1 :: _) (b0 :: b1 :: _) := .cons _ _ (.cons _ _ hb)
  clear hb
  generalize hVS : (Value.bytes b0 t0 :: Value.bytes b1 t1 :: _) = VS at *
  generalize hBS : (b0 :: b1 :: _) = BS at *
  simp only [List.size_toArray, Std.Legacy.Range.forIn_eq_forIn_range', Std.Legacy.Range.size]
  have hN : (VS.length - 0 + 1 - 1) / 1 = BS.length := by rw [hvl]; simp
  rw [hN]
  refine wpAny_forIn_list _ (fun rest b s' => ∃ i, rest = List.range' i (BS.length - i) ∧ i ≤ BS.length ∧ b.1.toList = BS.take i ∧ (∀ p ∈ b.2, p.2 = none ∧ p.1.onHeap = false) ∧ s' = s) _ ?turn ?fin _ _ ⟨0, by simp, Nat.zero_le _, by simp, by simp, rfl⟩
  case turn =>
    rintro x rest b s' ⟨i, hr, hi, hp, ht, rfl⟩
    have hlt : i < BS.length := by
      rcases Nat.lt_or_ge i BS.length with h' | h'
      · exact h'
      · rw [show BS.length - i = 0 from by omega] at hr; cases hr
    rw [show BS.length - i = (BS.length - (i + 1)) + 1 from by omega, List.range'_succ] at hr
    cases hr
    obtain ⟨u, eu⟩ := hb'.get x .none hlt
    refine wpAny_bind (wpAny_seqItems ho hd ?_)
    dsimp only
    rw [if_neg (by
      intro e
      rw [Bool.or_eq_true] at e
      rcases e with e | e
      · cases e
      · obtain ⟨p, hp1, hp2⟩ := List.any_eq_true.mp e
        rw [(ht p hp1).2] at hp2; cases hp2)]
    have eg : VS.toArray.getD x Value.none = Value.bytes (BS.getD x #[]) u := by
      rw [← eu]
      simp
    rw [eg]
    refine wpAny_bind (wpAny_holding (wpAny_of_eq take_eq ?_))
    dsimp only
    refine wpAny_bind (wpAny_seqItems ho hd ?_)
    dsimp only
    rw [if_neg (by simp)]
    refine wpAny_pure ⟨x + 1, rfl, hlt, ?_, ?_, rfl⟩
    · rw [Array.toList_push, hp, List.take_add_one, List.getElem?_eq_getElem hlt]
      simp [hlt]
    · intro p hp'
      rcases List.mem_append.mp hp' with h1 | h1
      · exact ht p h1
      · rw [List.mem_singleton.mp h1]; exact ⟨rfl, rfl⟩
  case fin =>
    rintro b s' ⟨i, hr, hi, hp, ht, rfl⟩
    have : i = BS.length := by
      rcases Nat.lt_or_ge i BS.length with h' | h'
      · rw [show BS.length - i = (BS.length - (i + 1)) + 1 from by omega, List.range'_succ] at hr; cases hr
      · omega
    subst this
    rw [List.take_length] at hp
    refine wpAny_bind (wpAny_of_eq (a := #[]) rfl ?_)
    have htot : Array.foldl (fun x1 x2 => x1 + x2.size) ((#[] : Array UInt8).size * (b.fst.size - 1)) b.fst = (BS.map (·.size)).sum := by
      rw [← Array.foldl_toList, hp]
      have key : ∀ (l : List (Array UInt8)) (k : Nat), l.foldl (fun x1 x2 => x1 + x2.size) k = k + (l.map (·.size)).sum := by
        intro l
        induction l with
        | nil => intro k; simp
        | cons a l ih => intro k; rw [List.foldl_cons, ih]; simp; omega
      rw [key]; simp
    rw [htot, if_neg (by rw [KBy.tooLong_not hsz]; exact Bool.false_ne_true), hp, joined_nil]
    have hsz' : (bcat BS).size ≤ sizeLine := by
      have : (bcat BS).size = (BS.map (·.size)).sum := by
        unfold bcat
        simp [List.length_flatten]
        congr 1
      rw [this, sizeLine_eq]; exact hsz
    refine wpAny_bind (wpAny_mkBytes ?_ hsz')
    refine wpAny_bind (wpAny_holding (wpAny_point ?_))
    refine wpAny_bind (letGo_all (fun p hp' => (ht p hp').1) ?_)
    exact wpAny_pure ⟨_, rfl, h _ _⟩
end
end Mine
end
section
open PySem PySem.W PyProof.Rows
set_option maxRecDepth 100000
set_option maxHeartbeats 1000000
namespace Mine
theorem fresh_MQ : True := by w_top off; trivial
open PySem.Builtin Mine.Rx
section
variable {prog : Program} {w : World} {A : Around} {E : Value → Shared → Prop} {s : Shared}
def codes (b : Array UInt8) : Array Nat := b.map (·.toNat)
theorem asStr_bytes {b : Array UInt8} {t : Tok} : asStr? (.bytes b t) = pure none := by rfl
theorem nocoll {b : Array UInt8} {t : Tok} : Re.reNoCollectionInside (.bytes b t) 1 = pure () := by
  unfold Re.reNoCollectionInside
  rw [KBy.isInstance_eq]
  rfl
theorem nolit {b : Array UInt8} {t : Tok} : Re.reLiteralCannotBeTurned (.bytes b t) = pure () := by
  unfold Re.reLiteralCannotBeTurned
  rw [KBy.isInstance_eq, asStr_bytes]
  rfl
def tgt (P : Addr) (b : Array UInt8) (t : Tok) : Re.ReTarget := { pattern := .ref P, string := .bytes b t, code := codeB, text := codes b, kind := 1, groups := 0, pos := 0, lim := (codes b).size }
theorem wp_whole {P : Addr} {b : Array UInt8} {t : Tok} {Q : Re.ReTarget → Shared → Prop} (hP : Flt.IsPattern s.heap P patB) (h : Q (tgt P b t) s) :
    wpAny (model prog w) A (Re.reWholeTarget (.ref P) (.bytes b t)) Q E s := by
  obtain ⟨fs, T, ws, n, h1, h2, h3, h4, h5, h6⟩ := hP
  unfold Re.reWholeTarget
  refine wpAny_bind (wpAny_fieldsOf h1 rfl ?_)
  refine wpAny_bind ?_
  unfold Re.reTextOf
  refine wpAny_bind (wpAny_of_eq asStr_bytes ?_)
  refine wpAny_bind (wpAny_of_eq KBy.quiet_eq ?_)
  refine wpAny_pure ?_
  dsimp only
  rw [h4, show patB.kind = 1 from rfl, if_neg (by simp), if_neg (by simp)]
  refine wpAny_bind (wpAny_of_eq nocoll ?_)
  unfold Re.reRawItems
  rw [h2]
  refine wpAny_bind (wpAny_bind (wpAny_seqItems h5 rfl (wpAny_pure (wpAny_pure ?_))))
  have e1 : (((some ws).getD #[]).map Re.reRawOf).map (fun x => x.toNat) = codeB := by
    apply Array.ext'
    have : codeB.toList = patB.code := rfl
    rw [this, ← h6]
    simp
  rw [e1, h3]
  exact h
def loopArgs (P : Addr) (b : Array UInt8) (t : Tok) (u : Tok) (n done : Int) (PL : Addr) : Args :=
  ⟨[.ref P, .bytes b t, .bytes #[46, 46] u, rawInt 0, rawInt 0, rawInt n, rawInt done, rawInt done, .bool false, .ref PL, .bool false], []⟩
theorem loop_quiet (a : Args) : (Code.builtin "re.Pattern.sub.loop" a).quiet = true := plainId_quiet (by decide +kernel) a
theorem slice_bytes (b : Array UInt8) (i j : Nat) : ((codes b).extract i j).map (·.toUInt8) = b.extract i j := by
  apply Array.ext'
  have : ((fun x => UInt8.ofNat x) ∘ fun x : UInt8 => x.toNat) = _root_.id := by funext x; simp
  simp [codes, this]
theorem isList_push {h : Heap} {PL : Addr} {o : Obj} {vs : List Value} {n : Nat} (ho : h.get? PL = some o) (hc : o.cls = .type "list") (hd : o.data = .seq vs.toArray n) (x : Value) :
    (h.update PL (Obj.mapSeq fun y => y.push x)).IsList PL (vs ++ [x]).toArray := by
  obtain ⟨n', hd'⟩ := Obj.data_mapSeq hd (·.push x)
  refine ⟨_, Heap.get?_update_self _ ho (Obj.isFreed_of_seq hd'), (Obj.cls_mapSeq ..).trans hc, n', ?_⟩
  rw [hd']; simp
theorem BytesAre.snoc {vs : List Value} {bs : List (Array UInt8)} (h : BytesAre vs bs) (b : Array UInt8) (t : Tok) : BytesAre (vs ++ [.bytes b t]) (bs ++ [b]) := by
  induction h with
  | nil => exact .cons _ _ .nil
  | cons b' t' _ ih => exact .cons _ _ ih
theorem wp_push {PL : Addr} {vs : List Value} {x : Value} {Q : Unit → Shared → Prop} {M : Model} (hl : s.heap.IsList PL vs.toArray) (hz : vs.length ≤ 1000)
    (h : ∀ h', Heap.SameBut PL s.heap h' → h'.IsList PL (vs ++ [x]).toArray → Q () { s with heap := h' }) : wpAny M A (updateSeq PL fun y => y.push x) Q E s := by
  obtain ⟨o, ho, hc, n, hd⟩ := id hl
  refine wpAny_updateSeq ho hd (h _ (Heap.SameBut.update ..) (isList_push ho hc hd x)) (by rw [sizeLine_eq, List.size_toArray]; omega) (by rw [sizeLine_eq, Array.size_push, List.size_toArray]; omega)
theorem loop_end {P PL : Addr} {b : Array UInt8} {t u : Tok} {n : Int} {done : Nat} {vs : List Value} {bs : List (Array UInt8)} {R : Result → Shared → Prop}
    (hP : Flt.IsPattern s.heap P patB) (hl : s.heap.IsList PL vs.toArray) (hb : BytesAre vs bs) (h1 : 1 ≤ bs.length) (hd : done < b.size) (hbig : b.size < 100000) (hsz : (bs.map (·.size)).sum + b.size ≤ 16777216)  (hlen : bs.length < 100)
    (hno : ∀ r, done ≤ r → ¬ bm (codes b) r)
    (h : ∀ h' t' k, Heap.SameBut PL s.heap h' → R (.ok (.ret (.bytes (bcat (bs ++ [b.extract done b.size])) t'))) { s with heap := h', toks := k }) :
    codeAny (model prog w) A (.builtin "re.Pattern.sub.loop" (loopArgs P b t u n done PL)) R s := by
  refine codeAny_builtin entry_subloop ?_
  rw [Around.under_plainId (by decide +kernel)]
  have hcs : (codes b).size = b.size := by simp [codes]
  unfold «re.Pattern.sub.loop» loopArgs
  refine wpAny_bind (wp_whole hP ?_)
  dsimp only
  rw [if_pos (by rfl)]
  refine wpAny_bind (wpAny_of_eq nolit ?_)
  rw [if_neg (by simp)]
  refine wpAny_bind ?_
  unfold Re.reNextFound tgt
  have hdc : done < (codes b).size := by rw [hcs]; exact hd
  dsimp only
  rw [show (done : Int).toNat = done from Int.toNat_natCast done, searchB hdc]
  obtain ⟨k, m', hk, hr, ho⟩ := B_none ((codes b).size - done) done true ((({} : Sre.Seen)).add 14) rfl (Nat.le_of_lt hdc) hno
  refine wp_toEnd hr (by rw [hcs] at hk; omega) (.inr ⟨ho, ?_⟩)
  dsimp only
  rw [if_pos hdc]
  unfold Re.reSlice
  rw [if_neg (by simp), slice_bytes, slice_bytes, hcs]
  have hs1 : (b.extract done b.size).size ≤ b.size := by simp
  refine wpAny_bind (wpAny_mkBytes ?_ (by rw [sizeLine_eq]; omega))
  refine wpAny_bind (wp_push hl (by rw [hb.length]; omega) fun h' hs' hl' => ?_)
  have hbs : BytesAre (vs ++ [Value.bytes (b.extract done b.size) s.toks]) (bs ++ [b.extract done b.size]) := hb.snoc _ _
  refine wpAny_bind (wpAny_mkBytes ?_ (by simp))
  obtain ⟨o', ho', hc', n', hd'⟩ := id hl'
  refine wpAny_bind (wpAny_seqItems ho' hd' ?_)
  rw [if_neg (by simp), if_neg (by simp)]
  rw [show b.extract 0 0 = #[] by simp]
  refine wpAny_bind (call_bjoin (s := { s with heap := h', toks := _ }) hl' hbs (by rw [List.length_append]; exact Nat.succ_le_succ h1) (by rw [List.map_append, List.sum_append]; simp; omega) fun t' k => ?_)
  rw [if_neg (by simp)]
  exact wpAny_pure (h h' t' k hs')
theorem loop_step {P PL : Addr} {b : Array UInt8} {t u : Tok} {n : Int} {done p : Nat} {vs : List Value} {bs : List (Array UInt8)} {R : Result → Shared → Prop}
    (hP : Flt.IsPattern s.heap P patB) (hl : s.heap.IsList PL vs.toArray) (hb : BytesAre vs bs) (hbig : b.size < 100000) (hlen : bs.length < 100)
    (hdp : done ≤ p) (hm : bm (codes b) p) (hno : ∀ r, done ≤ r → r < p → ¬ bm (codes b) r)
    (h : ∀ h' k vs', Heap.SameBut PL s.heap h' → h'.IsList PL vs'.toArray → BytesAre vs' (bs ++ (if done < p then [b.extract done p] else []) ++ [#[46, 46]]) →
      codeAny (model prog w) A (.builtin "re.Pattern.sub.loop" (loopArgs P b t u (n + 1) ((p + 1 : Nat) : Int) PL)) R { s with heap := h', toks := k }) :
    codeAny (model prog w) A (.builtin "re.Pattern.sub.loop" (loopArgs P b t u n done PL)) R s := by
  refine codeAny_builtin entry_subloop ?_
  rw [Around.under_plainId (by decide +kernel)]
  have hcs : (codes b).size = b.size := by simp [codes]
  unfold «re.Pattern.sub.loop» loopArgs
  refine wpAny_bind (wp_whole hP ?_)
  dsimp only
  rw [if_pos (by rfl)]
  refine wpAny_bind (wpAny_of_eq nolit ?_)
  rw [if_neg (by simp)]
  refine wpAny_bind ?_
  unfold Re.reNextFound tgt
  have hpc : p < (codes b).size := hm.2.1
  have hdc : done < (codes b).size := by omega
  dsimp only
  rw [show (done : Int).toNat = done from Int.toNat_natCast done, searchB hdc]
  obtain ⟨k, m', hk, hr, ho, hst, hh, hmk, hlm⟩ := B_find hm (p - done) done true ((({} : Sre.Seen)).add 14) rfl hdp hno
  refine wp_toEnd hr (by rw [hcs] at hpc; omega) (.inl ⟨ho, ?_⟩)
  dsimp only
  rw [hst, hh]
  have hne : (p + 1 == p) = false := by simp
  rw [hne]
  by_cases hlt : done < p
  · rw [if_pos hlt] at h ⊢
    unfold Re.reSlice
    rw [if_neg (by simp), slice_bytes]
    refine wpAny_bind (wpAny_mkBytes ?_ (by rw [sizeLine_eq]; simp; omega))
    refine wpAny_bind (wp_push hl (by rw [hb.length]; omega) fun h' hs' hl' => ?_)
    rw [if_pos (by rfl)]
    refine wpAny_bind (wpAny_pure ?_)
    rw [if_pos (by simp)]
    refine wpAny_bind (wp_push (s := { s with heap := h', toks := _ }) hl' (by rw [List.length_append, hb.length]; simp; omega) fun h'' hs'' hl'' => ?_)
    refine wpAny_pure ⟨loop_quiet _, ?_⟩
    exact h h'' _ _ (hs'.trans hs'') hl'' ((hb.snoc _ _).snoc _ _)
  · rw [if_neg hlt] at h ⊢
    rw [if_pos (by rfl)]
    refine wpAny_bind (wpAny_pure ?_)
    rw [if_pos (by simp)]
    refine wpAny_bind (wp_push hl (by rw [hb.length]; omega) fun h'' hs'' hl'' => ?_)
    refine wpAny_pure ⟨loop_quiet _, ?_⟩
    exact h h'' _ _ hs'' hl'' (by rw [List.append_nil]; exact hb.snoc _ _)
end
end Mine
end
section
open PySem PySem.W PyProof.Rows
set_option maxRecDepth 100000
set_option maxHeartbeats 1000000
namespace Mine
theorem fresh_MQ2 : True := by w_top off; trivial
open PySem.Builtin Mine.Rx
/-- a row of a mail: a dot, no line feed within, a line feed last -/
def Rw (a : List UInt8) : Prop := ∃ m, a = 46 :: (m ++ [10]) ∧ (10 : UInt8) ∉ m
theorem code_at (l : List UInt8) (i : Nat) : (codes l.toArray)[i]?.getD 0 = (l[i]?.map (·.toNat)).getD 0 := by
  simp [codes]
theorem bm_at {pre a post : List UInt8} (hp : pre = [] ∨ pre.getLast? = some 10) (ha : Rw a) : bm (codes (pre ++ a ++ post).toArray) pre.length := by
  obtain ⟨m, rfl, _⟩ := ha
  refine ⟨?_, by simp [codes], ?_⟩
  · rcases hp with rfl | hp
    · exact .inl rfl
    · refine .inr ?_
      rw [code_at]
      have h0 : pre ≠ [] := by rintro rfl; cases hp
      have hl : 0 < pre.length := List.length_pos_iff.mpr h0
      rw [List.append_assoc, List.getElem?_append_left (by omega), ← List.getLast?_eq_getElem?, hp]
      rfl
  · rw [code_at]
    simp
theorem bm_not {pre a post : List UInt8} (ha : Rw a) {r : Nat} (h1 : pre.length < r) (h2 : r < pre.length + a.length) : ¬ bm (codes (pre ++ a ++ post).toArray) r := by
  obtain ⟨m, rfl, hm⟩ := ha
  rintro ⟨hb, _, _⟩
  rcases hb with rfl | hb
  · omega
  · rw [code_at, List.append_assoc, List.getElem?_append_right (by omega)] at hb
    have e : r - 1 - pre.length < (46 :: m).length := by simp at h2 ⊢; omega
    rw [show (46 :: (m ++ [10])) ++ post = (46 :: m) ++ ([10] ++ post) by simp, List.getElem?_append_left e, List.getElem?_eq_getElem e] at hb
    have hmem : (46 :: m)[r - 1 - pre.length] ∈ (46 :: m) := List.getElem_mem e
    simp only [Option.map_some, Option.getD_some] at hb
    generalize (46 :: m)[r - 1 - pre.length] = c at hb hmem
    have : c = 10 := UInt8.toNat_inj.mp hb
    subst this
    rcases List.mem_cons.mp hmem with h | h
    · cases h
    · exact hm h
theorem bm_past {l : List UInt8} {r : Nat} (h : l.length ≤ r) : ¬ bm (codes l.toArray) r := by
  rintro ⟨_, h', _⟩
  simp [codes] at h'
  omega
theorem Rw.last {a : List UInt8} (h : Rw a) (pre : List UInt8) : (pre ++ a).getLast? = some 10 := by
  obtain ⟨m, rfl, _⟩ := h
  rw [show pre ++ 46 :: (m ++ [10]) = (pre ++ 46 :: m) ++ [10] by simp]
  rw [List.getLast?_append]
  rfl
theorem Rw.len {a : List UInt8} (h : Rw a) : 2 ≤ a.length := by obtain ⟨m, rfl, _⟩ := h; simp
theorem Rw.tail {a : List UInt8} (h : Rw a) : a = 46 :: a.tail := by obtain ⟨m, rfl, _⟩ := h; rfl
theorem ext_list (l : List UInt8) (i j : Nat) : (l.toArray.extract i j).toList = (l.take j).drop i := by
  simp [List.drop_take]
section
variable {prog : Program} {w : World} {A : Around} {E : Value → Shared → Prop} {s : Shared}
theorem named_sub (x y : Value) : Builtin.Re.reNamed "re.Pattern.sub" "sub" ["repl", "string", "count"] 2 [x, y] [] = pure [some x, some y, none] := by rfl
theorem look_call_bytes : typeLookup (.type "bytes") "__call__" = pure none := by rw [typeLookup_type, builtinLookup_eq_fast]; kernel_rfl
/-- each of three rows gets one dot more -/
theorem call_sub {P : Addr} {a0 a1 a2 : List UInt8} {t u : Tok} {Q : Value → Shared → Prop} (hP : Flt.IsPattern s.heap P patB) (h0 : Rw a0) (h1 : Rw a1) (h2 : Rw a2) (hbig : (a0 ++ a1 ++ a2).length < 10000)
    (h : ∀ h' t' k, Ext s.heap h' → Q (.bytes ((46 :: a0) ++ (46 :: a1) ++ (46 :: a2)).toArray t') { s with heap := h', toks := k }) :
    wpAny (model prog w) A (call (.builtin "re.Pattern.sub") [.ref P, .bytes #[46, 46] u, .bytes (a0 ++ a1 ++ a2).toArray t]) Q E s := by
  have hT : s.TypeIs (.ref P) "re.Pattern" := by obtain ⟨fs, T, ws, n, h1, _⟩ := hP; exact ⟨_, h1, rfl⟩
  refine wpAny_call (codeAny_call_builtin slot_sub.plain entry_sub (slot_sub.check _ _ _ _ _ _ _ _ hT (args_sub _ _ _) ?_))
  unfold Builtin.«re.Pattern.sub» Builtin.Re.reSubstitute
  dsimp only
  refine wpAny_bind (wpAny_of_eq (named_sub _ _) ?_)
  refine wpAny_bind (wpAny_pure ?_)
  refine wpAny_bind (wpAny_of_eq (KBy.special_eq look_call_bytes) ?_)
  rw [if_neg (by simp)]
  refine wpAny_bind (wpAny_of_eq asStr_bytes ?_)
  refine wpAny_bind (wpAny_of_eq KBy.quiet_eq ?_)
  refine wpAny_bind (wpAny_pure ?_)
  rw [if_neg (by simp), if_pos (by simp)]
  refine wpAny_bind (wpAny_pure ?_)
  refine wpAny_bind (wpAny_holding (wp_whole hP ?_))
  dsimp only
  rw [if_neg (by simp)]
  refine wpAny_bind (wpAny_newObj_type ?_ (by simp [sizeOk]))
  refine wpAny_pure ⟨loop_quiet _, ?_⟩
  generalize hH : s.heap.push { cls := .type "list", data := .seq ([] : List Value).toArray } = H
  have hl : H.IsList s.heap.objs.size ([] : List Value).toArray := ⟨_, by rw [← hH]; exact Heap.get?_push_size _ rfl, rfl, 0, rfl⟩
  have hE : Ext s.heap H := fun b o e => by rw [← hH]; exact Heap.get?_push_of_some _ e
  have step : ∀ {h₁ h₂ : Heap}, Ext s.heap h₁ → Heap.SameBut s.heap.objs.size h₁ h₂ → Ext s.heap h₂ := fun e1 hs b o e => by
    rw [hs.2 b (Nat.ne_of_lt (Heap.lt_size e))]; exact e1 b o e
  have hL := hbig
  have l0 := h0.len
  have l1 := h1.len
  have l2 := h2.len
  simp only [List.length_append] at hL
  have b0 : bm (codes (a0 ++ a1 ++ a2).toArray) 0 := by
    have := bm_at (pre := []) (post := a1 ++ a2) (.inl rfl) h0
    simpa using this
  have b1 : bm (codes (a0 ++ a1 ++ a2).toArray) a0.length := bm_at (.inr (by simpa using h0.last [])) h1
  have b2 : bm (codes (a0 ++ a1 ++ a2).toArray) (a0.length + a1.length) := by
    have := bm_at (pre := a0 ++ a1) (post := []) (.inr (h1.last a0)) h2
    simpa using this
  have n1 : ∀ r, 1 ≤ r → r < a0.length → ¬ bm (codes (a0 ++ a1 ++ a2).toArray) r := fun r ha hb => by
    have := bm_not (pre := []) (post := a1 ++ a2) h0 (r := r) (by simp; omega) (by simpa using hb)
    simpa using this
  have n2 : ∀ r, a0.length + 1 ≤ r → r < a0.length + a1.length → ¬ bm (codes (a0 ++ a1 ++ a2).toArray) r := fun r ha hb => bm_not h1 ha hb
  have n3 : ∀ r, a0.length + a1.length + 1 ≤ r → ¬ bm (codes (a0 ++ a1 ++ a2).toArray) r := fun r ha => by
    by_cases hr : r < a0.length + a1.length + a2.length
    · have := bm_not (pre := a0 ++ a1) (post := []) h2 (r := r) (by simp; omega) (by simpa using hr)
      simpa using this
    · exact bm_past (by simp; omega)
  refine loop_step (s := { s with heap := H }) (done := 0) (p := 0) (hP.keeps hE) hl .nil (by simp; omega) (by simp) (Nat.le_refl _) b0 (fun r _ h' => absurd h' (Nat.not_lt_zero _)) ?_
  intro H1 k1 vs1 s1 l1' y1
  have e1 := step hE s1
  rw [if_neg (by omega), List.append_nil, List.nil_append] at y1
  refine loop_step (s := { s with heap := H1, toks := k1 }) (done := 1) (p := a0.length) (hP.keeps e1) l1' y1 (by simp; omega) (by simp) (by omega) b1 n1 ?_
  intro H2 k2 vs2 s2 l2' y2
  have e2 := step e1 s2
  rw [if_pos (by omega)] at y2
  refine loop_step (s := { s with heap := H2, toks := k2 }) (done := a0.length + 1) (p := a0.length + a1.length) (hP.keeps e2) l2' y2 (by simp; omega) (by simp) (by omega) b2 n2 ?_
  intro H3 k3 vs3 s3 l3' y3
  have e3 := step e2 s3
  rw [if_pos (by omega)] at y3
  refine loop_end (s := { s with heap := H3, toks := k3 }) (done := a0.length + a1.length + 1) (hP.keeps e3) l3' y3 (by simp) (by simp; omega) (by simp; omega) ?_ ?_ n3 ?_
  · simp
    omega
  · simp
  intro h' t' k s4
  have e4 := step e3 s4
  have fin : bcat ([#[46, 46]] ++ [(a0 ++ a1 ++ a2).toArray.extract 1 a0.length] ++ [#[46, 46]] ++
      [(a0 ++ a1 ++ a2).toArray.extract (a0.length + 1) (a0.length + a1.length)] ++ [#[46, 46]] ++ [(a0 ++ a1 ++ a2).toArray.extract (a0.length + a1.length + 1) (a0 ++ a1 ++ a2).toArray.size]) =
      ((46 :: a0) ++ (46 :: a1) ++ (46 :: a2)).toArray := by
    unfold bcat
    congr 1
    simp only [List.map_append, List.map_cons, List.map_nil, List.flatten_append, List.flatten_cons, List.flatten_nil, ext_list, List.nil_append, List.append_nil, List.size_toArray]
    have x0 : ((a0 ++ a1 ++ a2).take a0.length).drop 1 = a0.tail := by
      rw [List.append_assoc, List.take_left, List.drop_one]
    have x1 : ((a0 ++ a1 ++ a2).take (a0.length + a1.length)).drop (a0.length + 1) = a1.tail := by
      rw [← List.length_append, List.take_left, ← List.drop_drop, List.drop_left, List.drop_one]
    have x2 : ((a0 ++ a1 ++ a2).take (a0 ++ a1 ++ a2).length).drop (a0.length + a1.length + 1) = a2.tail := by
      rw [List.take_length, ← List.length_append, ← List.drop_drop, List.drop_left, List.drop_one]
    rw [x0, x1, x2]
    have t0 := h0.tail
    have t1 := h1.tail
    have t2 := h2.tail
    generalize a0.tail = m0 at t0
    generalize a1.tail = m1 at t1
    generalize a2.tail = m2 at t2
    subst t0 t1 t2
    simp
  rw [fin]
  exact h h' t' k e4
end
end Mine
end
section
open PySem PySem.W PyProof.Rows
set_option maxRecDepth 100000
set_option maxHeartbeats 4000000
namespace Mine
theorem fresh_ML : True := by w_top off; trivial
section
variable {prog : Program} {w : World} {A : Around} {E : Value → Shared → Prop} {s : Shared} {mg mb : Str → Option Value}

theorem enter {n k : Nat} {a : Addr} {o : Obj} {pm cd doc : Value} {args : List Value} {Q : Value → Shared → Prop}
    (R : Room A (n + 1)) (ho : s.heap.get? a = some o) (hd : o.data = .func (Calls.docDef (nameAt k) (parsAt k) (bodyAt k) (scopeAt k) pm cd doc)) (hl : s.heap.NoLimit) (hc : s.heap.CodeRec cd (nameAt k))
    (hbind : bindArgs (Calls.docDef (nameAt k) (parsAt k) (bodyAt k) (scopeAt k) pm cd doc) ⟨args, []⟩ = pure (((parsAt k).args.map (·.arg)).zip args))
    (hloc : ∀ x ∈ ((parsAt k).args.map (·.arg)).zip args, (scopeAt k).names.lookup x.1 = some .local)
    (h : ∀ h₁ L tk, Fr s.heap L h₁ (fun x => (((parsAt k).args.map (·.arg)).zip args).reverse.lookup x) →
      wpAny (model prog w) (A.deeper (envOf (nameAt k) (scopeAt k) L a cd)) (execs (bodyAt k) (envOf (nameAt k) (scopeAt k) L a cd))
        (fun f s' => Q (match f with | .ret v => v | _ => .none) s') (fun _ _ => False) { s with heap := h₁, toks := tk })
    (hco : (scopeAt k).isCoroutine = false := by rfl) (hgen : (scopeAt k).isGenerator = false := by rfl) (hk : (scopeAt k).kind = .function := by rfl)
    (hcell : ∀ x ∈ (scopeAt k).names, x.2 ≠ .cell := by decide) : wpAny (model prog w) A (call (.ref a) args []) Q E s := by
  refine wpAny_call (call_pos_ret (by have := R.depth; omega) ho hd hl hc hbind hloc (fun h₁ F => ?_) hco hgen hk hcell)
  exact h h₁ _ _ F
/-- a text that is_HDN takes -/
structure HdnOk (x : Str) : Prop where
  two : 2 ≤ x.cps.size
  few : x.cps.size < 1000
  fig : ∀ q : Nat, Sre.isDigit (x.cps[q]?.getD 0) = false
  ne : (x == Str.ofString "") = false
  first : (Txt.item x 0 == Str.ofString ".") = false
  last : (Txt.item x (-1) == Str.ofString ".") = false
theorem hdn_call {n : Nat} {a : Addr} {x : Str} {t : Tok} {Q : Value → Shared → Prop} (G : Gd mg mb s.heap) (R : Room A (n + 1)) (e : mg (nameAt 5) = some (.ref a)) (hx : HdnOk x)
    (h : ∀ h' tk, Ext s.heap h' → Q (.bool true) { s with heap := h', toks := tk }) : wpAny (model prog w) A (call (.ref a) [.str x t] []) Q E s := by
  obtain ⟨a', o, pm, cd, doc, e', ho, hd, hc⟩ := G.fn 5 (by decide)
  cases e.symm.trans e'
  refine enter R ho hd G.lim hc rfl (locs rfl) fun h₁ L tk F => ?_
  have hx1 : x.length ≤ 1000 := Nat.le_of_lt hx.few
  obtain ⟨P, eP, hP⟩ := G.patA
  have hx2 := hx.ne
  have hx3 := hx.first
  have hx4 := hx.last
  repeat' (first | walk1 | (dsimp only; walk1))
  refine ld_global_at F G.g eP ?_
  have hP1 := hP.keeps F.keep
  refine getMethod_builtin (T := "re.Pattern") (by obtain ⟨fs, T, ws, n, h1, _⟩ := hP1; exact ⟨_, h1, rfl⟩) pat_attrs slot_search type_search (fun a ea => by cases ea; obtain ⟨fs, T, ws, n, h1, _⟩ := hP1; exact ⟨_, h1, rfl⟩) ?_
  repeat' (first | walk1 | (dsimp only; walk1))
  refine call_search hP1 hx.two hx.few hx.fig ?_
  repeat' (first | walk1 | (dsimp only; walk1))
  all_goals first
    | (exfalso; simp_all; done)
    | exact h _ _ F.keep

def dotS : Str := Str.ofString "."
def reachF (x : Str) : Str :=
  if 0 ≤ Txt.find x (Str.ofString ".") then
    if 0 ≤ Txt.find (Txt.slice x (some (Txt.find x (Str.ofString ".") + 1)) none) (Str.ofString ".") ∨ (Txt.slice x (some (Txt.find x (Str.ofString ".") + 1)) none == Str.ofString "local") = true
    then Str.ofString "." ++ Txt.slice x (some (Txt.find x (Str.ofString ".") + 1)) none else x
  else x
theorem reach_call {n : Nat} {a : Addr} {x : Str} {t : Tok} {Q : Value → Shared → Prop} (G : Gd mg mb s.heap) (R : Room A (n + 2)) (e : mg (nameAt 7) = some (.ref a)) (hx : HdnOk x)
    (h : ∀ h' tk t', Ext s.heap h' → Q (.str (reachF x) t') { s with heap := h', toks := tk }) : wpAny (model prog w) A (call (.ref a) [.str x t] []) Q E s := by
  obtain ⟨a', o, pm, cd, doc, e', ho, hd, hc⟩ := G.fn 7 (by decide)
  cases e.symm.trans e'
  refine enter R ho hd G.lim hc rfl (locs rfl) fun h₁ L tk F => ?_
  have hx1 : x.length ≤ 1000 := Nat.le_of_lt hx.few
  have key : ∀ v, v = reachF x → ∀ h' tk t', Ext s.heap h' → Q (.str v t') { s with heap := h', toks := tk } := fun v e => e ▸ h
  clear h
  obtain ⟨a1, o1, pm1, cd1, doc1, e1, ho1, hd1, hc1⟩ := G.fn 5 (by decide)
  repeat' (first | walk1 | (dsimp only; walk1))
  · rename_i F'
    refine ld_global_at F' G.g e1 ?_
    refine callWith_def hd1 ?_
    repeat' (first | walk1 | (dsimp only; walk1))
    refine hdn_call (G.ext F'.keep) R.deeper e1 hx ?_
    intro h' tk k'
    have F1 := F'.keeps k'
    repeat' (first | walk1 | (dsimp only; walk1))
    all_goals (refine key _ ?_ _ _ _ F1.keep; unfold reachF; (try simp only [*]); (try simp [*]))
  · rename Fr _ _ _ _ => F9
    refine key _ ?_ _ _ _ F9.keep
    unfold reachF
    rw [if_neg (by assumption)]

def dmF (x y : Str) : Bool :=
  if (Txt.lower x == Txt.lower y) = true then true
  else if Txt.rfind (Txt.lower x) (Txt.lower y) = -1 ∨ Txt.rfind (Txt.lower x) (Txt.lower y) = 0 then false
  else Txt.startswith (Txt.lower y) (Str.ofString ".")
theorem dm_call {n : Nat} {a : Addr} {x y : Str} {t u : Tok} {Q : Value → Shared → Prop} (G : Gd mg mb s.heap) (R : Room A (n + 2)) (e : mg (nameAt 6) = some (.ref a)) (h1 : x.length ≤ 100) (h2 : y.length ≤ 100)
    (hx : HdnOk (Txt.lower x)) (hy : HdnOk (Txt.slice (Txt.lower y) (some 1) none))
    (h : ∀ h' tk, Ext s.heap h' → Q (.bool (dmF x y)) { s with heap := h', toks := tk }) : wpAny (model prog w) A (call (.ref a) [.str x t, .str y u] []) Q E s := by
  obtain ⟨a', o, pm, cd, doc, e', ho, hd, hc⟩ := G.fn 6 (by decide)
  cases e.symm.trans e'
  refine enter R ho hd G.lim hc rfl (locs rfl) fun h₁ L tk F => ?_
  have key : ∀ v, v = dmF x y → ∀ h' tk, Ext s.heap h' → Q (.bool v) { s with heap := h', toks := tk } := fun v e => e ▸ h
  clear h
  obtain ⟨a1, o1, pm1, cd1, doc1, e1, ho1, hd1, hc1⟩ := G.fn 5 (by decide)
  repeat' (first | walk1 | (dsimp only; walk1))
  · rename Fr _ _ _ _ => F9
    refine key _ ?_ _ _ F9.keep
    unfold dmF
    rw [if_pos (by assumption)]
  · rename Fr _ _ _ _ => F9
    refine ld_global_at F9 G.g e1 ?_
    refine callWith_def hd1 ?_
    repeat' (first | walk1 | (dsimp only; walk1))
    refine hdn_call (G.ext F9.keep) R.deeper e1 hx ?_
    intro h' tk k'
    have F1 := F9.keeps k'
    clear F9
    repeat' (first | walk1 | (dsimp only; walk1))
    all_goals (rename Fr _ _ _ _ => F9)
    all_goals try (refine key _ ?_ _ _ F9.keep; unfold dmF; simp [*]; done)
    refine ld_global_at F9 G.g e1 ?_
    refine callWith_def hd1 ?_
    repeat' (first | walk1 | (dsimp only; walk1))
    rename Fr _ _ _ _ => F8
    refine hdn_call (G.ext F8.keep) R.deeper e1 hy ?_
    intro h' tk k'
    have F2 := F8.keeps k'
    clear F8
    repeat' (first | walk1 | (dsimp only; walk1))
    all_goals (rename Fr _ _ _ _ => F9)
    all_goals try (refine key _ ?_ _ _ F9.keep; unfold dmF; simp [*]; done)
end
end Mine
end
section
open PySem PySem.W PyProof.Rows
set_option maxRecDepth 100000
set_option maxHeartbeats 4000000
namespace Mine
theorem fresh_ML2 : True := by w_top off; trivial
section
variable {prog : Program} {w : World} {A : Around} {E : Value → Shared → Prop} {s : Shared} {mg mb : Str → Option Value}
theorem quote_call {n : Nat} {a : Addr} {a0 a1 a2 : List UInt8} {t : Tok} {Q : Value → Shared → Prop} (G : Gd mg mb s.heap) (R : Room A (n + 2)) (e : mg (nameAt 10) = some (.ref a))
    (h0 : Rw a0) (h1 : Rw a1) (h2 : Rw a2) (hbig : (a0 ++ a1 ++ a2).length < 10000)
    (h : ∀ h' tk t', Ext s.heap h' → Q (.bytes ((46 :: a0) ++ (46 :: a1) ++ (46 :: a2)).toArray t') { s with heap := h', toks := tk }) :
    wpAny (model prog w) A (call (.ref a) [.bytes (a0 ++ a1 ++ a2).toArray t] []) Q E s := by
  obtain ⟨a', o, pm, cd, doc, e', ho, hd, hc⟩ := G.fn 10 (by decide)
  cases e.symm.trans e'
  refine enter R ho hd G.lim hc rfl (locs rfl) fun h₁ L tk F => ?_
  obtain ⟨P, eP, hP⟩ := G.patB
  repeat' (first | walk1 | (dsimp only; walk1))
  refine ld_global_at F G.g eP ?_
  have hP1 := hP.keeps F.keep
  refine getMethod_builtin (T := "re.Pattern") (by obtain ⟨fs, T, ws, n, h1, _⟩ := hP1; exact ⟨_, h1, rfl⟩) pat_attrs slot_sub type_sub (fun a ea => by cases ea; obtain ⟨fs, T, ws, n, h1, _⟩ := hP1; exact ⟨_, h1, rfl⟩) ?_
  repeat' (first | walk1 | (dsimp only; walk1))
  refine call_sub hP1 h0 h1 h2 hbig ?_
  intro h' t' k e'
  exact h h' _ t' (Ext.trans F.keep e')
end
end Mine
end
section
open PySem PySem.W PyProof.Rows
set_option maxRecDepth 100000
set_option maxHeartbeats 4000000
namespace Mine
theorem fresh_ML3 : True := by w_top off; trivial
section
variable {prog : Program} {w : World} {A : Around} {E : Value → Shared → Prop} {s : Shared} {mg mb : Str → Option Value}
theorem newList_mk {M : Model} {vs : List Value} {Q : Value → Shared → Prop} (hsz : vs.length ≤ 1000)
    (h : ∀ h' D, Ext s.heap h' → s.heap.get? D = none → h'.IsList D vs.toArray → Q (.ref D) { s with heap := h' }) : wpAny M A (newList vs) Q E s :=
  wpAny_newObj_type (h _ _ (fun _ _ e => Heap.get?_push_of_some _ e) (get_fresh _ (Nat.le_refl _)) ⟨_, Heap.get?_push_size _ rfl, rfl, 0, rfl⟩)
    (by show vs.toArray.size ≤ sizeLine; rw [List.size_toArray, sizeLine_eq]; omega)
/-- a list of four lists of four ints -/
def MatAt (h : Heap) (f : Addr) (d : Nat → Nat → Int) : Prop :=
  ∃ (r0 r1 r2 r3 : Addr) (t : Nat → Nat → Tok), h.IsList f [.ref r0, .ref r1, .ref r2, .ref r3].toArray ∧
    h.IsList r0 [.int (d 0 0) (t 0 0), .int (d 0 1) (t 0 1), .int (d 0 2) (t 0 2), .int (d 0 3) (t 0 3)].toArray ∧
    h.IsList r1 [.int (d 1 0) (t 1 0), .int (d 1 1) (t 1 1), .int (d 1 2) (t 1 2), .int (d 1 3) (t 1 3)].toArray ∧
    h.IsList r2 [.int (d 2 0) (t 2 0), .int (d 2 1) (t 2 1), .int (d 2 2) (t 2 2), .int (d 2 3) (t 2 3)].toArray ∧
    h.IsList r3 [.int (d 3 0) (t 3 0), .int (d 3 1) (t 3 1), .int (d 3 2) (t 3 2), .int (d 3 3) (t 3 3)].toArray
local macro_rules | `(tactic| walk_at "subscriptTail") => `(tactic| (refine item_at (by assumption) (by decide) (by decide) rfl ?_))
theorem pairs_call {n : Nat} {a f : Addr} {d : Nat → Nat → Int} {Q : Value → Shared → Prop} (G : Gd mg mb s.heap) (R : Room A (n + 1)) (e : mg (nameAt 13) = some (.ref a)) (hf : MatAt s.heap f d)
    (h : ∀ h' tk D t0 t1 t2, Ext s.heap h' → s.heap.get? D = none → h'.IsList D [.int (d 0 1 + d 2 3) t0, .int (d 0 2 + d 1 3) t1, .int (d 0 3 + d 1 2) t2].toArray → Q (.ref D) { s with heap := h', toks := tk }) :
    wpAny (model prog w) A (call (.ref a) [.ref f] []) Q E s := by
  obtain ⟨a', o, pm, cd, doc, e', ho, hd, hc⟩ := G.fn 13 (by decide)
  cases e.symm.trans e'
  refine enter R ho hd G.lim hc rfl (locs rfl) fun h₁ L tk F => ?_
  obtain ⟨r0, r1, r2, r3, t, l, l0, l1, l2, l3⟩ := hf
  have l' := l.at fun o e => F.keep _ o e
  have l0' := l0.at fun o e => F.keep _ o e
  have l1' := l1.at fun o e => F.keep _ o e
  have l2' := l2.at fun o e => F.keep _ o e
  have l3' := l3.at fun o e => F.keep _ o e
  clear l l0 l1 l2 l3
  repeat' (first | walk1 | (dsimp only; walk1))
  refine newList_mk (by simp) fun h' D e' hD l => ?_
  refine h h' _ D _ _ _ (Ext.trans F.keep e') ?_ l
  cases q : s.heap.get? D with
  | none => rfl
  | some o => have := F.keep _ _ q; rw [hD] at this; cases this
end
end Mine
end
section
open PySem PySem.W PyProof.Rows
set_option maxRecDepth 100000
set_option maxHeartbeats 4000000
namespace Mine
local macro_rules | `(tactic| walk_at "idle") => `(tactic| skip)
local macro_rules | `(tactic| walk_at "idle") => `(tactic| skip)
local macro_rules | `(tactic| walk_at "idle") => `(tactic| skip)
local macro_rules | `(tactic| walk_at "idle") => `(tactic| skip)
local macro_rules | `(tactic| walk_at "idle") => `(tactic| skip)
theorem fresh_ML4 : True := by w_top off; trivial
section
variable {prog : Program} {w : World} {A : Around} {E : Value → Shared → Prop} {s : Shared} {mg mb : Str → Option Value}
theorem ld_boot {h₀ : Heap} {L a : Addr} {m : Str → Option Value} {name x : Str} {scope : Scope} {cd v : Value} {pos : Pos} {Q : Value → Shared → Prop} {M : Model} (F : Fr h₀ L s.heap m) (G : Gd mg mb h₀)
    (hx : x ∈ (["list", "range", "len", "sum", "zip", "round"] : List Str)) (hv : bootBuiltins x = some v) (h : Q v s)
    (hk : scope.kind = .function := by rfl) (hl : (envOf name scope L a cd).kindOf x = some .globalImplicit := by rfl) (hd : (x == ("__debug__" : Str)) = false := by decide) :
    wpAny M A (eval (.Name x pos) (envOf name scope L a cd)) Q E s :=
  Calls.Name_function_global hk hl (Calls.loadGlobal_builtin (env := envOf name scope L a cd) (G.g.keeps F.keep) (G.bi x hx).1 (G.b.keeps F.keep) ((G.bi x hx).2.trans hv) h) hd
theorem boot_zip : bootBuiltins "zip" = some (.type "zip") := by rfl
theorem boot_range : bootBuiltins "range" = some (.type "range") := by rfl
theorem boot_list : bootBuiltins "list" = some (.type "list") := by rfl
theorem boot_len : bootBuiltins "len" = some (.builtin "len") := by rfl
theorem boot_sum : bootBuiltins "sum" = some (.builtin "sum") := by rfl
theorem boot_round : bootBuiltins "round" = some (.builtin "round") := by rfl
/-- how many first labels two rows have in common -/
def sharedF : List Str → List Str → Nat
  | x :: xs, y :: ys => if x = y then sharedF xs ys + 1 else 0
  | _, _ => 0
local macro_rules | `(tactic| walk_at "nocall") => `(tactic| ((fail_if_success (with_reducible show wpAny _ _ (call _ _ _) _ _ _)); (first | walk1 | (dsimp only; walk1))))
theorem shared_drop {xs ys : List Str} {i : Nat} {x y : Str} (hx : xs[i]? = some x) (hy : ys[i]? = some y) :
    sharedF (xs.drop i) (ys.drop i) = if x = y then sharedF (xs.drop (i + 1)) (ys.drop (i + 1)) + 1 else 0 := by
  obtain ⟨h1, e1⟩ := List.getElem?_eq_some_iff.mp hx
  obtain ⟨h2, e2⟩ := List.getElem?_eq_some_iff.mp hy
  rw [List.drop_eq_getElem_cons h1, List.drop_eq_getElem_cons h2, e1, e2]
  rfl
theorem shared_done {xs ys : List Str} : sharedF (xs.drop (xs.zip ys).length) (ys.drop (xs.zip ys).length) = 0 := by
  rw [List.length_zip]
  rcases Nat.le_total xs.length ys.length with h | h
  · rw [Nat.min_eq_left h, List.drop_length]; unfold sharedF; rfl
  · rw [Nat.min_eq_right h, List.drop_length]; cases List.drop ys.length xs <;> rfl
theorem shared_call {n : Nat} {a l1 l2 : Addr} {vs ws : List Value} {xs ys : List Str} {Q : Value → Shared → Prop} (G : Gd mg mb s.heap) (R : Room A (n + 1)) (e : mg (nameAt 12) = some (.ref a))
    (h1 : s.heap.IsList l1 vs.toArray) (h2 : s.heap.IsList l2 ws.toArray) (k1 : StrsAre vs xs) (k2 : StrsAre ws ys) (b1 : xs.length ≤ 10) (b2 : ys.length ≤ 10)
    (h : ∀ h' tk t, Ext s.heap h' → Q (.int (sharedF xs ys) t) { s with heap := h', toks := tk }) :
    wpAny (model prog w) A (call (.ref a) [.ref l1, .ref l2] []) Q E s := by
  obtain ⟨a', o, pm, cd, doc, e', ho, hd, hc⟩ := G.fn 12 (by decide)
  cases e.symm.trans e'
  refine enter R ho hd G.lim hc rfl (locs rfl) fun h₁ L tk F => ?_
  have h1' := h1.at fun o e => F.keep _ o e
  have h2' := h2.at fun o e => F.keep _ o e
  have N : News s.heap L h₁ [] := .nil
  have hz := R.hh
  repeat' (first | walk1 | (dsimp only; walk1))
  rename Fr _ _ _ _ => F1
  rename News _ _ _ _ => N1
  refine For_pair3F F1 hz rfl rfl rfl ?_ (fun _ => rfl)
  repeat' (first | walk1 | (dsimp only; walk1))
  refine ld_boot F1 G (by decide) boot_zip ?_
  repeat' (walk_at "nocall")
  refine call_zip_lists hz h1 h2 (StrsAre.areOf k1) (StrsAre.areOf k2) F1 N1 ?_
  intro h2h z F2 N2 S2
  refine PairSrc2L.at S2 _ rfl _ _ _ _ (fun i m _ => ∃ t, m "many" = some (.int i t) ∧ sharedF xs ys = i + sharedF (xs.drop i) (ys.drop i)) ⟨_, rfl, ?_⟩ ?_ ?_
  · simp
  · rintro i x y vx vy m1 news1 s1 own ⟨hh1, tk1, rfl⟩ hx hy kx ky ⟨t, hm, hsh⟩ hmap hapart F3 N3
    obtain ⟨tx, rfl⟩ := ItemKind.str_is kx
    obtain ⟨ty, rfl⟩ := ItemKind.str_is ky
    have em : (fun z => if z = Str.ofString "b" then some (Value.str y ty) else if z = Str.ofString "a" then some (Value.str x tx) else m1 z) =
        (fun z => if z = Str.ofString "b" then some (Value.str y ty) else if z = Str.ofString "a" then some (Value.str x tx) else if z = Str.ofString "many" then some (Value.int i t) else m1 z) := by
      funext z
      split
      · rfl
      split
      · rfl
      split
      · rename_i e; rw [e]; exact hm
      · rfl
    rw [em] at F3
    dsimp only at F3 N3 ⊢
    repeat' (walk_at "nocall")
    · have hne : ¬ x = y := by simp_all
      rw [shared_drop hx hy, if_neg hne, Nat.add_zero] at hsh
      rw [← hsh]
      exact h _ _ _ F3.keep
    · have heq : x = y := by simp_all
      rw [shared_drop hx hy, if_pos heq] at hsh
      omega
  · rintro h' tk' m' news' F3 N3 hmap ⟨t, hm, hsh⟩
    repeat' (walk_at "nocall")
    refine ld F3 hm ?_
    rw [shared_done, Nat.add_zero] at hsh
    rw [← hsh]
    exact h _ _ _ F3.keep
end
end Mine
end
section
open PySem PySem.W PyProof.Rows
set_option maxRecDepth 100000
set_option maxHeartbeats 4000000
namespace Mine
theorem fresh_MN : True := by w_top off; trivial
/-- rows of labels, a or b, three at most -/
def rows15 : List (List Nat) := [[]] ++ [[97], [98]] ++ [[97, 97], [97, 98], [98, 97], [98, 98]] ++ [[97, 97, 97], [97, 97, 98], [97, 98, 97], [97, 98, 98], [98, 97, 97], [98, 97, 98], [98, 98, 97], [98, 98, 98]]
/-- and with a label of one's own -/
def paths : List (List Nat) := rows15 ++ rows15.flatMap fun r => [r ++ [119], r ++ [120], r ++ [121], r ++ [122]]
def nameL (p : List Nat) : List Nat := (p.reverse.flatMap fun c => [c, 46]) ++ [108, 111, 99, 97, 108]
def nameS (p : List Nat) : Str := ⟨(nameL p).toArray⟩
def hdnB (x : Str) : Bool := decide (2 ≤ x.cps.size) && decide (x.cps.size < 1000) && x.cps.toList.all (fun c => !Sre.isDigit c) && !(x == Str.ofString "") && !(Txt.item x 0 == Str.ofString ".") && !(Txt.item x (-1) == Str.ofString ".")
theorem hdn_of {x : Str} (h : hdnB x = true) : HdnOk x := by
  unfold hdnB at h
  simp only [Bool.and_eq_true, decide_eq_true_eq, Bool.not_eq_true'] at h
  obtain ⟨⟨⟨⟨⟨h1, h2⟩, h3⟩, h4⟩, h5⟩, h6⟩ := h
  refine ⟨h1, h2, fun q => ?_, h4, h5, h6⟩
  by_cases hq : q < x.cps.size
  · have := List.all_eq_true.mp h3 x.cps[q] (by simp)
    simpa [hq] using this
  · simp [hq]; rfl
theorem paths_hdn : ∀ p ∈ paths, hdnB (nameS p) = true := by decide +kernel
theorem paths_reach : ∀ p ∈ paths, reachF (nameS p) = if p = [] then nameS [] else Str.ofString "." ++ nameS p.dropLast := by decide +kernel
theorem paths_drop : ∀ p ∈ paths, p.dropLast ∈ paths := by decide +kernel
theorem paths_cut : ∀ p ∈ paths, Txt.slice (Str.ofString "." ++ nameS p) (some 1) none = nameS p := by decide +kernel

def sufB (f p : List Nat) : Bool := decide ((nameL p).length + 1 ≤ (nameL f).length) && (nameL f).drop ((nameL f).length - ((nameL p).length + 1)) == 46 :: nameL p
theorem suf_is : ∀ f ∈ paths, ∀ p ∈ paths, sufB f p = (p.isPrefixOf f && p != f) := by decide +kernel
theorem codes_in : ∀ p ∈ paths, (nameL p).all (fun c => [46, 97, 98, 99, 108, 111, 119, 120, 121, 122].contains c) = true := by decide +kernel
theorem o_once : ∀ p ∈ paths, (List.range (nameL p).length).all (fun j => ((nameL p)[j]? == some 111) == (j + 4 == (nameL p).length)) = true := by decide +kernel
theorem name_few : ∀ p ∈ paths, (nameL p).length ≤ 20 ∧ 5 ≤ (nameL p).length := by decide +kernel
theorem o_iff {p : List Nat} (hp : p ∈ paths) (j : Nat) : (nameL p)[j]? = some 111 ↔ j + 4 = (nameL p).length := by
  have h := List.all_eq_true.mp (o_once p hp)
  have h5 := (name_few p hp).2
  by_cases hj : j < (nameL p).length
  · have := h j (List.mem_range.mpr hj)
    rw [beq_iff_eq] at this
    rw [← beq_iff_eq, this, beq_iff_eq]
  · rw [List.getElem?_eq_none (by omega)]
    constructor
    · intro e; cases e
    · intro e; omega
theorem low_of {l : List Nat} (h : l.all (fun c => [46, 97, 98, 99, 108, 111, 119, 120, 121, 122].contains c) = true) : Txt.lower ⟨l.toArray⟩ = ⟨l.toArray⟩ := by
  have h' := List.all_eq_true.mp h
  rw [lower_ascii (fun c hc => ?_)]
  · congr 1
    have : ∀ c ∈ l, lo1 c = c := fun c hc => by
      have := h' c hc
      simp only [List.contains_cons, List.contains_nil, Bool.or_false, Bool.or_eq_true, beq_iff_eq] at this
      rcases this with h | h | h | h | h | h | h | h | h | h <;> subst h <;> rfl
    apply Array.ext'
    simp only [List.map_toArray]
    exact List.map_congr_left this |>.trans (List.map_id _)
  · have := h' c (by simpa using hc)
    simp only [List.contains_cons, List.contains_nil, Bool.or_false, Bool.or_eq_true, beq_iff_eq] at this
    omega
theorem low_up {l : List Nat} (h : l.all (fun c => [46, 97, 98, 99, 108, 111, 119, 120, 121, 122].contains c) = true) : Txt.lower (Txt.upper ⟨l.toArray⟩) = ⟨l.toArray⟩ := by
  have h' := List.all_eq_true.mp h
  have key : ∀ c ∈ l, c < 128 ∧ up1 c < 128 ∧ lo1 (up1 c) = c := fun c hc => by
    have := h' c hc
    simp only [List.contains_cons, List.contains_nil, Bool.or_false, Bool.or_eq_true, beq_iff_eq] at this
    rcases this with h | h | h | h | h | h | h | h | h | h <;> subst h <;> decide
  rw [upper_ascii (fun c hc => (key c (by simpa using hc)).1), lower_ascii (fun c hc => ?_)]
  · congr 1
    apply Array.ext'
    simp only [List.map_toArray, List.map_map]
    exact List.map_congr_left (fun c hc => (key c hc).2.2) |>.trans (List.map_id _)
  · simp only [List.map_toArray, List.mem_map] at hc
    obtain ⟨d, hd, rfl⟩ := hc
    exact (key d hd).2.1
theorem rfind_is {f p : List Nat} (hf : f ∈ paths) (hp : p ∈ paths) :
    Txt.rfind (nameS f) ⟨(46 :: nameL p).toArray⟩ = if sufB f p = true then (((nameL f).length - ((nameL p).length + 1) : Nat) : Int) else -1 := by
  have hA : ∀ i, StrLaws.At (nameS f) ⟨(46 :: nameL p).toArray⟩ (nameS f).length i ↔ (i = (nameL f).length - ((nameL p).length + 1) ∧ sufB f p = true) := by
    intro i
    have e1 : (nameS f).length = (nameL f).length := by simp [nameS, Str.length]
    have e2 : (⟨(46 :: nameL p).toArray⟩ : Str).length = (nameL p).length + 1 := by simp [Str.length]
    have hp5 := (name_few p hp).2
    unfold StrLaws.At
    rw [StrLaws.subAt_eq, e1, e2]
    show _ ∧ (((nameL f).toArray.toList.drop i).take _ == _) = true ↔ _
    rw [beq_iff_eq]
    show i + ((nameL p).length + 1) ≤ (nameL f).length ∧ ((nameL f).drop i).take ((nameL p).length + 1) = 46 :: nameL p ↔ _
    constructor
    · rintro ⟨hle, ht⟩
      have ho : (nameL p)[(nameL p).length - 4]? = some 111 := (o_iff hp _).mpr (by omega)
      have hi : (nameL f)[i + ((nameL p).length - 4 + 1)]? = some 111 := by
        have : (((nameL f).drop i).take ((nameL p).length + 1))[(nameL p).length - 4 + 1]? = some 111 := by
          rw [ht, List.getElem?_cons_succ, ho]
        rw [List.getElem?_take_of_lt (by omega), List.getElem?_drop] at this
        exact this
      have hj := (o_iff hf _).mp hi
      have hi' : i = (nameL f).length - ((nameL p).length + 1) := by omega
      refine ⟨hi', ?_⟩
      unfold sufB
      rw [Bool.and_eq_true, decide_eq_true_eq, beq_iff_eq]
      refine ⟨by omega, ?_⟩
      rw [← hi', ← ht, List.take_of_length_le]
      rw [List.length_drop]; omega
    · rintro ⟨rfl, hs⟩
      unfold sufB at hs
      rw [Bool.and_eq_true, decide_eq_true_eq, beq_iff_eq] at hs
      refine ⟨by omega, ?_⟩
      rw [hs.2, List.take_of_length_le (by simp)]
  unfold Txt.rfind
  rcases StrLaws.last_spec (nameS f) ⟨(46 :: nameL p).toArray⟩ with ⟨h0, hn⟩ | ⟨i, h0, hi, _⟩
  · rw [h0]
    have : ¬ sufB f p = true := fun hs => hn _ ((hA _).mpr ⟨rfl, hs⟩)
    rw [if_neg this]
  · rw [h0]
    obtain ⟨rfl, hs⟩ := (hA i).mp hi
    rw [if_pos hs]
theorem dot_name (p : List Nat) : Str.ofString "." ++ nameS p = ⟨(46 :: nameL p).toArray⟩ := by
  apply Str.ext'
  rw [Str.cps_append, show (Str.ofString ".").cps = #[46] by decide +kernel]
  simp [nameS]
theorem all_dot {p : List Nat} (hp : p ∈ paths) : (46 :: nameL p).all (fun c => [46, 97, 98, 99, 108, 111, 119, 120, 121, 122].contains c) = true := by
  rw [List.all_cons, codes_in p hp]; rfl
theorem low_name {f : List Nat} (hf : f ∈ paths) : Txt.lower (Txt.upper (nameS f)) = nameS f := low_up (codes_in f hf)
theorem low_dot {p : List Nat} (hp : p ∈ paths) : Txt.lower (Str.ofString "." ++ nameS p) = Str.ofString "." ++ nameS p := by
  rw [dot_name]; exact low_of (all_dot hp)
theorem head_name : ∀ p ∈ paths, (nameL p).head? ≠ some 46 := by decide +kernel
theorem dm_is {f p : List Nat} (hf : f ∈ paths) (hp : p ∈ paths) : dmF (Txt.upper (nameS f)) (Str.ofString "." ++ nameS p) = (p.isPrefixOf f && p != f) := by
  unfold dmF
  rw [low_name hf, low_dot hp, ← suf_is f hf p hp, dot_name, rfind_is hf hp]
  have hne : (nameS f == (⟨(46 :: nameL p).toArray⟩ : Str)) = false := by
    rw [beq_eq_false_iff_ne]
    intro e
    have e' := congrArg (fun x : Str => x.cps.toList.head?) e
    exact head_name f hf (by simpa [nameS] using e')
  rw [hne, if_neg Bool.false_ne_true]
  have hst : Txt.startswith (⟨(46 :: nameL p).toArray⟩ : Str) (Str.ofString ".") = true := by
    unfold Txt.startswith
    rw [StrLaws.subAt_eq, show (Str.ofString ".").length = 1 by decide +kernel, show (Str.ofString ".").cps = #[46] by decide +kernel]
    simp [Str.length]
  cases hs : sufB f p with
  | false => rw [if_neg Bool.false_ne_true, if_pos (.inl rfl)]
  | true =>
    rw [if_pos rfl, if_neg, hst]
    intro h
    rcases h with h | h
    · omega
    · unfold sufB at hs
      rw [Bool.and_eq_true, decide_eq_true_eq, beq_iff_eq] at hs
      have h0 : (nameL f).length - ((nameL p).length + 1) = 0 := by omega
      rw [h0, List.drop_zero] at hs
      exact head_name f hf (by rw [hs.2]; rfl)
theorem up_len {f : List Nat} (hf : f ∈ paths) : (Txt.upper (nameS f)).length ≤ 100 := by
  have h' := List.all_eq_true.mp (codes_in f hf)
  rw [upper_ascii (fun c hc => ?_)]
  · have := (name_few f hf).1
    simp [Str.length, nameS]; omega
  · have := h' c (by simpa [nameS] using hc)
    simp only [List.contains_cons, List.contains_nil, Bool.or_false, Bool.or_eq_true, beq_iff_eq] at this
    omega
theorem dot_len {p : List Nat} (hp : p ∈ paths) : (Str.ofString "." ++ nameS p).length ≤ 100 := by
  rw [dot_name]
  have := (name_few p hp).1
  simp [Str.length]; omega
theorem name_len {p : List Nat} (hp : p ∈ paths) : (nameS p).length ≤ 20 := by
  have := (name_few p hp).1
  simp [Str.length, nameS]; omega
end Mine
end
section
open PySem PySem.W PyProof.Rows
set_option maxRecDepth 100000
set_option maxHeartbeats 4000000
namespace Mine
theorem fresh_ML5 : True := by w_top off; trivial
section
variable {prog : Program} {w : World} {A : Around} {E : Value → Shared → Prop} {s : Shared} {mg mb : Str → Option Value}
local macro_rules | `(tactic| walk_at "nocall") => `(tactic| ((first | (with_reducible show wpAny _ _ _ _ _ _) | (dsimp only; (with_reducible show wpAny _ _ _ _ _ _))); (fail_if_success (with_reducible show wpAny _ _ (call _ _ _) _ _ _)); (first | walk1 | (dsimp only; walk1))))
/-- the names on the way up, from k labels taken off -/
def wayL : List Nat → Nat → List Str
  | p, 0 => [nameS p]
  | p, n + 1 => nameS p :: wayL p.dropLast n
theorem wayL_snoc : ∀ (n : Nat) (p : List Nat), n = p.length → ∃ front, wayL p n = front ++ [nameS []] := by
  intro n
  induction n with
  | zero => intro p h; have : p = [] := List.length_eq_zero_iff.mp h.symm; subst this; exact ⟨[], rfl⟩
  | succ n ih =>
    intro p h
    obtain ⟨fr, e⟩ := ih p.dropLast (by simp; omega)
    exact ⟨nameS p :: fr, by rw [wayL, e]; rfl⟩
theorem reach_name {q : List Nat} (hq : q ∈ paths) : reachF (nameS q) = if q = [] then nameS [] else Str.ofString "." ++ nameS q.dropLast := paths_reach q hq
theorem ne_dot {q p : List Nat} (hp : p ∈ paths) : ¬ (Str.ofString "." ++ nameS q = nameS p) := by
  rw [dot_name]
  intro e
  have e' := congrArg (fun x : Str => x.cps.toList.head?) e
  exact head_name p hp (by simpa [nameS] using e'.symm)
theorem strs_snoc {vs : List Value} {xs : List Str} (h : StrsAre vs xs) (x : Str) (t : Tok) : StrsAre (vs ++ [.str x t]) (xs ++ [x]) := by
  induction h with
  | nil => exact .cons _ _ .nil
  | cons y t' _ ih => exact .cons _ _ ih
local macro_rules | `(tactic| walk_at "eval Name") => `(tactic| (refine ld (by with_reducible assumption) (by with_reducible assumption) ?_))
local macro_rules | `(tactic| walk_at "subscriptTail") => `(tactic| ((with_reducible show wpAny _ _ (subscriptTail _ _ (Value.ref _) (Value.int _ _)) _ _ _); refine item_last (by with_reducible assumption) ?_))
def UpI (s : Shared) (L D : Addr) (p : List Nat) (k : Nat) (s' : Shared) : Prop :=
  ∃ h' tk m vs front q t t' n, s' = { s with heap := h', toks := tk } ∧ Fr s.heap L h' m ∧ m "names" = some (.ref D) ∧ m "above" = some (.str (reachF (nameS q)) t) ∧ News s.heap L h' [(D, lobj (vs ++ [.str (nameS q) t']) n)] ∧
    StrsAre vs front ∧ front ++ wayL q q.length = wayL p p.length ∧ q ∈ paths ∧ k = q.length + 1 ∧ vs.length + q.length ≤ 10
theorem few_p : ∀ p ∈ paths, p.length ≤ 4 := by decide +kernel
theorem up_call {n : Nat} {a : Addr} {p : List Nat} {t : Tok} {Q : Value → Shared → Prop} (G : Gd mg mb s.heap) (R : Room A (n + 4)) (e : mg (nameAt 14) = some (.ref a)) (hp : p ∈ paths)
    (h : ∀ h' tk D vs, Ext s.heap h' → s.heap.get? D = none → LL h' D vs → StrsAre vs (wayL p p.length) → Q (.ref D) { s with heap := h', toks := tk }) :
    wpAny (model prog w) A (call (.ref a) [.str (nameS p) t] []) Q E s := by
  obtain ⟨a', o, pm, cd, doc, e', ho, hd, hc⟩ := G.fn 14 (by decide)
  cases e.symm.trans e'
  refine enter R ho hd G.lim hc rfl (locs rfl) fun h₁ L tk F => ?_
  have hz := R.hh
  obtain ⟨a1, o1, pm1, cd1, doc1, e1, ho1, hd1, hc1⟩ := G.fn 7 (by decide)
  repeat' (walk_at "nocall")
  refine newList_L (by simp) fun h2 D e2 hD l2 => ?_
  have F2 := F.keeps e2
  have hD0 : s.heap.get? D = none := by
    cases q : s.heap.get? D with
    | none => rfl
    | some o => have := F.keep _ _ q; rw [hD] at this; cases this
  obtain ⟨n2, N2⟩ := l2.news (L := L) (l2.ne_ns F2.ns) hD0
  repeat' (walk_at "nocall")
  rename Fr _ _ _ _ => F3
  rename News _ _ _ _ => N3
  refine ld_global_at F3 G.g e1 ?_
  refine callWith_def hd1 ?_
  repeat' (walk_at "nocall")
  refine reach_call (G.ext F3.keep) R.deeper e1 (hdn_of (paths_hdn p hp)) ?_
  intro h4 k4 t4 e4
  have F4 := F3.keeps e4
  have N4 := N3.grown e4
  clear F3 N3
  repeat' (walk_at "nocall")
  rename Fr _ _ _ _ => F5
  rename News _ _ _ _ => N5
  refine while_rule (UpI s L D p) ?_ (p.length + 1) ⟨_, _, _, [], [], p, _, _, _, rfl, F5, rfl, rfl, N5, .nil, rfl, hp, rfl, by have := few_p p hp; simp; omega⟩
  rintro k s' E' ⟨h', tk', m, vs, front, q, t1, t2, n3, rfl, F6, m1, m2, N6, hs, hfr, hq, rfl, hlen⟩
  have hL6 := (LL.of_news N6 (.head _)).isList
  rw [reach_name hq] at m2
  by_cases hq0 : q = []
  · subst hq0
    rw [if_pos rfl] at m2
    repeat' (walk_at "nocall")
    rw [if_neg (by simp)]
    repeat' (walk_at "nocall")
    refine h h' _ D _ F6.keep hD0 (LL.of_news N6 (.head _)) ?_
    rw [← hfr]
    exact strs_snoc hs _ _
  · rw [if_neg hq0] at m2
    have hlen1 := dot_len (paths_drop q hq)
    repeat' (walk_at "nocall")
    have hnd := ne_dot (q := q.dropLast) hq
    rw [if_pos (by simp [hnd])]
    repeat' (walk_at "nocall")
    · rename News _ _ _ _ => N7
      rename Fr _ _ _ _ => F7
      refine append_L (LL.of_news N7 (.head _)) (by simp; omega) fun h8 hs8 l8 => ?_
      have hDL : D ≠ L := (LL.of_news N7 (.head _)).ne_ns F7.ns
      have F8 := Fr_same F7 hs8 hD0 hDL
      obtain ⟨n8, N8⟩ := l8.news hDL hD0
      rw [paths_cut _ (paths_drop q hq)] at l8 N8
      have hL8 := l8.isList
      clear N7 F7 hs8 hL6
      repeat' (walk_at "nocall")
      refine ld_global_at F8 G.g e1 ?_
      refine callWith_def hd1 ?_
      repeat' (walk_at "nocall")
      refine reach_call (G.ext F8.keep) R.deeper e1 (hdn_of (paths_hdn _ (paths_drop q hq))) ?_
      intro h9 k9 t9 e9
      have F9 := F8.keeps e9
      have N9 := N8.grown e9
      clear F8 N8 hL8 l8
      repeat' (walk_at "nocall")
      rename Fr _ _ _ _ => F10
      rename News _ _ _ _ => N10
      have hlq : q.dropLast.length + 1 = q.length := by
        have := List.length_pos_iff.mpr hq0
        simp; omega
      refine ⟨q.dropLast.length + 1, by omega, _, _, _, vs ++ [.str (nameS q) t2], front ++ [nameS q], q.dropLast, _, _, _, rfl, F10, ?_, rfl, N10, strs_snoc hs _ _, ?_, paths_drop q hq, rfl, ?_⟩
      · exact m1
      · rw [← hfr, ← hlq, wayL, List.append_assoc]; rfl
      · simp; omega
end
end Mine
end
section
open PySem PySem.W PyProof.Rows
set_option maxRecDepth 100000
set_option maxHeartbeats 4000000
namespace Mine
local macro_rules | `(tactic| walk_at "idle") => `(tactic| skip)
local macro_rules | `(tactic| walk_at "idle") => `(tactic| skip)
local macro_rules | `(tactic| walk_at "idle") => `(tactic| skip)
local macro_rules | `(tactic| walk_at "idle") => `(tactic| skip)
local macro_rules | `(tactic| walk_at "idle") => `(tactic| skip)
theorem fresh_ML6 : True := by w_top off; trivial
section
variable {prog : Program} {w : World} {A : Around} {E : Value → Shared → Prop} {s : Shared} {mg mb : Str → Option Value}
local macro_rules | `(tactic| walk_at "nocall") => `(tactic| ((first | (with_reducible show wpAny _ _ _ _ _ _) | (dsimp only; (with_reducible show wpAny _ _ _ _ _ _))); (fail_if_success (with_reducible show wpAny _ _ (call _ _ _) _ _ _)); (first | walk1 | (dsimp only; walk1))))
/-- a dict of lists of bools by names -/
def Und (prog : Program) (w : World) (h : Heap) (d : Addr) (u : Str → Option (List Bool)) : Prop :=
  (d == sysModules) = false ∧ ∃ kvs : List (Str × Value), h.DictOf (strKind prog w) d kvs ∧ ∀ k bs, u k = some bs → ∃ a, valueAt kvs k = some (.ref a) ∧ h.IsList a (bs.map Value.bool).toArray
theorem strs_get : ∀ {vs : List Value} {ws : List Str}, StrsAre vs ws → ∀ (i : Nat) (x : Str), ws[i]? = some x → ∃ t, vs[i]? = some (.str x t)
  | _, _, .nil, i, x, h => by simp at h
  | _, _, .cons y t h, 0, x, e => by simp at e; subst e; exact ⟨t, rfl⟩
  | _, _, .cons y t h, i + 1, x, e => by
    obtain ⟨u, hu⟩ := strs_get h i x (by simpa using e)
    exact ⟨u, by simpa using hu⟩
theorem strs_len : ∀ {vs : List Value} {ws : List Str}, StrsAre vs ws → vs.length = ws.length
  | _, _, .nil => rfl
  | _, _, .cons y t h => by simp [strs_len h]
theorem key_str (x : Str) (t : Tok) : (strKind prog w).is x (.str x t) = true := strKind_is _ _ _ _
local macro_rules | `(tactic| walk_at "eval Name") => `(tactic| (refine ld (by with_reducible assumption) (by with_reducible assumption) ?_))
local macro_rules | `(tactic| walk_at "subscriptTail") => `(tactic| ((with_reducible show wpAny _ _ (subscriptTail _ _ (Value.ref _) (Value.int _ _)) _ _ _); refine item_at (by with_reducible assumption) (by omega) (by omega) (by assumption) ?_))
theorem steps_call {n : Nat} {a W d : Addr} {vs : List Value} {ws : List Str} {u : Str → Option (List Bool)} {j : Nat} {tj : Tok} {Q : Value → Shared → Prop} (G : Gd mg mb s.heap) (R : Room A (n + 1)) (e : mg (nameAt 15) = some (.ref a))
    (hw : s.heap.IsList W vs.toArray) (kw : StrsAre vs ws) (hd : Und prog w s.heap d u) (hu : ∀ x ∈ ws, ∃ bs, u x = some bs ∧ j < bs.length) (hj : j < 10) (hlen : ws.length ≤ 10)
    (h : ∀ h' tk t, Ext s.heap h' → Q (.int ((ws.findIdx fun x => ((u x).getD []).getD j false : Nat) : Int) t) { s with heap := h', toks := tk }) :
    wpAny (model prog w) A (call (.ref a) [.ref W, .ref d, .int j tj] []) Q E s := by
  obtain ⟨a', o, pm, cd, doc, e', ho, hd', hc⟩ := G.fn 15 (by decide)
  cases e.symm.trans e'
  refine enter R ho hd' G.lim hc rfl (locs rfl) fun h₁ L tk F => ?_
  have N : News s.heap L h₁ [] := .nil
  have hz := R.hh
  have hvl := strs_len kw
  refine wpAny_execs_cons ?_
  refine For_invV s.heap rfl rfl ?_ (fun _ => rfl)
  refine Call_ ?_
  refine ld_boot F G (by decide) boot_range ?_
  refine Pv.callWith_type1 ?_
  repeat' (walk_at "nocall")
  refine ld_boot F G (by decide) boot_len ?_
  repeat' (walk_at "nocall")
  refine Calls.call_len_list (hw.at fun o e => F.keep _ o e) (by simp; omega) ?_
  repeat' (walk_at "nocall")
  refine call_range_1 ?_
  have hnL : vs.toArray.size ≤ 1000 := by simp; omega
  dsimp only
  refine iter_rangeJ (h₀ := s.heap) (fun i m nx => m "way" = some (.ref W) ∧ m "under" = some (.ref d) ∧ m "j" = some (.int j tj) ∧ nx = [] ∧ ∀ i' < i, ∃ x, ws[i']? = some x ∧ ((u x).getD []).getD j false = false) hz (IsRange.new ..) hnL (F.push _) (fun p hp => by cases hp) ⟨rfl, rfl, rfl, rfl, fun i hi => by omega⟩ ?_ ?_
  · rintro i t m₁ news₁ h1 tk1 own hi hmap ho ⟨m1, m2, m3, rfl, m4⟩ F1 N1
    obtain ⟨g, F2, gk, gw, gu, gj⟩ : ∃ g, Fr s.heap L h1 g ∧ g "k" = some (.int i t) ∧ g "way" = some (.ref W) ∧ g "under" = some (.ref d) ∧ g "j" = some (.int j tj) :=
      ⟨_, F1, if_pos rfl, (if_neg (by decide)).trans m1, (if_neg (by decide)).trans m2, (if_neg (by decide)).trans m3⟩
    clear F1
    have hi' : i < ws.length := by simpa [hvl] using hi
    obtain ⟨x, hx⟩ : ∃ x, ws[i]? = some x := ⟨_, List.getElem?_eq_getElem hi'⟩
    obtain ⟨tx, hvx⟩ := strs_get kw i x hx
    obtain ⟨bs, hbs, hjb⟩ := hu x (List.mem_of_getElem? hx)
    obtain ⟨hsm, kvs, hdo, hall⟩ := hd
    obtain ⟨ab, hab, hlb⟩ := hall x bs hbs
    have hw1 := hw.at fun o e => F2.keep _ o e
    have hlb1 := hlb.at fun o e => F2.keep _ o e
    have hdo1 := hdo.keep F2.keep
    have hv1 : vs[((i : Nat) : Int).toNat]? = some (.str x tx) := hvx
    dsimp only
    repeat' (walk_at "nocall")
    have hgx : ws.getD ((i : Nat) : Int).toNat Str.empty = x := by rw [Int.toNat_natCast, List.getD_eq_getElem?_getD, hx]; rfl
    rw [hgx]
    refine tail_any hdo1.typeIs slot_dict_getitem.lookup (wpAny_getItem_of (key_str _ _) hdo1.mapOf hab ?_) (by with_unfolding_all rfl)
    repeat' (walk_at "nocall")
    have hbj : (bs.map Value.bool)[((j : Nat) : Int).toNat]? = some (.bool (bs.getD j false)) := by
      rw [Int.toNat_natCast, List.getElem?_map, List.getElem?_eq_getElem hjb, List.getD_eq_getElem?_getD, List.getElem?_eq_getElem hjb]; rfl
    refine item_at hlb1 (by omega) (by omega) hbj ?_
    have hux : ((u x).getD []).getD j false = bs.getD j false := by rw [hbs]; rfl
    repeat' (walk_at "nocall")
    rw [List.nil_append] at N1
    cases hbt : bs.getD j false
    · rw [if_neg (by simp)]
      repeat' (walk_at "nocall")
      exact ⟨_, _, g, own, [], rfl, F2, N1, by simp, fun _ q => q, rfl, gw, gu, gj, rfl, fun k hk => by
        rcases Nat.lt_succ_iff_lt_or_eq.mp hk with q | rfl
        · exact m4 k q
        · exact ⟨x, hx, hux.trans hbt⟩⟩
    · rw [if_pos rfl]
      have hfi : ws.findIdx (fun x => ((u x).getD []).getD j false) = i := by
        refine (List.findIdx_eq hi').mpr ⟨?_, fun k hk => ?_⟩
        · have := (List.getElem?_eq_some_iff.mp hx).2
          rw [this, hux]; exact hbt
        · obtain ⟨x', e1, e2⟩ := m4 k hk
          have := (List.getElem?_eq_some_iff.mp e1).2
          rw [this, e2]
      repeat' (walk_at "nocall")
      have := h h1 (tk1 + 1) t F2.keep
      rw [hfi] at this
      exact this
  · rintro m₁ news₁ h1 tk1 ⟨m1, m2, m3, rfl, m4⟩ F1 N1
    have hfi : ws.findIdx (fun x => ((u x).getD []).getD j false) = ws.length := by
      refine List.findIdx_eq_length.mpr fun x hx => ?_
      obtain ⟨k, hk, e⟩ := List.getElem_of_mem hx
      obtain ⟨x', e1, e2⟩ := m4 k (by simpa [hvl] using hk)
      rw [List.getElem?_eq_getElem hk, e] at e1
      cases e1
      exact e2
    dsimp only
    repeat' (walk_at "nocall")
    refine ld_boot F1 G (by decide) boot_len ?_
    repeat' (walk_at "nocall")
    refine ld F1 m1 ?_
    repeat' (walk_at "nocall")
    refine Calls.call_len_list (hw.at fun o e => F1.keep _ o e) (by simp; omega) ?_
    repeat' (walk_at "nocall")
    rw [hfi, ← hvl] at h
    simpa using h h1 (tk1 + 1 + 1) (tk1 + 1) F1.keep
end
end Mine
end
section
open PySem PySem.W PyProof.Rows
set_option maxRecDepth 100000
set_option maxHeartbeats 4000000
namespace Mine
theorem fresh_ML7 : True := by w_top off; trivial
section
variable {prog : Program} {w : World} {A : Around} {E : Value → Shared → Prop} {s : Shared} {mg mb : Str → Option Value}
local macro_rules | `(tactic| walk_at "nocall") => `(tactic| ((first | (with_reducible show wpAny _ _ _ _ _ _) | (dsimp only; (with_reducible show wpAny _ _ _ _ _ _))); (fail_if_success (with_reducible show wpAny _ _ (call _ _ _) _ _ _)); (first | walk1 | (dsimp only; walk1))))
def yF (x y z : Int) : UInt64 := Float64.add (Float64.add (Float64.mul 4599075939470750515 (Float64.ofInt x)) (Float64.mul 4603489467105573601 (Float64.ofInt y))) (Float64.mul 4592590756007337001 (Float64.ofInt z))
def iF (x y z : Int) : UInt64 := Float64.sub (Float64.mul 4604840546993784750 (Float64.sub (Float64.ofInt x) (yF x y z))) (Float64.mul 4598535507515466056 (Float64.sub (Float64.ofInt z) (yF x y z)))
def qF (x y z : Int) : UInt64 := Float64.add (Float64.mul 4602318531202457272 (Float64.sub (Float64.ofInt x) (yF x y z))) (Float64.mul 4601057523306793533 (Float64.sub (Float64.ofInt z) (yF x y z)))
theorem yiq_call {n : Nat} {a : Addr} {x y z : Int} {tx ty tz : Tok} {Q : Value → Shared → Prop} (G : Gd mg mb s.heap) (R : Room A (n + 1)) (e : mg (nameAt 2) = some (.ref a))
    (hx : 0 ≤ x ∧ x < 1000) (hy : 0 ≤ y ∧ y < 1000) (hz' : 0 ≤ z ∧ z < 1000)
    (h : ∀ h' tk D t0 t1 t2, Ext s.heap h' → PyProof.Rows.IsTup h' D #[.float (yF x y z) t0, .float (iF x y z) t1, .float (qF x y z) t2] → Q (.ref D) { s with heap := h', toks := tk }) :
    wpAny (model prog w) A (call (.ref a) [.int x tx, .int y ty, .int z tz] []) Q E s := by
  obtain ⟨a', o, pm, cd, doc, e', ho, hd', hc⟩ := G.fn 2 (by decide)
  cases e.symm.trans e'
  refine enter R ho hd' G.lim hc rfl (locs rfl) fun h₁ L tk F => ?_
  have N : News s.heap L h₁ [] := .nil
  have hz := R.hh
  repeat' (walk_at "nocall")
  rename News _ _ _ (_ :: _) => N9
  rename Fr _ _ _ _ => F9
  have l := (N9 _ (.head _)).1
  exact h _ _ _ _ _ _ F9.keep ⟨_, l, rfl, 0, rfl⟩
end
end Mine
end
section
open PySem PySem.W PyProof.Rows
set_option maxRecDepth 100000
set_option maxHeartbeats 4000000
namespace Mine
theorem fresh_MN2 : True := by w_top off; trivial
/-- the labels of a name, read back -/
def labsOf (l : List Nat) : List Nat := ((l.take (l.length - 5)).filter fun c => c != 46).reverse
theorem labs_back : ∀ p ∈ paths, labsOf (nameL p) = p := by decide +kernel
theorem nameL_inj : ∀ p ∈ paths, ∀ q ∈ paths, nameL p = nameL q → p = q := fun p hp q hq e => by
  rw [← labs_back p hp, ← labs_back q hq, e]
theorem bit_is : ∀ f ∈ paths, ∀ p ∈ paths, (nameS f == nameS p || (p.isPrefixOf f && p != f)) = p.isPrefixOf f := by
  intro f hf p hp
  by_cases h : p = f
  · subst h
    have : (p.isPrefixOf p) = true := List.isPrefixOf_iff_prefix.mpr (List.prefix_refl p)
    simp [this]
  · have h1 : (nameS f == nameS p) = false := by
      rw [beq_eq_false_iff_ne]
      intro e
      have e2 : (nameL f).toArray = (nameL p).toArray := congrArg Str.cps e
      exact h (nameL_inj f hf p hp (by simpa using e2)).symm
    have h2 : (p != f) = true := by simpa using h
    rw [h1, h2, Bool.and_true, Bool.false_or]
end Mine
end
section
open PySem PySem.W PyProof.Rows
set_option maxRecDepth 100000
set_option maxHeartbeats 1000000
namespace Mine
theorem fresh_MC : True := by w_top off; trivial
/-- what a comprehension has gathered from the first items -/
inductive Sel (P : Nat → Value → Prop) (p : Nat → Value → Bool) (F : Nat → Value → Value → List (Addr × Obj) → Prop) : Nat → List Value → List (Addr × Obj) → Prop
  | nil : Sel P p F 0 [] []
  | skip {i ys ob v} : Sel P p F i ys ob → P i v → p i v = false → Sel P p F (i + 1) ys ob
  | take {i ys ob v y nw} : Sel P p F i ys ob → P i v → p i v = true → F i v y nw → Sel P p F (i + 1) (ys ++ [y]) (ob ++ nw)
theorem Sel.len {P p F} : ∀ {i ys ob}, Sel P p F i ys ob → ys.length ≤ i
  | _, _, _, .nil => Nat.le_refl _
  | _, _, _, .skip h _ _ => Nat.le_succ_of_le h.len
  | _, _, _, .take h _ _ _ => by rw [List.length_append]; exact Nat.succ_le_succ h.len
theorem Sel.all {P F} {p : Nat → Value → Bool} (hp : ∀ i v, p i v = true) : ∀ {i ys ob}, Sel P p F i ys ob →
    ys.length = i ∧ ∀ k < i, ∃ v y nw, P k v ∧ ys[k]? = some y ∧ F k v y nw ∧ ∀ q ∈ nw, q ∈ ob
  | _, _, _, .nil => ⟨rfl, fun k hk => absurd hk (Nat.not_lt_zero _)⟩
  | _, _, _, .skip _ _ e => by rw [hp] at e; cases e
  | _, _, _, .take (i := i) (ys := ys) (v := v) (y := y) (nw := nw) h hP _ hF => by
    obtain ⟨h1, h2⟩ := h.all hp
    refine ⟨by rw [List.length_append, h1]; rfl, fun k hk => ?_⟩
    rcases Nat.lt_succ_iff_lt_or_eq.mp hk with hk | rfl
    · obtain ⟨v', y', nw', a, b, c, d⟩ := h2 k hk
      exact ⟨v', y', nw', a, by rw [List.getElem?_append_left (by omega)]; exact b, c, fun q hq => List.mem_append_left _ (d q hq)⟩
    · exact ⟨v, y, nw, hP, by rw [List.getElem?_append_right (by omega), h1, Nat.sub_self]; rfl, hF, fun q hq => List.mem_append_right _ hq⟩
section
variable {prog : Program} {w : World} {A : Around} {E : Value → Shared → Prop} {s : Shared} {env : Env}
theorem comp_loop {elt iter : Expr} {x : Str} {px : Pos} {ifs : List Expr} {scope : Scope} {pos : Pos} {I D : Addr} {fp vs : List Addr} {n : Nat} {P : Nat → Value → Prop} {St : Nat → Heap → Prop} {cenv : Env} {base : Heap} {R : Result → Shared → Prop}
    (W : Walks prog w A I fp [I] n P St) (hn : n ≤ 1000) (p : Nat → Value → Bool) (F : Nat → Value → Value → List (Addr × Obj) → Prop) (Live : Heap → Prop) (Hold : Heap → Value → Prop)
    (hstore : ∀ v (s : Shared) (Q : Unit → Shared → Prop) E, Live s.heap → (∀ h' tk, (∀ b o, b ∉ vs → s.heap.get? b = some o → h'.get? b = some o) → Live h' → Hold h' v → Q () { s with heap := h', toks := tk }) → wpAny (model prog w) A (assign (.Name x px) cenv v) Q E s)
    (hlive : ∀ h h', Live h → (∀ b ∈ vs, ∀ o, h.get? b = some o → h'.get? b = some o) → Live h')
    (hhold : ∀ h h' v, Hold h v → (∀ b ∈ vs, ∀ o, h.get? b = some o → h'.get? b = some o) → Hold h' v)
    (hex : ∀ h, Live h → ∀ b ∈ vs, ∃ o, h.get? b = some o)
    (hvs : ∀ b ∈ vs, base.get? b = none ∧ b ≠ I ∧ b ≠ D) (hD : base.get? D = none) (hI : base.get? I = none) (hDI : D ≠ I) (hIl : ∀ i h, St i h → ∃ o, h.get? I = some o)
    (hfp : ∀ b ∈ fp, b = I ∨ ∃ o, base.get? b = some o)
    (htests : ∀ i v h tk E', i < n → P i v → Ext base h → Live h → Hold h v →
      wpAny (model prog w) A (forIn ifs true fun c r => if r = true then do let ok ← isTrue c cenv (eval c cenv); pure (ForInStep.yield ok) else pure (ForInStep.yield r))
        (fun ok s' => ok = p i v ∧ ∃ h' tk', s' = { s with heap := h', toks := tk' } ∧ Ext h h') E' { s with heap := h, toks := tk })
    (helt : ∀ i v h tk E', i < n → P i v → p i v = true → Ext base h → Live h → Hold h v →
      wpAny (model prog w) A (eval elt cenv) (fun y s' => ∃ h' tk' nw, s' = { s with heap := h', toks := tk' } ∧ Ext h h' ∧ F i v y nw ∧ ∀ q ∈ nw, h.get? q.1 = none ∧ h'.get? q.1 = some q.2) E' { s with heap := h, toks := tk })
    (hR : ∀ h tk ys ob, Sel P p F n ys ob → Ext base h → Live h → h.PlainList D ys.toArray → (∀ q ∈ ob, h.get? q.1 = some q.2 ∧ base.get? q.1 = none ∧ q.1 ∉ vs ∧ q.1 ≠ D) → R (.ok .next) { s with heap := h, toks := tk })
    (hst : St 0 s.heap) (hl0 : Live s.heap) (he0 : Ext base s.heap) (hD0 : s.heap.PlainList D #[]) :
    codeAny (model prog w) A (.compLoop (.ListComp elt [⟨.Name x px, iter, ifs, 0⟩] scope pos) 0 (.ref I) (.ref D) cenv) R s := by
  have hDv : D ∉ vs := fun hm => (hvs D hm).2.2 rfl
  have hIv : I ∉ vs := fun hm => (hvs I hm).2.1 rfl
  have hfv : ∀ b ∈ fp, b ∉ vs := fun b hb hm => by
    rcases hfp b hb with rfl | ⟨o, e⟩
    · exact hIv hm
    · rw [(hvs b hm).1] at e; cases e
  refine codeAny_compLoop_tests (fun k s' => ∃ h tk i ys ob, s' = { s with heap := h, toks := tk } ∧ i ≤ n ∧ k = n + 1 - i ∧ St i h ∧ Live h ∧ Ext base h ∧ h.PlainList D ys.toArray ∧ Sel P p F i ys ob ∧
      ∀ q ∈ ob, h.get? q.1 = some q.2 ∧ base.get? q.1 = none ∧ q.1 ∉ vs ∧ q.1 ≠ D ∧ q.1 ≠ I) ?_ (n + 1)
    ⟨s.heap, s.toks, 0, [], [], rfl, Nat.zero_le _, rfl, hst, hl0, he0, hD0, .nil, fun q hq => by cases hq⟩
  rintro k s' ⟨h, tk, i, ys, ob, rfl, hi, rfl, st, lv, ex, pl, sel, hob⟩
  by_cases hlt : i < n
  · refine W.item i _ _ _ hlt st fun v h1 tk1 hP st1 k1 => ?_
    have lv1 : Live h1 := hlive _ _ lv fun b hb o e => k1 b o (by rw [List.mem_singleton]; exact (hvs b hb).2.1) e
    refine hstore v _ _ _ lv1 fun h2 tk2 k2 lv2 hd2 => ?_
    have k12 : ∀ b o, b ∉ vs → b ≠ I → h.get? b = some o → h2.get? b = some o := fun b o hb hbI e => k2 b o hb (k1 b o (by rw [List.mem_singleton]; exact hbI) e)
    have ex2 : Ext base h2 := fun b o e => k12 b o (fun hm => by rw [(hvs b hm).1] at e; cases e) (fun q => by rw [q, hI] at e; cases e) (ex b o e)
    have st2 : St (i + 1) h2 := W.frame _ _ _ st1 fun b hb o e => k2 b o (hfv b hb) e
    have pl2 : h2.PlainList D ys.toArray := pl.at fun o e => k12 D o hDv hDI e
    refine wpAny_mono (htests i v h2 _ _ hlt hP ex2 lv2 hd2) (fun ok s3 h3 => ?_) fun _ _ e => e
    obtain ⟨rfl, h3, tk3, rfl, e3⟩ := h3
    have st3 : St (i + 1) h3 := W.frame _ _ _ st2 fun b _ o e => e3 b o e
    have lv3 : Live h3 := hlive _ _ lv2 fun b _ o e => e3 b o e
    have hd3 : Hold h3 v := hhold _ _ _ hd2 fun b _ o e => e3 b o e
    have hob3 : ∀ q ∈ ob, h3.get? q.1 = some q.2 ∧ base.get? q.1 = none ∧ q.1 ∉ vs ∧ q.1 ≠ D ∧ q.1 ≠ I := fun q hq => by
      obtain ⟨a, b, c, d, e⟩ := hob q hq
      exact ⟨e3 _ _ (k12 _ _ c e a), b, c, d, e⟩
    have ex3 : Ext base h3 := ex2.trans e3
    have pl3 : h3.PlainList D ys.toArray := pl2.at fun o e => e3 _ o e
    cases hpv : p i v with
    | false =>
      simp only [Bool.false_eq_true, if_false]
      exact ⟨n + 1 - (i + 1), by omega, h3, tk3, i + 1, ys, ob, rfl, hlt, rfl, st3, lv3, ex3, pl3, .skip sel hP hpv, hob3⟩
    | true =>
      simp only [if_true]
      refine wpAny_mono (helt i v h3 _ _ hlt hP hpv ex3 lv3 hd3) (fun y s4 h4 => ?_) fun _ _ e => e
      obtain ⟨h4, tk4, nw, rfl, e4, hF, hnw⟩ := h4
      have hys : ys.toArray.size ≤ sizeLine := by have := sel.len; rw [sizeLine_eq, List.size_toArray]; omega
      refine wpAny_list_append_plain (hsz := hys) (pl3.at fun o e => e4 _ o e) fun h5 hl5 hs5 => ?_
      rw [List.push_toArray] at hl5
      have st5 : St (i + 1) h5 := W.frame _ _ _ st3 fun b hb o e => hs5.extBut b o (fun q => by
        have hb' : D ∈ fp := by have q' : b = D := q; rw [← q']; exact hb
        rcases hfp D hb' with q | ⟨o', e'⟩
        · exact hDI q
        · rw [hD] at e'; cases e') (e4 b o e)
      refine ⟨n + 1 - (i + 1), by omega, h5, tk4, i + 1, ys ++ [y], ob ++ nw, rfl, hlt, rfl, st5, ?_, ?_, hl5, .take sel hP hpv hF, fun q hq => ?_⟩
      · exact hlive _ _ lv3 fun b hb o e => hs5.extBut b o (hvs b hb).2.2 (e4 b o e)
      · exact fun b o e => hs5.extBut b o (fun q => by have q' : b = D := q; rw [q', hD] at e; cases e) (e4 b o (ex3 b o e))
      · rcases List.mem_append.mp hq with hq | hq
        · obtain ⟨a, b, c, d, e⟩ := hob3 q hq
          exact ⟨hs5.extBut _ _ d (e4 _ _ a), b, c, d, e⟩
        · obtain ⟨a, b⟩ := hnw q hq
          have qD : q.1 ≠ D := fun e => by obtain ⟨k, pl3⟩ := pl3; rw [e, pl3] at a; cases a
          refine ⟨hs5.extBut _ _ qD b, ?_, fun hm => ?_, qD, fun e => ?_⟩
          · cases z : base.get? q.1 with
            | none => rfl
            | some o => rw [ex3 _ _ z] at a; cases a
          · obtain ⟨o, z⟩ := hex _ lv3 _ hm
            rw [a] at z; cases z
          · obtain ⟨o, z⟩ := hIl _ _ st3
            rw [e, z] at a; cases a
  · have hin : i = n := by omega
    subst hin
    refine W.done _ _ _ st fun h1 tk1 k1 => ?_
    have kk : ∀ b o, b ≠ I → h.get? b = some o → h1.get? b = some o := fun b o hb e => k1 b o (by rw [List.mem_singleton]; exact hb) e
    refine hR h1 tk1 ys ob sel (fun b o e => kk b o (fun q => by rw [q, hI] at e; cases e) (ex b o e)) (hlive _ _ lv fun b hb o e => kk b o (hvs b hb).2.1 e) (pl.at fun o e => kk _ o hDI e) fun q hq => ?_
    obtain ⟨a, b, c, d, e⟩ := hob q hq
    exact ⟨kk _ _ e a, b, c, d⟩
end
end Mine
end
section
open PySem PySem.W PyProof.Rows
set_option maxRecDepth 100000
set_option maxHeartbeats 1000000
namespace Mine
theorem fresh_MC2 : True := by w_top off; trivial
def clOf (cell : Bool) (x : Str) (c : Addr) (cl : List (Str × Addr)) : List (Str × Addr) := if cell then (x, c) :: cl else cl
/-- where the loop's variable stands: in the frame, or in a cell -/
def VarHolds (cell : Bool) (x : Str) (c C : Addr) (m : Str → Option Value) (base h : Heap) (v : Value) : Prop :=
  if cell then h.IsCell c (some v) ∧ base.get? c = none ∧ c ≠ C else m x = some v
section
variable {M : Model} {A : Around} {E : Value → Shared → Prop} {s : Shared}
theorem newEnv_around {scope : Scope} {globals : Addr} {cl : List (Str × Addr)} {qual : Str} {env : Env} {Q : Env → Shared → Prop}
    (h : Q (newEnv scope s.heap.objs.size globals (cellsFrom (s.heap.objs.size + 1) scope.names cl) qual none .none (some env) builtinsNs)
      { s with heap := pushCells (s.heap.push { cls := .type "dict", data := .dict #[] }) scope.names }) :
    wpAny M A (newFunctionEnv scope globals cl [] qual none .none (some env)) Q E s := by
  simp only [newFunctionEnv, Option.isSome_some, if_true]
  refine wpAny_bind (wpAny_alloc ?_)
  refine wpAny_bind (wpAny_layCells _ (fun name kind cells => by cases hkc : kind == NameKind.cell <;> simp) _ _ _ _ ?_)
  rw [show ({ s with heap := s.heap.push { cls := .type "dict", data := .dict #[] } } : Shared).heap.objs.size = s.heap.objs.size + 1 from Heap.size_push ..]
  rw [List.forIn_nil]
  exact wpAny_bind (wpAny_pure (wpAny_pure h))
end
section
variable {prog : Program} {w : World} {A : Around} {E : Value → Shared → Prop} {s : Shared} {env : Env}
def SrcOK (prog : Program) (w : World) (A : Around) (n : Nat) (P : Nat → Value → Prop) (s₁ : Shared) (it : Value) (s₂ : Shared) : Prop :=
  ∃ I fp St h₂ tk₂, it = .ref I ∧ s₂ = { s₁ with heap := h₂, toks := tk₂ } ∧ Walks prog w A I fp [I] n P St ∧ St 0 h₂ ∧ (∀ i h, St i h → ∃ o, h.get? I = some o) ∧ Ext s₁.heap h₂ ∧ s₁.heap.get? I = none ∧ I < h₂.objs.size ∧ s₁.heap.objs.size ≤ h₂.objs.size ∧
    (∀ b ∈ fp, b = I ∨ ∃ o, s₁.heap.get? b = some o)
theorem src_list {ax : Addr} {items : Array Value} {Q : Value → Shared → Prop} (hh : A.handled = none) (hl : s.heap.IsList ax items)
    (h : ∀ it s₂, SrcOK prog w A items.size (fun i v => items[i]? = some v) s it s₂ → Q it s₂) : wpAny (model prog w) A (pyIter (.ref ax)) Q E s := by
  have hlt : ax < s.heap.objs.size := by obtain ⟨o, e, _⟩ := hl; exact Heap.lt_size e
  refine wpAny_pyIter_list hl ?_
  refine h _ _ ⟨s.heap.objs.size, _, _, _, _, rfl, rfl, (Walks.list hh s.heap.objs.size ax (Nat.ne_of_lt hlt) items), ?_, ?_, ?_, ?_, ?_, ?_, ?_⟩
  · exact ⟨by first | exact ⟨_, Heap.get?_push_size _ rfl, rfl, 0, rfl⟩ | exact ⟨_, Heap.get?_push_size _ rfl, rfl, rfl⟩ | exact ⟨_, 0, Heap.get?_push_size _ rfl, rfl, rfl⟩, hl.at fun o e => Heap.get?_push_of_some _ e⟩
  · rintro i h ⟨⟨_, a, _⟩, b⟩
    exact ⟨_, a⟩
  · exact fun b o e => Heap.get?_push_of_some _ e
  · exact get_fresh _ (Nat.le_refl _)
  · show _ < (Heap.push _ _).objs.size
    rw [Heap.size_push]; omega
  · show _ ≤ (Heap.push _ _).objs.size
    rw [Heap.size_push]; omega
  · intro b hb
    rcases List.mem_cons.mp hb with rfl | hb
    · exact .inl rfl
    · rw [List.mem_singleton.mp hb]
      obtain ⟨o, e, _⟩ := hl
      exact .inr ⟨o, e⟩
theorem src_range {r : Addr} {n : Nat} {t₀ u₀ v₀ : Tok} {Q : Value → Shared → Prop} (hh : A.handled = none) (hr : IsRange s.heap r 0 (n : Int) 1 t₀ u₀ v₀) (hn : n ≤ 1000)
    (h : ∀ it s₂, SrcOK prog w A n (fun i v => ∃ t, v = .int (i : Int) t) s it s₂ → Q it s₂) : wpAny (model prog w) A (pyIter (.ref r)) Q E s := by
  have hsz : Builtin.Range.rangeSize 0 (n : Int) 1 = (n : Int) := by rw [rangeSize_one]; split <;> omega
  refine wpAny_pyIter_range hr (small_one (by omega) (by omega) (by omega) (by omega)) ?_
  have W : Walks prog w A s.heap.objs.size [s.heap.objs.size] [s.heap.objs.size] n (fun i v => ∃ t, v = .int (i : Int) t)
      (fun i h => IsRangeIter h s.heap.objs.size (0 + (i : Nat) * 1) ((n : Int) - (i : Nat)) 1) := by
    have := Walks.range (prog := prog) (w := w) hh s.heap.objs.size 0 1 n
    simpa using this
  refine h _ _ ⟨_, _, _, _, _, rfl, rfl, W, ?_, ?_, ?_, ?_, ?_, ?_, ?_⟩
  · show IsRangeIter _ _ _ _ _
    rw [hsz]; simpa using Heap.get?_push_size _ rfl
  · intro i h a
    exact ⟨_, a⟩
  · exact fun b o e => Heap.get?_push_of_some _ e
  · exact get_fresh _ (Nat.le_refl _)
  · show _ < (Heap.push _ _).objs.size
    rw [Heap.size_push]; omega
  · show _ ≤ (Heap.push _ _).objs.size
    rw [Heap.size_push]; omega
  · intro b hb
    exact .inl (List.mem_singleton.mp hb)
theorem src_tuple {ax : Addr} {items : Array Value} {Q : Value → Shared → Prop} (hh : A.handled = none) (hl : s.heap.IsTuple ax items)
    (h : ∀ it s₂, SrcOK prog w A items.size (fun i v => items[i]? = some v) s it s₂ → Q it s₂) : wpAny (model prog w) A (pyIter (.ref ax)) Q E s := by
  have hlt : ax < s.heap.objs.size := by obtain ⟨o, e, _⟩ := hl; exact Heap.lt_size e
  refine wpAny_pyIter_tuple hl ?_
  refine h _ _ ⟨s.heap.objs.size, _, _, _, _, rfl, rfl, (Walks.tuple hh s.heap.objs.size ax (Nat.ne_of_lt hlt) items), ?_, ?_, ?_, ?_, ?_, ?_, ?_⟩
  · exact ⟨⟨_, Heap.get?_push_size _ rfl, rfl, rfl⟩, hl.push _⟩
  · rintro i h ⟨⟨_, a, _⟩, b⟩
    exact ⟨_, a⟩
  · exact fun b o e => Heap.get?_push_of_some _ e
  · exact get_fresh _ (Nat.le_refl _)
  · show _ < (Heap.push _ _).objs.size
    rw [Heap.size_push]; omega
  · show _ ≤ (Heap.push _ _).objs.size
    rw [Heap.size_push]; omega
  · intro b hb
    rcases List.mem_cons.mp hb with rfl | hb
    · exact .inl rfl
    · rw [List.mem_singleton.mp hb]
      obtain ⟨o, e, _⟩ := hl
      exact .inr ⟨o, e⟩
/-- what a comprehension's test and element have to do -/
structure CompDo (prog : Program) (w : World) (A : Around) (env : Env) (scope : Scope) (cell : Bool) (cl : List (Str × Addr)) (x : Str) (ifs : List Expr) (elt : Expr) (n : Nat) (P : Nat → Value → Prop) (p : Nat → Value → Bool)
    (F : Nat → Value → Value → List (Addr × Obj) → Prop) (s : Shared) : Prop where
  tests : ∀ i v C c m h tk E', i < n → P i v → Fr s.heap C h m → VarHolds cell x c C m s.heap h v →
    wpAny (model prog w) A (forIn ifs true fun t r => if r = true then do let ok ← isTrue t (compEnvC scope (clOf cell x c cl) C env) (eval t (compEnvC scope (clOf cell x c cl) C env)); pure (ForInStep.yield ok) else pure (ForInStep.yield r))
      (fun ok s' => ok = p i v ∧ ∃ h' tk', s' = { s with heap := h', toks := tk' } ∧ Ext h h') E' { s with heap := h, toks := tk }
  elt : ∀ i v C c m h tk E', i < n → P i v → p i v = true → Fr s.heap C h m → VarHolds cell x c C m s.heap h v →
    wpAny (model prog w) A (eval elt (compEnvC scope (clOf cell x c cl) C env)) (fun y s' => ∃ h' tk' nw, s' = { s with heap := h', toks := tk' } ∧ Ext h h' ∧ F i v y nw ∧ ∀ q ∈ nw, h.get? q.1 = none ∧ h'.get? q.1 = some q.2) E' { s with heap := h, toks := tk }
theorem comp_block {elt iter : Expr} {x : Str} {px : Pos} {ifs : List Expr} {scope : Scope} {pos : Pos} {n : Nat} {P : Nat → Value → Prop} {p : Nat → Value → Bool} {F : Nat → Value → Value → List (Addr × Obj) → Prop} {cl : List (Str × Addr)} {it : Value} {s₂ : Shared}
    {RR : Value → Addr → Result → Shared → Prop} (cell : Bool)
    (hcf : ∀ k, cellsFrom k scope.names cl = clOf cell x k cl) (hpc : ∀ h, pushCells h scope.names = if cell then h.push { cls := .type "cell", data := .cell none } else h)
    (hkind : scope.kind = .function) (hx : scope.names.lookup x = some (if cell then .cell else .local))
    (hkx : ∀ C c, (compEnvC scope (clOf cell x c cl) C env).kindOf x = some (if cell then .cell else .local))
    (hS : SrcOK prog w A n P s it s₂) (hn : n ≤ 1000) (hD : CompDo prog w A env scope cell cl x ifs elt n P p F s)
    (hRR : ∀ D C h tk ys ob m, Sel P p F n ys ob → Ext s.heap h → s.heap.get? D = none → s.heap.get? C = none → D ≠ C → h.Ns C m → LL h D ys → (∀ q ∈ ob, h.get? q.1 = some q.2 ∧ s.heap.get? q.1 = none ∧ q.1 ≠ D ∧ q.1 ≠ C) →
      RR (.ref D) C (.ok .next) { s with heap := h, toks := tk }) :
    wpAny (model prog w) A (newList []) (fun acc s₃ => wpAny (model prog w) A (newFunctionEnv scope env.globals cl [] env.qual none .none (some env)) (fun cenv s₄ =>
      codeAny (model prog w) A (.compStart (.ListComp elt [⟨.Name x px, iter, ifs, 0⟩] scope pos) 0 it acc { cenv with scope := relabel scope env }) (RR acc cenv.locals) s₄) E s₃) E s₂ := by
  obtain ⟨I, fp, St, h₂, tk₂, rfl, rfl, W, st, hIl, e2, hI, hIlt, hsz, hfp⟩ := hS
  refine wpAny_newObj_type (newEnv_around ?_)
  dsimp only
  rw [hcf, hpc]
  generalize hH2 : h₂.push { cls := .type "list", dict := none, data := .seq ([] : List Value).toArray } = H2
  have hH2s : H2.objs.size = h₂.objs.size + 1 := by rw [← hH2, Heap.size_push]
  have hH2D : H2.get? h₂.objs.size = some { cls := .type "list", dict := none, data := .seq ([] : List Value).toArray } := by rw [← hH2]; exact Heap.get?_push_size _ rfl
  have e3 : Ext h₂ H2 := fun b o e => by rw [← hH2]; exact Heap.get?_push_of_some _ e
  have hIlt' : @LT.lt Nat _ I h₂.objs.size := hIlt
  have hs0 : s.heap.objs.size ≤ h₂.objs.size := hsz
  have nb : ∀ a, h₂.objs.size ≤ a → s.heap.get? a = none := fun a ha => get_fresh _ (Nat.le_trans hs0 ha)
  have hself := fun (s' : Shared) (h0 : St 0 s'.heap) (Q : Value → Shared → Prop) E (q : Q (.ref I) s') => W.self 0 s' Q E h0 q
  have ci : ∀ C c, ({ (newEnv scope C env.globals (clOf cell x c cl) env.qual none Value.none (some env) builtinsNs) with scope := relabel scope env } : Env) = compEnvC scope (clOf cell x c cl) C env := fun _ _ => rfl
  have hcl : (compEnvC scope (clOf cell x (H2.objs.size + 1) cl) H2.objs.size env).locals = H2.objs.size := rfl
  cases cell with
  | false =>
    simp only [Bool.false_eq_true, if_false]
    have n1 : (H2.push { cls := .type "dict", data := .dict #[] }).Ns H2.objs.size (fun _ => none) := Heap.Ns.new H2 (.type "dict")
    have e4 : Ext H2 (H2.push { cls := .type "dict", data := .dict #[] }) := fun b o e => Heap.get?_push_of_some _ e
    have st4 : St 0 (H2.push { cls := .type "dict", data := .dict #[] }) := W.frame _ _ _ st fun b _ o e => e4 _ _ (e3 _ _ e)
    have lp : codeAny (model prog w) A (.compLoop (.ListComp elt [⟨.Name x px, iter, ifs, 0⟩] scope pos) 0 (.ref I) (.ref h₂.objs.size) (compEnvC scope (clOf false x (H2.objs.size + 1) cl) H2.objs.size env)) (RR (.ref h₂.objs.size) H2.objs.size)
        { s with heap := H2.push { cls := .type "dict", data := .dict #[] }, toks := tk₂ } := by
      refine comp_loop (s := { s with heap := H2.push { cls := .type "dict", data := .dict #[] }, toks := tk₂ }) (base := s.heap) (vs := [H2.objs.size]) W hn p F (fun h => ∃ m, h.Ns H2.objs.size m) (fun h v => ∃ m, h.Ns H2.objs.size m ∧ m x = some v)
        (fun v s' Q E hl q => ?_) (fun h h' ⟨m, hm⟩ k => ⟨m, hm.at' fun o e => k _ (.head _) o e⟩) (fun h h' v ⟨m, hm, hx⟩ k => ⟨m, hm.at' fun o e => k _ (.head _) o e, hx⟩) (fun h ⟨m, hm⟩ b hb => ?_)
        (fun b hb => ?_) (nb _ (Nat.le_refl _)) hI (Nat.ne_of_gt hIlt) hIl hfp (fun i v h tk E' hi hP ex _ ⟨m, hm, hx⟩ => hD.tests i v H2.objs.size (H2.objs.size + 1) m h tk E' hi hP ⟨hm, ex, by omega⟩ hx)
        (fun i v h tk E' hi hP hp ex _ ⟨m, hm, hx⟩ => hD.elt i v H2.objs.size (H2.objs.size + 1) m h tk E' hi hP hp ⟨hm, ex, by omega⟩ hx)
        (fun h tk ys ob sel ex ⟨m, hm⟩ ⟨k, pl⟩ hob => ?_) st4 ⟨_, n1⟩ (fun b o e => e4 _ _ (e3 _ _ (e2 b o e))) ⟨_, e4 _ _ hH2D⟩
      · obtain ⟨m, hm⟩ := hl
        refine wpAny_assign_Name (wpAny_storeName_local (hkx _ _) hm (fun h2 hn2 hs2 => ?_) (by simp [compEnvC, relabel, hkind]))
        exact q h2 _ (fun b o hb e => hs2.extBut b o (fun q => hb (by have q' : b = H2.objs.size := q; rw [q']; exact .head _)) e) ⟨_, hn2⟩ ⟨_, hn2, by simp⟩
      · rw [List.mem_singleton.mp hb]
        obtain ⟨o, _, _, e, _⟩ := hm
        exact ⟨o, e⟩
      · rw [List.mem_singleton.mp hb]
        exact ⟨nb _ (by omega), Nat.ne_of_gt (by omega), Nat.ne_of_gt (by omega)⟩
      · exact hRR _ _ h tk ys ob m sel ex (nb _ (Nat.le_refl _)) (nb _ (by omega)) (Nat.ne_of_lt (by omega)) hm ⟨k, pl⟩ fun q hq => ⟨(hob q hq).1, (hob q hq).2.1, (hob q hq).2.2.2, by simpa using (hob q hq).2.2.1⟩
    exact codeAny_compStart_list lp (hself _ st4 _ _ lp)
  | true =>
    simp only [if_true]
    have n0 : (H2.push { cls := .type "dict", data := .dict #[] }).Ns H2.objs.size (fun _ => none) := Heap.Ns.new H2 (.type "dict")
    generalize hH3 : H2.push { cls := .type "dict", data := .dict #[] } = H3 at n0
    have e4 : Ext H2 H3 := fun b o e => by rw [← hH3]; exact Heap.get?_push_of_some _ e
    have hH3s : H3.objs.size = H2.objs.size + 1 := by rw [← hH3, Heap.size_push]
    have e5 : Ext H3 (H3.push { cls := .type "cell", data := .cell none }) := fun b o e => Heap.get?_push_of_some _ e
    have st4 : St 0 (H3.push { cls := .type "cell", data := .cell none }) := W.frame _ _ _ st fun b _ o e => e5 _ _ (e4 _ _ (e3 _ _ e))
    have hcn : (H3.push { cls := .type "cell", data := .cell none }).get? (H2.objs.size + 1) = some { cls := .type "cell", data := .cell none } := by rw [← hH3s]; exact Heap.get?_push_size _ rfl
    have lp : codeAny (model prog w) A (.compLoop (.ListComp elt [⟨.Name x px, iter, ifs, 0⟩] scope pos) 0 (.ref I) (.ref h₂.objs.size) (compEnvC scope (clOf true x (H2.objs.size + 1) cl) H2.objs.size env)) (RR (.ref h₂.objs.size) H2.objs.size)
        { s with heap := H3.push { cls := .type "cell", data := .cell none }, toks := tk₂ } := by
      refine comp_loop (s := { s with heap := H3.push { cls := .type "cell", data := .cell none }, toks := tk₂ }) (base := s.heap) (vs := [H2.objs.size, H2.objs.size + 1]) W hn p F (fun h => (∃ m, h.Ns H2.objs.size m) ∧ ∃ v₀, h.IsCell (H2.objs.size + 1) v₀)
        (fun h v => (∃ m, h.Ns H2.objs.size m) ∧ h.IsCell (H2.objs.size + 1) (some v))
        (fun v s' Q E hl q => ?_) (fun h h' ⟨⟨m, hm⟩, ⟨v₀, o, ho, hd⟩⟩ k => ⟨⟨m, hm.at' fun o e => k _ (.head _) o e⟩, v₀, o, k _ (.tail _ (.head _)) _ ho, hd⟩)
        (fun h h' v ⟨⟨m, hm⟩, ⟨o, ho, hd⟩⟩ k => ⟨⟨m, hm.at' fun o e => k _ (.head _) o e⟩, o, k _ (.tail _ (.head _)) _ ho, hd⟩) (fun h hl b hb => ?_)
        (fun b hb => ?_) (nb _ (Nat.le_refl _)) hI (Nat.ne_of_gt hIlt) hIl hfp (fun i v h tk E' hi hP ex _ ⟨⟨m, hm⟩, hx⟩ => hD.tests i v H2.objs.size (H2.objs.size + 1) m h tk E' hi hP ⟨hm, ex, by omega⟩ ⟨hx, nb _ (by omega), Nat.ne_of_gt (by omega)⟩)
        (fun i v h tk E' hi hP hp ex _ ⟨⟨m, hm⟩, hx⟩ => hD.elt i v H2.objs.size (H2.objs.size + 1) m h tk E' hi hP hp ⟨hm, ex, by omega⟩ ⟨hx, nb _ (by omega), Nat.ne_of_gt (by omega)⟩)
        (fun h tk ys ob sel ex ⟨⟨m, hm⟩, _⟩ ⟨k, pl⟩ hob => ?_) st4 ⟨⟨_, n0.keeps e5⟩, none, _, hcn, rfl⟩ (fun b o e => e5 _ _ (e4 _ _ (e3 _ _ (e2 b o e)))) ⟨_, e5 _ _ (e4 _ _ hH2D)⟩
      · obtain ⟨⟨m, hm⟩, v₀, hc⟩ := hl
        refine wpAny_assign_Name (wpAny_storeName_cell hkind (hkx _ _) (by show List.lookup x ((x, _) :: cl) = _; rw [List.lookup_cons_self]) hc (fun h2 hn2 hs2 => ?_))
        have hm2 := hm.sameBut hs2 (Nat.ne_of_lt (by omega))
        exact q h2 _ (fun b o hb e => hs2.extBut b o (by intro e; apply hb; rw [e]; exact .tail _ (.head _)) e) ⟨⟨_, hm2⟩, _, hn2⟩ ⟨⟨_, hm2⟩, hn2⟩
      · rcases List.mem_cons.mp hb with rfl | hb
        · obtain ⟨⟨m, o, _, _, e, _⟩, _⟩ := hl
          exact ⟨o, e⟩
        · rw [List.mem_singleton.mp hb]
          obtain ⟨_, v₀, o, e, _⟩ := hl
          exact ⟨o, e⟩
      · rcases List.mem_cons.mp hb with rfl | hb
        · exact ⟨nb _ (by omega), Nat.ne_of_gt (by omega), Nat.ne_of_gt (by omega)⟩
        · rw [List.mem_singleton.mp hb]
          exact ⟨nb _ (by omega), Nat.ne_of_gt (by omega), Nat.ne_of_gt (by omega)⟩
      · exact hRR _ _ h tk ys ob m sel ex (nb _ (Nat.le_refl _)) (nb _ (by omega)) (Nat.ne_of_lt (by omega)) hm ⟨k, pl⟩ fun q hq => ⟨(hob q hq).1, (hob q hq).2.1, (hob q hq).2.2.2, fun e => (hob q hq).2.2.1 (by rw [e]; exact .head _)⟩
    exact codeAny_compStart_list lp (hself _ st4 _ _ lp)
end
end Mine
end
section
open PySem PySem.W PyProof.Rows
set_option maxRecDepth 100000
set_option maxHeartbeats 1000000
namespace Mine
theorem fresh_MC3 : True := by w_top off; trivial
section
variable {prog : Program} {w : World} {A : Around} {E : Value → Shared → Prop} {s : Shared} {env : Env}
theorem ext_but {b h h' : Heap} {C : Addr} (e : Ext b h) (hs : Heap.SameBut C h h') (hC : b.get? C = none) : Ext b h' :=
  fun a o q => hs.extBut a o (fun z => by have z' : a = C := z; rw [z', hC] at q; cases q) (e a o q)
theorem comp_val {elt iter : Expr} {x : Str} {px : Pos} {ifs : List Expr} {scope : Scope} {pos : Pos} {cl : List (Str × Addr)} {Q : Value → Shared → Prop} (cell : Bool)
    (h : wpAny (model prog w) A (eval iter env) (fun xv s₁ => wpAny (model prog w) A (pyIter xv) (fun it s₂ => ∃ n P p F, SrcOK prog w A n P s₁ it s₂ ∧ n ≤ 1000 ∧ CompDo prog w A env scope cell cl x ifs elt n P p F s₁ ∧
      ∀ D h tk ys ob, Sel P p F n ys ob → Ext s₁.heap h → s₁.heap.get? D = none → LL h D ys → (∀ q ∈ ob, h.get? q.1 = some q.2 ∧ s₁.heap.get? q.1 = none ∧ q.1 ≠ D) → Q (.ref D) { s₁ with heap := h, toks := tk }) E s₁) E s)
    (hclos : closureFor scope env = pure cl := by rfl)
    (hcf : ∀ k, cellsFrom k scope.names cl = clOf cell x k cl := by intro _; rfl) (hpc : ∀ h, pushCells h scope.names = if cell then h.push { cls := .type "cell", data := .cell none } else h := by intro _; rfl)
    (hkind : scope.kind = .function := by rfl) (hx : scope.names.lookup x = some (if cell then .cell else .local) := by rfl)
    (hkx : ∀ C c, (compEnvC scope (clOf cell x c cl) C env).kindOf x = some (if cell then .cell else .local) := by intro _ _; rfl)
    (hnames : ∀ y ∈ scope.names, y.2 = .local → scope.names.lookup y.1 = some .local := by decide) (hs : ∀ x, foldedSetIterable iter env x = pure x := by intro _; rfl) :
    wpAny (model prog w) A (eval (.ListComp elt [⟨.Name x px, iter, ifs, 0⟩] scope pos) env) Q E s := by
  rw [eval_ListComp]
  refine wpAny_comprehension_free (use := none) rfl hs hclos hkind hnames (wpAny_mono h (fun xv s₁ h₁ => wpAny_mono h₁ (fun it s₂ h₂ => ?_) fun _ _ e => e) fun _ _ e => e)
  obtain ⟨n, P, p, F, hS, hn, hD, hQ⟩ := h₂
  refine comp_block (RR := fun acc C => compPost (model prog w) A E none Q acc C) cell hcf hpc hkind hx hkx hS hn hD ?_
  intro D C h tk ys ob m sel ex hDn hCn hDC hm hl hob
  exact ⟨m, hm, fun h' hs' => hQ D h' tk ys ob sel (ext_but ex hs' hCn) hDn (hl.same hs' hDC) fun q hq => ⟨hs'.extBut _ _ (hob q hq).2.2.2 (hob q hq).1, (hob q hq).2.1, (hob q hq).2.2.1⟩⟩
theorem comp_asg {elt iter : Expr} {x y : Str} {px py : Pos} {ifs : List Expr} {scope : Scope} {pos spos : Pos} {cl : List (Str × Addr)} {h₀ : Heap} {Q : Flow → Shared → Prop} (cell : Bool)
    (h : wpAny (model prog w) A (eval iter env) (fun xv s₁ => wpAny (model prog w) A (pyIter xv) (fun it s₂ => ∃ n P p F m news, SrcOK prog w A n P s₁ it s₂ ∧ n ≤ 1000 ∧ CompDo prog w A env scope cell cl x ifs elt n P p F s₁ ∧
      Fr h₀ env.locals s₁.heap m ∧ News h₀ env.locals s₁.heap news ∧
      ∀ D h tk ys ob, Sel P p F n ys ob → Fr h₀ env.locals h (fun z => if z = y then some (.ref D) else m z) → News h₀ env.locals h news → s₁.heap.get? D = none → D ≠ env.locals → LL h D ys →
        (∀ q ∈ ob, h.get? q.1 = some q.2 ∧ s₁.heap.get? q.1 = none ∧ q.1 ≠ D ∧ q.1 ≠ env.locals) → (∀ b o, b ≠ env.locals → s₁.heap.get? b = some o → h.get? b = some o) → Q .next { s₁ with heap := h, toks := tk }) E s₁) E s)
    (hsw : swapsWith (.ListComp elt [⟨.Name x px, iter, ifs, 0⟩] scope pos) (some (.Name y py)) spos.line env = pure true := by rfl)
    (hclos : closureFor scope env = pure cl := by rfl) (hy : env.kindOf y = some .local := by rfl) (hp : (env.scope.kind == .class || (env.scope.kind == .module && env.locals != env.globals)) = false := by rfl)
    (hcf : ∀ k, cellsFrom k scope.names cl = clOf cell x k cl := by intro _; rfl) (hpc : ∀ h, pushCells h scope.names = if cell then h.push { cls := .type "cell", data := .cell none } else h := by intro _; rfl)
    (hkind : scope.kind = .function := by rfl) (hx : scope.names.lookup x = some (if cell then .cell else .local) := by rfl)
    (hkx : ∀ C c, (compEnvC scope (clOf cell x c cl) C env).kindOf x = some (if cell then .cell else .local) := by intro _ _; rfl)
    (hnames : ∀ y ∈ scope.names, y.2 = .local → scope.names.lookup y.1 = some .local := by decide) (hs : ∀ x, foldedSetIterable iter env x = pure x := by intro _; rfl) :
    wpAny (model prog w) A (exec (.Assign [.Name y py] (.ListComp elt [⟨.Name x px, iter, ifs, 0⟩] scope pos) spos) env) Q E s := by
  rw [exec_Assign_Name_used _ _ _ _ hsw]
  refine wpAny_bind (wpAny_standAt (wpAny_bind ?_))
  show wpAny _ A (do let _ ← comprehension (.ListComp elt [⟨.Name x px, iter, ifs, 0⟩] scope pos) scope env _ (newList []) false (eval iter env) (some (assign (.Name y py) env))) _ _ s
  refine wpAny_bind (wpAny_mono (wpAny_comprehension_free (use := some (assign (.Name y py) env)) (Q := fun _ s' => Q .next s') rfl hs hclos hkind hnames
    (wpAny_mono h (fun xv s₁ h₁ => wpAny_mono h₁ (fun it s₂ h₂ => ?_) fun _ _ e => e) fun _ _ e => e)) (fun _ s' hq => wpAny_pure (wpAny_pure hq)) fun _ _ e => e)
  obtain ⟨n, P, p, F, m, news, hS, hn, hD, F₁, N₁, hQ⟩ := h₂
  refine comp_block (RR := fun acc C => compPost (model prog w) A E (some (assign (.Name y py) env)) (fun _ s' => Q .next s') acc C) cell hcf hpc hkind hx hkx hS hn hD ?_
  intro D C h tk ys ob m' sel ex hDn hCn hDC hm hl hob
  have hlive : ∃ o, s₁.heap.get? env.locals = some o := by obtain ⟨o, _, _, e, _⟩ := F₁.ns; exact ⟨o, e⟩
  have ne_of : ∀ a, s₁.heap.get? a = none → a ≠ env.locals := fun a ha e => by obtain ⟨o, z⟩ := hlive; rw [← e, ha] at z; cases z
  have F₂ : Fr h₀ env.locals h m := F₁.keeps ex
  have N₂ : News h₀ env.locals h news := N₁.grown ex
  show wpAny _ A (assign (.Name y py) env (.ref D)) _ _ _
  refine wpAny_assign_Name (wpAny_storeName_local hy F₂.ns (fun h₂ hn₂ hs₂ => ?_) hp)
  refine ⟨m', hm.sameBut hs₂ (ne_of C hCn), fun h₃ hs₃ => ?_⟩
  have F₃ := F₂.set hn₂ hs₂
  have N₃ := N₂.set hs₂
  have nC : ∀ b o, s₁.heap.get? b = some o → b ≠ C := fun b o e z => by rw [z, hCn] at e; cases e
  have hC₀ : h₀.get? C = none := by
    cases z : h₀.get? C with
    | none => rfl
    | some o => rw [F₁.keep _ _ z] at hCn; cases hCn
  refine hQ D h₃ _ ys ob sel ⟨F₃.ns.sameBut hs₃ (Ne.symm (ne_of C hCn)), fun b o e => hs₃.extBut b o (nC b o (F₁.keep b o e)) (F₃.keep b o e), F₃.above⟩ (fun q hq => ⟨hs₃.extBut _ _ (nC _ _ (N₁ q hq).1) (N₃ q hq).1, (N₃ q hq).2⟩) hDn (ne_of D hDn) ((hl.same hs₂ (ne_of D hDn)).same hs₃ hDC)
    (fun q hq => ⟨hs₃.extBut _ _ (hob q hq).2.2.2 (hs₂.extBut _ _ (ne_of _ (hob q hq).2.1) (hob q hq).1), (hob q hq).2.1, (hob q hq).2.2.1, ne_of _ (hob q hq).2.1⟩) fun b o hb e => hs₃.extBut b o (nC b o e) (hs₂.extBut b o hb (ex b o e))
end
end Mine
end
section
open PySem PySem.W PyProof.Rows
set_option maxRecDepth 100000
set_option maxHeartbeats 4000000
namespace Mine
theorem fresh_MD : True := by w_top off; trivial
section
variable {M : Model} {A : Around} {E : Value → Shared → Prop} {s : Shared} {mg mb : Str → Option Value} {env : Env}
theorem ldx {m : Str → Option Value} {x : Str} {v : Value} {pos : Pos} {Q : Value → Shared → Prop} {h₀ : Heap} {L : Addr} (F : Fr h₀ L s.heap m) (hm : m x = some v) (h : Q v s)
    (hL : env.locals = L := by rfl) (hk : env.scope.kind = .function := by rfl) (hx : env.kindOf x = some .local := by rfl) (hd : (x == ("__debug__" : Str)) = false := by decide) :
    wpAny M A (eval (.Name x pos) env) Q E s := wpAny_Name (wpAny_loadName_local hk hx (hL ▸ F.ns) hm h) hd
theorem ldc {x : Str} {v : Value} {pos : Pos} {Q : Value → Shared → Prop} {c : Addr} (hv : s.heap.IsCell c (some v)) (h : Q v s)
    (hc : env.cells.lookup x = some c := by rfl) (hk : env.scope.kind = .function := by rfl) (hx : env.kindOf x = some .cell := by rfl) (hd : (x == ("__debug__" : Str)) = false := by decide) :
    wpAny M A (eval (.Name x pos) env) Q E s := wpAny_Name (wpAny_loadName_cell hk hx hc hv h) hd
theorem ldg {x : Str} {v : Value} {pos : Pos} {Q : Value → Shared → Prop} (G : Gd mg mb s.heap) (e : mg x = some v) (h : Q v s)
    (hg : env.globals = mainGlobals := by rfl) (hk : env.scope.kind = .function := by rfl) (hx : env.kindOf x = some .globalImplicit := by rfl) (hd : (x == ("__debug__" : Str)) = false := by decide) :
    wpAny M A (eval (.Name x pos) env) Q E s := Calls.Name_function_global hk hx (Calls.loadGlobal_global (env := env) (hg ▸ G.g) e h) hd
theorem ldb {x : Str} {v : Value} {pos : Pos} {Q : Value → Shared → Prop} (G : Gd mg mb s.heap) (hb : x ∈ (["list", "range", "len", "sum", "zip", "round"] : List Str)) (hv : bootBuiltins x = some v) (h : Q v s)
    (hg : env.globals = mainGlobals := by rfl) (hbb : env.builtins = builtinsNs := by rfl) (hk : env.scope.kind = .function := by rfl) (hx : env.kindOf x = some .globalImplicit := by rfl) (hd : (x == ("__debug__" : Str)) = false := by decide) :
    wpAny M A (eval (.Name x pos) env) Q E s :=
  Calls.Name_function_global hk hx (Calls.loadGlobal_builtin (env := env) (hg ▸ G.g) (G.bi x hb).1 (hbb ▸ G.b) ((G.bi x hb).2.trans hv) h) hd
end
section
variable {prog : Program} {w : World} {A : Around} {E : Value → Shared → Prop} {s : Shared}
theorem copy_N {h₀ : Heap} {L l : Addr} {m : Str → Option Value} {news : List (Addr × Obj)} {vs : List Value} {Q : Value → Shared → Prop} (F : Fr h₀ L s.heap m) (N : News h₀ L s.heap news) (hl : s.heap.IsList l vs.toArray) (hz : vs.length ≤ 1000)
    (h : ∀ h' c, Ext s.heap h' → Fr h₀ L h' m → News h₀ L h' ((s.heap.objs.size, lobj vs c) :: news) → Q (.ref s.heap.objs.size) { s with heap := h' }) : wpAny (model prog w) A (call (.type "list") [.ref l]) Q E s := by
  obtain ⟨o, ho, hc, n, hd⟩ := hl
  refine call_list_seq (hsz := by have := sizeLine_eq; simp; omega) l (.inl rfl) ho hc hd fun h' c' hk hD => h h' c' hk (F.keeps hk) fun p hp => ?_
  rcases List.mem_cons.mp hp with rfl | hp
  · exact ⟨hD, Nat.ne_of_gt F.ns.lt, none_at_size F⟩
  · exact News.grown N hk p hp
theorem slice_at {h : Heap} {g : Array GenState} {d : Drawn} {tk : Nat} {os : OsState} {h₀ : Heap} {L l : Addr} {m : Str → Option Value} {news : List (Addr × Obj)} {value slice : PySem.Expr} {items : Array Value} {vl vu : Value} {lo hi : Option Int} {Q : Value → Shared → Prop} (F : Fr h₀ L h m) (N : News h₀ L h news) (hl : h.IsList l items) (pl : IsPart vl lo) (pu : IsPart vu hi) (hz : items.size ≤ 1000)
    (q : ∀ h', Fr h₀ L h' m → News h₀ L h' ((h.objs.size + 1, { cls := .type "list", data := .seq (slicePick items lo hi none) }) :: news) → Q (.ref (h.objs.size + 1)) ⟨h', g, d, tk, os⟩)
    (hs : subscripted slice false (.ref l) (.ref h.objs.size) = operate [.ref h.objs.size, .ref l] (getItem (.ref l) (.ref h.objs.size)) := by with_unfolding_all rfl) :
    wpAny (model prog w) A (subscriptTail value slice (.ref l) (.ref h.objs.size)) Q E ⟨h.push { cls := .type "slice", data := .fields #[vl, vu, .none] }, g, d, tk, os⟩ := by
  refine tail_any (Heap.IsList.typeIs (s := ⟨h.push { cls := .type "slice", data := .fields #[vl, vu, .none] }, g, d, tk, os⟩) (hl.push _)) slot_list_getitem.lookup
    (wpAny_getItem_list_slice (s := ⟨h.push { cls := .type "slice", data := .fields #[vl, vu, .none] }, g, d, tk, os⟩) (hl.push _) (Heap.IsSliceOf.new ..) pl pu .none (by simp) ?_ (by have := sizeLine_eq; omega)) hs
  have N1 := News.push (F.push { cls := .type "slice", data := .fields #[vl, vu, .none] }) (N.grown fun _ _ e => Heap.get?_push_of_some _ e) { cls := .type "list", data := .seq (slicePick items lo hi none) }
  rw [Heap.size_push] at N1
  show Q (.ref (h.push _).objs.size) _
  rw [Heap.size_push]
  exact q _ ((F.push _).push _) N1
theorem pick4 (vs : List Value) : slicePick vs.toArray none (some 4) none = (vs.take 4).toArray := by
  rw [kms_pick_eq]
  unfold kms_pick kms_lo kms_hi
  simp
end
theorem ints_at : ∀ {vs : List Value} {ns : List Int}, IntsAre vs ns → ∀ {i : Nat} {v : Value}, vs[i]? = some v → ∃ k t, v = .int k t ∧ ns[i]? = some k
  | _, _, .nil, i, v, h => by simp at h
  | _, _, .cons n t h, 0, v, e => by simp at e; subst e; exact ⟨n, t, rfl, rfl⟩
  | _, _, .cons n t h, i + 1, v, e => by
    obtain ⟨k, u, a, b⟩ := ints_at h (i := i) (v := v) (by simpa using e)
    exact ⟨k, u, a, by simpa using b⟩
theorem ints_mk : ∀ {vs : List Value} {ns : List Int}, vs.length = ns.length → (∀ i < ns.length, ∃ k t, ns[i]? = some k ∧ vs[i]? = some (.int k t)) → IntsAre vs ns
  | [], [], _, _ => .nil
  | [], _ :: _, h, _ => by simp at h
  | _ :: _, [], h, _ => by simp at h
  | v :: vs, n :: ns, h, q => by
    obtain ⟨k, t, a, b⟩ := q 0 (by simp)
    simp at a b
    subst a b
    refine .cons _ _ (ints_mk (by simpa using h) fun i hi => ?_)
    obtain ⟨k, t, a, b⟩ := q (i + 1) (by simpa using hi)
    exact ⟨k, t, by simpa using a, by simpa using b⟩
theorem strs_at : ∀ {vs : List Value} {ns : List Str}, StrsAre vs ns → ∀ {i : Nat} {v : Value}, vs[i]? = some v → ∃ k t, v = .str k t ∧ ns[i]? = some k
  | _, _, .nil, i, v, h => by simp at h
  | _, _, .cons n t h, 0, v, e => by simp at e; subst e; exact ⟨n, t, rfl, rfl⟩
  | _, _, .cons n t h, i + 1, v, e => by
    obtain ⟨k, u, a, b⟩ := strs_at h (i := i) (v := v) (by simpa using e)
    exact ⟨k, u, a, by simpa using b⟩
theorem strs_mk : ∀ {vs : List Value} {ns : List Str}, vs.length = ns.length → (∀ i < ns.length, ∃ k t, ns[i]? = some k ∧ vs[i]? = some (.str k t)) → StrsAre vs ns
  | [], [], _, _ => .nil
  | [], _ :: _, h, _ => by simp at h
  | _ :: _, [], h, _ => by simp at h
  | v :: vs, n :: ns, h, q => by
    obtain ⟨k, t, a, b⟩ := q 0 (by simp)
    simp at a b
    subst a b
    refine .cons _ _ (strs_mk (by simpa using h) fun i hi => ?_)
    obtain ⟨k, t, a, b⟩ := q (i + 1) (by simpa using hi)
    exact ⟨k, t, by simpa using a, by simpa using b⟩
abbrev st16 (k : Nat) : Stmt := (bodyAt 16).getD k (.Pass default)
abbrev lawE (L a : Addr) (cd : Value) : Env := envOfC (nameAt 16) (scopeAt 16) L a cd
end Mine
end
section
open PySem PySem.W PyProof.Rows
set_option maxRecDepth 100000
set_option maxHeartbeats 1000000
namespace Mine
theorem fresh_MD2 : True := by w_top off; trivial
def ListO (o : Obj) (its : List Value) : Prop := o.cls = .type "list" ∧ ∃ n, o.data = .seq its.toArray n
theorem ListO.isList {h : Heap} {a : Addr} {o : Obj} {its : List Value} (x : ListO o its) (e : h.get? a = some o) : h.IsList a its.toArray := ⟨o, e, x.1, x.2⟩
theorem lobj_O (vs : List Value) (n : Nat) : ListO (lobj vs n) vs := ⟨rfl, n, rfl⟩
theorem list4 {α : Type} {ys : List α} {a b c d : α} (h : ys.length = 4) (h0 : ys[0]? = some a) (h1 : ys[1]? = some b) (h2 : ys[2]? = some c) (h3 : ys[3]? = some d) : ys = [a, b, c, d] := by
  match ys, h with
  | [_, _, _, _], _ => simp at h0 h1 h2 h3; simp [h0, h1, h2, h3]
def pick4f {α : Type} (a b c d : α) : Nat → α | 0 => a | 1 => b | 2 => c | _ => d
/-- four fresh lists, gathered -/
theorem four_lists {P : Nat → Value → Prop} {G : Nat → List Value → Prop} {ys : List Value} {ob : List (Addr × Obj)}
    (sel : Sel P (fun _ _ => true) (fun i _ y nw => ∃ T o its, y = .ref T ∧ nw = [(T, o)] ∧ ListO o its ∧ G i its) 4 ys ob) :
    ∃ (T : Nat → Addr) (o : Nat → Obj) (its : Nat → List Value), ys = [.ref (T 0), .ref (T 1), .ref (T 2), .ref (T 3)] ∧ ∀ i < 4, ListO (o i) (its i) ∧ G i (its i) ∧ (T i, o i) ∈ ob := by
  obtain ⟨h1, h2⟩ := sel.all fun _ _ => rfl
  obtain ⟨_, _, _, _, b0, ⟨T0, o0, i0, rfl, rfl, l0, g0⟩, n0⟩ := h2 0 (by decide)
  obtain ⟨_, _, _, _, b1, ⟨T1, o1, i1, rfl, rfl, l1, g1⟩, n1⟩ := h2 1 (by decide)
  obtain ⟨_, _, _, _, b2, ⟨T2, o2, i2, rfl, rfl, l2, g2⟩, n2⟩ := h2 2 (by decide)
  obtain ⟨_, _, _, _, b3, ⟨T3, o3, i3, rfl, rfl, l3, g3⟩, n3⟩ := h2 3 (by decide)
  refine ⟨pick4f T0 T1 T2 T3, pick4f o0 o1 o2 o3, pick4f i0 i1 i2 i3, list4 h1 b0 b1 b2 b3, fun i hi => ?_⟩
  match i, hi with
  | 0, _ => exact ⟨l0, g0, n0 _ (.head _)⟩
  | 1, _ => exact ⟨l1, g1, n1 _ (.head _)⟩
  | 2, _ => exact ⟨l2, g2, n2 _ (.head _)⟩
  | 3, _ => exact ⟨l3, g3, n3 _ (.head _)⟩
theorem four_vals {P : Nat → Value → Prop} {G : Nat → Value → Prop} {ys : List Value} {ob : List (Addr × Obj)}
    (sel : Sel P (fun _ _ => true) (fun i _ y nw => nw = [] ∧ G i y) 4 ys ob) : ∃ y : Nat → Value, ys = [y 0, y 1, y 2, y 3] ∧ ∀ i < 4, G i (y i) := by
  obtain ⟨h1, h2⟩ := sel.all fun _ _ => rfl
  obtain ⟨_, y0, _, _, b0, ⟨_, g0⟩, _⟩ := h2 0 (by decide)
  obtain ⟨_, y1, _, _, b1, ⟨_, g1⟩, _⟩ := h2 1 (by decide)
  obtain ⟨_, y2, _, _, b2, ⟨_, g2⟩, _⟩ := h2 2 (by decide)
  obtain ⟨_, y3, _, _, b3, ⟨_, g3⟩, _⟩ := h2 3 (by decide)
  refine ⟨pick4f y0 y1 y2 y3, list4 h1 b0 b1 b2 b3, fun i hi => ?_⟩
  match i, hi with
  | 0, _ => exact g0
  | 1, _ => exact g1
  | 2, _ => exact g2
  | 3, _ => exact g3
theorem three_vals {P : Nat → Value → Prop} {G : Nat → Value → Prop} {ys : List Value} {ob : List (Addr × Obj)}
    (sel : Sel P (fun _ _ => true) (fun i _ y nw => nw = [] ∧ G i y) 3 ys ob) : ∃ y : Nat → Value, ys = [y 0, y 1, y 2] ∧ ∀ i < 3, G i (y i) := by
  obtain ⟨h1, h2⟩ := sel.all fun _ _ => rfl
  obtain ⟨_, y0, _, _, b0, ⟨_, g0⟩, _⟩ := h2 0 (by decide)
  obtain ⟨_, y1, _, _, b1, ⟨_, g1⟩, _⟩ := h2 1 (by decide)
  obtain ⟨_, y2, _, _, b2, ⟨_, g2⟩, _⟩ := h2 2 (by decide)
  refine ⟨pick4f y0 y1 y2 y2, ?_, fun i hi => ?_⟩
  · match ys, h1, b0, b1, b2 with
    | [_, _, _], _, b0, b1, b2 => simp at b0 b1 b2; simp [b0, b1, b2, pick4f]
  match i, hi with
  | 0, _ => exact g0
  | 1, _ => exact g1
  | 2, _ => exact g2
/-- a fresh list as an element -/
theorem fresh_elt {h h1 h2 : Heap} {D : Addr} {its : List Value} {G : List Value → Prop} {s : Shared} {tk : Nat} (e1 : Ext h h1) (e2 : Ext h1 h2) (hD : h1.get? D = none) (l : LL h2 D its) (g : G its) :
    ∃ h' tk' nw, ({ s with heap := h2, toks := tk } : Shared) = { s with heap := h', toks := tk' } ∧ Ext h h' ∧ (∃ T o its, Value.ref D = .ref T ∧ nw = [(T, o)] ∧ ListO o its ∧ G its) ∧ ∀ q ∈ nw, h.get? q.1 = none ∧ h'.get? q.1 = some q.2 := by
  obtain ⟨n, l⟩ := l
  refine ⟨h2, tk, [(D, lobj its n)], rfl, e1.trans e2, ⟨D, _, its, rfl, rfl, lobj_O its n, g⟩, fun q hq => ?_⟩
  rw [List.mem_singleton.mp hq]
  refine ⟨?_, l⟩
  cases z : h.get? D with
  | none => rfl
  | some o => rw [e1 _ _ z] at hD; cases hD
theorem list_ne_cell {h : Heap} {a c : Addr} {o oc : Obj} {its : List Value} {v : Option Value} (x : ListO o its) (e : h.get? a = some o) (hc : oc.data = .cell v) (ec : h.get? c = some oc) : a ≠ c := by
  rintro rfl
  rw [e] at ec
  cases ec
  obtain ⟨n, hd⟩ := x.2
  rw [hd] at hc
  cases hc
theorem News.same {h₀ h h' : Heap} {L c : Addr} {news : List (Addr × Obj)} (N : News h₀ L h news) (hs : Heap.SameBut c h h') (hne : ∀ p ∈ news, p.1 ≠ c) : News h₀ L h' news :=
  fun p hp => ⟨hs.extBut _ _ (hne p hp) (N p hp).1, (N p hp).2⟩
theorem News.more {h₀ h h' : Heap} {L : Addr} {m : Str → Option Value} {news ob : List (Addr × Obj)} (F : Fr h₀ L h m) (N : News h₀ L h news) (e : Ext h h') (hob : ∀ p ∈ ob, h'.get? p.1 = some p.2 ∧ h.get? p.1 = none) : News h₀ L h' (ob ++ news) := fun p hp => by
  rcases List.mem_append.mp hp with hp | hp
  · refine ⟨(hob p hp).1, fun z => ?_, ?_⟩
    · obtain ⟨o, _, _, eo, _⟩ := F.ns
      rw [← z, (hob p hp).2] at eo
      cases eo
    · cases z : h₀.get? p.1 with
      | none => rfl
      | some o => have := F.keep _ _ z; rw [(hob p hp).2] at this; cases this
  · exact News.grown N e p hp
/-- a store into a cell of the frame -/
theorem store_C {M : Model} {A : Around} {E : Value → Shared → Prop} {s : Shared} {env : Env} {h₀ : Heap} {L c : Addr} {m : Str → Option Value} {news : List (Addr × Obj)} {x : Str} {v : Value} {v₀ : Option Value} {Q : Unit → Shared → Prop}
    (F : Fr h₀ L s.heap m) (N : News h₀ L s.heap news) (hcv : s.heap.IsCell c v₀) (hLc : @LT.lt Nat _ L c) (hne : ∀ p ∈ news, p.1 ≠ c)
    (h : ∀ h' o', Heap.SameBut c s.heap h' → Fr h₀ L h' m → News h₀ L h' ((c, o') :: news) → o'.data = .cell (some v) → Q () { s with heap := h' })
    (hc : env.cells.lookup x = some c := by rfl) (hk : env.scope.kind = .function := by rfl) (hx : env.kindOf x = some .cell := by rfl) : wpAny M A (storeName env x v) Q E s := by
  have hc0 : h₀.get? c = none := get_fresh _ (by have := F.above; omega)
  refine wpAny_storeName_cell hk hx hc hcv fun h' hv hs => ?_
  obtain ⟨o', ho', hd'⟩ := hv
  refine h h' o' hs (Fr_same F hs hc0 (Nat.ne_of_gt hLc)) (fun p hp => ?_) hd'
  rcases List.mem_cons.mp hp with rfl | hp
  · exact ⟨ho', Nat.ne_of_gt hLc, hc0⟩
  · exact News.same N hs hne p hp
end Mine
end
section
open PySem PySem.W PyProof.Rows
set_option maxRecDepth 100000
set_option maxHeartbeats 4000000
namespace Mine
local macro_rules | `(tactic| walk_at "idle") => `(tactic| skip)
local macro_rules | `(tactic| walk_at "idle") => `(tactic| skip)
local macro_rules | `(tactic| walk_at "idle") => `(tactic| skip)
local macro_rules | `(tactic| walk_at "idle") => `(tactic| skip)
local macro_rules | `(tactic| walk_at "idle") => `(tactic| skip)
theorem fresh_MX1 : True := by w_top off; trivial
section
variable {prog : Program} {w : World} {A : Around} {E : Value → Shared → Prop} {s : Shared} {mg mb : Str → Option Value}
local macro_rules | `(tactic| walk_at "nocall") => `(tactic| ((first | (with_reducible show wpAny _ _ _ _ _ _) | (dsimp only; (with_reducible show wpAny _ _ _ _ _ _))); (fail_if_success (with_reducible show wpAny _ _ (call _ _ _) _ _ _)); (first | walk1 | (dsimp only; walk1))))
local macro_rules | `(tactic| walk_at "lk") => `(tactic| first | with_reducible assumption | exact if_pos rfl | (refine (if_neg (by decide)).trans ?_; walk_at "lk"))
local macro_rules | `(tactic| walk_at "eval Name") => `(tactic| ((with_reducible rename Fr _ _ _ _ => F9'); refine ldx F9' (by walk_at "lk") ?_))
theorem fmod6 (k : Int) : Int.fmod k (10 ^ Int.toNat 6) = k % 1000000 := by
  show Int.fmod k 1000000 = _
  rw [Int.fmod_eq_emod_of_nonneg k (by decide)]
def nums (xs : List Int) : List Int := (List.take 4 (List.take 4 xs ++ [34, 19, 37, 23])).map (· % 1000000)
theorem numbers_st {h₀ : Heap} {L a ls : Addr} {cd : Value} {m : Str → Option Value} {news : List (Addr × Obj)} {vs : List Value} {xs : List Int} {Q : Flow → Shared → Prop} {n : Nat} (R : Room A (n + 1)) (G : Gd mg mb h₀)
    (F : Fr h₀ L s.heap m) (N : News h₀ L s.heap news) (hs : m "script" = some (.ref ls)) (hl : h₀.IsList ls vs.toArray) (hi : IntsAre vs xs) (hlen : vs.length < 100)
    (q : ∀ h tk D ys, Fr h₀ L h (fun z => if z = "numbers" then some (.ref D) else m z) → News h₀ L h news → D ≠ L → LL h D ys → h₀.get? D = none → IntsAre ys (nums xs) → Q .next { s with heap := h, toks := tk }) :
    wpAny (model prog w) A (exec (st16 0) (lawE L a cd)) Q E s := by
  refine comp_asg (h₀ := h₀) false ?_
  have hz := R.hh
  repeat' (walk_at "nocall")
  refine ldb (G.ext F.keep) (by decide) boot_list ?_
  refine Pv.callWith_type1 ?_
  repeat' (walk_at "nocall")
  rename News _ _ _ (_ :: _) => N1
  rename Fr _ _ _ _ => F1
  rw [pick4] at N1
  have hsz := sizeLine_eq
  refine copy_N F1 N1 (News.isList N1 (.head _)) (by simp; omega) ?_
  intro h2 c2 e2 F2 N2
  clear N1 F1
  repeat' (walk_at "nocall")
  rename News _ _ _ (_ :: _) => N3
  rename Fr _ _ _ _ => F3
  refine add_lists F3 N3 (News.isList N3 (.tail _ (.head _))) (News.isList N3 (.head _)) ?_ (hsz := ?hz)
  case hz => simp; omega
  intro h4 F4 N4
  clear F3 N3
  repeat' (walk_at "nocall")
  dsimp only
  refine slice_at (hi := some 4) F4 N4 (News.isList N4 (.head _)) .none (.int _ _) ?hz2 ?_
  case hz2 => simp; omega
  intro h6 F6 N6
  rw [pick4] at N6
  clear F4 N4
  dsimp only
  have hI6 : IntsAre (List.take 4 (List.take 4 vs ++ [Value.int 34 (s.toks + 1), Value.int 19 (s.toks + 1 + 1), Value.int 37 (s.toks + 1 + 1 + 1), Value.int 23 (s.toks + 1 + 1 + 1 + 1)])) (List.take 4 (List.take 4 xs ++ [34, 19, 37, 23])) :=
    ((hi.take 4).append (.cons _ _ (.cons _ _ (.cons _ _ (.cons _ _ .nil))))).take 4
  generalize List.take 4 (List.take 4 vs ++ [Value.int 34 (s.toks + 1), Value.int 19 (s.toks + 1 + 1), Value.int 37 (s.toks + 1 + 1 + 1), Value.int 23 (s.toks + 1 + 1 + 1 + 1)]) = vs6 at N6 hI6
  have hl6 : (List.take 4 (List.take 4 xs ++ [34, 19, 37, 23])).length = 4 := by simp
  generalize hn6 : List.take 4 (List.take 4 xs ++ [34, 19, 37, 23]) = ns6 at hI6 hl6
  refine src_list hz (News.isList N6 (.head _)) fun it s₂ hS => ?_
  refine ⟨_, _, fun _ _ => true, fun i v y nw => nw = [] ∧ ∃ k t', ns6[i]? = some k ∧ y = .int (k % 1000000) t', _, news, hS, ?_, ?_, F6, fun p hp => N6 p (.tail _ (.tail _ (.tail _ (.tail _ (.tail _ hp))))), ?_⟩
  · simp [hI6.length, hl6]
  · clear N6 F6 F2 N2 hS
    refine ⟨fun i v C c m' h tk E' hi' hP F7 hv => wpAny_tests_nil ⟨rfl, _, _, rfl, Ext.refl _⟩, fun i v C c m' h tk E' hi' hP hp F7 hv => ?_⟩
    obtain ⟨k, t, rfl, hk⟩ := ints_at hI6 (i := i) (v := v) (by simpa using hP)
    have hv' : m' "x" = some (.int k t) := hv
    dsimp only
    repeat' (walk_at "nocall")
    exact ⟨h, _, [], rfl, Ext.refl _, ⟨rfl, k, _, hk, congrArg (fun z => Value.int z _) (fmod6 k)⟩, fun q hq => by cases hq⟩
  · intro D h tk ys ob sel F7 N7 hD0 hDL l7 _ _
    have hD1 : h₀.get? D = none := by
      cases z : h₀.get? D with
      | none => rfl
      | some o => have := F6.keep _ _ z; rw [hD0] at this; cases this
    obtain ⟨h1, h2⟩ := sel.all fun _ _ => rfl
    refine q h tk D ys F7 N7 hDL l7 hD1 (ints_mk ?_ fun i hi' => ?_)
    · rw [h1, nums, hn6, List.length_map]; simp [hI6.length]
    · rw [nums, hn6, List.length_map] at hi'
      obtain ⟨v, y, nw, a, b, ⟨_, k, t', hk, rfl⟩, _⟩ := h2 i (by simpa [hI6.length] using hi')
      exact ⟨_, t', by rw [nums, hn6, List.getElem?_map, hk]; rfl, b⟩
end
end Mine
end
section
open PySem PySem.W PyProof.Rows
set_option maxRecDepth 100000
set_option maxHeartbeats 4000000
namespace Mine
theorem fresh_MX2 : True := by w_top off; trivial
section
variable {prog : Program} {w : World} {A : Around} {E : Value → Shared → Prop} {s : Shared} {mg mb : Str → Option Value}
local macro_rules | `(tactic| walk_at "nocall") => `(tactic| ((first | (with_reducible show wpAny _ _ _ _ _ _) | (dsimp only; (with_reducible show wpAny _ _ _ _ _ _))); (fail_if_success (with_reducible show wpAny _ _ (call _ _ _) _ _ _)); (first | walk1 | (dsimp only; walk1))))
local macro_rules | `(tactic| walk_at "lk") => `(tactic| first | with_reducible assumption | exact if_pos rfl | (refine (if_neg (by decide)).trans ?_; walk_at "lk"))
local macro_rules | `(tactic| walk_at "eval Name") => `(tactic| (first | ((with_reducible rename Fr _ _ _ _ => F9'); refine ldx F9' (by walk_at "lk") ?_) | refine ldc (by with_reducible assumption) ?_))
def lab (x : Int) (k : Nat) : Nat := 97 + (x / 4 / 2 ^ k % 2).toNat
def labS (c : Nat) : Str := ⟨#[c]⟩
def rowC (x : Int) : List Nat := (List.range (x % 4).toNat).map (lab x)
def rowS (x : Int) : List Str := (rowC x).map labS
theorem lab_bit {k : Int} {j : Nat} : ∃ b : Nat, b < 2 ∧ ((k.fdiv 4).fdiv (2 ^ ((j : Int)).toNat)).fmod 2 = (b : Int) ∧ lab k j = 97 + b := by
  refine ⟨(k / 4 / 2 ^ j % 2).toNat, by omega, ?_, rfl⟩
  have h2 : (0 : Int) < 2 ^ j := Int.pow_pos (by decide)
  rw [Int.toNat_natCast, Int.fdiv_eq_ediv_of_nonneg _ (Int.le_of_lt h2), Int.fdiv_eq_ediv_of_nonneg _ (by decide : (0 : Int) ≤ 4), Int.fmod_eq_emod_of_nonneg _ (by decide)]
  omega
theorem get4 {α : Type} {x : Nat → α} {i : Nat} {k : α} (h : [x 0, x 1, x 2, x 3][i]? = some k) : x i = k := by
  match i with
  | 0 => simpa using h
  | 1 => simpa using h
  | 2 => simpa using h
  | 3 => simpa using h
  | i + 4 => simp at h
theorem rows_st {h₀ : Heap} {L a Dn : Addr} {cd : Value} {m : Str → Option Value} {news : List (Addr × Obj)} {vs : List Value} {x : Nat → Int} {Q : Flow → Shared → Prop} {n : Nat} (R : Room A (n + 1)) (G : Gd mg mb h₀)
    (F : Fr h₀ L s.heap m) (N : News h₀ L s.heap news) (hm : m "numbers" = some (.ref Dn)) (hl : LL s.heap Dn vs) (hi : IntsAre vs [x 0, x 1, x 2, x 3]) 
    (hc : s.heap.IsCell (L + 1) none) (hne : ∀ p ∈ news, p.1 ≠ L + 1)
    (q : ∀ h tk D nD (T : Nat → Addr) (o : Nat → Obj) (its : Nat → List Value) (o' : Obj), Fr h₀ L h m → News h₀ L h ((L + 1, o') :: ([(D, lobj [.ref (T 0), .ref (T 1), .ref (T 2), .ref (T 3)] nD), (T 0, o 0), (T 1, o 1), (T 2, o 2), (T 3, o 3)] ++ news)) → o'.data = .cell (some (.ref D)) →
      (∀ i < 4, ListO (o i) (its i) ∧ StrsAre (its i) (rowS (x i))) → Q .next { s with heap := h, toks := tk }) :
    wpAny (model prog w) A (exec (st16 1) (lawE L a cd)) Q E s := by
  have hz := R.hh
  show wpAny _ _ (exec (.Assign [.Name _ _] (.ListComp _ _ _ _) _) _) _ _ _
  walk1
  refine comp_val true ?_
  refine ldx F hm ?_
  refine src_list hz hl.isList fun it s₂ hS => ?_
  refine ⟨_, _, fun _ _ => true, fun i _ y nw => ∃ T o its, y = .ref T ∧ nw = [(T, o)] ∧ ListO o its ∧ StrsAre its (rowS (x i)), hS, ?_, ?_, ?_⟩
  · simp [hi.length]
  · refine ⟨fun i v C c m' h tk E' hi' hP F7 hv => wpAny_tests_nil ⟨rfl, _, _, rfl, Ext.refl _⟩, fun i v C c m' h tk E' hi' hP hp F7 hv => ?_⟩
    obtain ⟨k, t, rfl, hk⟩ := ints_at hi (i := i) (v := v) (by simpa using hP)
    obtain ⟨hcv, hc0, hcC⟩ := hv
    have G7 := (G.ext F.keep).ext F7.keep
    refine comp_val false ?_
    repeat' (walk_at "nocall")
    refine ldb G7 (by decide) boot_range ?_
    refine Pv.callWith_type1 ?_
    repeat' (walk_at "nocall")

    refine call_range_1 ?_
    have hk4 : Int.fmod k 4 = (((k % 4).toNat : Nat) : Int) := by
      rw [Int.fmod_eq_emod_of_nonneg k (by decide)]; omega
    rw [hk4]
    dsimp only
    refine src_range hz (IsRange.new ..) (by omega) fun it' s₃ hS' => ?_
    refine ⟨_, _, fun _ _ => true, fun j _ y nw => nw = [] ∧ ∃ t', y = .str (labS (lab k j)) t', hS', by omega, ?_, ?_⟩
    · refine ⟨fun i v C c m' h tk E' hi' hP F7 hv => wpAny_tests_nil ⟨rfl, _, _, rfl, Ext.refl _⟩, fun j v C' c' m'' h' tk' E'' hj hPj hpj F8 hv' => ?_⟩
      obtain ⟨tj, rfl⟩ := hPj
      have hvj : m'' "k" = some (.int (j : Int) tj) := hv'
      have hcv8 := hcv.keeps (fun b o e => F8.keep b o (Heap.get?_push_of_some _ e))
      have hp2 : ((2 : Int) ^ ((j : Int)).toNat) ≠ 0 := Int.pow_ne_zero (by decide)
      clear F7 hS hS' F N
      repeat' (walk_at "nocall")
      dsimp only

      refine floordiv_int hp2 ?_ (Or.inl (PyProof.noPylong_of_log2 (kbt_py (by omega))))
      repeat' (walk_at "nocall")
      obtain ⟨b, hb2, hb, hlab⟩ := lab_bit (k := k) (j := j)
      rw [hb]
      clear hb hk4 hp2
      rcases (by omega : b = 0 ∨ b = 1) with rfl | rfl
      all_goals
        dsimp only
        refine item_str (by decide) (by decide +kernel) (by decide +kernel) fun _ => ?_
        exact ⟨h', _, [], rfl, Ext.refl _, ⟨rfl, _, by rw [hlab]; exact congrArg (fun z => Value.str z _) (by decide +kernel)⟩, fun q hq => by cases hq⟩
    · intro D h9 tk9 ys ob sel e9 hD l9 hob
      obtain ⟨a1, a2⟩ := sel.all fun _ _ => rfl
      refine fresh_elt (fun b o e => Heap.get?_push_of_some _ e) e9 hD l9 (strs_mk ?_ fun i' hi'' => ?_)
      · rw [a1, rowS, rowC, List.length_map, List.length_map, List.length_range, ← get4 hk]
      · rw [rowS, rowC, List.length_map, List.length_map, List.length_range, get4 hk] at hi''
        obtain ⟨_, y, _, _, b, ⟨_, t', rfl⟩, _⟩ := a2 i' (by omega)
        exact ⟨labS (lab k i'), t', by rw [get4 hk, rowS, rowC, List.getElem?_map, List.getElem?_map, List.getElem?_range (by omega)]; rfl, b⟩
  · intro D h tk ys ob sel e7 hD l7 hob
    have hsz : vs.toArray.size = 4 := by simp [hi.length]
    rw [hsz] at sel
    obtain ⟨T, o, its, rfl, hT⟩ := four_lists sel
    obtain ⟨nD, l7⟩ := l7
    have F8 := F.keeps e7
    have hob' : ∀ p ∈ ([(D, lobj [.ref (T 0), .ref (T 1), .ref (T 2), .ref (T 3)] nD), (T 0, o 0), (T 1, o 1), (T 2, o 2), (T 3, o 3)] : List (Addr × Obj)), h.get? p.1 = some p.2 ∧ s.heap.get? p.1 = none := by
      intro p hp
      simp only [List.mem_cons, List.mem_nil_iff, or_false] at hp
      rcases hp with rfl | rfl | rfl | rfl | rfl
      · exact ⟨l7, hD⟩
      · exact ⟨(hob _ (hT 0 (by decide)).2.2).1, (hob _ (hT 0 (by decide)).2.2).2.1⟩
      · exact ⟨(hob _ (hT 1 (by decide)).2.2).1, (hob _ (hT 1 (by decide)).2.2).2.1⟩
      · exact ⟨(hob _ (hT 2 (by decide)).2.2).1, (hob _ (hT 2 (by decide)).2.2).2.1⟩
      · exact ⟨(hob _ (hT 3 (by decide)).2.2).1, (hob _ (hT 3 (by decide)).2.2).2.1⟩
    have N8 := News.more F N e7 hob'
    refine store_C F8 N8 (hc.keeps e7) (Nat.lt_succ_self _) (fun p hp => ?_) fun h' o' hs' F9 N9 hd' => ?_
    · rcases List.mem_append.mp hp with hp | hp
      · intro z
        obtain ⟨oc, ec, _⟩ := hc
        rw [← z, (hob' p hp).2] at ec
        cases ec
      · exact hne p hp
    repeat' (walk_at "nocall")
    exact q h' _ D nD T o its o' F9 N9 hd' fun i hi => ⟨(hT i hi).1, (hT i hi).2.1⟩
end
end Mine
end
section
open PySem PySem.W PyProof.Rows
set_option maxRecDepth 100000
set_option maxHeartbeats 4000000
namespace Mine
local macro_rules | `(tactic| walk_at "idle") => `(tactic| skip)
local macro_rules | `(tactic| walk_at "idle") => `(tactic| skip)
local macro_rules | `(tactic| walk_at "idle") => `(tactic| skip)
local macro_rules | `(tactic| walk_at "idle") => `(tactic| skip)
local macro_rules | `(tactic| walk_at "idle") => `(tactic| skip)
theorem fresh_MX3 : True := by w_top off; trivial
section
variable {prog : Program} {w : World} {A : Around} {E : Value → Shared → Prop} {s : Shared} {mg mb : Str → Option Value}
local macro_rules | `(tactic| walk_at "nocall") => `(tactic| ((first | (with_reducible show wpAny _ _ _ _ _ _) | (dsimp only; (with_reducible show wpAny _ _ _ _ _ _))); (fail_if_success (with_reducible show wpAny _ _ (call _ _ _) _ _ _)); (first | walk1 | (dsimp only; walk1))))
local macro_rules | `(tactic| walk_at "lk") => `(tactic| first | with_reducible assumption | exact if_pos rfl | (refine (if_neg (by decide)).trans ?_; walk_at "lk"))
local macro_rules | `(tactic| walk_at "eval Name") => `(tactic| (first | refine ldx (by with_reducible assumption) (by walk_at "lk") ?_ | refine ldc (by with_reducible assumption) ?_))
def closeB (x : Nat → Int) : Array UInt8 := if (x 0 + x 1 + x 2 + x 3) % 2 = 0 then #[10] else #[13, 10]
theorem close_st {h₀ : Heap} {L a Dn : Addr} {cd : Value} {m : Str → Option Value} {news : List (Addr × Obj)} {vs : List Value} {x : Nat → Int} {nn : Nat} {Q : Flow → Shared → Prop} {n : Nat} (R : Room A (n + 1)) (G : Gd mg mb h₀)
    (F : Fr h₀ L s.heap m) (N : News h₀ L s.heap news) (hm : m "numbers" = some (.ref Dn)) (hl : (Dn, lobj vs nn) ∈ news) (hi : IntsAre vs [x 0, x 1, x 2, x 3])
    (hc : s.heap.IsCell (L + 2) none) (hne : ∀ p ∈ news, p.1 ≠ L + 2)
    (q : ∀ h tk o' t, Fr h₀ L h m → News h₀ L h ((L + 2, o') :: news) → o'.data = .cell (some (.bytes (closeB x) t)) → Q .next { s with heap := h, toks := tk }) :
    wpAny (model prog w) A (exec (st16 2) (lawE L a cd)) Q E s := by
  have hz := R.hh
  show wpAny _ _ (exec (.Assign [.Name _ _] (.Subscript _ _ _) _) _) _ _ _
  obtain ⟨oc, hco, hcd⟩ := hc
  have Nc : News h₀ L s.heap ((L + 2, oc) :: news) := fun p hp => by
    rcases List.mem_cons.mp hp with rfl | hp
    · exact ⟨hco, Nat.ne_of_gt (Nat.lt_add_of_pos_right (by decide)), get_fresh _ (by have := F.above; omega)⟩
    · exact N p hp
  clear N
  repeat' (walk_at "nocall")
  rename Fr _ _ _ _ => F1
  rename News _ _ _ _ => N1
  refine ldb (G.ext F1.keep) (by decide) boot_sum ?_
  repeat' (walk_at "nocall")
  refine LSm.sum_ints F1 N1 hz (News.isList N1 (.tail _ (.tail _ hl))) hi fun h2 tk2 t2 F2 N2 => ?_
  clear F1 N1
  repeat' (walk_at "nocall")
  dsimp only
  have hsum : ([x 0, x 1, x 2, x 3] : List Int).sum = x 0 + x 1 + x 2 + x 3 := by simp [List.sum_cons]; omega
  have hfm : Int.fmod ([x 0, x 1, x 2, x 3] : List Int).sum 2 = (x 0 + x 1 + x 2 + x 3) % 2 := by rw [hsum, Int.fmod_eq_emod_of_nonneg _ (by decide)]
  rw [hfm]
  rename Fr _ _ _ _ => F3
  rename News _ _ _ _ => N3
  have N4 : News h₀ L h2 news := fun p hp => N3 p (.tail _ (.tail _ hp))
  have hc4 : h2.IsCell (L + 2) none := ⟨oc, (N3 _ (.tail _ (.head _))).1, hcd⟩
  have hl4 := News.isList N3 (.head _)
  by_cases hp : (x 0 + x 1 + x 2 + x 3) % 2 = 0
  · rw [hp]
    refine item_at hl4 (by decide) (by decide) rfl ?_
    refine store_C F3 N4 hc4 (Nat.lt_add_of_pos_right (by decide)) hne fun h' o' hs' F9 N9 hd' => ?_
    exact q h' _ o' _ F9 N9 (by rw [hd', closeB, if_pos hp])
  · have hp1 : (x 0 + x 1 + x 2 + x 3) % 2 = 1 := by omega
    rw [hp1]
    refine item_at hl4 (by decide) (by decide) rfl ?_
    refine store_C F3 N4 hc4 (Nat.lt_add_of_pos_right (by decide)) hne fun h' o' hs' F9 N9 hd' => ?_
    exact q h' _ o' _ F9 N9 (by rw [hd', closeB, if_neg hp])
end
end Mine
end
section
open PySem PySem.W PyProof.Rows
set_option maxRecDepth 100000
set_option maxHeartbeats 4000000
namespace Mine
theorem fresh_MX4 : True := by w_top off; trivial
section
variable {prog : Program} {w : World} {A : Around} {E : Value → Shared → Prop} {s : Shared} {mg mb : Str → Option Value}
local macro_rules | `(tactic| walk_at "nocall") => `(tactic| ((first | (with_reducible show wpAny _ _ _ _ _ _) | (dsimp only; (with_reducible show wpAny _ _ _ _ _ _))); (fail_if_success (with_reducible show wpAny _ _ (call _ _ _) _ _ _)); (first | walk1 | (dsimp only; walk1))))
local macro_rules | `(tactic| walk_at "lk") => `(tactic| first | with_reducible assumption | exact if_pos rfl | (refine (if_neg (by decide)).trans ?_; walk_at "lk"))
local macro_rules | `(tactic| walk_at "eval Name") => `(tactic| (first | refine ldx (by with_reducible assumption) (by walk_at "lk") ?_ | refine ldc (by with_reducible assumption) ?_))
def dI (x : Nat → Int) (i j : Nat) : Int := ((rowS (x i)).length : Int) + ((rowS (x j)).length : Int) - 2 * (sharedF (rowS (x i)) (rowS (x j)) : Int)
theorem row_few (x : Int) : (rowS x).length ≤ 10 := by
  rw [rowS, rowC, List.length_map, List.length_map, List.length_range]; omega
theorem drawn_st {h₀ : Heap} {L a Dr : Addr} {cd : Value} {m : Str → Option Value} {news : List (Addr × Obj)} {x : Nat → Int} {T : Nat → Addr} {its : Nat → List Value} {Q : Flow → Shared → Prop} {n : Nat} (R : Room A (n + 3)) (G : Gd mg mb h₀)
    (F : Fr h₀ L s.heap m) (N : News h₀ L s.heap news) (hc : s.heap.IsCell (L + 1) (some (.ref Dr))) (hr : s.heap.IsList Dr [.ref (T 0), .ref (T 1), .ref (T 2), .ref (T 3)].toArray)
    (hT : ∀ i < 4, s.heap.IsList (T i) (its i).toArray ∧ StrsAre (its i) (rowS (x i)))
    (q : ∀ h tk D o t0 t1 t2, Fr h₀ L h (fun z => if z = "drawn" then some (.ref D) else m z) → News h₀ L h ((D, o) :: news) → ListO o [.int (dI x 0 1 + dI x 2 3) t0, .int (dI x 0 2 + dI x 1 3) t1, .int (dI x 0 3 + dI x 1 2) t2] → Q .next { s with heap := h, toks := tk }) :
    wpAny (model prog w) A (exec (st16 3) (lawE L a cd)) Q E s := by
  have hz := R.hh
  show wpAny _ _ (exec (.Assign [.Name _ _] (.Call _ _ _ _) _) _) _ _ _
  have G1 := G.ext F.keep
  obtain ⟨a1, o1, pm1, cd1, doc1, e1, ho1, hd1, hc1⟩ := G1.fn 13 (by decide)
  obtain ⟨a2, o2, pm2, cd2, doc2, e2, ho2, hd2, hc2⟩ := G1.fn 12 (by decide)
  repeat' (walk_at "nocall")
  refine ldg G1 e1 ?_
  refine callWith_def hd1 ?_
  repeat' (walk_at "nocall")
  refine comp_val true ?_
  refine ldc hc ?_
  refine src_list hz hr fun it s₂ hS => ?_
  refine ⟨4, _, fun _ _ => true, fun i _ y nw => ∃ D o w, y = .ref D ∧ nw = [(D, o)] ∧ ListO o w ∧ ∃ t : Nat → Tok, w = [.int (dI x i 0) (t 0), .int (dI x i 1) (t 1), .int (dI x i 2) (t 2), .int (dI x i 3) (t 3)], hS, by decide, ?_, ?_⟩
  · refine ⟨fun i v C c m' h tk E' hi' hP F7 hv => wpAny_tests_nil ⟨rfl, _, _, rfl, Ext.refl _⟩, fun i v C c m' h tk E' hi' hP hp F7 hv => ?_⟩
    have hvT : v = .ref (T i) := by
      have := get4 (x := fun i => Value.ref (T i)) (i := i) (k := v) (by simpa using hP)
      exact this.symm
    subst hvT
    obtain ⟨hcv, hc0, hcC⟩ := hv
    have hc7 := hc.keeps F7.keep
    have hr7 : h.IsList Dr [.ref (T 0), .ref (T 1), .ref (T 2), .ref (T 3)].toArray := hr.at fun o e => F7.keep _ o e
    clear hS
    refine comp_val false ?_
    refine ldc hc7 ?_
    refine src_list hz hr7 fun it s₂ hS => ?_
    refine ⟨4, _, fun _ _ => true, fun j _ y nw => nw = [] ∧ ∃ t, y = .int (dI x i j) t, hS, by decide, ?_, ?_⟩
    · refine ⟨fun i v C c m' h tk E' hi' hP F7 hv => wpAny_tests_nil ⟨rfl, _, _, rfl, Ext.refl _⟩, fun j v C' c' m'' h' tk' E'' hj hPj hpj F8 hv' => ?_⟩
      have hvT : v = .ref (T j) := by
        have := get4 (x := fun i => Value.ref (T i)) (i := j) (k := v) (by simpa using hPj)
        exact this.symm
      subst hvT
      have hvj : m'' "b" = some (.ref (T j)) := hv'
      have hcv8 := hcv.keeps F8.keep
      have e8 : Ext s.heap h' := Ext.trans F7.keep F8.keep
      have G8 := G1.ext e8
      have l1 : h'.IsList (T i) (its i).toArray := (hT i hi').1.at fun o e => e8 _ o e
      have l2 : h'.IsList (T j) (its j).toArray := (hT j hj).1.at fun o e => e8 _ o e
      have k1 := (hT i hi').2
      have k2 := (hT j hj).2
      clear hS hr hr7 F7 F N hc hc7
      have ho2' := e8 _ _ ho2
      have z1 := strs_len k1
      have z2 := strs_len k2
      have b1 := row_few (x i)
      have b2 := row_few (x j)
      repeat' (walk_at "nocall")
      refine ldb G8 (by decide) boot_len ?_
      repeat' (walk_at "nocall")
      refine Calls.call_len_list l1 (by simp; omega) ?_
      repeat' (walk_at "nocall")
      refine ldb G8 (by decide) boot_len ?_
      repeat' (walk_at "nocall")
      refine Calls.call_len_list l2 (by simp; omega) ?_
      repeat' (walk_at "nocall")
      refine ldg G8 e2 ?_
      refine callWith_def hd2 ?_
      repeat' (walk_at "nocall")
      refine ⟨ho2', ?_⟩
      refine shared_call G8 R e2 l1 l2 k1 k2 b1 b2 ?_
      intro h10 tk10 t10 e10
      repeat' (walk_at "nocall")
      dsimp only
      have hdI : (((its i).toArray.size : Nat) : Int) + (((its j).toArray.size : Nat) : Int) - 2 * (sharedF (rowS (x i)) (rowS (x j)) : Int) = dI x i j := by
        rw [dI, List.size_toArray, List.size_toArray, z1, z2]
      exact ⟨h10, _, [], rfl, e10, ⟨rfl, _, congrArg (fun z => Value.int z _) hdI⟩, fun q hq => by cases hq⟩
    · intro D h9 tk9 ys ob sel e9 hD l9 hob
      obtain ⟨y, rfl, hy⟩ := four_vals sel
      obtain ⟨t0, y0⟩ := hy 0 (by decide)
      obtain ⟨t1, y1⟩ := hy 1 (by decide)
      obtain ⟨t2, y2⟩ := hy 2 (by decide)
      obtain ⟨t3, y3⟩ := hy 3 (by decide)
      rw [y0, y1, y2, y3] at l9
      exact fresh_elt (Ext.refl _) e9 hD l9 ⟨pick4f t0 t1 t2 t3, rfl⟩
  · intro D h tk ys ob sel e7 hD l7 hob
    obtain ⟨TT, oo, ww, rfl, hTT⟩ := four_lists sel
    have F7 := F.keeps e7
    have N7 := N.grown e7
    have hM : MatAt h D (dI x) := by
      obtain ⟨a0, ⟨t0, b0⟩, c0⟩ := hTT 0 (by decide)
      obtain ⟨a1, ⟨t1, b1⟩, c1⟩ := hTT 1 (by decide)
      obtain ⟨a2, ⟨t2, b2⟩, c2⟩ := hTT 2 (by decide)
      obtain ⟨a3, ⟨t3, b3⟩, c3⟩ := hTT 3 (by decide)
      refine ⟨TT 0, TT 1, TT 2, TT 3, pick4f t0 t1 t2 t3, l7.isList, ?_, ?_, ?_, ?_⟩
      · have := a0.isList (hob _ c0).1; rw [b0] at this; exact this
      · have := a1.isList (hob _ c1).1; rw [b1] at this; exact this
      · have := a2.isList (hob _ c2).1; rw [b2] at this; exact this
      · have := a3.isList (hob _ c3).1; rw [b3] at this; exact this
    clear F N hc hr hT hS
    repeat' (walk_at "nocall")
    refine ⟨e7 _ _ ho1, ?_⟩
    refine pairs_call (G1.ext e7) R e1 hM fun h8 tk8 D8 t0 t1 t2 e8 hD8 l8 => ?_
    obtain ⟨o8, g8, c8, d8⟩ := l8
    have F8 := F7.keeps e8
    have N8 := News.more F7 N7 (ob := [(D8, o8)]) e8 fun p hp => by rw [List.mem_singleton.mp hp]; exact ⟨g8, hD8⟩
    clear F7 N7 sel hTT hob hM
    repeat' (walk_at "nocall")
    rename Fr _ _ _ _ => F9
    rename News _ _ _ _ => N9
    exact q _ _ D8 o8 t0 t1 t2 F9 N9 ⟨c8, d8⟩
end
end Mine
end
section
open PySem PySem.W PyProof.Rows
set_option maxRecDepth 100000
set_option maxHeartbeats 4000000
namespace Mine
local macro_rules | `(tactic| walk_at "idle") => `(tactic| skip)
local macro_rules | `(tactic| walk_at "idle") => `(tactic| skip)
local macro_rules | `(tactic| walk_at "idle") => `(tactic| skip)
local macro_rules | `(tactic| walk_at "idle") => `(tactic| skip)
local macro_rules | `(tactic| walk_at "idle") => `(tactic| skip)
theorem fresh_MX5 : True := by w_top off; trivial
section
variable {prog : Program} {w : World} {A : Around} {E : Value → Shared → Prop} {s : Shared} {mg mb : Str → Option Value}
local macro_rules | `(tactic| walk_at "nocall") => `(tactic| ((first | (with_reducible show wpAny _ _ _ _ _ _) | (dsimp only; (with_reducible show wpAny _ _ _ _ _ _))); (fail_if_success (with_reducible show wpAny _ _ (call _ _ _) _ _ _)); (first | walk1 | (dsimp only; walk1))))
local macro_rules | `(tactic| walk_at "lk") => `(tactic| first | with_reducible assumption | exact if_pos rfl | (refine (if_neg (by decide)).trans ?_; walk_at "lk"))
local macro_rules | `(tactic| walk_at "eval Name") => `(tactic| (first | refine ldx (by with_reducible assumption) (by walk_at "lk") ?_ | refine ldc (by with_reducible assumption) ?_))
def rowB (x : Nat → Int) (k : Nat) : List UInt8 := List.replicate (k + 1) 46 ++ (closeB x).toList
def mailB (x : Nat → Int) (v : Nat → Nat) : Array UInt8 := (rowB x (v 0) ++ rowB x (v 1) ++ rowB x (v 2)).toArray
theorem close_size (x : Nat → Int) : (closeB x).size ≤ 2 ∧ 1 ≤ (closeB x).size := by
  unfold closeB; split <;> simp
theorem rowB_eq (x : Nat → Int) (k : Nat) : ((List.replicate (((k : Nat) : Int) + 1).toNat [(46 : UInt8)]).flatten).toArray ++ closeB x = (rowB x k).toArray := by
  have e : (((k : Nat) : Int) + 1).toNat = k + 1 := by omega
  rw [e, rowB]
  apply Array.ext'
  simp
theorem rowB_size (x : Nat → Int) (k : Nat) : (rowB x k).length ≤ k + 3 := by
  have := close_size x
  rw [rowB]; simp; omega
theorem mail_cat (x : Nat → Int) (v : Nat → Nat) : bcat [(rowB x (v 0)).toArray, (rowB x (v 1)).toArray, (rowB x (v 2)).toArray] = mailB x v := by
  simp [bcat, mailB]
theorem mail_st {h₀ : Heap} {L a Dd : Addr} {cd : Value} {m : Str → Option Value} {news : List (Addr × Obj)} {x : Nat → Int} {v : Nat → Nat} {t0 t1 t2 tc : Tok} {Q : Flow → Shared → Prop} {n : Nat} (R : Room A (n + 3)) (G : Gd mg mb h₀)
    (F : Fr h₀ L s.heap m) (N : News h₀ L s.heap news) (hm : m "drawn" = some (.ref Dd)) (hd : s.heap.IsList Dd [.int (v 0 : Nat) t0, .int (v 1 : Nat) t1, .int (v 2 : Nat) t2].toArray) (hv : ∀ i < 3, v i < 100)
    (hc : s.heap.IsCell (L + 2) (some (.bytes (closeB x) tc)))
    (q : ∀ h tk t, Fr h₀ L h (fun z => if z = "mail" then some (.bytes (mailB x v) t) else m z) → News h₀ L h news → Q .next { s with heap := h, toks := tk }) :
    wpAny (model prog w) A (exec (st16 4) (lawE L a cd)) Q E s := by
  have hz := R.hh
  show wpAny _ _ (exec (.Assign [.Name _ _] (.Call _ _ _ _) _) _) _ _ _
  have G1 := G.ext F.keep
  repeat' (walk_at "nocall")
  refine getMethod_builtin (T := "bytes") (typeIs_bytes _ _ _) bytes_attrs bj_slot bj_type (fun a ea => by cases ea) ?_
  repeat' (walk_at "nocall")
  refine comp_val false ?_
  refine ldx F hm ?_
  refine src_list hz hd fun it s₂ hS => ?_
  refine ⟨3, _, fun _ _ => true, fun i _ y nw => nw = [] ∧ ∃ t, y = .bytes (rowB x (v i)).toArray t, hS, by decide, ?_, ?_⟩
  · refine ⟨fun i v C c m' h tk E' hi' hP F7 hv => wpAny_tests_nil ⟨rfl, _, _, rfl, Ext.refl _⟩, fun i w C c m' h tk E' hi' hP hp F7 hv' => ?_⟩
    obtain ⟨ti, rfl⟩ : ∃ t, w = .int (v i : Nat) t := by
      match i, hi', hP with
      | 0, _, hP => exact ⟨t0, by simpa using hP.symm⟩
      | 1, _, hP => exact ⟨t1, by simpa using hP.symm⟩
      | 2, _, hP => exact ⟨t2, by simpa using hP.symm⟩
    have hvk : m' "k" = some (.int (v i : Nat) ti) := hv'
    have hc7 := hc.keeps F7.keep
    have hvi := hv i hi'
    clear hS hd F N hc hm G1
    repeat' (walk_at "nocall")
    dsimp only
    refine bytes_mul_any (b := [46]) (by simp) (by omega) (by omega) (by decide) fun t2 k2 => ?_
    repeat' (walk_at "nocall")
    have hcs := close_size x
    refine KBy.add_bytes (by simp; omega) fun t3 k3 => ?_
    exact ⟨h, _, [], rfl, Ext.refl _, ⟨rfl, _, congrArg (fun z => Value.bytes z _) (rowB_eq x (v i))⟩, fun q hq => by cases hq⟩
  · intro D h tk ys ob sel e7 hD l7 hob
    obtain ⟨y, rfl, hy⟩ := three_vals sel
    obtain ⟨u0, y0⟩ := hy 0 (by decide)
    obtain ⟨u1, y1⟩ := hy 1 (by decide)
    obtain ⟨u2, y2⟩ := hy 2 (by decide)
    rw [y0, y1, y2] at l7
    have F7 := F.keeps e7
    have N7 := N.grown e7
    have r0 := rowB_size x (v 0)
    have r1 := rowB_size x (v 1)
    have r2 := rowB_size x (v 2)
    have hv0 := hv 0 (by decide)
    have hv1 := hv 1 (by decide)
    have hv2 := hv 2 (by decide)
    clear hS F N hd hc G1 sel hob
    repeat' (walk_at "nocall")
    refine call_bjoin l7.isList (.cons _ _ (.cons _ _ (.cons _ _ .nil))) (by simp) (by simp; omega) fun t' k' => ?_
    rw [mail_cat]


    repeat' (walk_at "nocall")
    rename Fr _ _ _ _ => F9
    rename News _ _ _ _ => N9
    exact q _ _ _ F9 N9
end
end Mine
end
section
open PySem PySem.W PyProof.Rows
set_option maxRecDepth 100000
set_option maxHeartbeats 4000000
namespace Mine
theorem fresh_MX6 : True := by w_top off; trivial
section
variable {prog : Program} {w : World} {A : Around} {E : Value → Shared → Prop} {s : Shared} {mg mb : Str → Option Value}
local macro_rules | `(tactic| walk_at "nocall") => `(tactic| ((first | (with_reducible show wpAny _ _ _ _ _ _) | (dsimp only; (with_reducible show wpAny _ _ _ _ _ _))); (fail_if_success (with_reducible show wpAny _ _ (call _ _ _) _ _ _)); (first | walk1 | (dsimp only; walk1))))
local macro_rules | `(tactic| walk_at "lk") => `(tactic| first | with_reducible assumption | exact if_pos rfl | (refine (if_neg (by decide)).trans ?_; walk_at "lk"))
local macro_rules | `(tactic| walk_at "eval Name") => `(tactic| (first | refine ldx (by with_reducible assumption) (by walk_at "lk") ?_ | refine ldc (by with_reducible assumption) ?_))
abbrev lb (k : Nat) : Stmt := match st16 6 with | .For _ _ b _ _ => b.getD k (.Pass default) | _ => .Pass default
theorem at4 {α : Type} {x : Nat → α} {j : Nat} (h : j < 4) : [x 0, x 1, x 2, x 3][((j : Nat) : Int).toNat]? = some (x j) := by
  rw [Int.toNat_natCast]
  match j, h with
  | 0, _ => rfl
  | 1, _ => rfl
  | 2, _ => rfl
  | 3, _ => rfl
theorem row_st {h₀ : Heap} {L a Dr : Addr} {cd : Value} {m : Str → Option Value} {news : List (Addr × Obj)} {T : Nat → Addr} {ws : List Value} {j : Nat} {tj : Tok} {Q : Flow → Shared → Prop} {n : Nat} (R : Room A (n + 3)) (G : Gd mg mb h₀)
    (F : Fr h₀ L s.heap m) (N : News h₀ L s.heap news) (hj : m "j" = some (.int (j : Nat) tj)) (hj4 : j < 4) (hc : s.heap.IsCell (L + 1) (some (.ref Dr))) (hr : s.heap.IsList Dr [.ref (T 0), .ref (T 1), .ref (T 2), .ref (T 3)].toArray)
    (hT : s.heap.IsList (T j) ws.toArray) (hws : ws.length ≤ 10)
    (q : ∀ h tk D nD, Fr h₀ L h (fun z => if z = "row" then some (.ref D) else m z) → News h₀ L h ((D, lobj ws nD) :: news) → (∀ p ∈ news, p.1 ≠ D) → Q .next { s with heap := h, toks := tk }) :
    wpAny (model prog w) A (exec (lb 0) (lawE L a cd)) Q E s := by
  have hz := R.hh
  show wpAny _ _ (exec (.Assign [.Name _ _] (.Call _ _ _ _) _) _) _ _ _
  have G1 := G.ext F.keep
  repeat' (walk_at "nocall")
  refine ldb G1 (by decide) boot_list ?_
  refine Pv.callWith_type1 ?_
  repeat' (walk_at "nocall")
  have hx := at4 (x := fun i => Value.ref (T i)) hj4
  have i0 : (0 : Int) ≤ ((j : Nat) : Int) := by omega
  have i1 : ((j : Nat) : Int) < 1000 := by omega
  refine item_at hr i0 i1 hx ?_
  repeat' (walk_at "nocall")
  have hns := News.ne_size N
  refine copy_N F N hT (by omega) fun h2 c2 e2 F2 N2 => ?_
  clear F N hc hr hT G1 hx
  repeat' (walk_at "nocall")
  rename Fr _ _ _ _ => F9
  rename News _ _ _ _ => N9
  exact q _ _ _ c2 F9 N9 hns
def flag (x : Nat → Int) (j : Nat) : Bool := decide (x j / 32 % 2 = 0)
def full (x : Nat → Int) (j : Nat) : List Nat := rowC (x j) ++ (if flag x j then [119 + j] else [])
theorem flag_is {a : Int} : ((a.fdiv 32).fmod 2 == 0) = decide (a / 32 % 2 = 0) := by
  rw [Int.fdiv_eq_ediv_of_nonneg _ (by decide : (0 : Int) ≤ 32), Int.fmod_eq_emod_of_nonneg _ (by decide)]
  rfl
theorem wx_len : (Str.ofString "wxyz").length = 4 := by decide +kernel
theorem wx_fits {j : Nat} (h : j < 4) : fitsSsize ((j : Nat) : Int) = true := fitsSsize_of (N := 9223372036854775808) (by omega) (by omega) (Int.le_refl _)
theorem wx_is {j : Nat} (h : j < 4) : Txt.item (Str.ofString "wxyz") ((j : Nat) : Int) = labS (119 + j) := by
  have : ∀ j < 4, Txt.item (Str.ofString "wxyz") ((j : Nat) : Int) = labS (119 + j) := by decide +kernel
  exact this j h
theorem rowB_Rw (x : Nat → Int) (k : Nat) : Rw (rowB x k) := by
  unfold rowB closeB
  split
  · exact ⟨List.replicate k 46, by rw [List.replicate_succ]; rfl, by simp⟩
  · exact ⟨List.replicate k 46 ++ [13], by rw [List.replicate_succ]; simp, by simp⟩
theorem mail_up (x : Nat → Int) (u : Nat → Nat) : ((46 :: rowB x (u 0)) ++ (46 :: rowB x (u 1)) ++ (46 :: rowB x (u 2))).toArray = mailB x (fun k => u k + 1) := by
  have e : ∀ k, 46 :: rowB x k = rowB x (k + 1) := fun k => by rw [rowB, rowB, List.replicate_succ (n := k + 1)]; rfl
  rw [mailB, e, e, e]
theorem if_st {h₀ : Heap} {L a Dw Dn : Addr} {cd : Value} {m : Str → Option Value} {news : List (Addr × Obj)} {ws vs : List Value} {nw : Nat} {x : Nat → Int} {u : Nat → Nat} {j : Nat} {tj tm : Tok} {Q : Flow → Shared → Prop} {n : Nat} (R : Room A (n + 3)) (G : Gd mg mb h₀)
    (F : Fr h₀ L s.heap m) (N : News h₀ L s.heap ((Dw, lobj ws nw) :: news)) (hj : m "j" = some (.int (j : Nat) tj)) (hj4 : j < 4) (hw : m "row" = some (.ref Dw)) (hn : m "numbers" = some (.ref Dn)) (hm : m "mail" = some (.bytes (mailB x u) tm))
    (hl : s.heap.IsList Dn vs.toArray) (hi : IntsAre vs [x 0, x 1, x 2, x 3]) (hs : StrsAre ws (rowS (x j))) (hu : ∀ i < 3, u i < 200) (hne : ∀ p ∈ news, p.1 ≠ Dw)
    (q : ∀ h tk m' ws' nw' t, Fr h₀ L h m' → News h₀ L h ((Dw, lobj ws' nw') :: news) → (∀ z : Str, z ≠ ("mail" : Str) → m' z = m z) → m' "mail" = some (.bytes (mailB x (fun k => u k + if flag x j then 1 else 0)) t) → StrsAre ws' ((full x j).map labS) → Q .next { s with heap := h, toks := tk }) :
    wpAny (model prog w) A (exec (lb 1) (lawE L a cd)) Q E s := by
  have hz := R.hh
  show wpAny _ _ (exec (.If _ _ [] _) _) _ _ _
  have G1 := G.ext F.keep
  have hgd : [x 0, x 1, x 2, x 3].getD ((j : Nat) : Int).toNat 0 = x j := by
    rw [List.getD_eq_getElem?_getD, at4 hj4]; rfl
  repeat' (walk_at "nocall")
  rw [hgd, flag_is]
  show if flag x j = true then _ else _
  cases hfl : flag x j with
  | false =>
    rw [if_neg (by simp)]
    repeat' (walk_at "nocall")
    refine q _ _ m ws nw tm F N (fun _ _ => rfl) ?_ ?_
    · rw [hm]; simp [hfl]
    · rw [full, hfl]; simpa [rowS] using hs
  | true =>
    rw [if_pos rfl]
    clear hgd hl hi hn
    repeat' (walk_at "nocall")
    refine item_str (wx_fits hj4) (by omega) (by rw [wx_len]; omega) fun _ => ?_
    rw [wx_is hj4]
    repeat' (walk_at "nocall")
    (try dsimp only)
    have hwl := strs_len hs
    have hfew := row_few (x j)
    have lw : LL s.heap Dw ws := .of_news N (.head _)
    have hD0 : h₀.get? Dw = none := (N _ (.head _)).2.2
    have hDL : Dw ≠ L := (N _ (.head _)).2.1
    refine append_L lw (by omega) fun h2 hs2 l2 => ?_
    have F2 := Fr_same F hs2 hD0 hDL
    have N2 : News h₀ L h2 news := News.same (fun p hp => N p (.tail _ hp)) hs2 hne
    obtain ⟨n2, l2⟩ := l2
    have N3 : News h₀ L h2 ((Dw, lobj (ws ++ [.str (labS (119 + j)) (s.toks + 1 + 1 + 1 + 1 + 1 + 1)]) n2) :: news) := fun p hp => by
      rcases List.mem_cons.mp hp with rfl | hp
      · exact ⟨l2, hDL, hD0⟩
      · exact N2 p hp
    have G2 := G.ext F2.keep
    clear F N N2 G1 hs2 l2 lw
    obtain ⟨a1, o1, pm1, cd1, doc1, e1, ho1, hd1, hc1⟩ := G2.fn 10 (by decide)
    repeat' (walk_at "nocall")
    refine ldg G2 e1 ?_
    refine callWith_def hd1 ?_
    repeat' (walk_at "nocall")
    refine ⟨ho1, ?_⟩
    have r0 := rowB_size x (u 0)
    have r1 := rowB_size x (u 1)
    have r2 := rowB_size x (u 2)
    have hu0 := hu 0 (by decide)
    have hu1 := hu 1 (by decide)
    have hu2 := hu 2 (by decide)
    refine quote_call (a0 := rowB x (u 0)) (a1 := rowB x (u 1)) (a2 := rowB x (u 2)) G2 R e1 (rowB_Rw _ _) (rowB_Rw _ _) (rowB_Rw _ _) (by simp; omega) fun h4 tk4 t4 e4 => ?_
    have F4 := F2.keeps e4
    have N4 := N3.grown e4
    clear F2 N3 G2
    repeat' (walk_at "nocall")
    rename Fr _ _ _ _ => F9
    rename News _ _ _ _ => N9
    refine q _ _ _ _ _ t4 F9 N9 (fun z hz => if_neg hz) ?_ ?_
    · show (if (("mail" : Str) = ("mail" : Str)) then _ else _) = _
      rw [if_pos rfl, mail_up]
      simp [hfl]
    · rw [full, hfl]
      have := strs_snoc hs (labS (119 + j)) (s.toks + 1 + 1 + 1 + 1 + 1 + 1)
      simpa [rowS] using this
end
end Mine
end
section
open PySem PySem.W PyProof.Rows
set_option maxRecDepth 100000
set_option maxHeartbeats 4000000
namespace Mine
local macro_rules | `(tactic| walk_at "idle") => `(tactic| skip)
local macro_rules | `(tactic| walk_at "idle") => `(tactic| skip)
local macro_rules | `(tactic| walk_at "idle") => `(tactic| skip)
local macro_rules | `(tactic| walk_at "idle") => `(tactic| skip)
local macro_rules | `(tactic| walk_at "idle") => `(tactic| skip)
theorem fresh_MX7 : True := by w_top off; trivial
section
variable {prog : Program} {w : World} {A : Around} {E : Value → Shared → Prop} {s : Shared} {mg mb : Str → Option Value}
local macro_rules | `(tactic| walk_at "nocall") => `(tactic| ((first | (with_reducible show wpAny _ _ _ _ _ _) | (dsimp only; (with_reducible show wpAny _ _ _ _ _ _))); (fail_if_success (with_reducible show wpAny _ _ (call _ _ _) _ _ _)); (first | walk1 | (dsimp only; walk1))))
local macro_rules | `(tactic| walk_at "lk") => `(tactic| first | with_reducible assumption | exact if_pos rfl | (refine (if_neg (by decide)).trans ?_; walk_at "lk"))
local macro_rules | `(tactic| walk_at "eval Name") => `(tactic| (first | refine ldx (by with_reducible assumption) (by walk_at "lk") ?_ | refine ldc (by with_reducible assumption) ?_))
theorem strs_rev : ∀ {vs : List Value} {ws : List Str}, StrsAre vs ws → StrsAre vs.reverse ws.reverse
  | _, _, .nil => .nil
  | _, _, .cons x t h => by rw [List.reverse_cons, List.reverse_cons]; exact strs_snoc (strs_rev h) x t
theorem join_is : ∀ p ∈ paths, Txt.join (Str.ofString ".") (p.reverse.map labS ++ [Str.ofString "local"]) = nameS p := by decide +kernel
theorem join_ok : ∀ p ∈ paths, ((p.reverse.map labS ++ [Str.ofString "local"]).map (·.length)).sum + (p.reverse.map labS ++ [Str.ofString "local"]).length * (Str.ofString ".").length ≤ 16777216 := by decide +kernel
theorem app_st {h₀ : Heap} {L a Dw Dh : Addr} {cd : Value} {m : Str → Option Value} {news : List (Addr × Obj)} {ws hs : List Value} {nw nh : Nat} {p : List Nat} {Q : Flow → Shared → Prop} {n : Nat} (R : Room A (n + 3))
    (F : Fr h₀ L s.heap m) (N : News h₀ L s.heap ((Dw, lobj ws nw) :: (Dh, lobj hs nh) :: news)) (hw : m "row" = some (.ref Dw)) (hh : m "hosts" = some (.ref Dh)) (hp : p ∈ paths) (kw : StrsAre ws (p.map labS)) (hl : hs.length ≤ 10)
    (hne : ∀ p ∈ news, p.1 ≠ Dh)
    (q : ∀ h tk nh' t, Fr h₀ L h m → News h₀ L h ((Dh, lobj (hs ++ [.str (nameS p) t]) nh') :: news) → Q .next { s with heap := h, toks := tk }) :
    wpAny (model prog w) A (exec (lb 2) (lawE L a cd)) Q E s := by
  have hz := R.hh
  have hp4 := few_p p hp
  show wpAny _ _ (exec (.Expr _ _) _) _ _ _
  repeat' (walk_at "nocall")
  rename News _ _ _ (_ :: _) => N1
  rename Fr _ _ _ _ => F1
  rw [krv_pick] at N1
  dsimp only at N1
  have kr : StrsAre ws.reverse (p.reverse.map labS) := by rw [List.map_reverse]; exact strs_rev kw
  have hsz := sizeLine_eq
  have hwl : ws.length = p.length := by rw [strs_len kw, List.length_map]
  dsimp only
  refine add_lists F1 N1 (News.isList N1 (.tail _ (.head _))) (News.isList N1 (.head _)) ?_ (hsz := ?hz)
  case hz => simp; omega
  intro h4 F4 N4
  have k4 := strs_snoc kr (Str.ofString "local")
  clear F1 N1
  repeat' (walk_at "nocall")
  refine join_list (ys := p.reverse.map labS ++ [Str.ofString "local"]) (News.isList N4 (.head _)) (by simpa using k4 _) (join_ok p hp) fun t' k' => ?_
  rw [join_is p hp]
  repeat' (walk_at "nocall")
  (try dsimp only)
  have hmem := N4 (Dh, lobj hs nh) (.tail _ (.tail _ (.tail _ (.tail _ (.head _)))))
  refine append_L (D := Dh) ⟨nh, hmem.1⟩ (by omega) fun h5 hs5 l5 => ?_
  have F5 := Fr_same F4 hs5 hmem.2.2 hmem.2.1
  obtain ⟨n5, l5⟩ := l5
  have N5 : News h₀ L h5 ((Dh, lobj (hs ++ [.str (nameS p) t']) n5) :: news) := fun p hp => by
    rcases List.mem_cons.mp hp with rfl | hp
    · exact ⟨l5, hmem.2.1, hmem.2.2⟩
    · exact News.same (fun p hp => N4 p (.tail _ (.tail _ (.tail _ (.tail _ (.tail _ hp)))))) hs5 hne p hp
  clear F4 N4 N hmem hs5
  repeat' (walk_at "nocall")
  exact q _ _ _ _ F5 N5
end
end Mine
end
section
open PySem PySem.W PyProof.Rows
set_option maxRecDepth 100000
set_option maxHeartbeats 4000000
namespace Mine
theorem fresh_MX8 : True := by w_top off; trivial
section
variable {prog : Program} {w : World} {A : Around} {E : Value → Shared → Prop} {s : Shared} {mg mb : Str → Option Value}
local macro_rules | `(tactic| walk_at "nocall") => `(tactic| ((first | (with_reducible show wpAny _ _ _ _ _ _) | (dsimp only; (with_reducible show wpAny _ _ _ _ _ _))); (fail_if_success (with_reducible show wpAny _ _ (call _ _ _) _ _ _)); (first | walk1 | (dsimp only; walk1))))
local macro_rules | `(tactic| walk_at "lk") => `(tactic| first | with_reducible assumption | exact if_pos rfl | (refine (if_neg (by decide)).trans ?_; walk_at "lk"))
local macro_rules | `(tactic| walk_at "eval Name") => `(tactic| (first | refine ldx (by with_reducible assumption) (by walk_at "lk") ?_ | refine ldc (by with_reducible assumption) ?_))
theorem hosts_st {h₀ : Heap} {L a : Addr} {cd : Value} {m : Str → Option Value} {news : List (Addr × Obj)} {Q : Flow → Shared → Prop}
    (F : Fr h₀ L s.heap m) (N : News h₀ L s.heap news)
    (q : ∀ h tk D n, Fr h₀ L h (fun z => if z = "hosts" then some (.ref D) else m z) → News h₀ L h ((D, lobj [] n) :: news) → (∀ p ∈ news, p.1 ≠ D) → Q .next { s with heap := h, toks := tk }) :
    wpAny (model prog w) A (exec (st16 5) (lawE L a cd)) Q E s := by
  show wpAny _ _ (exec (.Assign [.Name _ _] (.List _ _) _) _) _ _ _
  have hns := News.ne_size N
  repeat' (walk_at "nocall")
  rename Fr _ _ _ _ => F9
  rename News _ _ _ _ => N9
  exact q _ _ _ 0 F9 N9 hns
def privN (x : Nat → Int) (i : Nat) : Nat := ((List.range i).filter (flag x)).length
theorem priv_succ (x : Nat → Int) (i : Nat) : privN x (i + 1) = privN x i + if flag x i then 1 else 0 := by
  rw [privN, List.range_succ, List.filter_append, List.length_append, ← privN]
  cases h : flag x i <;> simp [h]
theorem priv_le (x : Nat → Int) (i : Nat) : privN x i ≤ i := by
  have := List.length_filter_le (flag x) (List.range i)
  rwa [List.length_range] at this
theorem lab_or (x : Int) (k : Nat) : lab x k = 97 ∨ lab x k = 98 := by unfold lab; omega
theorem row_in (x : Int) : rowC x ∈ rows15 := by
  have h : (x % 4).toNat = 0 ∨ (x % 4).toNat = 1 ∨ (x % 4).toNat = 2 ∨ (x % 4).toNat = 3 := by omega
  rw [rowC]
  rcases h with h | h | h | h <;> rw [h] <;> simp only [List.range_succ, List.range_zero, List.nil_append, List.cons_append, List.map_cons, List.map_nil]
  · decide
  · rcases lab_or x 0 with h0 | h0 <;> rw [h0] <;> decide
  · rcases lab_or x 0 with h0 | h0 <;> rcases lab_or x 1 with h1 | h1 <;> rw [h0, h1] <;> decide
  · rcases lab_or x 0 with h0 | h0 <;> rcases lab_or x 1 with h1 | h1 <;> rcases lab_or x 2 with h2 | h2 <;> rw [h0, h1, h2] <;> decide
theorem row_path : ∀ r ∈ rows15, r ∈ paths ∧ ∀ j < 4, r ++ [119 + j] ∈ paths := by decide +kernel
theorem full_in (x : Nat → Int) {j : Nat} (hj : j < 4) : full x j ∈ paths := by
  unfold full
  obtain ⟨h1, h2⟩ := row_path _ (row_in (x j))
  split
  · exact h2 j hj
  · rw [List.append_nil]; exact h1
def hostsL (x : Nat → Int) (i : Nat) : List Str := (List.range i).map fun k => nameS (full x k)
def LoopJ (Dh Dn : Addr) (S : List (Addr × Obj)) (x : Nat → Int) (v : Nat → Nat) (i : Nat) (m : Str → Option Value) (nx : List (Addr × Obj)) : Prop :=
  ∃ hv nh t, nx = (Dh, lobj hv nh) :: S ∧ StrsAre hv (hostsL x i) ∧ m "hosts" = some (.ref Dh) ∧ m "numbers" = some (.ref Dn) ∧ m "mail" = some (.bytes (mailB x (fun k => v k + privN x i)) t)
theorem loop_st {h₀ : Heap} {L a Dh Dn Dr : Addr} {cd : Value} {m : Str → Option Value} {S : List (Addr × Obj)} {vs : List Value} {nh nn nD : Nat} {x : Nat → Int} {v : Nat → Nat} {T : Nat → Addr} {o : Nat → Obj} {its : Nat → List Value} {o1 : Obj} {tm : Tok}
    {Q : Flow → Shared → Prop} {n : Nat} (R : Room A (n + 3)) (G : Gd mg mb h₀)
    (F : Fr h₀ L s.heap m) (N : News h₀ L s.heap ((Dh, lobj [] nh) :: S)) (hne : ∀ p ∈ S, p.1 ≠ Dh) (mh : m "hosts" = some (.ref Dh)) (mn : m "numbers" = some (.ref Dn)) (mm : m "mail" = some (.bytes (mailB x v) tm)) (hv : ∀ i < 3, v i < 100)
    (hn : (Dn, lobj vs nn) ∈ S) (hi : IntsAre vs [x 0, x 1, x 2, x 3]) (hc : (L + 1, o1) ∈ S) (ho1 : o1.data = .cell (some (.ref Dr))) (hr : (Dr, lobj [.ref (T 0), .ref (T 1), .ref (T 2), .ref (T 3)] nD) ∈ S)
    (hT : ∀ i < 4, (T i, o i) ∈ S ∧ ListO (o i) (its i) ∧ StrsAre (its i) (rowS (x i)))
    (q : ∀ h tk m' hv nh' t, Fr h₀ L h m' → News h₀ L h ((Dh, lobj hv nh') :: S) → StrsAre hv (hostsL x 4) → m' "hosts" = some (.ref Dh) → m' "mail" = some (.bytes (mailB x (fun k => v k + privN x 4)) t) → Q .next { s with heap := h, toks := tk }) :
    wpAny (model prog w) A (exec (st16 6) (lawE L a cd)) Q (fun _ _ => False) s := by
  have hz := R.hh
  have G1 := G.ext F.keep
  refine For_invV h₀ rfl rfl ?_ (fun _ => rfl)
  refine Call_ ?_
  refine ldb G1 (by decide) boot_range ?_
  refine Pv.callWith_type1 ?_
  repeat' (walk_at "nocall")
  refine call_range_1 ?_
  dsimp only
  refine iter_rangeJ (n := 4) (LoopJ Dh Dn S x v) hz (IsRange.new ..) (by decide) (F.push _) (fun p hp => ⟨Heap.get?_push_of_some _ (N p hp).1, (N p hp).2⟩) ⟨[], nh, tm, rfl, .nil, mh, mn, mm⟩ ?_ ?_
  · rintro i t m₁ news₁ h1 tk1 own hi4 hmap ho ⟨hw, nh1, t1, rfl, hstr, j1, j2, j3⟩ F1 N1
    show wpAny _ _ (execs [lb 0, lb 1, lb 2] _) _ _ _
    have G2 := G.ext F1.keep
    have hn1 := N1 _ (List.mem_append_left _ (.tail _ hn))
    have hc1 := N1 _ (List.mem_append_left _ (.tail _ hc))
    have hr1 := N1 _ (List.mem_append_left _ (.tail _ hr))
    have hT1 := N1 _ (List.mem_append_left _ (.tail _ (hT i hi4).1))
    have hlen := strs_len (hT i hi4).2.2
    have hfew := row_few (x i)
    have hwl := strs_len hstr
    refine wpAny_execs_cons ?_
    refine row_st R G F1 N1 (if_pos rfl) hi4 ⟨_, hc1.1, ho1⟩ (IsL.isList hr1.1) ((hT i hi4).2.1.isList hT1.1) (by omega) fun h2 tk2 Dw nw F2 N2 hne2 => ?_
    dsimp only
    refine wpAny_execs_cons ?_
    have hn2 := N2 _ (.tail _ (List.mem_append_left _ (.tail _ hn)))
    have hp4 := priv_le x i
    refine if_st (u := fun k => v k + privN x i) R G F2 N2 ((if_neg (by decide)).trans (if_pos rfl)) hi4 (if_pos rfl) ((if_neg (by decide)).trans ((if_neg (by decide)).trans j2)) ((if_neg (by decide)).trans ((if_neg (by decide)).trans j3)) (IsL.isList hn2.1) hi (hT i hi4).2.2
      (fun k hk => by have := hv k hk; omega) hne2 fun h3 tk3 m3 ws3 nw3 t3 F3 N3 hm3 hmail hws3 => ?_
    dsimp only
    refine wpAny_execs_cons ?_
    have q1 : m3 "row" = some (.ref Dw) := (hm3 _ (by decide)).trans (if_pos rfl)
    have q2 : m3 "hosts" = some (.ref Dh) := (hm3 _ (by decide)).trans ((if_neg (by decide)).trans ((if_neg (by decide)).trans j1))
    have q3 : m3 "numbers" = some (.ref Dn) := (hm3 _ (by decide)).trans ((if_neg (by decide)).trans ((if_neg (by decide)).trans j2))
    refine app_st (news := S ++ own) R F3 N3 q1 q2 (full_in x hi4) hws3 (by rw [hwl, hostsL, List.length_map, List.length_range]; omega) (fun p hp => ?_) fun h4 tk4 nh4 t4 F4 N4 => ?_
    · rcases List.mem_append.mp hp with hp | hp
      · exact hne p hp
      · exact ho p hp _ (.head _)
    dsimp only
    refine wpAny_execs_nil ?_
    refine ⟨h4, tk4, m3, _, (Dh, lobj (hw ++ [.str (nameS (full x i)) t4]) nh4) :: S, rfl, F4, N4, fun p hp => ?_, fun p hp => .tail _ (List.mem_append_right _ hp), rfl, hw ++ [.str (nameS (full x i)) t4], nh4, t3, rfl, ?_, q2, q3, ?_⟩
    · rcases List.mem_cons.mp hp with rfl | hp
      · exact .head _
      · exact .tail _ (List.mem_append_left _ hp)
    · rw [hostsL, List.range_succ, List.map_append, List.map_singleton]
      exact strs_snoc hstr _ _
    · rw [hmail, priv_succ]
      simp only [Nat.add_assoc]
  · rintro m₁ news₁ h1 tk1 ⟨hw, nh1, t1, rfl, hstr, j1, j2, j3⟩ F1 N1
    exact q _ _ m₁ hw nh1 t1 F1 N1 hstr j1 j3
end
end Mine
end
section
open PySem PySem.W PyProof.Rows
set_option maxRecDepth 100000
set_option maxHeartbeats 4000000
namespace Mine
local macro_rules | `(tactic| walk_at "idle") => `(tactic| skip)
local macro_rules | `(tactic| walk_at "idle") => `(tactic| skip)
local macro_rules | `(tactic| walk_at "idle") => `(tactic| skip)
local macro_rules | `(tactic| walk_at "idle") => `(tactic| skip)
local macro_rules | `(tactic| walk_at "idle") => `(tactic| skip)
theorem fresh_MX9 : True := by w_top off; trivial
section
variable {prog : Program} {w : World} {A : Around} {E : Value → Shared → Prop} {s : Shared} {mg mb : Str → Option Value}
local macro_rules | `(tactic| walk_at "nocall") => `(tactic| ((first | (with_reducible show wpAny _ _ _ _ _ _) | (dsimp only; (with_reducible show wpAny _ _ _ _ _ _))); (fail_if_success (with_reducible show wpAny _ _ (call _ _ _) _ _ _)); (first | walk1 | (dsimp only; walk1))))
local macro_rules | `(tactic| walk_at "lk") => `(tactic| first | with_reducible assumption | exact if_pos rfl | (refine (if_neg (by decide)).trans ?_; walk_at "lk"))
local macro_rules | `(tactic| walk_at "eval Name") => `(tactic| (first | refine ldx (by with_reducible assumption) (by walk_at "lk") ?_ | refine ldc (by with_reducible assumption) ?_))
def wayS (x : Nat → Int) (i : Nat) : List Str := wayL (full x i) (full x i).length
theorem ways_st {h₀ : Heap} {L a Dh : Addr} {cd : Value} {m : Str → Option Value} {news : List (Addr × Obj)} {hv : List Value} {x : Nat → Int} {Q : Flow → Shared → Prop} {n : Nat} (R : Room A (n + 5)) (G : Gd mg mb h₀)
    (F : Fr h₀ L s.heap m) (N : News h₀ L s.heap news) (mh : m "hosts" = some (.ref Dh)) (hl : s.heap.IsList Dh hv.toArray) (kh : StrsAre hv (hostsL x 4))
    (q : ∀ h tk D nD (T : Nat → Addr) (o : Nat → Obj) (its : Nat → List Value), Fr h₀ L h (fun z => if z = "ways" then some (.ref D) else m z) →
      News h₀ L h ([(D, lobj [.ref (T 0), .ref (T 1), .ref (T 2), .ref (T 3)] nD), (T 0, o 0), (T 1, o 1), (T 2, o 2), (T 3, o 3)] ++ news) →
      (∀ i < 4, ListO (o i) (its i) ∧ StrsAre (its i) (wayS x i)) → Q .next { s with heap := h, toks := tk }) :
    wpAny (model prog w) A (exec (st16 7) (lawE L a cd)) Q E s := by
  have hz := R.hh
  have G1 := G.ext F.keep
  obtain ⟨a1, o1, pm1, cd1, doc1, e1, ho1, hd1, hc1⟩ := G1.fn 14 (by decide)
  refine comp_asg (h₀ := h₀) false ?_
  refine ldx F mh ?_
  refine src_list hz hl fun it s₂ hS => ?_
  have h4 : hv.toArray.size = 4 := by rw [List.size_toArray, strs_len kh, hostsL, List.length_map, List.length_range]
  rw [h4] at hS
  refine ⟨4, _, fun _ _ => true, fun i _ y nw => ∃ D o w, y = .ref D ∧ nw = [(D, o)] ∧ ListO o w ∧ StrsAre w (wayS x i), _, news, hS, by decide, ?_, F, N, ?_⟩
  · refine ⟨fun i v C c m' h tk E' hi' hP F7 hv => wpAny_tests_nil ⟨rfl, _, _, rfl, Ext.refl _⟩, fun i v C c m' h tk E' hi' hP hp F7 hv => ?_⟩
    obtain ⟨k, t, rfl, hk⟩ := strs_at kh (i := i) (v := v) (by simpa using hP)
    have hke : k = nameS (full x i) := by
      rw [hostsL, List.getElem?_map, List.getElem?_range hi'] at hk
      simpa using hk.symm
    subst hke
    have hvk : m' "host" = some (.str (nameS (full x i)) t) := hv
    have G7 := G1.ext F7.keep
    have ho7 := F7.keep _ _ ho1
    clear hS F N hl
    repeat' (walk_at "nocall")
    refine ldg G7 e1 ?_
    refine callWith_def hd1 ?_
    repeat' (walk_at "nocall")
    refine up_call G7 R e1 (full_in x hi') fun h8 tk8 D8 vs8 e8 hD8 l8 k8 => ?_
    exact fresh_elt (Ext.refl _) e8 hD8 l8 k8
  · intro D h tk ys ob sel F7 N7 hD hDL l7 hob hk7
    obtain ⟨TT, oo, ww, rfl, hTT⟩ := four_lists sel
    obtain ⟨nD, l7⟩ := l7
    refine q h tk D nD TT oo ww F7 (fun p hp => ?_) fun i hi => ⟨(hTT i hi).1, (hTT i hi).2.1⟩
    have fresh : ∀ b, s.heap.get? b = none → h₀.get? b = none := fun b hb => by
      cases z : h₀.get? b with
      | none => rfl
      | some o => rw [F.keep _ _ z] at hb; cases hb
    have kO : ∀ i < 4, h.get? (TT i) = some (oo i) ∧ TT i ≠ L ∧ h₀.get? (TT i) = none := fun i hi =>
      have z := hob _ (hTT i hi).2.2
      ⟨z.1, z.2.2.2, fresh _ z.2.1⟩
    rcases List.mem_append.mp hp with hp | hp
    · simp only [List.mem_cons, List.mem_nil_iff, or_false] at hp
      rcases hp with rfl | rfl | rfl | rfl | rfl
      · exact ⟨l7, hDL, fresh _ hD⟩
      · exact kO 0 (by decide)
      · exact kO 1 (by decide)
      · exact kO 2 (by decide)
      · exact kO 3 (by decide)
    · exact N7 p hp
end
end Mine
end
section
open PySem PySem.W PyProof.Rows
set_option maxRecDepth 100000
set_option maxHeartbeats 1000000
namespace Mine
theorem fresh_MF : True := by w_top off; trivial
section
variable {prog : Program} {w : World} {A : Around} {s : Shared} {env : Env}
theorem for_core {x : Str} {px : Pos} {body : List Stmt} {I : Addr} {fp : List Addr} {n : Nat} {P : Nat → Value → Prop} {St : Nat → Heap → Prop} {Q : Flow → Shared → Prop} (W : Walks prog w A I fp [I] n P St) (Inv : Nat → Heap → Prop)
    (frameI : ∀ i h h', Inv i h → (∀ b o, b ≠ I → h.get? b = some o → h'.get? b = some o) → Inv i h')
    (turn : ∀ i v h tk, i < n → P i v → St (i + 1) h → Inv i h → wpAny (model prog w) A (assign (.Name x px) env v) (fun _ s2 => wpAny (model prog w) A (execs body env) (fun f s3 => match f with
      | .ret v => Q (.ret v) s3
      | .brk => Q .next s3
      | _ => ∃ h' tk', s3 = { s with heap := h', toks := tk' } ∧ St (i + 1) h' ∧ Inv (i + 1) h') (fun _ _ => False) s2) (fun _ _ => False) { s with heap := h, toks := tk })
    (done : ∀ h tk, Inv n h → Q .next { s with heap := h, toks := tk }) (hst : St 0 s.heap) (h0 : Inv 0 s.heap) :
    codeAny (model prog w) A (.forLoop (.Name x px) (.ref I) body [] env) (fun r s' => match r with | .ok f => Q f s' | .error e => cameBackBy (model prog w) A env (fun _ _ => False) e s') s := by
  refine codeAny_forLoop_any (fun k s' => ∃ h tk i, s' = { s with heap := h, toks := tk } ∧ i ≤ n ∧ k = n + 1 - i ∧ St i h ∧ Inv i h) ?_ (n + 1) ⟨s.heap, s.toks, 0, rfl, Nat.zero_le _, rfl, hst, h0⟩
  rintro k s' ⟨h, tk, i, rfl, hi, rfl, st, inv⟩
  by_cases hlt : i < n
  · refine W.item i _ _ _ hlt st fun v h1 tk1 hP st1 k1 => ?_
    have inv1 := frameI i h h1 inv fun b o hb e => k1 b o (by rw [List.mem_singleton]; exact hb) e
    refine wpAny_of_eq (a := ()) (by rfl) ?_
    refine wpAny_mono (turn i v h1 tk1 hlt hP st1 inv1) (fun _ s2 h2 => wpAny_mono h2 (fun f s3 h3 => ?_) fun _ _ e => e.elim) fun _ _ e => e.elim
    have fin : (∃ h' tk', s3 = { s with heap := h', toks := tk' } ∧ St (i + 1) h' ∧ Inv (i + 1) h') → ∃ m, m < n + 1 - i ∧ ∃ h tk i, s3 = { s with heap := h, toks := tk } ∧ i ≤ n ∧ m = n + 1 - i ∧ St i h ∧ Inv i h := by
      rintro ⟨h', tk', e, a, b⟩
      exact ⟨n + 1 - (i + 1), by omega, h', tk', i + 1, e, hlt, rfl, a, b⟩
    cases f with
    | ret v => exact h3
    | brk => exact h3
    | cont => exact fin h3
    | next => exact fin h3
  · have hin : i = n := by omega
    subst hin
    refine W.done _ _ _ st fun h1 tk1 k1 => wpAny_execs_nil ?_
    exact done h1 tk1 (frameI i h h1 inv fun b o hb e => k1 b o (by rw [List.mem_singleton]; exact hb) e)
theorem fr_I {h₀ h h' : Heap} {L I : Addr} {m : Str → Option Value} (F : Fr h₀ L h m) (k : ∀ b o, b ≠ I → h.get? b = some o → h'.get? b = some o) (hIL : L ≠ I) (hI : h₀.get? I = none) : Fr h₀ L h' m :=
  ⟨F.ns.at' fun o e => k L o hIL e, fun b o e => k b o (fun q => by rw [q, hI] at e; cases e) (F.keep b o e), F.above⟩
theorem news_I {h₀ h h' : Heap} {L I : Addr} {news : List (Addr × Obj)} (N : News h₀ L h news) (k : ∀ b o, b ≠ I → h.get? b = some o → h'.get? b = some o) (hn : ∀ p ∈ news, p.1 ≠ I) : News h₀ L h' news :=
  fun p hp => ⟨k _ _ (hn p hp) (N p hp).1, (N p hp).2⟩
/-- what a turn leaves -/
def TurnEnd (h₀ : Heap) (L : Addr) (J : (Str → Option Value) → List (Addr × Obj) → Prop) (I : Addr) (oI : Obj) (s : Shared) (Q : Flow → Shared → Prop) (f : Flow) (s₃ : Shared) : Prop :=
  match f with
  | .ret v => Q (.ret v) s₃
  | .brk => Q .next s₃
  | _ => ∃ h' tk' m' nx', s₃ = { s with heap := h', toks := tk' } ∧ Fr h₀ L h' m' ∧ News h₀ L h' ((I, oI) :: nx') ∧ (∀ p ∈ nx', p.1 ≠ I) ∧ J m' nx'
theorem for_loc {x : Str} {px : Pos} {body : List Stmt} {I ax L : Addr} {oax : Obj} {h₀ : Heap} {m₀ : Str → Option Value} {nx₀ : List (Addr × Obj)} {n : Nat} {P : Nat → Value → Prop} {St : Nat → Heap → Prop} {Q : Flow → Shared → Prop}
    (W : Walks prog w A I [I, ax] [I] n P St) (hIl : ∀ i h, St i h → ∃ o, h.get? I = some o) (J : Nat → (Str → Option Value) → List (Addr × Obj) → Prop) (hax : ∀ i m nx, J i m nx → (ax, oax) ∈ nx)
    (hL : env.locals = L) (hI : h₀.get? I = none) (hIL : L ≠ I) (hx : env.kindOf x = some .local) (hk : env.scope.kind = .function)
    (F : Fr h₀ L s.heap m₀) (N : News h₀ L s.heap nx₀) (hnI : ∀ p ∈ nx₀, p.1 ≠ I) (hst : St 0 s.heap) (hj : J 0 m₀ nx₀)
    (turn : ∀ i v m nx h tk oI, i < n → P i v → J i m nx → (∀ p ∈ nx, p.1 ≠ I) → Fr h₀ L h (fun y => if y = x then some v else m y) → News h₀ L h ((I, oI) :: nx) →
      wpAny (model prog w) A (execs body env) (TurnEnd h₀ L (J (i + 1)) I oI s Q) (fun _ _ => False) { s with heap := h, toks := tk })
    (done : ∀ m nx h tk, J n m nx → Fr h₀ L h m → News h₀ L h nx → Q .next { s with heap := h, toks := tk }) :
    codeAny (model prog w) A (.forLoop (.Name x px) (.ref I) body [] env) (fun r s' => match r with | .ok f => Q f s' | .error e => cameBackBy (model prog w) A env (fun _ _ => False) e s') s := by
  subst hL
  refine for_core W (fun i h => ∃ m nx, Fr h₀ env.locals h m ∧ News h₀ env.locals h nx ∧ (∀ p ∈ nx, p.1 ≠ I) ∧ J i m nx) ?_ ?_ ?_ hst ⟨m₀, nx₀, F, N, hnI, hj⟩
  · rintro i h h' ⟨m, nx, a, b, c, d⟩ k
    exact ⟨m, nx, fr_I a k hIL hI, news_I b k c, c, d⟩
  · rintro i v h tk hi hP st ⟨m, nx, F1, N1, c, d⟩
    refine wpAny_assign_Name (wpAny_storeName_local hx F1.ns (fun h2 hn2 hs2 => ?_) (by rw [hk]; rfl))
    have F2 := F1.set hn2 hs2
    have N2 := N1.set hs2
    obtain ⟨oI, hoI⟩ := hIl _ _ st
    have hoI2 : h2.get? I = some oI := hs2.extBut _ _ (Ne.symm hIL) hoI
    have st2 : St (i + 1) h2 := W.frame _ _ _ st fun b hb o e => by
      rcases List.mem_cons.mp hb with rfl | hb
      · exact hs2.extBut _ _ (Ne.symm hIL) e
      · rw [List.mem_singleton.mp hb] at e ⊢
        exact hs2.extBut _ _ (N1 _ (hax _ _ _ d)).2.1 e
    refine wpAny_mono (turn i v m nx h2 _ oI hi hP d c F2 fun p hp => ?_) (fun f s3 h3 => ?_) fun _ _ e => e
    · rcases List.mem_cons.mp hp with rfl | hp
      · exact ⟨hoI2, Ne.symm hIL, hI⟩
      · exact N2 p hp
    have fin : (∃ h' tk' m' nx', s3 = { s with heap := h', toks := tk' } ∧ Fr h₀ env.locals h' m' ∧ News h₀ env.locals h' ((I, oI) :: nx') ∧ (∀ p ∈ nx', p.1 ≠ I) ∧ J (i + 1) m' nx') →
        ∃ h' tk', s3 = { s with heap := h', toks := tk' } ∧ St (i + 1) h' ∧ ∃ m nx, Fr h₀ env.locals h' m ∧ News h₀ env.locals h' nx ∧ (∀ p ∈ nx, p.1 ≠ I) ∧ J (i + 1) m nx := by
      rintro ⟨h', tk', m', nx', e, F', N', c', d'⟩
      refine ⟨h', tk', e, W.frame _ _ _ st2 fun b hb o e => ?_, m', nx', F', fun p hp => N' p (.tail _ hp), c', d'⟩
      rcases List.mem_cons.mp hb with rfl | hb
      · rw [hoI2] at e; cases e; exact (N' _ (.head _)).1
      · rw [List.mem_singleton.mp hb] at e ⊢
        rw [(N2 _ (hax _ _ _ d)).1] at e; cases e
        exact (N' _ (.tail _ (hax _ _ _ d'))).1
    cases f with
    | ret v => exact h3
    | brk => exact h3
    | cont => exact fin h3
    | next => exact fin h3
  · rintro h tk ⟨m, nx, a, b, c, d⟩
    exact done m nx h tk d a b
theorem for_cell {x : Str} {px : Pos} {body : List Stmt} {I ax L c : Addr} {oax : Obj} {h₀ : Heap} {m₀ : Str → Option Value} {nx₀ : List (Addr × Obj)} {n : Nat} {P : Nat → Value → Prop} {St : Nat → Heap → Prop} {Q : Flow → Shared → Prop}
    (W : Walks prog w A I [I, ax] [I] n P St) (hIl : ∀ i h, St i h → ∃ o, h.get? I = some o) (J : Nat → (Str → Option Value) → List (Addr × Obj) → Prop) (hax : ∀ i m nx, J i m nx → (ax, oax) ∈ nx)
    (hI : h₀.get? I = none) (hIL : L ≠ I) (hx : env.kindOf x = some .cell) (hk : env.scope.kind = .function) (hc : env.cells.lookup x = some c)
    (hLc : @LT.lt Nat _ L c) (hcI : c ≠ I) (hnc : ∀ i m nx, J i m nx → ∀ p ∈ nx, p.1 ≠ c)
    (F : Fr h₀ L s.heap m₀) (N : News h₀ L s.heap nx₀) (hcv : ∃ v₀, s.heap.IsCell c v₀) (hnI : ∀ p ∈ nx₀, p.1 ≠ I) (hst : St 0 s.heap) (hj : J 0 m₀ nx₀)
    (turn : ∀ i v m nx h tk oI oc, i < n → P i v → J i m nx → (∀ p ∈ nx, p.1 ≠ I) → Fr h₀ L h m → oc.data = .cell (some v) → News h₀ L h ((I, oI) :: (c, oc) :: nx) →
      wpAny (model prog w) A (execs body env) (TurnEnd h₀ L (fun m nx => ∃ oc nx' v, nx = (c, oc) :: nx' ∧ oc.data = .cell v ∧ J (i + 1) m nx') I oI s Q) (fun _ _ => False) { s with heap := h, toks := tk })
    (done : ∀ m nx h tk oc v, J n m nx → Fr h₀ L h m → oc.data = .cell v → News h₀ L h ((c, oc) :: nx) → Q .next { s with heap := h, toks := tk }) :
    codeAny (model prog w) A (.forLoop (.Name x px) (.ref I) body [] env) (fun r s' => match r with | .ok f => Q f s' | .error e => cameBackBy (model prog w) A env (fun _ _ => False) e s') s := by
  refine for_core W (fun i h => ∃ m nx, Fr h₀ L h m ∧ News h₀ L h nx ∧ (∃ v₀, h.IsCell c v₀) ∧ (∀ p ∈ nx, p.1 ≠ I) ∧ J i m nx) ?_ ?_ ?_ hst ⟨m₀, nx₀, F, N, hcv, hnI, hj⟩
  · rintro i h h' ⟨m, nx, a, b, ⟨v₀, o, e, ed⟩, c, d⟩ k
    exact ⟨m, nx, fr_I a k hIL hI, news_I b k c, ⟨v₀, o, k _ _ hcI e, ed⟩, c, d⟩
  · rintro i v h tk hi hP st ⟨m, nx, F1, N1, ⟨v₀, hv₀⟩, cI, d⟩
    refine wpAny_assign_Name (store_C F1 N1 hv₀ hLc (hnc _ _ _ d) (fun h2 oc hs2 F2 N2 hd2 => ?_) hc hk hx)
    obtain ⟨oI, hoI⟩ := hIl _ _ st
    have hoI2 : h2.get? I = some oI := hs2.extBut _ _ (Ne.symm hcI) hoI
    have st2 : St (i + 1) h2 := W.frame _ _ _ st fun b hb o e => by
      rcases List.mem_cons.mp hb with rfl | hb
      · exact hs2.extBut _ _ (Ne.symm hcI) e
      · rw [List.mem_singleton.mp hb] at e ⊢
        exact hs2.extBut _ _ (hnc _ _ _ d _ (hax _ _ _ d)) e
    refine wpAny_mono (turn i v m nx h2 _ oI oc hi hP d cI F2 hd2 fun p hp => ?_) (fun f s3 h3 => ?_) fun _ _ e => e
    · rcases List.mem_cons.mp hp with rfl | hp
      · exact ⟨hoI2, Ne.symm hIL, hI⟩
      · exact N2 p hp
    have fin : (∃ h' tk' m' nx', s3 = { s with heap := h', toks := tk' } ∧ Fr h₀ L h' m' ∧ News h₀ L h' ((I, oI) :: nx') ∧ (∀ p ∈ nx', p.1 ≠ I) ∧ ∃ oc nx'' v, nx' = (c, oc) :: nx'' ∧ oc.data = .cell v ∧ J (i + 1) m' nx'') →
        ∃ h' tk', s3 = { s with heap := h', toks := tk' } ∧ St (i + 1) h' ∧ ∃ m nx, Fr h₀ L h' m ∧ News h₀ L h' nx ∧ (∃ v₀, h'.IsCell c v₀) ∧ (∀ p ∈ nx, p.1 ≠ I) ∧ J (i + 1) m nx := by
      rintro ⟨h', tk', m', nx', e, F', N', c', oc', nx'', v', rfl, hd', d'⟩
      refine ⟨h', tk', e, W.frame _ _ _ st2 fun b hb o e => ?_, m', nx'', F', fun p hp => N' p (.tail _ (.tail _ hp)), ⟨v', oc', (N' _ (.tail _ (.head _))).1, hd'⟩, fun p hp => c' p (.tail _ hp), d'⟩
      rcases List.mem_cons.mp hb with rfl | hb
      · rw [hoI2] at e; cases e; exact (N' _ (.head _)).1
      · rw [List.mem_singleton.mp hb] at e ⊢
        rw [(N2 _ (.tail _ (hax _ _ _ d))).1] at e; cases e
        exact (N' _ (.tail _ (.tail _ (hax _ _ _ d')))).1
    cases f with
    | ret v => exact h3
    | brk => exact h3
    | cont => exact fin h3
    | next => exact fin h3
  · rintro h tk ⟨m, nx, a, b, ⟨v₀, o, e, ed⟩, cI, d⟩
    refine done m nx h tk o v₀ d a ed fun p hp => ?_
    rcases List.mem_cons.mp hp with rfl | hp
    · exact ⟨e, Nat.ne_of_gt hLc, get_fresh _ (by have := a.above; omega)⟩
    · exact b p hp
end
end Mine
end
section
open PySem PySem.W PyProof.Rows
set_option maxRecDepth 100000
set_option maxHeartbeats 4000000
namespace Mine
theorem fresh_MY1 : True := by w_top off; trivial
section
variable {prog : Program} {w : World} {A : Around} {E : Value → Shared → Prop} {s : Shared} {mg mb : Str → Option Value}
local macro_rules | `(tactic| walk_at "nocall") => `(tactic| ((first | (with_reducible show wpAny _ _ _ _ _ _) | (dsimp only; (with_reducible show wpAny _ _ _ _ _ _))); (fail_if_success (with_reducible show wpAny _ _ (call _ _ _) _ _ _)); (first | walk1 | (dsimp only; walk1))))
local macro_rules | `(tactic| walk_at "lk") => `(tactic| first | with_reducible assumption | exact if_pos rfl | (refine (if_neg (by decide)).trans ?_; walk_at "lk"))
local macro_rules | `(tactic| walk_at "eval Name") => `(tactic| (first | refine ldx (by with_reducible assumption) (by walk_at "lk") ?_ | refine ldc (by with_reducible assumption) ?_))
theorem under_st {h₀ : Heap} {L a : Addr} {cd : Value} {m : Str → Option Value} {news : List (Addr × Obj)} {Q : Flow → Shared → Prop}
    (G : Gd mg mb h₀) (F : Fr h₀ L s.heap m) (N : News h₀ L s.heap news) (hc : s.heap.IsCell (L + 3) none) (hne : ∀ p ∈ news, p.1 ≠ L + 3)
    (q : ∀ h tk D od o', Fr h₀ L h m → News h₀ L h ((L + 3, o') :: (D, od) :: news) → o'.data = .cell (some (.ref D)) → od.IsDictOf (strKind prog w) [] → (D == sysModules) = false → (∀ p ∈ news, p.1 ≠ D) → Q .next { s with heap := h, toks := tk }) :
    wpAny (model prog w) A (exec (st16 8) (lawE L a cd)) Q E s := by
  show wpAny _ _ (exec (.Assign [.Name _ _] (.Dict _ _ _) _) _) _ _ _
  repeat' (walk_at "nocall")
  obtain ⟨oc, hco, hcd⟩ := hc
  have Nc : News h₀ L s.heap ((L + 3, oc) :: news) := fun p hp => by
    rcases List.mem_cons.mp hp with rfl | hp
    · exact ⟨hco, Nat.ne_of_gt (Nat.lt_add_of_pos_right (by decide)), get_fresh _ (by have := F.above; omega)⟩
    · exact N p hp
  refine Dict_empty_made2 F Nc (modules_low G.lim) fun h2 o2 F2 N2 hsm hd _ _ _ hap => ?_
  have N3 : News h₀ L h2 ((s.heap.objs.size, o2) :: news) := fun p hp => by
    rcases List.mem_cons.mp hp with rfl | hp
    · exact N2 _ (.head _)
    · exact N2 _ (.tail _ (.tail _ hp))
  refine store_C F2 N3 ⟨oc, (N2 _ (.tail _ (.head _))).1, hcd⟩ (Nat.lt_add_of_pos_right (by decide)) (fun p hp => ?_) fun h' o' hs' F9 N9 hd' => ?_
  · rcases List.mem_cons.mp hp with rfl | hp
    · exact Ne.symm (hap _ (.head _))
    · exact hne p hp
  exact q h' _ _ o2 o' F9 N9 hd' hd hsm fun p hp => hap p (.tail _ hp)
end
end Mine
end
section
open PySem PySem.W PyProof.Rows
set_option maxRecDepth 100000
set_option maxHeartbeats 4000000
namespace Mine
local macro_rules | `(tactic| walk_at "idle") => `(tactic| skip)
local macro_rules | `(tactic| walk_at "idle") => `(tactic| skip)
local macro_rules | `(tactic| walk_at "idle") => `(tactic| skip)
local macro_rules | `(tactic| walk_at "idle") => `(tactic| skip)
local macro_rules | `(tactic| walk_at "idle") => `(tactic| skip)
theorem fresh_MY2 : True := by w_top off; trivial
section
variable {prog : Program} {w : World} {A : Around} {E : Value → Shared → Prop} {s : Shared} {mg mb : Str → Option Value}
local macro_rules | `(tactic| walk_at "nocall") => `(tactic| ((first | (with_reducible show wpAny _ _ _ _ _ _) | (dsimp only; (with_reducible show wpAny _ _ _ _ _ _))); (fail_if_success (with_reducible show wpAny _ _ (call _ _ _) _ _ _)); (first | walk1 | (dsimp only; walk1))))
local macro_rules | `(tactic| walk_at "lk") => `(tactic| first | with_reducible assumption | exact if_pos rfl | (refine (if_neg (by decide)).trans ?_; walk_at "lk"))
local macro_rules | `(tactic| walk_at "eval Name") => `(tactic| (first | refine ldx (by with_reducible assumption) (by walk_at "lk") ?_ | refine ldc (by with_reducible assumption) ?_))
abbrev ob9 : List Stmt := match st16 9 with | .For _ _ b _ _ => b | _ => []
abbrev ib9 : List Stmt := match ob9.getD 0 (.Pass default) with | .For _ _ b _ _ => b | _ => []
abbrev kb9 : Stmt := ib9.getD 0 (.Pass default)
@[irreducible] def bitAt (x : Nat → Int) (p : List Nat) (j : Nat) : Bool := p.isPrefixOf (full x j)
theorem bitAt_is (x : Nat → Int) (p : List Nat) (j : Nat) : bitAt x p j = p.isPrefixOf (full x j) := by unfold bitAt; rfl
def bitsB (x : Nat → Int) (p : List Nat) : List Bool := [bitAt x p 0, bitAt x p 1, bitAt x p 2, bitAt x p 3]
theorem up_hdn {f : List Nat} (hf : f ∈ paths) : HdnOk (Txt.lower (Txt.upper (nameS f))) := by rw [low_name hf]; exact hdn_of (paths_hdn _ hf)
theorem dot_hdn {p : List Nat} (hp : p ∈ paths) : HdnOk (Txt.slice (Txt.lower (Str.ofString "." ++ nameS p)) (some 1) none) := by rw [low_dot hp, paths_cut _ hp]; exact hdn_of (paths_hdn _ hp)
theorem key_st {h₀ : Heap} {L a Du Dh : Addr} {cd : Value} {m : Str → Option Value} {news : List (Addr × Obj)} {oc od ou oh : Obj} {hv : List Value} {p : List Nat} {t : Tok} {kvs : List (Str × Value)} {x : Nat → Int} {Q : Flow → Shared → Prop} {n : Nat} (R : Room A (n + 5)) (G : Gd mg mb h₀)
    (F : Fr h₀ L s.heap m) (N : News h₀ L s.heap ((L + 4, oc) :: (Du, od) :: news)) (hc : oc.data = .cell (some (.str (nameS p) t))) (hd : od.IsDictOf (strKind prog w) kvs) (hsm : (Du == sysModules) = false) (hp : p ∈ paths)
    (hu : (L + 3, ou) ∈ news) (hud : ou.data = .cell (some (.ref Du))) (mh : m "hosts" = some (.ref Dh)) (hh : (Dh, oh) ∈ news) (ho : ListO oh hv) (kh : StrsAre hv (hostsL x 4)) (hne : ∀ p ∈ news, p.1 ≠ Du) (hlen : kvs.length ≤ 100)
    (q1 : ∀ tk, (valueAt kvs (nameS p)).isSome = true → Q .next { s with toks := tk })
    (q2 : ∀ h tk od' D o, (valueAt kvs (nameS p)).isSome = false → Fr h₀ L h m → News h₀ L h ((L + 4, oc) :: (Du, od') :: (D, o) :: news) → od'.IsDictOf (strKind prog w) (stored kvs (nameS p) (.ref D)) → ListO o ((bitsB x p).map Value.bool) → (∀ b, s.heap.get? b ≠ none → b ≠ D) → Q .next { s with heap := h, toks := tk }) :
    wpAny (model prog w) A (exec kb9 (lawE L a cd)) Q E s := by
  have hz := R.hh
  have G1 := G.ext F.keep
  obtain ⟨a1, o1, pm1, cd1, doc1, e1, ho1, hd1, hc1⟩ := G1.fn 6 (by decide)
  have cn : s.heap.IsCell (L + 4) (some (.str (nameS p) t)) := ⟨oc, (N _ (.head _)).1, hc⟩
  have cu : s.heap.IsCell (L + 3) (some (.ref Du)) := ⟨ou, (N _ (.tail _ (.tail _ hu))).1, hud⟩
  have hdo : s.heap.DictOf (strKind prog w) Du kvs := Heap.dictOf_iff.mpr ⟨od, (N _ (.tail _ (.head _))).1, hd⟩
  have hl : s.heap.IsList Dh hv.toArray := ho.isList (N _ (.tail _ (.tail _ hh))).1
  show wpAny _ _ (exec (.If _ _ [] _) _) _ _ _
  repeat' (walk_at "nocall")
  refine wpAny_notIn_of (key_str _ _) hsm hdo.mapOf ?_
  repeat' (walk_at "nocall")
  cases hv0 : (valueAt kvs (nameS p)).isSome with
  | true =>
    rw [if_neg (by simp)]
    repeat' (walk_at "nocall")
    exact q1 _ hv0
  | false =>
    rw [if_pos (by rfl)]
    repeat' (walk_at "nocall")
    refine comp_val false ?_
    refine ldx F mh ?_
    refine src_list hz hl fun it s₂ hS => ?_
    have h4 : hv.toArray.size = 4 := by rw [List.size_toArray, strs_len kh, hostsL, List.length_map, List.length_range]
    rw [h4] at hS
    refine ⟨4, _, fun _ _ => true, fun i _ y nw => nw = [] ∧ y = .bool (bitAt x p i), hS, by decide, ?_, ?_⟩
    · refine ⟨fun i v C c m' h tk E' hi' hP F7 hv => wpAny_tests_nil ⟨rfl, _, _, rfl, Ext.refl _⟩, fun i v C c m' h tk E' hi' hP hp' F7 hv => ?_⟩
      obtain ⟨k, t9, rfl, hk⟩ := strs_at kh (i := i) (v := v) (by simpa using hP)
      have hke : k = nameS (full x i) := by
        rw [hostsL, List.getElem?_map, List.getElem?_range hi'] at hk
        simpa using hk.symm
      subst hke
      have hvk : m' "host" = some (.str (nameS (full x i)) t9) := hv
      have G7 := G1.ext F7.keep
      have ho7 := F7.keep _ _ ho1
      have cn7 := cn.keeps F7.keep
      have hf := full_in x hi'
      have hnl := name_len hf
      have hpl := name_len hp
      clear hl cn cu hdo
      repeat' (walk_at "nocall")
      have hbit : (nameS (full x i) == nameS p || dmF (Txt.upper (nameS (full x i))) (Str.ofString "." ++ nameS p)) = bitAt x p i := by
        rw [dm_is hf hp, bitAt_is]; exact bit_is _ hf p hp
      cases heq : (nameS (full x i) == nameS p) with
      | true =>
        rw [if_pos rfl]
        rw [heq] at hbit
        exact ⟨h, _, [], rfl, Ext.refl _, ⟨rfl, by rw [← hbit]; rfl⟩, fun q hq => by cases hq⟩
      | false =>
        rw [if_neg (by simp)]
        rw [heq, Bool.false_or] at hbit
        have kx := up_hdn hf
        have ky := dot_hdn hp
        have hul := up_len hf
        have hdl := dot_len hp
        rw [← hbit]
        clear hbit hS
        repeat' (walk_at "nocall")
        refine ldg G7 e1 ?_
        refine callWith_def hd1 ?_
        repeat' (walk_at "nocall")
        dsimp only
        walk1
        repeat' (walk_at "nocall")
        dsimp only
        refine dm_call G7 R e1 hul hdl kx ky fun h8 tk8 e8 => ?_
        exact ⟨h8, _, [], rfl, e8, ⟨rfl, rfl⟩, fun q hq => by cases hq⟩
    · intro D h9 tk9 ys ob sel e9 hD l9 hob
      obtain ⟨y, rfl, hy⟩ := four_vals sel
      rw [hy 0 (by decide), hy 1 (by decide), hy 2 (by decide), hy 3 (by decide)] at l9
      have F9 := F.keeps e9
      have cn9 := cn.keeps e9
      have cu9 := cu.keeps e9
      have hdo9 := hdo.keep e9
      obtain ⟨n9, l9⟩ := l9
      refine ldc cu9 ?_
      refine ldc cn9 ?_
      refine wpAny_setItem_pairs (key_str _ _) hdo9 (fun h' hd' hs' => ?_) (hsz := by have := sizeLine_eq; omega)
      obtain ⟨od', g', hd''⟩ := Heap.dictOf_iff.mp hd'
      rename News _ _ _ _ => N
      have zu := N _ (.tail _ (.head _))
      have F10 := Fr_same F9 hs' zu.2.2 zu.2.1
      have N9 := N.grown e9
      have hDu : D ≠ Du := fun e => by rw [e] at hD; have := zu.1; rw [hD] at this; cases this
      have hDL : D ≠ L := fun e => by
        obtain ⟨o, _, _, eo, _⟩ := F.ns
        rw [← e] at eo
        rw [hD] at eo; cases eo
      have hD0 : h₀.get? D = none := by
        cases z : h₀.get? D with
        | none => rfl
        | some o => have := F.keep _ _ z; rw [hD] at this; cases this
      have h4u : L + 4 ≠ Du := fun e => by
        have z1 := (N _ (.head _)).1
        have z2 := zu.1
        dsimp only at z1 z2
        rw [e, z2] at z1
        cases z1
        obtain ⟨_, es, ep, hdd, _⟩ := hd
        rw [hdd] at hc; cases hc
      refine wpAny_execs_nil ?_
      refine q2 h' _ od' D (lobj _ n9) hv0 F10 (fun q hq => ?_) hd'' (lobj_O _ _) (fun b hb e => hb (e ▸ hD))
      rcases List.mem_cons.mp hq with rfl | hq
      · exact ⟨hs'.extBut _ _ h4u (N9 _ (.head _)).1, (N9 _ (.head _)).2⟩
      rcases List.mem_cons.mp hq with rfl | hq
      · exact ⟨g', zu.2⟩
      rcases List.mem_cons.mp hq with rfl | hq
      · exact ⟨hs'.extBut _ _ hDu l9, hDL, hD0⟩
      · exact ⟨hs'.extBut _ _ (hne _ hq) (N9 _ (.tail _ (.tail _ hq))).1, (N9 _ (.tail _ (.tail _ hq))).2⟩
end
end Mine
end
section
open PySem PySem.W PyProof.Rows
set_option maxRecDepth 100000
set_option maxHeartbeats 4000000
namespace Mine
theorem fresh_MY3 : True := by w_top off; trivial
theorem nameS_inj {p q : List Nat} (hp : p ∈ paths) (hq : q ∈ paths) (h : nameS p = nameS q) : p = q := by
  refine nameL_inj p hp q hq ?_
  have := congrArg (fun x : Str => x.cps.toList) h
  simpa [nameS] using this
def addP (ks ps : List (List Nat)) : List (List Nat) := ps.foldl (fun ks p => if p ∈ ks then ks else ks ++ [p]) ks
theorem addP_snoc (ks ps : List (List Nat)) (p : List Nat) : addP ks (ps ++ [p]) = if p ∈ addP ks ps then addP ks ps else addP ks ps ++ [p] := by
  rw [addP, List.foldl_append]; rfl
theorem addP_cons (ks ps : List (List Nat)) (p : List Nat) : addP ks (p :: ps) = addP (if p ∈ ks then ks else ks ++ [p]) ps := rfl
theorem addP_len : ∀ (ps ks : List (List Nat)), (addP ks ps).length ≤ ks.length + ps.length
  | [], ks => by simp [addP]
  | p :: ps, ks => by
    rw [addP_cons]
    have := addP_len ps (if p ∈ ks then ks else ks ++ [p])
    split at this
    · rw [if_pos (by assumption), List.length_cons]; omega
    · rw [if_neg (by assumption), List.length_cons]; rw [List.length_append, List.length_singleton] at this; omega
theorem addP_take {ks ps : List (List Nat)} {i : Nat} {p : List Nat} (h : ps[i]? = some p) : addP ks (ps.take (i + 1)) = if p ∈ addP ks (ps.take i) then addP ks (ps.take i) else addP ks (ps.take i) ++ [p] := by
  rw [List.take_add_one, h, Option.toList_some, addP_snoc]
theorem addP_in {ps ks : List (List Nat)} : ∀ p, p ∈ addP ks ps ↔ p ∈ ks ∨ p ∈ ps := by
  induction ps generalizing ks with
  | nil => intro p; simp [addP]
  | cons q ps ih =>
    intro p
    rw [addP_cons, ih]
    split
    · rename_i h
      simp only [List.mem_cons]
      constructor
      · rintro (h1 | h1)
        · exact .inl h1
        · exact .inr (.inr h1)
      · rintro (h1 | rfl | h1)
        · exact .inl h1
        · exact .inl h
        · exact .inr h1
    · simp only [List.mem_append, List.mem_cons, List.mem_nil_iff, or_false]
      constructor
      · rintro ((h1 | h1) | h1)
        · exact .inl h1
        · exact .inr (.inl h1)
        · exact .inr (.inr h1)
      · rintro (h1 | h1 | h1)
        · exact .inl (.inl h1)
        · exact .inl (.inr h1)
        · exact .inr h1
theorem addP_nodup {ps ks : List (List Nat)} (h : ks.Nodup) : (addP ks ps).Nodup := by
  induction ps generalizing ks with
  | nil => exact h
  | cons q ps ih =>
    rw [addP_cons]
    split
    · exact ih h
    · rename_i hq
      refine ih (List.nodup_append.mpr ⟨h, by simp, fun a ha b hb e => ?_⟩)
      rw [List.mem_singleton] at hb
      exact hq (by rw [← hb, ← e]; exact ha)
def KVok (x : Nat → Int) (kvs : List (Str × Value)) (ks : List (List Nat)) (ls : List (Addr × Obj)) : Prop :=
  kvs.length = ks.length ∧ (∀ p ∈ ks, p ∈ paths) ∧ ∀ (i : Nat) (p : List Nat), ks[i]? = some p → ∃ D o, kvs[i]? = some (nameS p, .ref D) ∧ (D, o) ∈ ls ∧ ListO o ((bitsB x p).map Value.bool)
theorem kv_nil (x : Nat → Int) : KVok x [] [] [] := by
  refine ⟨rfl, ?_, ?_⟩
  · intro p h
    cases h
  · intro i p h
    simp at h
theorem value_some {kvs : List (Str × Value)} {k : Str} : (valueAt kvs k).isSome = true ↔ ∃ kv ∈ kvs, kv.1 = k := by
  rw [valueAt, Option.isSome_map, List.find?_isSome]
  simp
theorem kv_in {x : Nat → Int} {kvs : List (Str × Value)} {ks : List (List Nat)} {ls : List (Addr × Obj)} (K : KVok x kvs ks ls) {p : List Nat} (hp : p ∈ paths) : (valueAt kvs (nameS p)).isSome = true ↔ p ∈ ks := by
  obtain ⟨h1, h2, h3⟩ := K
  rw [value_some]
  constructor
  · rintro ⟨kv, hkv, e⟩
    obtain ⟨i, hi, rfl⟩ := List.getElem_of_mem hkv
    obtain ⟨D, o, a, _⟩ := h3 i _ (List.getElem?_eq_getElem (h1 ▸ hi))
    rw [List.getElem?_eq_getElem hi] at a
    rw [Option.some.inj a] at e
    have hk : ks[i]'(h1 ▸ hi) ∈ ks := List.getElem_mem _
    rw [← nameS_inj (h2 _ hk) hp e]
    exact hk
  · intro hk
    obtain ⟨i, hi, rfl⟩ := List.getElem_of_mem hk
    obtain ⟨D, o, a, _⟩ := h3 i _ (List.getElem?_eq_getElem hi)
    exact ⟨_, List.mem_of_getElem? a, rfl⟩
theorem stored_new {kvs : List (Str × Value)} {k : Str} {v : Value} (h : (valueAt kvs k).isSome = false) : stored kvs k v = kvs ++ [(k, v)] := by
  have hn : ¬ (kvs.any (fun kv => kv.1 = k)) = true := by
    intro e
    obtain ⟨kv, hkv, e⟩ := List.any_eq_true.mp e
    have := value_some.mpr ⟨kv, hkv, of_decide_eq_true e⟩
    rw [h] at this
    cases this
  rw [stored, if_neg hn]
theorem kv_snoc {x : Nat → Int} {kvs : List (Str × Value)} {ks : List (List Nat)} {ls : List (Addr × Obj)} {p : List Nat} {D : Addr} {o : Obj} (K : KVok x kvs ks ls) (hp : p ∈ paths) (ho : ListO o ((bitsB x p).map Value.bool)) :
    KVok x (kvs ++ [(nameS p, .ref D)]) (ks ++ [p]) ((D, o) :: ls) := by
  obtain ⟨h1, h2, h3⟩ := K
  refine ⟨by simp [h1], fun q hq => ?_, fun i q hq => ?_⟩
  · rcases List.mem_append.mp hq with hq | hq
    · exact h2 q hq
    · rw [List.mem_singleton.mp hq]; exact hp
  · by_cases hi : i < ks.length
    · rw [List.getElem?_append_left hi] at hq
      obtain ⟨D', o', a, b, c⟩ := h3 i q hq
      exact ⟨D', o', by rw [List.getElem?_append_left (h1 ▸ hi)]; exact a, .tail _ b, c⟩
    · have hi' : i = ks.length := by
        have := (List.getElem?_eq_some_iff.mp hq).1
        rw [List.length_append, List.length_singleton] at this
        omega
      subst hi'
      rw [List.getElem?_append_right (Nat.le_refl _), Nat.sub_self] at hq
      cases hq
      exact ⟨D, o, by rw [← h1, List.getElem?_append_right (Nat.le_refl _), Nat.sub_self]; rfl, .head _, ho⟩
section
variable {prog : Program} {w : World} {A : Around} {s : Shared} {mg mb : Str → Option Value}
abbrev in9 : Stmt := ob9.getD 0 (.Pass default)
def InJ (prog : Program) (w : World) (x : Nat → Int) (L Du : Addr) (S : List (Addr × Obj)) (ks0 ps : List (List Nat)) (m0 : Str → Option Value) (i : Nat) (m : Str → Option Value) (nx : List (Addr × Obj)) : Prop :=
  m = m0 ∧ ∃ od kvs ls, nx = (Du, od) :: (ls ++ S) ∧ od.IsDictOf (strKind prog w) kvs ∧ KVok x kvs (addP ks0 (ps.take i)) ls ∧ (∀ p ∈ nx, p.1 ≠ L + 4) ∧ (∀ p ∈ ls ++ S, p.1 ≠ Du) ∧ ∀ p ∈ ls, ∀ r ∈ S, p.1 ≠ r.1
theorem way_st {h₀ : Heap} {L a Du Dh T : Addr} {cd : Value} {m : Str → Option Value} {S ls : List (Addr × Obj)} {od ou oh oT : Obj} {hv its : List Value} {kvs : List (Str × Value)} {x : Nat → Int} {ks0 ps : List (List Nat)} {Q : Flow → Shared → Prop} {n : Nat} (R : Room A (n + 5)) (G : Gd mg mb h₀)
    (F : Fr h₀ L s.heap m) (N : News h₀ L s.heap ((Du, od) :: (ls ++ S))) (hcv : ∃ v₀, s.heap.IsCell (L + 4) v₀) (hd : od.IsDictOf (strKind prog w) kvs) (K : KVok x kvs ks0 ls) (hsm : (Du == sysModules) = false)
    (mw : m "way" = some (.ref T)) (hT : (T, oT) ∈ S) (oT' : ListO oT its) (kT : StrsAre its (ps.map nameS)) (hps : ∀ p ∈ ps, p ∈ paths)
    (hu : (L + 3, ou) ∈ S) (hud : ou.data = .cell (some (.ref Du))) (mh : m "hosts" = some (.ref Dh)) (hh : (Dh, oh) ∈ S) (ho : ListO oh hv) (kh : StrsAre hv (hostsL x 4)) (hSu : ∀ p ∈ ls ++ S, p.1 ≠ Du) (hS4 : ∀ p ∈ (Du, od) :: (ls ++ S), p.1 ≠ L + 4) (hap0 : ∀ p ∈ ls, ∀ r ∈ S, p.1 ≠ r.1) (hlen : ks0.length + ps.length ≤ 100)
    (q : ∀ h tk od' kvs' ls' oc v, Fr h₀ L h m → News h₀ L h ((L + 4, oc) :: (Du, od') :: (ls' ++ S)) → oc.data = .cell v → od'.IsDictOf (strKind prog w) kvs' → KVok x kvs' (addP ks0 ps) ls' → (∀ p ∈ ls' ++ S, p.1 ≠ Du) → (∀ p ∈ (Du, od') :: (ls' ++ S), p.1 ≠ L + 4) → (∀ p ∈ ls', ∀ r ∈ S, p.1 ≠ r.1) → Q .next { s with heap := h, toks := tk }) :
    wpAny (model prog w) A (exec in9 (lawE L a cd)) Q (fun _ _ => False) s := by
  have hz := R.hh
  have hTs : s.heap.IsList T its.toArray := oT'.isList (N _ (.tail _ (List.mem_append_right _ hT))).1
  have hTlt : T < s.heap.objs.size := by obtain ⟨o, e, _⟩ := hTs; exact Heap.lt_size e
  show wpAny _ _ (exec (.For (.Name _ _) (.Name _ _) _ [] _) _) _ _ _
  refine wpAny_For ?_ (fun _ => rfl)
  refine ldx F mw ?_
  refine wpAny_pyIter_list hTs ?_
  have hLlt : @LT.lt Nat _ L s.heap.objs.size := F.ns.lt
  have hnI := News.ne_size N
  have h0s : h₀.get? s.heap.objs.size = none := none_at_size F
  have hc4 : @LT.lt Nat _ (L + 4) s.heap.objs.size := by obtain ⟨v, o, e, _⟩ := hcv; exact Heap.lt_size e
  have hlp := strs_len kT
  have hlp' : its.length = ps.length := by rw [hlp, List.length_map]
  refine for_cell (c := L + 4) (oax := oT) (nx₀ := (Du, od) :: (ls ++ S)) (n := its.toArray.size) (Walks.list hz s.heap.objs.size T (Nat.ne_of_lt hTlt) its.toArray) (fun i h st => ?_) (InJ prog w x L Du S ks0 ps m) (fun i m' nx hJ => ?_) h0s (Nat.ne_of_lt hLlt) rfl rfl rfl
    (Nat.lt_add_of_pos_right (by decide)) (Nat.ne_of_lt hc4) (fun i m' nx hJ => ?_) (F.push _) (fun p hp => ⟨Heap.get?_push_of_some _ (N p hp).1, (N p hp).2⟩) ?_ hnI ?_ ⟨rfl, od, kvs, ls, rfl, hd, K, hS4, hSu, hap0⟩ ?_ ?_
  · obtain ⟨⟨o, e, _⟩, _⟩ := st; exact ⟨o, e⟩
  · obtain ⟨_, od', kvs', ls', rfl, _⟩ := hJ
    exact .tail _ (List.mem_append_right _ hT)
  · obtain ⟨_, od', kvs', ls', rfl, _, _, hne, _⟩ := hJ
    exact hne
  · obtain ⟨v, o, e, ed⟩ := hcv
    exact ⟨v, o, Heap.get?_push_of_some _ e, ed⟩
  · exact ⟨⟨_, Heap.get?_push_size _ rfl, rfl, rfl⟩, hTs.at fun o e => Heap.get?_push_of_some _ e⟩
  · rintro i v m' nx h tk oI oc hi hP ⟨rfl, od', kvs', ls', rfl, hd', K', hne', hnu', hap'⟩ hnI' F1 hcd N1
    have hi' : i < ps.length := by rw [← hlp']; simpa using hi
    obtain ⟨k, t, rfl, hk⟩ := strs_at kT (i := i) (v := v) (by simpa using hP)
    have hpi : ps[i]? = some ps[i] := List.getElem?_eq_getElem hi'
    have hke : k = nameS ps[i] := by
      rw [List.getElem?_map, hpi] at hk
      exact (Option.some.inj hk).symm
    subst hke
    have hpp := hps _ (List.getElem_mem hi')
    have hkl : kvs'.length ≤ 100 := by
      have := addP_len (ps.take i) ks0
      rw [List.length_take] at this
      have := K'.1
      omega
    have hap := addP_take (ks := ks0) hpi
    show wpAny _ _ (execs [kb9] _) _ _ _
    refine wpAny_execs_cons ?_
    have N2 : News h₀ L h ((L + 4, oc) :: (Du, od') :: (s.heap.objs.size, oI) :: (ls' ++ S)) := fun p hp => by
      rcases List.mem_cons.mp hp with rfl | hp
      · exact N1 _ (.tail _ (.head _))
      rcases List.mem_cons.mp hp with rfl | hp
      · exact N1 _ (.tail _ (.tail _ (.head _)))
      rcases List.mem_cons.mp hp with rfl | hp
      · exact N1 _ (.head _)
      · exact N1 _ (.tail _ (.tail _ (.tail _ hp)))
    refine key_st (s := { s with heap := h, toks := tk }) R G F1 N2 hcd hd' hsm hpp (.tail _ (List.mem_append_right _ hu)) hud mh (.tail _ (List.mem_append_right _ hh)) ho kh (fun p hp => ?_) hkl (fun tk' hin => ?_) (fun h' tk' od2 D o hnin F3 N3 hd3 ho3 hfr => ?_)
    · rcases List.mem_cons.mp hp with rfl | hp
      · exact Ne.symm (hnI' _ (.head _))
      · exact hnu' p hp
    · have hmem := (kv_in K' hpp).mp hin
      rw [if_pos hmem] at hap
      refine wpAny_execs_nil ?_
      refine ⟨h, tk', m', (L + 4, oc) :: (Du, od') :: (ls' ++ S), rfl, F1, N1, fun p hp => ?_, oc, (Du, od') :: (ls' ++ S), _, rfl, hcd, rfl, od', kvs', ls', rfl, hd', by rw [hap]; exact K', hne', hnu', hap'⟩
      rcases List.mem_cons.mp hp with rfl | hp
      · exact Nat.ne_of_lt hc4
      · exact hnI' p hp
    · have hmem : ¬ ps[i] ∈ addP ks0 (ps.take i) := fun e => by
        have := (kv_in K' hpp).mpr e
        rw [hnin] at this; cases this
      rw [if_neg hmem] at hap
      rw [stored_new hnin] at hd3
      have live : ∀ p ∈ (L + 4, oc) :: (Du, od') :: (s.heap.objs.size, oI) :: (ls' ++ S), p.1 ≠ D := fun p hp => hfr _ (by rw [(N2 p hp).1]; simp)
      refine wpAny_execs_nil ?_
      refine ⟨h', tk', m', (L + 4, oc) :: (Du, od2) :: (((D, o) :: ls') ++ S), rfl, F3, fun p hp => ?_, fun p hp => ?_, oc, (Du, od2) :: (((D, o) :: ls') ++ S), _, rfl, hcd, rfl, od2, _, (D, o) :: ls', rfl, hd3, by rw [hap]; exact kv_snoc K' hpp ho3, fun p hp => ?_, fun p hp => ?_, fun p hp r hr => ?_⟩
      · rcases List.mem_cons.mp hp with rfl | hp
        · exact N3 _ (.tail _ (.tail _ (.tail _ (.head _))))
        rcases List.mem_cons.mp hp with rfl | hp
        · exact N3 _ (.head _)
        rcases List.mem_cons.mp hp with rfl | hp
        · exact N3 _ (.tail _ (.head _))
        rcases List.mem_cons.mp hp with rfl | hp
        · exact N3 _ (.tail _ (.tail _ (.head _)))
        · exact N3 _ (.tail _ (.tail _ (.tail _ (.tail _ hp))))
      · rcases List.mem_cons.mp hp with rfl | hp
        · exact Nat.ne_of_lt hc4
        rcases List.mem_cons.mp hp with rfl | hp
        · exact hnI' (Du, od') (.head _)
        rcases List.mem_cons.mp hp with rfl | hp
        · exact Ne.symm (live _ (.tail _ (.tail _ (.head _))))
        · exact hnI' _ (.tail _ hp)
      · rcases List.mem_cons.mp hp with rfl | hp
        · exact hne' (Du, od') (.head _)
        rcases List.mem_cons.mp hp with rfl | hp
        · exact Ne.symm (live _ (.head _))
        · exact hne' _ (.tail _ hp)
      · rcases List.mem_cons.mp hp with rfl | hp
        · exact Ne.symm (live _ (.tail _ (.head _)))
        · exact hnu' _ hp
      · rcases List.mem_cons.mp hp with rfl | hp
        · exact Ne.symm (live _ (.tail _ (.tail _ (.tail _ (List.mem_append_right _ hr)))))
        · exact hap' p hp r hr
  · rintro m' nx h tk oc v ⟨rfl, od', kvs', ls', rfl, hd', K', hne', hnu', hap'⟩ F1 hcd N1
    rw [List.take_of_length_le (by simp [hlp'])] at K'
    exact q h tk od' kvs' ls' oc v F1 N1 hcd hd' K' hnu' hne' hap'
end
end Mine
end
section
open PySem PySem.W PyProof.Rows
set_option maxRecDepth 100000
set_option maxHeartbeats 4000000
namespace Mine
theorem fresh_MY4 : True := by w_top off; trivial
def wayP : List Nat → Nat → List (List Nat)
  | p, 0 => [p]
  | p, n + 1 => p :: wayP p.dropLast n
theorem wayL_map : ∀ (n : Nat) (p : List Nat), wayL p n = (wayP p n).map nameS
  | 0, p => rfl
  | n + 1, p => by rw [wayL, wayP, List.map_cons, wayL_map n]
theorem wayP_in : ∀ (n : Nat) (p : List Nat), p ∈ paths → ∀ q ∈ wayP p n, q ∈ paths
  | 0, p, hp, q, hq => by rw [wayP, List.mem_singleton] at hq; exact hq ▸ hp
  | n + 1, p, hp, q, hq => by
    rw [wayP] at hq
    rcases List.mem_cons.mp hq with rfl | hq
    · exact hp
    · exact wayP_in n _ (paths_drop p hp) q hq
theorem wayP_len : ∀ (n : Nat) (p : List Nat), (wayP p n).length = n + 1
  | 0, p => rfl
  | n + 1, p => by rw [wayP, List.length_cons, wayP_len n]
def prefs (p : List Nat) : List (List Nat) := wayP p p.length
def keysTo (x : Nat → Int) (i : Nat) : List (List Nat) := (List.range i).foldl (fun ks j => addP ks (prefs (full x j))) []
theorem keysTo_succ (x : Nat → Int) (i : Nat) : keysTo x (i + 1) = addP (keysTo x i) (prefs (full x i)) := by
  rw [keysTo, List.range_succ, List.foldl_append]; rfl
theorem prefs_len (x : Nat → Int) {i : Nat} (hi : i < 4) : (prefs (full x i)).length ≤ 5 := by
  rw [prefs, wayP_len]
  have := few_p _ (full_in x hi)
  omega
theorem keysTo_len (x : Nat → Int) : ∀ i ≤ 4, (keysTo x i).length ≤ 5 * i
  | 0, _ => by simp [keysTo]
  | i + 1, h => by
    rw [keysTo_succ]
    have := addP_len (prefs (full x i)) (keysTo x i)
    have := keysTo_len x i (by omega)
    have := prefs_len x (i := i) (by omega)
    omega
section
variable {prog : Program} {w : World} {A : Around} {s : Shared} {mg mb : Str → Option Value}
def OutJ (prog : Program) (w : World) (x : Nat → Int) (L Du Dh : Addr) (S : List (Addr × Obj)) (i : Nat) (m : Str → Option Value) (nx : List (Addr × Obj)) : Prop :=
  ∃ oc v od kvs ls, nx = (L + 4, oc) :: (Du, od) :: (ls ++ S) ∧ oc.data = .cell v ∧ od.IsDictOf (strKind prog w) kvs ∧ KVok x kvs (keysTo x i) ls ∧ (∀ p ∈ (Du, od) :: (ls ++ S), p.1 ≠ L + 4) ∧ (∀ p ∈ ls ++ S, p.1 ≠ Du) ∧ (∀ p ∈ ls, ∀ r ∈ S, p.1 ≠ r.1) ∧ m "hosts" = some (.ref Dh)
theorem dict_st {h₀ : Heap} {L a Du Dh Dw : Addr} {cd : Value} {m : Str → Option Value} {S : List (Addr × Obj)} {od ou oh oc : Obj} {hv : List Value} {x : Nat → Int} {T : Nat → Addr} {o : Nat → Obj} {its : Nat → List Value} {nW : Nat} {v0 : Option Value} {Q : Flow → Shared → Prop} {n : Nat} (R : Room A (n + 5)) (G : Gd mg mb h₀)
    (F : Fr h₀ L s.heap m) (N : News h₀ L s.heap ((L + 4, oc) :: (Du, od) :: S)) (hcd : oc.data = .cell v0) (hd : od.IsDictOf (strKind prog w) []) (hsm : (Du == sysModules) = false)
    (mW : m "ways" = some (.ref Dw)) (hW : (Dw, lobj [.ref (T 0), .ref (T 1), .ref (T 2), .ref (T 3)] nW) ∈ S) (hT : ∀ i < 4, (T i, o i) ∈ S ∧ ListO (o i) (its i) ∧ StrsAre (its i) (wayS x i))
    (hu : (L + 3, ou) ∈ S) (hud : ou.data = .cell (some (.ref Du))) (mh : m "hosts" = some (.ref Dh)) (hh : (Dh, oh) ∈ S) (ho : ListO oh hv) (kh : StrsAre hv (hostsL x 4)) (hSu : ∀ p ∈ S, p.1 ≠ Du) (hS4 : ∀ p ∈ (Du, od) :: S, p.1 ≠ L + 4)
    (q : ∀ h tk m' od' kvs' ls' oc v, Fr h₀ L h m' → News h₀ L h ((L + 4, oc) :: (Du, od') :: (ls' ++ S)) → oc.data = .cell v → od'.IsDictOf (strKind prog w) kvs' → KVok x kvs' (keysTo x 4) ls' → (∀ z : Str, z ≠ ("way" : Str) → m' z = m z) → (∀ p ∈ ls', ∀ r ∈ S, p.1 ≠ r.1) → (∀ p ∈ (Du, od') :: (ls' ++ S), p.1 ≠ L + 4) → Q .next { s with heap := h, toks := tk }) :
    wpAny (model prog w) A (exec (st16 9) (lawE L a cd)) Q (fun _ _ => False) s := by
  have hz := R.hh
  have hWs : s.heap.IsList Dw [.ref (T 0), .ref (T 1), .ref (T 2), .ref (T 3)].toArray := (lobj_O _ _).isList (N _ (.tail _ (.tail _ hW))).1
  have hWlt : Dw < s.heap.objs.size := by obtain ⟨o, e, _⟩ := hWs; exact Heap.lt_size e
  show wpAny _ _ (exec (.For (.Name _ _) (.Name _ _) _ [] _) _) _ _ _
  refine wpAny_For ?_ (fun _ => rfl)
  refine ldx F mW ?_
  refine wpAny_pyIter_list hWs ?_
  have hLlt : @LT.lt Nat _ L s.heap.objs.size := F.ns.lt
  have hnI := News.ne_size N
  have h0s : h₀.get? s.heap.objs.size = none := none_at_size F
  refine for_loc (oax := lobj [.ref (T 0), .ref (T 1), .ref (T 2), .ref (T 3)] nW) (nx₀ := (L + 4, oc) :: (Du, od) :: S) (n := 4) (Walks.list hz s.heap.objs.size Dw (Nat.ne_of_lt hWlt) [.ref (T 0), .ref (T 1), .ref (T 2), .ref (T 3)].toArray) (fun i h st => ?_)
    (fun i m' nx => OutJ prog w x L Du Dh S i m' nx ∧ ∀ z : Str, z ≠ ("way" : Str) → m' z = m z) (fun i m' nx hJ => ?_) rfl h0s (Nat.ne_of_lt hLlt) rfl rfl (F.push _) (fun p hp => ⟨Heap.get?_push_of_some _ (N p hp).1, (N p hp).2⟩) hnI ?_ ⟨⟨oc, v0, od, [], [], rfl, hcd, hd, kv_nil x, hS4, hSu, fun p hp => (by cases hp), mh⟩, fun _ _ => rfl⟩ ?_ ?_
  · obtain ⟨⟨o, e, _⟩, _⟩ := st; exact ⟨o, e⟩
  · obtain ⟨⟨_, _, od', kvs', ls', rfl, _⟩, _⟩ := hJ
    exact .tail _ (.tail _ (List.mem_append_right _ hW))
  · exact ⟨⟨_, Heap.get?_push_size _ rfl, rfl, rfl⟩, hWs.at fun o e => Heap.get?_push_of_some _ e⟩
  · rintro i v m' nx h tk oI hi hP ⟨⟨oc', v', od', kvs', ls', rfl, hcd', hd', K', hne', hnu', hap', mh'⟩, hmz⟩ hnI' F1 N1
    have hvT : v = .ref (T i) := (get4 (x := fun i => Value.ref (T i)) (i := i) (k := v) (by simpa using hP)).symm
    subst hvT
    have hki := keysTo_len x i (by omega)
    have hpl := prefs_len x hi
    show wpAny _ _ (execs [in9] _) _ _ _
    refine wpAny_execs_cons ?_
    have N2 : News h₀ L h ((Du, od') :: (ls' ++ ((s.heap.objs.size, oI) :: S))) := fun p hp => by
      rcases List.mem_cons.mp hp with rfl | hp
      · exact N1 _ (.tail _ (.tail _ (.head _)))
      rcases List.mem_append.mp hp with hp | hp
      · exact N1 _ (.tail _ (.tail _ (.tail _ (List.mem_append_left _ hp))))
      rcases List.mem_cons.mp hp with rfl | hp
      · exact N1 _ (.head _)
      · exact N1 _ (.tail _ (.tail _ (.tail _ (List.mem_append_right _ hp))))
    have hI4 : s.heap.objs.size ≠ L + 4 := Ne.symm (hnI' (L + 4, oc') (.head _))
    have hIu : s.heap.objs.size ≠ Du := Ne.symm (hnI' (Du, od') (.tail _ (.head _)))
    refine way_st (s := { s with heap := h, toks := tk }) (S := (s.heap.objs.size, oI) :: S) (ps := prefs (full x i)) R G F1 N2 ⟨v', oc', (N1 _ (.tail _ (.head _))).1, hcd'⟩ hd' K' hsm (if_pos rfl) (.tail _ (hT i hi).1) (hT i hi).2.1 (by have := (hT i hi).2.2; rw [wayS, wayL_map] at this; exact this)
      (wayP_in _ _ (full_in x hi)) (.tail _ hu) hud ((if_neg (by decide)).trans mh') (.tail _ hh) ho kh (fun p hp => ?_) (fun p hp => ?_) (fun p hp r hr => ?_) (by omega) (fun h3 tk3 od3 kvs3 ls3 oc3 v3 F3 N3 hcd3 hd3 K3 hnu3 hne3 hap3 => ?_)
    · rcases List.mem_append.mp hp with hp | hp
      · exact hnu' p (List.mem_append_left _ hp)
      rcases List.mem_cons.mp hp with rfl | hp
      · exact hIu
      · exact hnu' p (List.mem_append_right _ hp)
    · rcases List.mem_cons.mp hp with rfl | hp
      · exact hne' _ (.head _)
      rcases List.mem_append.mp hp with hp | hp
      · exact hne' p (.tail _ (List.mem_append_left _ hp))
      rcases List.mem_cons.mp hp with rfl | hp
      · exact hI4
      · exact hne' p (.tail _ (List.mem_append_right _ hp))
    · rcases List.mem_cons.mp hr with rfl | hr
      · exact hnI' p (.tail _ (.tail _ (List.mem_append_left _ hp)))
      · exact hap' p hp r hr
    refine wpAny_execs_nil ?_
    refine ⟨h3, tk3, _, (L + 4, oc3) :: (Du, od3) :: (ls3 ++ S), rfl, F3, fun p hp => ?_, fun p hp => ?_, ⟨oc3, v3, od3, kvs3, ls3, rfl, hcd3, hd3, by rw [keysTo_succ]; exact K3, fun p hp => ?_, fun p hp => ?_, fun p hp r hr => hap3 p hp r (.tail _ hr), (if_neg (by decide)).trans mh'⟩, fun z hz => (if_neg hz).trans (hmz z hz)⟩
    · rcases List.mem_cons.mp hp with rfl | hp
      · exact N3 _ (.tail _ (.tail _ (List.mem_append_right _ (.head _))))
      rcases List.mem_cons.mp hp with rfl | hp
      · exact N3 _ (.head _)
      rcases List.mem_cons.mp hp with rfl | hp
      · exact N3 _ (.tail _ (.head _))
      rcases List.mem_append.mp hp with hp | hp
      · exact N3 _ (.tail _ (.tail _ (List.mem_append_left _ hp)))
      · exact N3 _ (.tail _ (.tail _ (List.mem_append_right _ (.tail _ hp))))
    · rcases List.mem_cons.mp hp with rfl | hp
      · exact hnI' (L + 4, oc') (.head _)
      rcases List.mem_cons.mp hp with rfl | hp
      · exact hnI' (Du, od') (.tail _ (.head _))
      rcases List.mem_append.mp hp with hp | hp
      · exact hap3 p hp _ (.head _)
      · exact hnI' p (.tail _ (.tail _ (List.mem_append_right _ hp)))
    · rcases List.mem_cons.mp hp with rfl | hp
      · exact hne' (Du, od') (.head _)
      rcases List.mem_append.mp hp with hp | hp
      · exact hne3 p (.tail _ (List.mem_append_left _ hp))
      · exact hne3 p (.tail _ (List.mem_append_right _ (.tail _ hp)))
    · rcases List.mem_append.mp hp with hp | hp
      · exact hnu3 p (List.mem_append_left _ hp)
      · exact hnu3 p (List.mem_append_right _ (.tail _ hp))
  · rintro m' nx h tk ⟨⟨oc', v', od', kvs', ls', rfl, hcd', hd', K', hne', hnu', hap', mh'⟩, hmz⟩ F1 N1
    exact q h tk m' od' kvs' ls' oc' v' F1 N1 hcd' hd' K' hmz hap' hne'
end
end Mine
end
section
open PySem PySem.W PyProof.Rows
set_option maxRecDepth 100000
set_option maxHeartbeats 4000000
namespace Mine
theorem fresh_MY5 : True := by w_top off; trivial
def uOf (x : Nat → Int) (ks : List (List Nat)) (k : Str) : Option (List Bool) := (ks.find? fun p => nameS p = k).map (bitsB x)
theorem uOf_in {x : Nat → Int} {ks : List (List Nat)} (hk : ∀ p ∈ ks, p ∈ paths) {p : List Nat} (hp : p ∈ ks) : uOf x ks (nameS p) = some (bitsB x p) := by
  rw [uOf]
  have hs : (ks.find? fun q => nameS q = nameS p).isSome = true := by
    rw [List.find?_isSome]; exact ⟨p, hp, by simp⟩
  obtain ⟨q, hq⟩ := Option.isSome_iff_exists.mp hs
  have h1 := List.mem_of_find?_eq_some hq
  have h2 := List.find?_some hq
  rw [hq, nameS_inj (hk _ h1) (hk _ hp) (of_decide_eq_true h2)]
  rfl
theorem und_of {prog : Program} {w : World} {h h₀ : Heap} {L Du : Addr} {x : Nat → Int} {od : Obj} {kvs : List (Str × Value)} {ks : List (List Nat)} {ls news : List (Addr × Obj)} (hsm : (Du == sysModules) = false) (hg : h.get? Du = some od) (hd : od.IsDictOf (strKind prog w) kvs) (K : KVok x kvs ks ls)
    (N : News h₀ L h news) (hsub : ∀ p ∈ ls, p ∈ news) : Und prog w h Du (uOf x ks) := by
  refine ⟨hsm, kvs, Heap.dictOf_iff.mpr ⟨od, hg, hd⟩, fun k bs hu => ?_⟩
  rw [uOf, Option.map_eq_some_iff] at hu
  obtain ⟨p, hp, rfl⟩ := hu
  have h1 := List.mem_of_find?_eq_some hp
  have h2 : nameS p = k := by have z := List.find?_some hp; simpa using z
  subst h2
  have hs := (kv_in K (K.2.1 _ h1)).mpr h1
  rw [valueAt, Option.isSome_map, ] at hs
  obtain ⟨kv, hkv⟩ := Option.isSome_iff_exists.mp hs
  have g1 := List.mem_of_find?_eq_some hkv
  have g2 : kv.1 = nameS p := by have z := List.find?_some hkv; simpa using z
  obtain ⟨i, hi, e⟩ := List.getElem_of_mem g1
  obtain ⟨D, o, a, b, c⟩ := K.2.2 i _ (List.getElem?_eq_getElem (K.1 ▸ hi))
  rw [List.getElem?_eq_getElem hi, e] at a
  have a' := Option.some.inj a
  subst a'
  have hpp := nameS_inj (K.2.1 _ (List.getElem_mem _)) (K.2.1 _ h1) g2
  rw [hpp] at c
  exact ⟨D, by rw [valueAt, hkv]; rfl, c.isList (N _ (hsub _ b)).1⟩
def stepN (x : Nat → Int) (i j : Nat) : Nat := (prefs (full x i)).findIdx fun q => bitAt x q j
theorem prefs_keys (x : Nat → Int) {i : Nat} (hi : i < 4) : ∀ q ∈ prefs (full x i), q ∈ keysTo x 4 := by
  have key : ∀ k ≤ 4, ∀ j < k, ∀ q ∈ prefs (full x j), q ∈ keysTo x k := by
    intro k
    induction k with
    | zero => intro _ j hj; omega
    | succ k ih =>
      intro hk j hj q hq
      rw [keysTo_succ, addP_in]
      rcases Nat.lt_succ_iff_lt_or_eq.mp hj with h | rfl
      · exact .inl (ih (by omega) j h q hq)
      · exact .inr hq
  exact key 4 (Nat.le_refl _) i hi
theorem step_is {x : Nat → Int} {i j : Nat} (hi : i < 4) (hj : j < 4) (hk : ∀ p ∈ keysTo x 4, p ∈ paths) : ((wayS x i).findIdx fun k => ((uOf x (keysTo x 4) k).getD []).getD j false) = stepN x i j := by
  rw [wayS, wayL_map, stepN, List.findIdx_map, prefs]
  have : ∀ (l : List (List Nat)), (∀ q ∈ l, q ∈ keysTo x 4) → l.findIdx ((fun k => ((uOf x (keysTo x 4) k).getD []).getD j false) ∘ nameS) = l.findIdx fun q => bitAt x q j := by
    intro l
    induction l with
    | nil => intro _; rfl
    | cons q l ih =>
      intro hl
      rw [List.findIdx_cons, List.findIdx_cons, ih fun r hr => hl r (.tail _ hr)]
      have : (((fun k => ((uOf x (keysTo x 4) k).getD []).getD j false) ∘ nameS) q) = bitAt x q j := by
        show ((uOf x (keysTo x 4) (nameS q)).getD []).getD j false = _
        rw [uOf_in hk (hl q (.head _))]
        match j, hj with
        | 0, _ => rfl
        | 1, _ => rfl
        | 2, _ => rfl
        | 3, _ => rfl
      rw [this]
  exact this _ (prefs_keys x hi)
section
variable {prog : Program} {w : World} {A : Around} {E : Value → Shared → Prop} {s : Shared} {mg mb : Str → Option Value}
local macro_rules | `(tactic| walk_at "nocall") => `(tactic| ((first | (with_reducible show wpAny _ _ _ _ _ _) | (dsimp only; (with_reducible show wpAny _ _ _ _ _ _))); (fail_if_success (with_reducible show wpAny _ _ (call _ _ _) _ _ _)); (first | walk1 | (dsimp only; walk1))))
local macro_rules | `(tactic| walk_at "lk") => `(tactic| first | with_reducible assumption | exact if_pos rfl | (refine (if_neg (by decide)).trans ?_; walk_at "lk"))
local macro_rules | `(tactic| walk_at "eval Name") => `(tactic| (first | refine ldx (by with_reducible assumption) (by walk_at "lk") ?_ | refine ldc (by with_reducible assumption) ?_))
theorem steps_st {h₀ : Heap} {L a Du Dw : Addr} {cd : Value} {m : Str → Option Value} {news : List (Addr × Obj)} {x : Nat → Int} {T : Nat → Addr} {its : Nat → List Value} {Q : Flow → Shared → Prop} {n : Nat} (R : Room A (n + 5)) (G : Gd mg mb h₀)
    (F : Fr h₀ L s.heap m) (N : News h₀ L s.heap news) (mW : m "ways" = some (.ref Dw)) (hW : s.heap.IsList Dw [.ref (T 0), .ref (T 1), .ref (T 2), .ref (T 3)].toArray) (hT : ∀ i < 4, s.heap.IsList (T i) (its i).toArray ∧ StrsAre (its i) (wayS x i))
    (hcu : s.heap.IsCell (L + 3) (some (.ref Du))) (hU : Und prog w s.heap Du (uOf x (keysTo x 4))) (hk : ∀ p ∈ keysTo x 4, p ∈ paths) (hc5 : s.heap.IsCell (L + 5) none) (hne : ∀ p ∈ news, p.1 ≠ L + 5)
    (q : ∀ h tk D nD (T : Nat → Addr) (o : Nat → Obj) (t : Nat → Nat → Tok) (o' : Obj), Fr h₀ L h m → News h₀ L h ((L + 5, o') :: ([(D, lobj [.ref (T 0), .ref (T 1), .ref (T 2), .ref (T 3)] nD), (T 0, o 0), (T 1, o 1), (T 2, o 2), (T 3, o 3)] ++ news)) → o'.data = .cell (some (.ref D)) →
      (∀ i < 4, ListO (o i) [.int (stepN x i 0 : Nat) (t i 0), .int (stepN x i 1 : Nat) (t i 1), .int (stepN x i 2 : Nat) (t i 2), .int (stepN x i 3 : Nat) (t i 3)]) → Q .next { s with heap := h, toks := tk }) :
    wpAny (model prog w) A (exec (st16 10) (lawE L a cd)) Q E s := by
  have hz := R.hh
  have G1 := G.ext F.keep
  obtain ⟨a1, o1, pm1, cd1, doc1, e1, ho1, hd1, hc1⟩ := G1.fn 15 (by decide)
  show wpAny _ _ (exec (.Assign [.Name _ _] (.ListComp _ _ _ _) _) _) _ _ _
  walk1
  refine comp_val true ?_
  refine ldx F mW ?_
  refine src_list hz hW fun it s₂ hS => ?_
  refine ⟨4, _, fun _ _ => true, fun i _ y nw => ∃ D o w, y = .ref D ∧ nw = [(D, o)] ∧ ListO o w ∧ ∃ t : Nat → Tok, w = [.int (stepN x i 0 : Nat) (t 0), .int (stepN x i 1 : Nat) (t 1), .int (stepN x i 2 : Nat) (t 2), .int (stepN x i 3 : Nat) (t 3)], hS, by decide, ?_, ?_⟩
  · refine ⟨fun i v C c m' h tk E' hi' hP F7 hv => wpAny_tests_nil ⟨rfl, _, _, rfl, Ext.refl _⟩, fun i v C c m' h tk E' hi' hP hp F7 hv => ?_⟩
    have hvT : v = .ref (T i) := (get4 (x := fun i => Value.ref (T i)) (i := i) (k := v) (by simpa using hP)).symm
    subst hvT
    obtain ⟨hcv, hc0, hcC⟩ := hv
    have hcu7 := hcu.keeps F7.keep
    have G7 := G1.ext F7.keep
    clear hS
    refine comp_val false ?_
    repeat' (walk_at "nocall")
    refine ldb G7 (by decide) boot_range ?_
    refine Pv.callWith_type1 ?_
    repeat' (walk_at "nocall")
    refine call_range_1 ?_
    dsimp only
    refine src_range (n := 4) hz (IsRange.new ..) (by omega) fun it' s₃ hS' => ?_
    refine ⟨4, _, fun _ _ => true, fun j _ y nw => nw = [] ∧ ∃ t, y = .int (stepN x i j : Nat) t, hS', by decide, ?_, ?_⟩
    · refine ⟨fun i v C c m' h tk E' hi' hP F7 hv => wpAny_tests_nil ⟨rfl, _, _, rfl, Ext.refl _⟩, fun j v C' c' m'' h' tk' E'' hj hPj hpj F8 hv' => ?_⟩
      obtain ⟨tj, rfl⟩ := hPj
      have hvj : m'' "j" = some (.int (j : Nat) tj) := hv'
      have e8 : Ext h h' := fun b o e => F8.keep b o (Heap.get?_push_of_some _ e)
      have e9 : Ext s.heap h' := Ext.trans F7.keep e8
      have hcv8 := hcv.keeps e8
      have hcu8 := hcu7.keeps e8
      have G8 := G7.ext e8
      have ho8 := e9 _ _ ho1
      have l1 : h'.IsList (T i) (its i).toArray := (hT i hi').1.at fun o e => e9 _ o e
      have k1 := (hT i hi').2
      have hU8 : Und prog w h' Du (uOf x (keysTo x 4)) := by
        obtain ⟨u1, kvs, u2, u3⟩ := hU
        exact ⟨u1, kvs, u2.keep e9, fun k bs hb => by obtain ⟨z, z1, z2⟩ := u3 k bs hb; exact ⟨z, z1, z2.at fun o e => e9 _ o e⟩⟩
      have hst := step_is hi' hj hk
      clear hS' F7 F N hU G7 G1 hcv hcu hcu7 hW hT
      refine Call_ ?_
      refine ldg G8 e1 ?_
      refine callWith_def hd1 ?_
      walk1
      refine ldc hcv8 ?_
      walk1
      refine ldc hcu8 ?_
      repeat' (walk_at "nocall")
      refine ⟨ho8, ?_⟩
      refine steps_call (j := j) G8 R e1 l1 k1 hU8 (fun k hkk => ?_) (by omega) ?_ fun h10 tk10 t10 e10 => ?_
      · rw [wayS, wayL_map] at hkk
        obtain ⟨q, hq, rfl⟩ := List.mem_map.mp hkk
        exact ⟨bitsB x q, uOf_in hk (prefs_keys x hi' q hq), by simp [bitsB]; omega⟩
      · rw [wayS, wayL_map, List.length_map]
        have := prefs_len x hi'
        rw [prefs] at this
        omega
      rw [hst]
      exact ⟨h10, _, [], rfl, e10, ⟨rfl, _, rfl⟩, fun q hq => by cases hq⟩
    · intro D h9 tk9 ys ob sel e9 hD l9 hob
      obtain ⟨y, rfl, hy⟩ := four_vals sel
      obtain ⟨t0, y0⟩ := hy 0 (by decide)
      obtain ⟨t1, y1⟩ := hy 1 (by decide)
      obtain ⟨t2, y2⟩ := hy 2 (by decide)
      obtain ⟨t3, y3⟩ := hy 3 (by decide)
      rw [y0, y1, y2, y3] at l9
      exact fresh_elt (fun b o e => Heap.get?_push_of_some _ e) e9 hD l9 ⟨pick4f t0 t1 t2 t3, rfl⟩
  · intro D h tk ys ob sel e7 hD l7 hob
    obtain ⟨TT, oo, ww, rfl, hTT⟩ := four_lists sel
    obtain ⟨nD, l7⟩ := l7
    have F8 := F.keeps e7
    obtain ⟨_, ⟨t0, b0⟩, _⟩ := hTT 0 (by decide)
    obtain ⟨_, ⟨t1, b1⟩, _⟩ := hTT 1 (by decide)
    obtain ⟨_, ⟨t2, b2⟩, _⟩ := hTT 2 (by decide)
    obtain ⟨_, ⟨t3, b3⟩, _⟩ := hTT 3 (by decide)
    have hob' : ∀ p ∈ ([(D, lobj [.ref (TT 0), .ref (TT 1), .ref (TT 2), .ref (TT 3)] nD), (TT 0, oo 0), (TT 1, oo 1), (TT 2, oo 2), (TT 3, oo 3)] : List (Addr × Obj)), h.get? p.1 = some p.2 ∧ s.heap.get? p.1 = none := by
      intro p hp
      simp only [List.mem_cons, List.mem_nil_iff, or_false] at hp
      rcases hp with rfl | rfl | rfl | rfl | rfl
      · exact ⟨l7, hD⟩
      · exact ⟨(hob _ (hTT 0 (by decide)).2.2).1, (hob _ (hTT 0 (by decide)).2.2).2.1⟩
      · exact ⟨(hob _ (hTT 1 (by decide)).2.2).1, (hob _ (hTT 1 (by decide)).2.2).2.1⟩
      · exact ⟨(hob _ (hTT 2 (by decide)).2.2).1, (hob _ (hTT 2 (by decide)).2.2).2.1⟩
      · exact ⟨(hob _ (hTT 3 (by decide)).2.2).1, (hob _ (hTT 3 (by decide)).2.2).2.1⟩
    have N8 := News.more F N e7 hob'
    refine store_C F8 N8 (hc5.keeps e7) (Nat.lt_add_of_pos_right (by decide)) (fun p hp => ?_) fun h' o' hs' F9 N9 hd' => ?_
    · rcases List.mem_append.mp hp with hp | hp
      · intro z
        obtain ⟨oc, ec, _⟩ := hc5
        rw [← z, (hob' p hp).2] at ec
        cases ec
      · exact hne p hp
    refine q h' _ D nD TT oo (pick4f t0 t1 t2 t3) o' F9 N9 hd' fun i hi => ?_
    have z := (hTT i hi).1
    match i, hi with
    | 0, _ => rw [b0] at z; exact z
    | 1, _ => rw [b1] at z; exact z
    | 2, _ => rw [b2] at z; exact z
    | 3, _ => rw [b3] at z; exact z
end
end Mine
end
section
open PySem PySem.W PyProof.Rows
set_option maxRecDepth 100000
set_option maxHeartbeats 4000000
namespace Mine
local macro_rules | `(tactic| walk_at "idle") => `(tactic| skip)
local macro_rules | `(tactic| walk_at "idle") => `(tactic| skip)
local macro_rules | `(tactic| walk_at "idle") => `(tactic| skip)
local macro_rules | `(tactic| walk_at "idle") => `(tactic| skip)
local macro_rules | `(tactic| walk_at "idle") => `(tactic| skip)
theorem fresh_MY6 : True := by w_top off; trivial
section
variable {prog : Program} {w : World} {A : Around} {E : Value → Shared → Prop} {s : Shared} {mg mb : Str → Option Value}
local macro_rules | `(tactic| walk_at "nocall") => `(tactic| ((first | (with_reducible show wpAny _ _ _ _ _ _) | (dsimp only; (with_reducible show wpAny _ _ _ _ _ _))); (fail_if_success (with_reducible show wpAny _ _ (call _ _ _) _ _ _)); (first | walk1 | (dsimp only; walk1))))
local macro_rules | `(tactic| walk_at "lk") => `(tactic| first | with_reducible assumption | exact if_pos rfl | (refine (if_neg (by decide)).trans ?_; walk_at "lk"))
local macro_rules | `(tactic| walk_at "eval Name") => `(tactic| (first | refine ldx (by with_reducible assumption) (by walk_at "lk") ?_ | refine ldc (by with_reducible assumption) ?_))
def fI (x : Nat → Int) (i j : Nat) : Int := (stepN x i j : Int) + (stepN x j i : Int)
theorem found_st {h₀ : Heap} {L a Dr : Addr} {cd : Value} {m : Str → Option Value} {news : List (Addr × Obj)} {x : Nat → Int} {T : Nat → Addr} {t : Nat → Nat → Tok} {Q : Flow → Shared → Prop} {n : Nat} (R : Room A (n + 3)) (G : Gd mg mb h₀)
    (F : Fr h₀ L s.heap m) (N : News h₀ L s.heap news) (hc : s.heap.IsCell (L + 5) (some (.ref Dr))) (hr : s.heap.IsList Dr [.ref (T 0), .ref (T 1), .ref (T 2), .ref (T 3)].toArray)
    (hT : ∀ i < 4, s.heap.IsList (T i) [.int (stepN x i 0 : Nat) (t i 0), .int (stepN x i 1 : Nat) (t i 1), .int (stepN x i 2 : Nat) (t i 2), .int (stepN x i 3 : Nat) (t i 3)].toArray)
    (q : ∀ h tk D o t0 t1 t2, Fr h₀ L h (fun z => if z = "found" then some (.ref D) else m z) → News h₀ L h ((D, o) :: news) → ListO o [.int (fI x 0 1 + fI x 2 3) t0, .int (fI x 0 2 + fI x 1 3) t1, .int (fI x 0 3 + fI x 1 2) t2] → Q .next { s with heap := h, toks := tk }) :
    wpAny (model prog w) A (exec (st16 11) (lawE L a cd)) Q E s := by
  have hz := R.hh
  show wpAny _ _ (exec (.Assign [.Name _ _] (.Call _ _ _ _) _) _) _ _ _
  have G1 := G.ext F.keep
  obtain ⟨a1, o1, pm1, cd1, doc1, e1, ho1, hd1, hc1⟩ := G1.fn 13 (by decide)
  repeat' (walk_at "nocall")
  refine ldg G1 e1 ?_
  refine callWith_def hd1 ?_
  repeat' (walk_at "nocall")
  refine comp_val true ?_
  repeat' (walk_at "nocall")
  refine ldb G1 (by decide) boot_range ?_
  refine Pv.callWith_type1 ?_
  repeat' (walk_at "nocall")
  refine call_range_1 ?_
  dsimp only
  refine src_range (n := 4) hz (IsRange.new ..) (by omega) fun it s₂ hS => ?_
  refine ⟨4, _, fun _ _ => true, fun i _ y nw => ∃ D o w, y = .ref D ∧ nw = [(D, o)] ∧ ListO o w ∧ ∃ t : Nat → Tok, w = [.int (fI x i 0) (t 0), .int (fI x i 1) (t 1), .int (fI x i 2) (t 2), .int (fI x i 3) (t 3)], hS, by decide, ?_, ?_⟩
  · refine ⟨fun i v C c m' h tk E' hi' hP F7 hv => wpAny_tests_nil ⟨rfl, _, _, rfl, Ext.refl _⟩, fun i v C c m' h tk E' hi' hP hp F7 hv => ?_⟩
    obtain ⟨ti, rfl⟩ := hP
    obtain ⟨hcv, hc0, hcC⟩ := hv
    have e7 : Ext s.heap h := fun b o e => F7.keep b o (Heap.get?_push_of_some _ e)
    have hc7 := hc.keeps e7
    have G7 := G1.ext e7
    clear hS
    refine comp_val false ?_
    repeat' (walk_at "nocall")
    refine ldb G7 (by decide) boot_range ?_
    refine Pv.callWith_type1 ?_
    repeat' (walk_at "nocall")
    refine call_range_1 ?_
    dsimp only
    refine src_range (n := 4) hz (IsRange.new ..) (by omega) fun it' s₃ hS' => ?_
    refine ⟨4, _, fun _ _ => true, fun j _ y nw => nw = [] ∧ ∃ t, y = .int (fI x i j) t, hS', by decide, ?_, ?_⟩
    · refine ⟨fun i v C c m' h tk E' hi' hP F7 hv => wpAny_tests_nil ⟨rfl, _, _, rfl, Ext.refl _⟩, fun j v C' c' m'' h' tk' E'' hj hPj hpj F8 hv' => ?_⟩
      obtain ⟨tj, rfl⟩ := hPj
      have hvj : m'' "j" = some (.int (j : Nat) tj) := hv'
      have e8 : Ext h h' := fun b o e => F8.keep b o (Heap.get?_push_of_some _ e)
      have e9 : Ext s.heap h' := Ext.trans e7 e8
      have hcv8 := hcv.keeps e8
      have hcu8 := hc7.keeps e8
      have lr : h'.IsList Dr [.ref (T 0), .ref (T 1), .ref (T 2), .ref (T 3)].toArray := hr.at fun o e => e9 _ o e
      have l1 := (hT i hi').at fun o e => e9 _ o e
      have l2 := (hT j hj).at fun o e => e9 _ o e
      have i0 : (0 : Int) ≤ ((i : Nat) : Int) := by omega
      have i1 : ((i : Nat) : Int) < 1000 := by omega
      have j0 : (0 : Int) ≤ ((j : Nat) : Int) := by omega
      have j1 : ((j : Nat) : Int) < 1000 := by omega
      have k1 := at4 (x := fun i => Value.ref (T i)) hi'
      have k2 := at4 (x := fun i => Value.ref (T i)) hj
      have k3 := at4 (x := fun k => Value.int (stepN x i k : Nat) (t i k)) hj
      have k4 := at4 (x := fun k => Value.int (stepN x j k : Nat) (t j k)) hi'
      clear hS' F7 F N G7 G1 hcv hc7 hr hT hc
      dsimp only
      walk1
      walk1
      walk1
      refine ldc hcu8 ?_
      refine ldc hcv8 ?_
      refine item_at lr i0 i1 k1 ?_
      refine ldx F8 hvj ?_
      refine item_at l1 j0 j1 k3 ?_
      walk1
      walk1
      refine ldc hcu8 ?_
      refine ldx F8 hvj ?_
      refine item_at lr j0 j1 k2 ?_
      refine ldc hcv8 ?_
      refine item_at l2 i0 i1 k4 ?_
      repeat' (walk_at "nocall")
      exact ⟨h', _, [], rfl, Ext.refl _, ⟨rfl, _, rfl⟩, fun q hq => by cases hq⟩
    · intro D h9 tk9 ys ob sel e9 hD l9 hob
      obtain ⟨y, rfl, hy⟩ := four_vals sel
      obtain ⟨t0, y0⟩ := hy 0 (by decide)
      obtain ⟨t1, y1⟩ := hy 1 (by decide)
      obtain ⟨t2, y2⟩ := hy 2 (by decide)
      obtain ⟨t3, y3⟩ := hy 3 (by decide)
      rw [y0, y1, y2, y3] at l9
      exact fresh_elt (fun b o e => Heap.get?_push_of_some _ e) e9 hD l9 ⟨pick4f t0 t1 t2 t3, rfl⟩
  · intro D h tk ys ob sel e7' hD l7 hob
    obtain ⟨TT, oo, ww, rfl, hTT⟩ := four_lists sel
    have e7 : Ext s.heap h := fun b o e => e7' b o (Heap.get?_push_of_some _ e)
    have F7 := F.keeps e7
    have N7 := N.grown e7
    have hM : MatAt h D (fI x) := by
      obtain ⟨a0, ⟨t0, b0⟩, c0⟩ := hTT 0 (by decide)
      obtain ⟨a1, ⟨t1, b1⟩, c1⟩ := hTT 1 (by decide)
      obtain ⟨a2, ⟨t2, b2⟩, c2⟩ := hTT 2 (by decide)
      obtain ⟨a3, ⟨t3, b3⟩, c3⟩ := hTT 3 (by decide)
      refine ⟨TT 0, TT 1, TT 2, TT 3, pick4f t0 t1 t2 t3, l7.isList, ?_, ?_, ?_, ?_⟩
      · have := a0.isList (hob _ c0).1; rw [b0] at this; exact this
      · have := a1.isList (hob _ c1).1; rw [b1] at this; exact this
      · have := a2.isList (hob _ c2).1; rw [b2] at this; exact this
      · have := a3.isList (hob _ c3).1; rw [b3] at this; exact this
    clear F N hc hr hT hS
    repeat' (walk_at "nocall")
    refine ⟨e7 _ _ ho1, ?_⟩
    refine pairs_call (G1.ext e7) R e1 hM fun h8 tk8 D8 t0 t1 t2 e8 hD8 l8 => ?_
    obtain ⟨o8, g8, c8, d8⟩ := l8
    have F8 := F7.keeps e8
    have N8 := News.more F7 N7 (ob := [(D8, o8)]) e8 fun p hp => by rw [List.mem_singleton.mp hp]; exact ⟨g8, hD8⟩
    clear F7 N7 sel hTT hob hM
    repeat' (walk_at "nocall")
    rename Fr _ _ _ _ => F9
    rename News _ _ _ _ => N9
    exact q _ _ D8 o8 t0 t1 t2 F9 N9 ⟨c8, d8⟩
end
end Mine
end
section
open PySem PySem.W PyProof.Rows
set_option maxRecDepth 100000
set_option maxHeartbeats 4000000
namespace Mine
theorem fresh_MY7 : True := by w_top off; trivial
section
variable {prog : Program} {w : World} {A : Around} {E : Value → Shared → Prop} {s : Shared} {mg mb : Str → Option Value}
local macro_rules | `(tactic| walk_at "nocall") => `(tactic| ((first | (with_reducible show wpAny _ _ _ _ _ _) | (dsimp only; (with_reducible show wpAny _ _ _ _ _ _))); (fail_if_success (with_reducible show wpAny _ _ (call _ _ _) _ _ _)); (first | walk1 | (dsimp only; walk1))))
local macro_rules | `(tactic| walk_at "lk") => `(tactic| first | with_reducible assumption | exact if_pos rfl | (refine (if_neg (by decide)).trans ?_; walk_at "lk"))
local macro_rules | `(tactic| walk_at "eval Name") => `(tactic| (first | refine ldx (by with_reducible assumption) (by walk_at "lk") ?_ | refine ldc (by with_reducible assumption) ?_))
theorem cmp_st {h₀ : Heap} {L a Dd : Addr} {cd : Value} {m : Str → Option Value} {news : List (Addr × Obj)} {x : Nat → Int} {v : Nat → Nat} {t0 t1 t2 tc tm : Tok} {Q : Flow → Shared → Prop} {n : Nat} (R : Room A (n + 3)) (G : Gd mg mb h₀)
    (F : Fr h₀ L s.heap m) (N : News h₀ L s.heap news) (hm : m "found" = some (.ref Dd)) (hd : s.heap.IsList Dd [.int (v 0 : Nat) t0, .int (v 1 : Nat) t1, .int (v 2 : Nat) t2].toArray) (hv : ∀ i < 3, v i < 100)
    (hc : s.heap.IsCell (L + 2) (some (.bytes (closeB x) tc))) (hmail : m "mail" = some (.bytes (mailB x v) tm))
    (q : ∀ h tk, Fr h₀ L h m → News h₀ L h news → Q .next { s with heap := h, toks := tk }) :
    wpAny (model prog w) A (exec (st16 12) (lawE L a cd)) Q E s := by
  have hz := R.hh
  show wpAny _ _ (exec (.If _ _ [] _) _) _ _ _
  have G1 := G.ext F.keep
  repeat' (walk_at "nocall")
  refine getMethod_builtin (T := "bytes") (typeIs_bytes _ _ _) bytes_attrs bj_slot bj_type (fun a ea => by cases ea) ?_
  repeat' (walk_at "nocall")
  refine comp_val false ?_
  refine ldx F hm ?_
  refine src_list hz hd fun it s₂ hS => ?_
  refine ⟨3, _, fun _ _ => true, fun i _ y nw => nw = [] ∧ ∃ t, y = .bytes (rowB x (v i)).toArray t, hS, by decide, ?_, ?_⟩
  · refine ⟨fun i v C c m' h tk E' hi' hP F7 hv => wpAny_tests_nil ⟨rfl, _, _, rfl, Ext.refl _⟩, fun i w C c m' h tk E' hi' hP hp F7 hv' => ?_⟩
    obtain ⟨ti, rfl⟩ : ∃ t, w = .int (v i : Nat) t := by
      match i, hi', hP with
      | 0, _, hP => exact ⟨t0, by simpa using hP.symm⟩
      | 1, _, hP => exact ⟨t1, by simpa using hP.symm⟩
      | 2, _, hP => exact ⟨t2, by simpa using hP.symm⟩
    have hvk : m' "k" = some (.int (v i : Nat) ti) := hv'
    have hc7 := hc.keeps F7.keep
    have hvi := hv i hi'
    clear hS hd F N hc hm G1
    repeat' (walk_at "nocall")
    dsimp only
    refine bytes_mul_any (b := [46]) (by simp) (by omega) (by omega) (by decide) fun t2 k2 => ?_
    repeat' (walk_at "nocall")
    have hcs := close_size x
    refine KBy.add_bytes (by simp; omega) fun t3 k3 => ?_
    exact ⟨h, _, [], rfl, Ext.refl _, ⟨rfl, _, congrArg (fun z => Value.bytes z _) (rowB_eq x (v i))⟩, fun q hq => by cases hq⟩
  · intro D h tk ys ob sel e7 hD l7 hob
    obtain ⟨y, rfl, hy⟩ := three_vals sel
    obtain ⟨u0, y0⟩ := hy 0 (by decide)
    obtain ⟨u1, y1⟩ := hy 1 (by decide)
    obtain ⟨u2, y2⟩ := hy 2 (by decide)
    rw [y0, y1, y2] at l7
    have F7 := F.keeps e7
    have N7 := N.grown e7
    have r0 := rowB_size x (v 0)
    have r1 := rowB_size x (v 1)
    have r2 := rowB_size x (v 2)
    have hv0 := hv 0 (by decide)
    have hv1 := hv 1 (by decide)
    have hv2 := hv 2 (by decide)
    clear hS F N hd hc G1 sel hob
    repeat' (walk_at "nocall")
    refine call_bjoin l7.isList (.cons _ _ (.cons _ _ (.cons _ _ .nil))) (by simp) (by simp; omega) fun t' k' => ?_
    rw [mail_cat]
    clear hmail hy y0 y1 y2 l7 r0 r1 r2
    repeat' (walk_at "nocall")
    rw [if_neg (by simp)]
    exact wpAny_execs_nil (q _ _ F7 N7)
end
end Mine
end
section
open PySem PySem.W PyProof.Rows
set_option maxRecDepth 100000
set_option maxHeartbeats 4000000
namespace Mine
local macro_rules | `(tactic| walk_at "idle") => `(tactic| skip)
local macro_rules | `(tactic| walk_at "idle") => `(tactic| skip)
local macro_rules | `(tactic| walk_at "idle") => `(tactic| skip)
local macro_rules | `(tactic| walk_at "idle") => `(tactic| skip)
local macro_rules | `(tactic| walk_at "idle") => `(tactic| skip)
theorem fresh_MZ1 : True := by w_top off; trivial
section
variable {prog : Program} {w : World} {A : Around} {E : Value → Shared → Prop} {s : Shared} {mg mb : Str → Option Value}
local macro_rules | `(tactic| walk_at "nocall") => `(tactic| ((first | (with_reducible show wpAny _ _ _ _ _ _) | (dsimp only; (with_reducible show wpAny _ _ _ _ _ _))); (fail_if_success (with_reducible show wpAny _ _ (call _ _ _) _ _ _)); (first | walk1 | (dsimp only; walk1))))
local macro_rules | `(tactic| walk_at "lk") => `(tactic| first | with_reducible assumption | exact if_pos rfl | (refine (if_neg (by decide)).trans ?_; walk_at "lk"))
local macro_rules | `(tactic| walk_at "eval Name") => `(tactic| (first | refine ldx (by with_reducible assumption) (by walk_at "lk") ?_ | refine ldc (by with_reducible assumption) ?_))
theorem cuts_st {h₀ : Heap} {L a : Addr} {cd : Value} {m : Str → Option Value} {news : List (Addr × Obj)} {Q : Flow → Shared → Prop}
    (F : Fr h₀ L s.heap m) (N : News h₀ L s.heap news)
    (q : ∀ h tk D n t0 t1 t2, Fr h₀ L h (fun z => if z = "cuts" then some (.ref D) else m z) → News h₀ L h ((D, lobj [.int 0 t0, .int 0 t1, .int 0 t2] n) :: news) → (∀ p ∈ news, p.1 ≠ D) → Q .next { s with heap := h, toks := tk }) :
    wpAny (model prog w) A (exec (st16 13) (lawE L a cd)) Q E s := by
  show wpAny _ _ (exec (.Assign [.Name _ _] (.List _ _) _) _) _ _ _
  have hns := News.ne_size N
  repeat' (walk_at "nocall")
  rename Fr _ _ _ _ => F9
  rename News _ _ _ _ => N9
  exact q _ _ _ 0 _ _ _ F9 N9 hns
theorem alone_st {h₀ : Heap} {L a : Addr} {cd : Value} {m : Str → Option Value} {news : List (Addr × Obj)} {Q : Flow → Shared → Prop}
    (F : Fr h₀ L s.heap m) (N : News h₀ L s.heap news)
    (q : ∀ h tk t, Fr h₀ L h (fun z => if z = "alone" then some (.int 0 t) else m z) → News h₀ L h news → Q .next { s with heap := h, toks := tk }) :
    wpAny (model prog w) A (exec (st16 14) (lawE L a cd)) Q E s := by
  show wpAny _ _ (exec (.Assign [.Name _ _] (.Constant _ _ _) _) _) _ _ _
  repeat' (walk_at "nocall")
  rename Fr _ _ _ _ => F9
  rename News _ _ _ _ => N9
  exact q _ _ _ F9 N9
abbrev cb : List Stmt := match st16 15 with | .For _ _ b _ _ => b | _ => []
abbrev cb0 : Stmt := cb.getD 0 (.Pass default)
abbrev cb1 : Stmt := cb.getD 1 (.Pass default)
def insideL (x : Nat → Int) (p : List Nat) : List Int := ((List.range 4).filter (bitAt x p)).map fun k : Nat => (k : Int)
theorem ints_snoc {vs : List Value} {ns : List Int} (h : IntsAre vs ns) (k : Int) (t : Tok) : IntsAre (vs ++ [.int k t]) (ns ++ [k]) := h.append (.cons k t .nil)
theorem sel_ints {P : Nat → Value → Prop} {b : Nat → Bool} : ∀ {n : Nat} {ys : List Value} {ob : List (Addr × Obj)}, Sel P (fun i _ => b i) (fun i _ y nw => nw = [] ∧ ∃ t, y = .int (i : Nat) t) n ys ob → IntsAre ys (((List.range n).filter b).map fun k : Nat => (k : Int))
  | _, _, _, .nil => .nil
  | _, _, _, .skip (i := i) h _ e => by
    have := sel_ints h
    simpa [List.range_succ, List.filter_append, e] using this
  | _, _, _, .take (i := i) h _ e ⟨_, t, rfl⟩ => by
    have := ints_snoc (sel_ints h) (i : Int) t
    simpa [List.range_succ, List.filter_append, e] using this
theorem inside_st {h₀ : Heap} {L a Du : Addr} {cd : Value} {m : Str → Option Value} {news : List (Addr × Obj)} {x : Nat → Int} {p : List Nat} {t : Tok} {ks : List (List Nat)} {Q : Flow → Shared → Prop} {n : Nat} (R : Room A (n + 3)) (G : Gd mg mb h₀)
    (F : Fr h₀ L s.heap m) (N : News h₀ L s.heap news) (hc3 : s.heap.IsCell (L + 3) (some (.ref Du))) (hc4 : s.heap.IsCell (L + 4) (some (.str (nameS p) t))) (hU : Und prog w s.heap Du (uOf x ks)) (hp : uOf x ks (nameS p) = some (bitsB x p))
    (q : ∀ h tk D vs n, Fr h₀ L h (fun z => if z = "inside" then some (.ref D) else m z) → News h₀ L h ((D, lobj vs n) :: news) → (∀ p ∈ news, p.1 ≠ D) → IntsAre vs (insideL x p) → Q .next { s with heap := h, toks := tk }) :
    wpAny (model prog w) A (exec cb0 (lawE L a cd)) Q E s := by
  have hz := R.hh
  have G1 := G.ext F.keep
  refine comp_asg (h₀ := h₀) false ?_
  repeat' (walk_at "nocall")
  refine ldb G1 (by decide) boot_range ?_
  refine Pv.callWith_type1 ?_
  repeat' (walk_at "nocall")
  refine call_range_1 ?_
  dsimp only
  refine src_range (n := 4) hz (IsRange.new ..) (by omega) fun it s₂ hS => ?_
  refine ⟨4, _, fun i _ => bitAt x p i, fun i _ y nw => nw = [] ∧ ∃ t, y = .int (i : Nat) t, _, news, hS, by decide, ?_, F.push _, (fun p hp => ⟨Heap.get?_push_of_some _ (N p hp).1, (N p hp).2⟩), ?_⟩
  · refine ⟨fun i v C c m' h tk E' hi' hP F7 hv => ?_, fun i v C c m' h tk E' hi' hP hp F7 hv => ?_⟩
    · obtain ⟨ti, rfl⟩ := hP
      have hvj : m' "j" = some (.int (i : Nat) ti) := hv
      have e7 : Ext s.heap h := fun b o e => F7.keep b o (Heap.get?_push_of_some _ e)
      have hc37 := hc3.keeps e7
      have hc47 := hc4.keeps e7
      refine wpAny_tests_one ?_
      obtain ⟨hsm, kvs, hdo, hall⟩ := hU
      obtain ⟨ab, hab, hlb⟩ := hall _ _ hp
      have hdo7 := hdo.keep e7
      have hlb7 : h.IsList ab ((bitsB x p).map Value.bool).toArray := hlb.at fun o e => e7 _ o e
      have hb : ((bitsB x p).map Value.bool)[((i : Nat) : Int).toNat]? = some (.bool (bitAt x p i)) := at4 (x := fun k => Value.bool (bitAt x p k)) hi'
      clear hS hc3 hc4 hall hdo hlb N F
      dsimp only
      walk1
      walk1
      walk1
      refine ldc hc37 ?_
      refine ldc hc47 ?_
      refine tail_any hdo7.typeIs slot_dict_getitem.lookup (wpAny_getItem_of (key_str _ _) hdo7.mapOf hab ?_) (by with_unfolding_all rfl)
      refine ldx F7 hvj ?_
      refine item_at hlb7 (by omega) (by omega) hb ?_
      exact wpAny_truthy_bool ⟨rfl, h, _, rfl, Ext.refl _⟩
    · obtain ⟨ti, rfl⟩ := hP
      have hvj : m' "j" = some (.int (i : Nat) ti) := hv
      refine ldx F7 hvj ?_
      exact ⟨h, _, [], rfl, Ext.refl _, ⟨rfl, _, rfl⟩, fun q hq => by cases hq⟩
  · intro D h tk ys ob sel F7 N7 hD hDL l7 hob hk7
    obtain ⟨nD, l7⟩ := l7
    refine q h tk D ys nD F7 (fun p hp => ?_) (fun p hp e => ?_) (sel_ints sel)
    · rcases List.mem_cons.mp hp with rfl | hp
      · refine ⟨l7, hDL, ?_⟩
        cases z : h₀.get? D with
        | none => rfl
        | some o => have := Heap.get?_push_of_some { cls := .type "range", data := .fields #[.int 0 (s.toks + 1), .int 4 s.toks, .int 1 (s.toks + 1 + 1)] } (F.keep _ _ z); rw [hD] at this; cases this
      · exact N7 p hp
    · have := Heap.get?_push_of_some { cls := .type "range", data := .fields #[.int 0 (s.toks + 1), .int 4 s.toks, .int 1 (s.toks + 1 + 1)] } (N p hp).1
      rw [e] at this
      rw [hD] at this
      cases this
end
end Mine
end
section
open PySem PySem.W PyProof.Rows
set_option maxRecDepth 100000
set_option maxHeartbeats 4000000
namespace Mine
theorem fresh_MZ2 : True := by w_top off; trivial
section
variable {prog : Program} {w : World} {A : Around} {E : Value → Shared → Prop} {s : Shared} {mg mb : Str → Option Value}
local macro_rules | `(tactic| walk_at "nocall") => `(tactic| ((first | (with_reducible show wpAny _ _ _ _ _ _) | (dsimp only; (with_reducible show wpAny _ _ _ _ _ _))); (fail_if_success (with_reducible show wpAny _ _ (call _ _ _) _ _ _)); (first | walk1 | (dsimp only; walk1))))
local macro_rules | `(tactic| walk_at "lk") => `(tactic| first | with_reducible assumption | exact if_pos rfl | (refine (if_neg (by decide)).trans ?_; walk_at "lk"))
local macro_rules | `(tactic| walk_at "eval Name") => `(tactic| (first | refine ldx (by with_reducible assumption) (by walk_at "lk") ?_ | refine ldc (by with_reducible assumption) ?_))
theorem readsAll_ints {h : Heap} : ∀ {vs : List Value} {ns : List Int}, IntsAre vs ns → PySem.ReadsAll h vs (ns.map PyData.int) []
  | _, _, .nil => .nil
  | _, _, .cons n t r => PySem.ReadsAll.cons (as := []) (bs := []) (.int n t) (readsAll_ints r)
theorem reads_ints' {h : Heap} {D : Addr} {vs : List Value} {ns : List Int} (hl : h.IsList D vs.toArray) (hi : IntsAre vs ns) : PySem.Reads h (.ref D) (PyData.list (ns.map PyData.int)) [D] := by
  obtain ⟨o, ho, hc, n, hd⟩ := hl
  exact .list ho hc hd (by simpa using readsAll_ints hi)
theorem in_pairs {D Dl A0 A1 : Addr} {vs v0 v1 : List Value} {ns n0 n1 : List Int} {b : Bool} {Q : Value → Shared → Prop} (hl : s.heap.IsList D vs.toArray) (hi : IntsAre vs ns) (hL : s.heap.IsList Dl [.ref A0, .ref A1].toArray)
    (h0 : s.heap.IsList A0 v0.toArray) (i0 : IntsAre v0 n0) (h1 : s.heap.IsList A1 v1.toArray) (i1 : IntsAre v1 n1) (hs : PySem.SeqAt.shaped (PyData.list (ns.map PyData.int)) = true) (hs2 : PySem.SeqAt.shaped (PyData.list [PyData.list (n0.map PyData.int), .list (n1.map PyData.int)]) = true) (hu : A.units + 65 < cLine)
    (hmix : ∀ y ∈ [PyData.list (n0.map PyData.int), .list (n1.map PyData.int)], PySem.SeqAt.noMix y (PyData.list (ns.map PyData.int)) = true)
    (hb : decide (PySem.Spec.countIn (PyData.list (ns.map PyData.int)) [.list (n0.map PyData.int), .list (n1.map PyData.int)] ≠ 0) = b) (h : Q (.bool b) s) : wpAny (model prog w) A (compareOp .In (.ref D) (.ref Dl)) Q E s := by
  obtain ⟨o, ho, hc, n, hd⟩ := hL
  refine in_list_dataH (xs := [PyData.list (n0.map PyData.int), .list (n1.map PyData.int)]) (.list ho hc hd (.cons (reads_ints' h0 i0) (.cons (reads_ints' h1 i1) .nil))) (reads_ints' hl hi) hs2 hs hu hmix ?_
  rw [hb]; exact h
def kN (r0 r1 : Bool) (l : Nat) : Nat := if r0 = true then 0 else if r1 = true then 1 else if l = 2 then 2 else if l % 2 = 1 then 3 else 4
theorem cut_done {h₀ h h' : Heap} {L Dc : Addr} {m : Str → Option Value} {oc : Obj} {news : List (Addr × Obj)} {its : List Value} (F : Fr h₀ L h m) (N : News h₀ L h ((Dc, oc) :: news)) (hs : Heap.SameBut Dc h h') (hl : h'.IsList Dc its.toArray) (hne : ∀ p ∈ news, p.1 ≠ Dc) :
    Fr h₀ L h' m ∧ ∃ o', News h₀ L h' ((Dc, o') :: news) ∧ ListO o' its := by
  have z := N _ (.head _)
  obtain ⟨o, ho, hc, hd⟩ := hl
  refine ⟨Fr_same F hs z.2.2 z.2.1, o, fun p hp => ?_, hc, hd⟩
  rcases List.mem_cons.mp hp with rfl | hp
  · exact ⟨ho, z.2⟩
  · exact News.same (fun p hp => N p (.tail _ hp)) hs hne p hp
theorem count_st {h₀ : Heap} {L a Di Dc : Addr} {cd : Value} {m : Str → Option Value} {news : List (Addr × Obj)} {vs : List Value} {ns : List Int} {c0 c1 c2 al : Nat} {t0 t1 t2 ta : Tok} {ni : Nat} {oc : Obj} {Q : Flow → Shared → Prop} {n : Nat} (R : Room A (n + 3)) (G : Gd mg mb h₀)
    (F : Fr h₀ L s.heap m) (N : News h₀ L s.heap ((Di, lobj vs ni) :: (Dc, oc) :: news)) (hoc : ListO oc [.int (c0 : Nat) t0, .int (c1 : Nat) t1, .int (c2 : Nat) t2]) (hne : ∀ p ∈ news, p.1 ≠ Dc) (mi : m "inside" = some (.ref Di)) (mc : m "cuts" = some (.ref Dc)) (ma : m "alone" = some (.int (al : Nat) ta)) (hi : IntsAre vs ns) (hl5 : ns.length ≤ 1000) (hsh : PySem.SeqAt.shaped (PyData.list (ns.map PyData.int)) = true) (hu : A.units + 65 < cLine) (r0 r1 : Bool)
    (hm0 : ∀ y ∈ [PyData.list ([0, 1].map PyData.int), .list ([2, 3].map PyData.int)], PySem.SeqAt.noMix y (PyData.list (ns.map PyData.int)) = true) (hr0 : decide (PySem.Spec.countIn (PyData.list (ns.map PyData.int)) [.list ([0, 1].map PyData.int), .list ([2, 3].map PyData.int)] ≠ 0) = r0)
    (hm1 : ∀ y ∈ [PyData.list ([0, 2].map PyData.int), .list ([1, 3].map PyData.int)], PySem.SeqAt.noMix y (PyData.list (ns.map PyData.int)) = true) (hr1 : decide (PySem.Spec.countIn (PyData.list (ns.map PyData.int)) [.list ([0, 2].map PyData.int), .list ([1, 3].map PyData.int)] ≠ 0) = r1)
    (q : ∀ h tk m' oc' t0 t1 t2 ta, Fr h₀ L h m' → News h₀ L h ((Dc, oc') :: news) → ListO oc' [.int ((c0 + (if kN r0 r1 ns.length = 0 then 1 else 0) : Nat)) t0, .int ((c1 + (if kN r0 r1 ns.length = 1 then 1 else 0) : Nat)) t1, .int ((c2 + (if kN r0 r1 ns.length = 2 then 1 else 0) : Nat)) t2] → (∀ z : Str, z ≠ ("alone" : Str) → m' z = m z) → m' "alone" = some (.int ((al + (if kN r0 r1 ns.length = 3 then 1 else 0) : Nat)) ta) → Q .next { s with heap := h, toks := tk }) :
    wpAny (model prog w) A (exec cb1 (lawE L a cd)) Q E s := by
  have hz := R.hh
  have G1 := G.ext F.keep
  show wpAny _ _ (exec (.If _ _ _ _) _) _ _ _
  repeat' (walk_at "nocall")
  dsimp only
  rename News _ _ _ _ => N1
  rename Fr _ _ _ _ => F1
  have l1 := News.isList N1 (.head _)
  have l2 := News.isList N1 (.tail _ (.head _))
  have l3 := News.isList N1 (.tail _ (.tail _ (.head _)))
  have l4 := News.isList N1 (.tail _ (.tail _ (.tail _ (.head _))))
  refine in_pairs l4 hi l1 l3 (.cons 0 _ (.cons 1 _ .nil)) l2 (.cons 2 _ (.cons 3 _ .nil)) hsh (by decide) hu hm0 hr0 ?_
  have N2 : News h₀ L _ ((Di, lobj vs ni) :: (Dc, oc) :: news) := fun p hp => N1 p (.tail _ (.tail _ (.tail _ hp)))
  clear N1 l1 l2 l3 l4 N
  walk1
  cases r0 with
  | true =>
    rw [if_pos rfl]
    have N3 : News h₀ L _ ((Dc, oc) :: news) := fun p hp => N2 p (.tail _ hp)
    have lc := hoc.isList (N3 _ (.head _)).1
    repeat' (walk_at "nocall")
    (try dsimp only)
    refine wpAny_setItem_list lc (by decide) (by decide) (by simp) fun h' hl' hs' => ?_
    obtain ⟨F9, o9, N9, hO9⟩ := cut_done (its := [.int ((c0 : Nat) + 1) _, .int (c1 : Nat) t1, .int (c2 : Nat) t2]) F1 N3 hs' hl' hne
    repeat' (walk_at "nocall")
    exact q _ _ m o9 _ _ _ ta F9 N9 hO9 (fun _ _ => rfl) ma
  | false =>
    rw [if_neg (by simp)]
    repeat' (walk_at "nocall")
    (try dsimp only)
    clear N2
    rename News _ _ _ _ => N4
    rename Fr _ _ _ _ => F4
    have l1 := News.isList N4 (.head _)
    have l2 := News.isList N4 (.tail _ (.head _))
    have l3 := News.isList N4 (.tail _ (.tail _ (.head _)))
    have l4 := News.isList N4 (.tail _ (.tail _ (.tail _ (.head _))))
    refine in_pairs l4 hi l1 l3 (.cons 0 _ (.cons 2 _ .nil)) l2 (.cons 1 _ (.cons 3 _ .nil)) hsh (by decide) hu hm1 hr1 ?_
    have N5 : News h₀ L _ ((Di, lobj vs ni) :: (Dc, oc) :: news) := fun p hp => N4 p (.tail _ (.tail _ (.tail _ hp)))
    have N6 : News h₀ L _ ((Dc, oc) :: news) := fun p hp => N5 p (.tail _ hp)
    have lc := hoc.isList (N6 _ (.head _)).1
    clear N4 l1 l2 l3
    walk1
    cases r1 with
    | true =>
      rw [if_pos rfl]
      repeat' (walk_at "nocall")
      (try dsimp only)
      refine wpAny_setItem_list lc (by decide) (by decide) (by simp) fun h' hl' hs' => ?_
      obtain ⟨F9, o9, N9, hO9⟩ := cut_done (its := [.int (c0 : Nat) t0, .int ((c1 : Nat) + 1) _, .int (c2 : Nat) t2]) F4 N6 hs' hl' hne
      repeat' (walk_at "nocall")
      exact q _ _ m o9 _ _ _ ta F9 N9 hO9 (fun _ _ => rfl) ma
    | false =>
      rw [if_neg (by simp)]
      have G4 := G.ext F4.keep
      repeat' (walk_at "nocall")
      have hvl := hi.length
      have hsz : vs.toArray.size = ns.length := by simp [hvl]
      have hv5 : vs.length ≤ 1000 := by rw [hvl]; exact hl5
      refine ldb G4 (by decide) boot_len ?_
      repeat' (walk_at "nocall")
      refine Calls.call_len_list l4 (by simp; omega) ?_
      rw [hsz]
      repeat' (walk_at "nocall")
      by_cases h2 : ns.length = 2
      · rw [if_pos (by simp [h2])]
        repeat' (walk_at "nocall")
        (try dsimp only)
        refine wpAny_setItem_list lc (by decide) (by decide) (by simp) fun h' hl' hs' => ?_
        obtain ⟨F9, o9, N9, hO9⟩ := cut_done (its := [.int (c0 : Nat) t0, .int (c1 : Nat) t1, .int ((c2 : Nat) + 1) _]) F4 N6 hs' hl' hne
        repeat' (walk_at "nocall")
        have hk : kN false false ns.length = 2 := by rw [kN, if_neg (by simp), if_neg (by simp), if_pos h2]
        rw [hk] at q
        exact q _ _ m o9 _ _ _ ta F9 N9 hO9 (fun _ _ => rfl) ma
      · rw [if_neg (by simp; omega)]
        repeat' (walk_at "nocall")
        refine ldb G4 (by decide) boot_len ?_
        repeat' (walk_at "nocall")
        refine Calls.call_len_list l4 (by simp; omega) ?_
        rw [hsz]
        repeat' (walk_at "nocall")
        have hfm : Int.fmod ((ns.length : Nat) : Int) 2 = ((ns.length % 2 : Nat) : Int) := by rw [Int.fmod_eq_emod_of_nonneg _ (by decide)]; rfl
        rw [hfm]
        by_cases h3 : ns.length % 2 = 1
        · rw [if_pos (by rw [h3]; rfl)]
          repeat' (walk_at "nocall")
          refine wpAny_loadName_local rfl rfl F4.ns ma ?_
          clear N5
          repeat' (walk_at "nocall")
          rename Fr _ _ _ _ => F9
          rename News _ _ _ _ => N9
          have hk : kN false false ns.length = 3 := by rw [kN, if_neg (by simp), if_neg (by simp), if_neg h2, if_pos h3]
          rw [hk] at q
          exact q _ _ _ oc _ _ _ _ F9 N9 hoc (fun z hz => if_neg hz) (if_pos rfl)
        · rw [if_neg (by rw [show ns.length % 2 = 0 from by omega]; simp)]
          repeat' (walk_at "nocall")
          have hk : kN false false ns.length = 4 := by rw [kN, if_neg (by simp), if_neg (by simp), if_neg h2, if_neg h3]
          rw [hk] at q
          exact q _ _ m oc _ _ _ ta F4 N6 hoc (fun _ _ => rfl) ma
end
end Mine
end
section
open PySem PySem.W PyProof.Rows
set_option maxRecDepth 100000
set_option maxHeartbeats 4000000
namespace Mine
theorem fresh_MZ3 : True := by w_top off; trivial
def insB (b0 b1 b2 b3 : Bool) : List Int := (if b0 then [0] else []) ++ (if b1 then [1] else []) ++ (if b2 then [2] else []) ++ (if b3 then [3] else [])
theorem ins_is (x : Nat → Int) (p : List Nat) : insideL x p = insB (bitAt x p 0) (bitAt x p 1) (bitAt x p 2) (bitAt x p 3) := by
  rw [insideL, show List.range 4 = [0, 1, 2, 3] from rfl]
  generalize bitAt x p = b
  simp only [List.filter_cons, List.filter_nil]
  unfold insB
  cases b 0 <;> cases b 1 <;> cases b 2 <;> cases b 3 <;> rfl
def datL (ns : List Int) : PyData := PyData.list (ns.map PyData.int)
theorem ins_ok : ∀ b0 b1 b2 b3, SeqAt.shaped (datL (insB b0 b1 b2 b3)) = true ∧ (∀ y ∈ [datL [0, 1], datL [2, 3]], SeqAt.noMix y (datL (insB b0 b1 b2 b3)) = true) ∧ (∀ y ∈ [datL [0, 2], datL [1, 3]], SeqAt.noMix y (datL (insB b0 b1 b2 b3)) = true) ∧ (insB b0 b1 b2 b3).length ≤ 1000 := by
  intro b0 b1 b2 b3
  cases b0 <;> cases b1 <;> cases b2 <;> cases b3 <;> refine ⟨by decide +kernel, ?_, ?_, by decide⟩ <;> intro y hy <;> simp only [List.mem_cons, List.mem_nil_iff, or_false] at hy <;> rcases hy with rfl | rfl <;> decide +kernel
def kindB (ns : List Int) : Nat := kN (decide (Spec.countIn (datL ns) [datL [0, 1], datL [2, 3]] ≠ 0)) (decide (Spec.countIn (datL ns) [datL [0, 2], datL [1, 3]] ≠ 0)) ns.length
def kindP (x : Nat → Int) (p : List Nat) : Nat := kindB (insideL x p)
def cntK (x : Nat → Int) (ks : List (List Nat)) (k : Nat) : Nat := (ks.filter fun p => kindP x p == k).length
theorem cnt_take {x : Nat → Int} {ks : List (List Nat)} {i : Nat} {p : List Nat} (h : ks[i]? = some p) (k : Nat) : cntK x (ks.take (i + 1)) k = cntK x (ks.take i) k + if kindP x p = k then 1 else 0 := by
  rw [cntK, List.take_add_one, h, Option.toList_some, List.filter_append, List.length_append, ← cntK]
  by_cases e : kindP x p = k <;> simp [e]
section
variable {prog : Program} {w : World} {A : Around} {s : Shared} {mg mb : Str → Option Value}
def CntJ (x : Nat → Int) (Dc : Addr) (S : List (Addr × Obj)) (ks : List (List Nat)) (m0 : Str → Option Value) (i : Nat) (m : Str → Option Value) (nx : List (Addr × Obj)) : Prop :=
  ∃ oc t0 t1 t2 ta, nx = (Dc, oc) :: S ∧ ListO oc [.int (cntK x (ks.take i) 0 : Nat) t0, .int (cntK x (ks.take i) 1 : Nat) t1, .int (cntK x (ks.take i) 2 : Nat) t2] ∧ m "alone" = some (.int (cntK x (ks.take i) 3 : Nat) ta) ∧ ∀ z : Str, z ≠ ("alone" : Str) → z ≠ ("inside" : Str) → m z = m0 z
theorem str_key {k : Str} {v : Value} (h : (strKind prog w).is k v = true) : ∃ t, v = .str k t := Value.isStrOf_shape h
theorem tally_st {h₀ : Heap} {L a Du Dc : Addr} {cd : Value} {m : Str → Option Value} {S ls : List (Addr × Obj)} {od ou oc oc4 : Obj} {kvs : List (Str × Value)} {x : Nat → Int} {ks : List (List Nat)} {v4 : Option Value} {t0 t1 t2 ta : Tok} {Q : Flow → Shared → Prop} {n : Nat} (R : Room A (n + 5)) (G : Gd mg mb h₀)
    (F : Fr h₀ L s.heap m) (N : News h₀ L s.heap ((L + 4, oc4) :: (Dc, oc) :: S)) (h4 : oc4.data = .cell v4) (hd : od.IsDictOf (strKind prog w) kvs) (K : KVok x kvs ks ls) (hsm : (Du == sysModules) = false)
    (hDu : (Du, od) ∈ S) (hls : ∀ p ∈ ls, p ∈ S) (hu : (L + 3, ou) ∈ S) (hud : ou.data = .cell (some (.ref Du))) (hS4 : ∀ p ∈ (Dc, oc) :: S, p.1 ≠ L + 4) (hSc : ∀ p ∈ S, p.1 ≠ Dc)
    (mc : m "cuts" = some (.ref Dc)) (ma : m "alone" = some (.int 0 ta)) (hoc : ListO oc [.int 0 t0, .int 0 t1, .int 0 t2])
    (q : ∀ h tk m' oc' t0 t1 t2 ta, Fr h₀ L h m' → News h₀ L h ((Dc, oc') :: S) → ListO oc' [.int (cntK x ks 0 : Nat) t0, .int (cntK x ks 1 : Nat) t1, .int (cntK x ks 2 : Nat) t2] → m' "alone" = some (.int (cntK x ks 3 : Nat) ta) → (∀ z : Str, z ≠ ("alone" : Str) → z ≠ ("inside" : Str) → m' z = m z) → Q .next { s with heap := h, toks := tk }) :
    wpAny (model prog w) A (exec (st16 15) (lawE L a cd)) Q (fun _ _ => False) s := by
  have hz := R.hh
  have hu5 := R.units
  have cu : s.heap.IsCell (L + 3) (some (.ref Du)) := ⟨ou, (N _ (.tail _ (.tail _ hu))).1, hud⟩
  have hdo : s.heap.DictOf (strKind prog w) Du kvs := Heap.dictOf_iff.mpr ⟨od, (N _ (.tail _ (.tail _ hDu))).1, hd⟩
  obtain ⟨ep, hda⟩ := hdo.dictAt
  have hDlt : Du < s.heap.objs.size := Heap.lt_size (N _ (.tail _ (.tail _ hDu))).1
  have hLlt : @LT.lt Nat _ L s.heap.objs.size := F.ns.lt
  have hnI := News.ne_size N
  have h0s : h₀.get? s.heap.objs.size = none := none_at_size F
  show wpAny _ _ (exec (.For (.Name _ _) (.Name _ _) _ [] _) _) _ _ _
  refine wpAny_For ?_ (fun _ => rfl)
  refine ldc cu ?_
  refine wpAny_pyIter_dict hsm hda ?_
  have W := Walks.dictKeys (prog := prog) (w := w) (knd := strKind prog w) hz s.heap.objs.size Du (Nat.ne_of_lt hDlt) kvs ep
  refine for_cell (c := L + 4) (oax := od) (nx₀ := (Dc, oc) :: S) (n := kvs.length) W (fun i h st => ?_) (CntJ x Dc S ks m) (fun i m' nx hJ => ?_) h0s (Nat.ne_of_lt hLlt) rfl rfl rfl
    (Nat.lt_add_of_pos_right (by decide)) (hnI _ (.head _)) (fun i m' nx hJ => ?_) (F.push _) (fun p hp => ⟨Heap.get?_push_of_some _ (N p (.tail _ hp)).1, (N p (.tail _ hp)).2⟩) ⟨v4, oc4, Heap.get?_push_of_some _ (N _ (.head _)).1, h4⟩ (fun p hp => hnI p (.tail _ hp)) ?_ ⟨oc, t0, t1, t2, ta, rfl, hoc, ma, fun _ _ _ => rfl⟩ ?_ ?_
  · obtain ⟨⟨o, e, _⟩, _⟩ := st; exact ⟨o, e⟩
  · obtain ⟨oc', _, _, _, _, rfl, _⟩ := hJ
    exact .tail _ hDu
  · obtain ⟨oc', _, _, _, _, rfl, _⟩ := hJ
    intro p hp
    rcases List.mem_cons.mp hp with rfl | hp
    · exact hS4 (Dc, oc) (.head _)
    · exact hS4 p (.tail _ hp)
  · exact ⟨⟨_, Heap.get?_push_size _ rfl, rfl, rfl⟩, hda.at' fun o e => Heap.get?_push_of_some _ e⟩
  · rintro i v m' nx h tk oI oc4' hi ⟨k, xv, hk, hkv⟩ ⟨oc', u0, u1, u2, ua, rfl, hoc', ma', hmz⟩ hnI' F1 hcd N1
    obtain ⟨t, rfl⟩ := str_key hkv
    have hi' : i < ks.length := K.1 ▸ hi
    have hpi : ks[i]? = some ks[i] := List.getElem?_eq_getElem hi'
    obtain ⟨D, o, a1, _, _⟩ := K.2.2 i _ hpi
    rw [hk] at a1
    have hkk : k = nameS ks[i] := (Prod.mk.inj (Option.some.inj a1)).1
    subst hkk
    have hin : ks[i] ∈ ks := List.getElem_mem hi'
    have hU : Und prog w h Du (uOf x ks) := und_of hsm (N1 _ (.tail _ (.tail _ (.tail _ hDu)))).1 hd K (news := (s.heap.objs.size, oI) :: (L + 4, oc4') :: (Dc, oc') :: S) N1 fun p hp => .tail _ (.tail _ (.tail _ (hls p hp)))
    show wpAny _ _ (execs [cb0, cb1] _) _ _ _
    refine wpAny_execs_cons ?_
    refine inside_st (s := { s with heap := h, toks := tk }) R G F1 N1 ⟨ou, (N1 _ (.tail _ (.tail _ (.tail _ hu)))).1, hud⟩ ⟨oc4', (N1 _ (.tail _ (.head _))).1, hcd⟩ hU (uOf_in K.2.1 hin) fun h2 tk2 Di vs ni F2 N2 hns2 hi2 => ?_
    refine wpAny_execs_cons ?_
    have N3 : News h₀ L h2 ((Di, lobj vs ni) :: (Dc, oc') :: (s.heap.objs.size, oI) :: (L + 4, oc4') :: S) := fun p hp => by
      rcases List.mem_cons.mp hp with rfl | hp
      · exact N2 _ (.head _)
      rcases List.mem_cons.mp hp with rfl | hp
      · exact N2 _ (.tail _ (.tail _ (.tail _ (.head _))))
      rcases List.mem_cons.mp hp with rfl | hp
      · exact N2 _ (.tail _ (.head _))
      rcases List.mem_cons.mp hp with rfl | hp
      · exact N2 _ (.tail _ (.tail _ (.head _)))
      · exact N2 _ (.tail _ (.tail _ (.tail _ (.tail _ hp))))
    obtain ⟨g1, g2, g3, g4⟩ := ins_ok (bitAt x ks[i] 0) (bitAt x ks[i] 1) (bitAt x ks[i] 2) (bitAt x ks[i] 3)
    rw [← ins_is] at g1 g2 g3 g4
    have qq := fun k => cnt_take (x := x) hpi k
    refine count_st (s := { s with heap := h2, toks := tk2 }) R G F2 N3 hoc' (fun p hp => ?_) (if_pos rfl) ((if_neg (by decide)).trans ((hmz _ (by decide) (by decide)).trans mc)) ((if_neg (by decide)).trans ma') hi2 g4 g1 (by omega) _ _ g2 rfl g3 rfl fun h3 tk3 m3 oc3 w0 w1 w2 wa F3 N4 hoc3 hm3 ha3 => ?_
    · rcases List.mem_cons.mp hp with rfl | hp
      · exact Ne.symm (hnI' (Dc, oc') (.head _))
      rcases List.mem_cons.mp hp with rfl | hp
      · exact Ne.symm (hS4 (Dc, oc) (.head _))
      · exact hSc p hp
    refine wpAny_execs_nil ?_
    refine ⟨h3, tk3, m3, (L + 4, oc4') :: (Dc, oc3) :: S, rfl, F3, fun p hp => ?_, fun p hp => ?_, oc4', (Dc, oc3) :: S, _, rfl, hcd, oc3, w0, w1, w2, wa, rfl, ?_, ?_, fun z hz1 hz2 => ?_⟩
    · rcases List.mem_cons.mp hp with rfl | hp
      · exact N4 _ (.tail _ (.head _))
      rcases List.mem_cons.mp hp with rfl | hp
      · exact N4 _ (.tail _ (.tail _ (.head _)))
      rcases List.mem_cons.mp hp with rfl | hp
      · exact N4 _ (.head _)
      · exact N4 _ (.tail _ (.tail _ (.tail _ hp)))
    · rcases List.mem_cons.mp hp with rfl | hp
      · exact hnI (L + 4, oc4) (.head _)
      rcases List.mem_cons.mp hp with rfl | hp
      · exact hnI' (Dc, oc') (.head _)
      · exact hnI' p (.tail _ hp)
    · rw [qq 0, qq 1, qq 2]; exact hoc3
    · rw [qq 3]; exact ha3
    · exact (hm3 z hz1).trans ((if_neg hz2).trans (hmz z hz1 hz2))
  · rintro m' nx h tk oc4' v ⟨oc', u0, u1, u2, ua, rfl, hoc', ma', hmz⟩ F1 hcd N1
    rw [List.take_of_length_le (Nat.le_of_eq K.1.symm)] at hoc' ma'
    exact q h tk m' oc' u0 u1 u2 ua F1 (fun p hp => N1 p (.tail _ hp)) hoc' ma' hmz
end
end Mine
end
section
open PySem PySem.W PyProof.Rows
set_option maxRecDepth 100000
set_option maxHeartbeats 4000000
namespace Mine
local macro_rules | `(tactic| walk_at "idle") => `(tactic| skip)
local macro_rules | `(tactic| walk_at "idle") => `(tactic| skip)
local macro_rules | `(tactic| walk_at "idle") => `(tactic| skip)
local macro_rules | `(tactic| walk_at "idle") => `(tactic| skip)
local macro_rules | `(tactic| walk_at "idle") => `(tactic| skip)
theorem fresh_MZ4 : True := by w_top off; trivial
theorem nat_bne (k : Nat) : (((k : Nat) : Int) != 0) = (k != 0) := by
  cases k with
  | zero => rfl
  | succ k =>
    rw [show ((k + 1 : Nat) != 0) = true from by simp]
    rw [bne_iff_ne]; omega
theorem sel_count {P : Nat → Value → Prop} {b : Nat → Bool} {F : Nat → Value → Value → List (Addr × Obj) → Prop} : ∀ {n : Nat} {ys : List Value} {ob : List (Addr × Obj)}, Sel P (fun i _ => b i) F n ys ob → ys.length = ((List.range n).filter b).length
  | _, _, _, .nil => rfl
  | _, _, _, .skip (i := i) h _ e => by
    have := sel_count h
    simpa [List.range_succ, List.filter_append, e] using this
  | _, _, _, .take (i := i) h _ e _ => by
    have := sel_count h
    simpa [List.range_succ, List.filter_append, e] using this
section
variable {prog : Program} {w : World} {A : Around} {E : Value → Shared → Prop} {s : Shared} {mg mb : Str → Option Value}
local macro_rules | `(tactic| walk_at "nocall") => `(tactic| ((first | (with_reducible show wpAny _ _ _ _ _ _) | (dsimp only; (with_reducible show wpAny _ _ _ _ _ _))); (fail_if_success (with_reducible show wpAny _ _ (call _ _ _) _ _ _)); (first | walk1 | (dsimp only; walk1))))
local macro_rules | `(tactic| walk_at "lk") => `(tactic| first | with_reducible assumption | exact if_pos rfl | (refine (if_neg (by decide)).trans ?_; walk_at "lk"))
local macro_rules | `(tactic| walk_at "eval Name") => `(tactic| (first | refine ldx (by with_reducible assumption) (by walk_at "lk") ?_ | refine ldc (by with_reducible assumption) ?_))
theorem many_st {h₀ : Heap} {L a Dc : Addr} {cd : Value} {m : Str → Option Value} {news : List (Addr × Obj)} {c : Nat → Nat} {t0 t1 t2 : Tok} {Q : Flow → Shared → Prop} {n : Nat} (R : Room A (n + 3)) (G : Gd mg mb h₀)
    (F : Fr h₀ L s.heap m) (N : News h₀ L s.heap news) (hm : m "cuts" = some (.ref Dc)) (hl : s.heap.IsList Dc [.int (c 0 : Nat) t0, .int (c 1 : Nat) t1, .int (c 2 : Nat) t2].toArray)
    (hfew : ((List.range 3).filter fun i => c i != 0).length ≤ 1) (q : ∀ h tk, Fr h₀ L h m → News h₀ L h news → Q .next { s with heap := h, toks := tk }) :
    wpAny (model prog w) A (exec (st16 16) (lawE L a cd)) Q E s := by
  have hz := R.hh
  have G1 := G.ext F.keep
  show wpAny _ _ (exec (.If _ _ [] _) _) _ _ _
  repeat' (walk_at "nocall")
  refine ldb G1 (by decide) boot_len ?_
  walk1
  walk1
  refine comp_val false ?_
  refine ldx F hm ?_
  refine src_list hz hl fun it s₂ hS => ?_
  have hsz : (List.toArray [Value.int (c 0 : Nat) t0, .int (c 1 : Nat) t1, .int (c 2 : Nat) t2]).size = 3 := rfl
  rw [hsz] at hS
  refine ⟨3, _, fun i _ => c i != 0, fun i _ y nw => nw = [] ∧ ∃ t, y = .int (c i : Nat) t, hS, by decide, ?_, ?_⟩
  · have hvv : ∀ (i : Nat) (v : Value), i < 3 → (List.toArray [Value.int (c 0 : Nat) t0, .int (c 1 : Nat) t1, .int (c 2 : Nat) t2])[i]? = some v → ∃ t, v = .int (c i : Nat) t := by
      intro i v hi hP
      match i, hi, hP with
      | 0, _, hP => exact ⟨t0, by simpa using hP.symm⟩
      | 1, _, hP => exact ⟨t1, by simpa using hP.symm⟩
      | 2, _, hP => exact ⟨t2, by simpa using hP.symm⟩
    clear hS hsz hl N F
    refine ⟨fun i v C k m' h tk E' hi' hP F7 hv => ?_, fun i v C k m' h tk E' hi' hP hp F7 hv => ?_⟩
    · obtain ⟨t, rfl⟩ := hvv i v hi' hP
      have hvj : m' "many" = some (.int (c i : Nat) t) := hv
      refine wpAny_tests_one ?_
      walk1
      refine ldx F7 hvj ?_
      walk1
      exact ⟨nat_bne _, h, _, rfl, Ext.refl _⟩
    · obtain ⟨t, rfl⟩ := hvv i v hi' hP
      have hvj : m' "many" = some (.int (c i : Nat) t) := hv
      refine ldx F7 hvj ?_
      exact ⟨h, _, [], rfl, Ext.refl _, ⟨rfl, _, rfl⟩, fun q hq => by cases hq⟩
  · intro D h tk ys ob sel e7 hD l7 hob
    have hlen := sel_count sel
    have F7 := F.keeps e7
    have N7 := N.grown e7
    have hl7 := l7.isList
    clear hS F N hl G1 sel hob l7
    repeat' (walk_at "nocall")
    refine Calls.call_len_list hl7 (by simp; omega) ?_
    repeat' (walk_at "nocall")
    rw [if_neg (by rw [decide_eq_true_eq, List.size_toArray, hlen]; omega)]
    exact wpAny_execs_nil (q _ _ F7 N7)
end
end Mine
end
section
open PySem PySem.W PyProof.Rows
set_option maxRecDepth 100000
set_option maxHeartbeats 4000000
namespace Mine
theorem fresh_MZ5 : True := by w_top off; trivial
section
variable {prog : Program} {w : World} {A : Around} {E : Value → Shared → Prop} {s : Shared} {mg mb : Str → Option Value}
local macro_rules | `(tactic| walk_at "nocall") => `(tactic| ((first | (with_reducible show wpAny _ _ _ _ _ _) | (dsimp only; (with_reducible show wpAny _ _ _ _ _ _))); (fail_if_success (with_reducible show wpAny _ _ (call _ _ _) _ _ _)); (first | walk1 | (dsimp only; walk1))))
local macro_rules | `(tactic| walk_at "lk") => `(tactic| first | with_reducible assumption | exact if_pos rfl | (refine (if_neg (by decide)).trans ?_; walk_at "lk"))
local macro_rules | `(tactic| walk_at "eval Name") => `(tactic| (first | refine ldx (by with_reducible assumption) (by walk_at "lk") ?_ | refine ldc (by with_reducible assumption) ?_))
theorem unpack_st {h₀ : Heap} {L a Dc : Addr} {cd : Value} {m : Str → Option Value} {news : List (Addr × Obj)} {c : Nat → Nat} {t0 t1 t2 : Tok} {Q : Flow → Shared → Prop} {n : Nat} (R : Room A (n + 3))
    (F : Fr h₀ L s.heap m) (N : News h₀ L s.heap news) (hm : m "cuts" = some (.ref Dc)) (hl : s.heap.IsList Dc [.int (c 0 : Nat) t0, .int (c 1 : Nat) t1, .int (c 2 : Nat) t2].toArray)
    (q : ∀ h tk, Fr h₀ L h (fun z => if z = "three" then some (.int (c 2 : Nat) t2) else if z = "two" then some (.int (c 1 : Nat) t1) else if z = "one" then some (.int (c 0 : Nat) t0) else m z) → News h₀ L h news → Q .next { s with heap := h, toks := tk }) :
    wpAny (model prog w) A (exec (st16 17) (lawE L a cd)) Q E s := by
  have hz := R.hh
  show wpAny _ _ (exec (.Assign [.Tuple _ _ _] _ _) _) _ _ _
  repeat' (walk_at "nocall")
  refine kun_list F N hl hz rfl rfl fun h' F2 N2 => ?_
  clear F N hl
  (try dsimp only)
  repeat' (walk_at "nocall")
  rename Fr _ _ _ _ => F9
  rename News _ _ _ _ => N9
  exact q _ _ F9 N9
def due0 (c : Nat → Nat) (al : Nat) : Int := 10000 * ((al : Int) + 2 * ((c 0 : Int) + ((c 1 : Int) + (c 2 : Int)))) - 2 * (3000 * (c 0 : Int) + 5900 * (c 1 : Int) + 1100 * (c 2 : Int))
def due1 (c : Nat → Nat) : Int := -2 * (5990 * (c 0 : Int) - 2773 * (c 1 : Int) - 3217 * (c 2 : Int))
def due2 (c : Nat → Nat) : Int := -2 * (2130 * (c 0 : Int) - 5251 * (c 1 : Int) + 3121 * (c 2 : Int))
theorem due_st {h₀ : Heap} {L a Dc : Addr} {cd : Value} {m : Str → Option Value} {news : List (Addr × Obj)} {c : Nat → Nat} {al : Nat} {oc : Obj} {t0 t1 t2 u0 u1 u2 ta : Tok} {Q : Flow → Shared → Prop} {n : Nat} (R : Room A (n + 3)) (G : Gd mg mb h₀)
    (F : Fr h₀ L s.heap m) (N : News h₀ L s.heap news) (hm : m "cuts" = some (.ref Dc)) (hl : (Dc, oc) ∈ news) (hoc : ListO oc [.int (c 0 : Nat) t0, .int (c 1 : Nat) t1, .int (c 2 : Nat) t2])
    (h1 : m "one" = some (.int (c 0 : Nat) u0)) (h2 : m "two" = some (.int (c 1 : Nat) u1)) (h3 : m "three" = some (.int (c 2 : Nat) u2)) (ha : m "alone" = some (.int (al : Nat) ta))
    (q : ∀ h tk D n t, Fr h₀ L h (fun z => if z = "due" then some (.ref D) else m z) → News h₀ L h ((D, lobj [.int (due0 c al) t] n) :: news) → (∀ p ∈ news, p.1 ≠ D) → Q .next { s with heap := h, toks := tk }) :
    wpAny (model prog w) A (exec (st16 18) (lawE L a cd)) Q E s := by
  have hz := R.hh
  have hns := News.ne_size N
  have G1 := G.ext F.keep
  show wpAny _ _ (exec (.Assign [.Name _ _] (.List _ _) _) _) _ _ _
  repeat' (walk_at "nocall")
  refine ldb G1 (by decide) boot_sum ?_
  repeat' (walk_at "nocall")
  refine LSm.sum_ints F N hz (hoc.isList (N _ hl).1) (.cons _ _ (.cons _ _ (.cons _ _ .nil))) fun h2 tk2 t2 F2 N2 => ?_
  have hns2 := News.ne_size (s := { s with heap := h2 }) N2
  clear F N G1
  repeat' (walk_at "nocall")
  rename Fr _ _ _ _ => F9
  rename News _ _ _ (_ :: _) => N9
  simp only [List.sum_cons, List.sum_nil, Int.add_zero] at N9
  exact q _ _ _ 0 _ F9 N9 hns2
end
end Mine
end
section
open PySem PySem.W PyProof.Rows
set_option maxRecDepth 100000
set_option maxHeartbeats 4000000
namespace Mine
local macro_rules | `(tactic| walk_at "idle") => `(tactic| skip)
local macro_rules | `(tactic| walk_at "idle") => `(tactic| skip)
local macro_rules | `(tactic| walk_at "idle") => `(tactic| skip)
local macro_rules | `(tactic| walk_at "idle") => `(tactic| skip)
local macro_rules | `(tactic| walk_at "idle") => `(tactic| skip)
theorem fresh_MZ6 : True := by w_top off; trivial
section
variable {prog : Program} {w : World} {A : Around} {E : Value → Shared → Prop} {s : Shared} {mg mb : Str → Option Value}
local macro_rules | `(tactic| walk_at "nocall") => `(tactic| ((first | (with_reducible show wpAny _ _ _ _ _ _) | (dsimp only; (with_reducible show wpAny _ _ _ _ _ _))); (fail_if_success (with_reducible show wpAny _ _ (call _ _ _) _ _ _)); (first | walk1 | (dsimp only; walk1))))
local macro_rules | `(tactic| walk_at "lk") => `(tactic| first | with_reducible assumption | exact if_pos rfl | (refine (if_neg (by decide)).trans ?_; walk_at "lk"))
local macro_rules | `(tactic| walk_at "eval Name") => `(tactic| (first | refine ldx (by with_reducible assumption) (by walk_at "lk") ?_ | refine ldc (by with_reducible assumption) ?_))
theorem app1_st {h₀ : Heap} {L a D : Addr} {cd : Value} {m : Str → Option Value} {news : List (Addr × Obj)} {c : Nat → Nat} {vs : List Value} {nd : Nat} {u0 u1 u2 : Tok} {Q : Flow → Shared → Prop}
    (F : Fr h₀ L s.heap m) (N : News h₀ L s.heap ((D, lobj vs nd) :: news)) (hm : m "due" = some (.ref D)) (hv : vs.length ≤ 10) (hne : ∀ p ∈ news, p.1 ≠ D)
    (h1 : m "one" = some (.int (c 0 : Nat) u0)) (h2 : m "two" = some (.int (c 1 : Nat) u1)) (h3 : m "three" = some (.int (c 2 : Nat) u2))
    (q : ∀ h tk n t, Fr h₀ L h m → News h₀ L h ((D, lobj (vs ++ [.int (due1 c) t]) n) :: news) → Q .next { s with heap := h, toks := tk }) :
    wpAny (model prog w) A (exec (st16 19) (lawE L a cd)) Q E s := by
  show wpAny _ _ (exec (.Expr _ _) _) _ _ _
  repeat' (walk_at "nocall")
  (try dsimp only)
  have z := N _ (.head _)
  refine append_L (D := D) ⟨nd, z.1⟩ (by omega) fun h5 hs5 l5 => ?_
  have F5 := Fr_same F hs5 z.2.2 z.2.1
  obtain ⟨n5, l5⟩ := l5
  have N5 : News h₀ L h5 ((D, lobj (vs ++ [.int (due1 c) _]) n5) :: news) := fun p hp => by
    rcases List.mem_cons.mp hp with rfl | hp
    · exact ⟨l5, z.2.1, z.2.2⟩
    · exact News.same (fun p hp => N p (.tail _ hp)) hs5 hne p hp
  clear F N z hs5 l5
  repeat' (walk_at "nocall")
  exact q _ _ _ _ F5 N5
theorem app2_st {h₀ : Heap} {L a D : Addr} {cd : Value} {m : Str → Option Value} {news : List (Addr × Obj)} {c : Nat → Nat} {vs : List Value} {nd : Nat} {u0 u1 u2 : Tok} {Q : Flow → Shared → Prop}
    (F : Fr h₀ L s.heap m) (N : News h₀ L s.heap ((D, lobj vs nd) :: news)) (hm : m "due" = some (.ref D)) (hv : vs.length ≤ 10) (hne : ∀ p ∈ news, p.1 ≠ D)
    (h1 : m "one" = some (.int (c 0 : Nat) u0)) (h2 : m "two" = some (.int (c 1 : Nat) u1)) (h3 : m "three" = some (.int (c 2 : Nat) u2))
    (q : ∀ h tk n t, Fr h₀ L h m → News h₀ L h ((D, lobj (vs ++ [.int (due2 c) t]) n) :: news) → Q .next { s with heap := h, toks := tk }) :
    wpAny (model prog w) A (exec (st16 20) (lawE L a cd)) Q E s := by
  show wpAny _ _ (exec (.Expr _ _) _) _ _ _
  repeat' (walk_at "nocall")
  (try dsimp only)
  have z := N _ (.head _)
  refine append_L (D := D) ⟨nd, z.1⟩ (by omega) fun h5 hs5 l5 => ?_
  have F5 := Fr_same F hs5 z.2.2 z.2.1
  obtain ⟨n5, l5⟩ := l5
  have N5 : News h₀ L h5 ((D, lobj (vs ++ [.int (due2 c) _]) n5) :: news) := fun p hp => by
    rcases List.mem_cons.mp hp with rfl | hp
    · exact ⟨l5, z.2.1, z.2.2⟩
    · exact News.same (fun p hp => N p (.tail _ hp)) hs5 hne p hp
  clear F N z hs5 l5
  repeat' (walk_at "nocall")
  exact q _ _ _ _ F5 N5
def tenK (fl : UInt64) : UInt64 := Float64.mul (Float64.ofInt 10000) fl
def FlOK (fl : UInt64) (e : Int) : Prop := Float64.isNaN (tenK fl) = false ∧ Float64.isInf (tenK fl) = false ∧ Flt.toInt Float64.nearestOf (tenK fl) = e
theorem ints3_ok (a b c : Int) : SeqAt.shaped (PyData.list (List.map PyData.int [a, b, c])) = true := by
  rfl
theorem ret_st {h₀ : Heap} {L a D Df : Addr} {cd : Value} {m : Str → Option Value} {news : List (Addr × Obj)} {od of : Obj} {f : Nat → Nat} {e0 e1 e2 : Int} {u0 u1 u2 v0 v1 v2 : Tok} {Q : Flow → Shared → Prop} {n : Nat} (R : Room A (n + 3)) (G : Gd mg mb h₀)
    (F : Fr h₀ L s.heap m) (N : News h₀ L s.heap news) (hm : m "due" = some (.ref D)) (hd : (D, od) ∈ news) (hod : ListO od [.int e0 u0, .int e1 u1, .int e2 u2]) (hf : m "found" = some (.ref Df)) (hdf : (Df, of) ∈ news) (hof : ListO of [.int (f 0 : Nat) v0, .int (f 1 : Nat) v1, .int (f 2 : Nat) v2])
    (hsm : ∀ i < 3, f i < 100)
    (k0 : FlOK (yF (f 0 : Nat) (f 1 : Nat) (f 2 : Nat)) e0) (k1 : FlOK (iF (f 0 : Nat) (f 1 : Nat) (f 2 : Nat)) e1) (k2 : FlOK (qF (f 0 : Nat) (f 1 : Nat) (f 2 : Nat)) e2)
    (hu : A.units + 65 < cLine) (q : ∀ h tk, Ext s.heap h → Q (.ret (.bool true)) { s with heap := h, toks := tk }) :
    wpAny (model prog w) A (exec (st16 21) (lawE L a cd)) Q E s := by
  have hz := R.hh
  have G1 := G.ext F.keep
  obtain ⟨a1, o1, pm1, cd1, doc1, ea1, ho1, hd1, hc1⟩ := G1.fn 2 (by decide)
  show wpAny _ _ (exec (.Return (some _) _) _) _ _ _
  walk1
  walk1
  refine comp_val false ?_
  refine Call_ ?_
  refine ldg G1 ea1 ?_
  refine callWith_def hd1 ?_
  have lf := hof.isList (N _ hdf).1
  walk1
  walk1
  refine ldx F hf ?_
  walk1
  refine item_at lf (by decide) (by decide) rfl ?_
  walk1
  walk1
  refine ldx F hf ?_
  walk1
  refine item_at lf (by decide) (by decide) rfl ?_
  walk1
  walk1
  refine ldx F hf ?_
  walk1
  refine item_at lf (by decide) (by decide) rfl ?_
  walk1
  refine ⟨ho1, ?_⟩
  have f0 := hsm 0 (by decide)
  have f1 := hsm 1 (by decide)
  have f2 := hsm 2 (by decide)
  refine yiq_call (G1) R ea1 (by omega) (by omega) (by omega) fun h2 tk2 D2 w0 w1 w2 ee2 ht2 => ?_
  refine src_tuple hz ht2 fun it s₂ hS => ?_
  refine ⟨3, _, fun _ _ => true, fun i _ y nw => nw = [] ∧ ∃ t, y = .int (pick4f e0 e1 e2 0 i) t, hS, by decide, ?_, ?_⟩
  · refine ⟨fun i v C k m' h tk E' hi' hP F7 hv => wpAny_tests_nil ⟨rfl, _, _, rfl, Ext.refl _⟩, fun i v C k m' h tk E' hi' hP hp F7 hv => ?_⟩
    obtain ⟨fl, tf, rfl, hfl⟩ : ∃ fl tf, v = .float fl tf ∧ FlOK fl (pick4f e0 e1 e2 0 i) := by
      match i, hi', hP with
      | 0, _, hP => exact ⟨_, w0, by simpa using hP.symm, k0⟩
      | 1, _, hP => exact ⟨_, w1, by simpa using hP.symm, k1⟩
      | 2, _, hP => exact ⟨_, w2, by simpa using hP.symm, k2⟩
    have hvj : m' "part" = some (.float fl tf) := hv
    have G7 := G1.ext (Ext.trans ee2 F7.keep)
    obtain ⟨g1, g2, g3⟩ := hfl
    unfold tenK at g1 g2 g3
    clear hS ht2 lf N F G1 k0 k1 k2
    generalize pick4f e0 e1 e2 0 i = ei at g3 ⊢
    subst g3
    repeat' (walk_at "nocall")
    refine ldb G7 (by decide) boot_round ?_
    repeat' (walk_at "nocall")
    refine Flt.call_round_float hz (fun c => by rw [g1] at c; cases c) (fun c => by rw [g2] at c; cases c) fun _ => ?_
    exact ⟨h, _, [], rfl, Ext.refl _, ⟨rfl, _, rfl⟩, fun q hq => by cases hq⟩
  · intro D h tk ys ob sel e7 hD l7 hob
    obtain ⟨y, rfl, hy⟩ := three_vals sel
    obtain ⟨x0, y0⟩ := hy 0 (by decide)
    obtain ⟨x1, y1⟩ := hy 1 (by decide)
    obtain ⟨x2, y2⟩ := hy 2 (by decide)
    rw [y0, y1, y2] at l7
    have e9 : Ext s.heap h := Ext.trans ee2 e7
    have F9 := F.keeps e9
    have hd9 := hod.isList (e9 _ _ (N _ hd).1)
    have l9 := l7.isList
    clear hS ht2 lf N F G1 sel hy k0 k1 k2
    refine ldx F9 hm ?_
    refine eq_dataH (reads_ints' l9 (ns := [e0, e1, e2]) (.cons _ _ (.cons _ _ (.cons _ _ .nil)))) (reads_ints' hd9 (ns := [e0, e1, e2]) (.cons _ _ (.cons _ _ (.cons _ _ .nil)))) ?_ ?_ (by omega) ?_
    · exact ints3_ok e0 e1 e2
    · exact ints3_ok e0 e1 e2
    · rw [SeqAt.eqv_refl _ (SeqAt.canLay_of_shaped (ints3_ok e0 e1 e2))]
      exact q h _ e9
end
end Mine
end
section
open PySem PySem.W PyProof.Rows
set_option maxRecDepth 100000
set_option maxHeartbeats 4000000
namespace Mine
theorem fresh_ZP : True := by w_top off; trivial
def lcpN : List Nat → List Nat → Nat
  | a :: p, b :: q => if a = b then lcpN p q + 1 else 0
  | _, _ => 0
theorem lcp_full_len : ∀ {f g : List Nat}, f <+: g → lcpN f g = f.length
  | [], g, _ => by cases g <;> rfl
  | a :: f, [], h => by simp at h
  | a :: f, b :: g, h => by
    rw [List.cons_prefix_cons] at h
    rw [lcpN, if_pos h.1, lcp_full_len h.2, List.length_cons]
theorem lcp_snoc : ∀ {f g : List Nat} {a : Nat}, ¬ (f ++ [a]) <+: g → lcpN (f ++ [a]) g = lcpN f g
  | [], [], a, _ => rfl
  | [], b :: g, a, h => by
    have hab : a ≠ b := fun e => h (by subst e; simp)
    show (if a = b then lcpN [] g + 1 else 0) = 0
    rw [if_neg hab]
  | c :: f, [], a, _ => rfl
  | c :: f, b :: g, a, h => by
    show (if c = b then lcpN (f ++ [a]) g + 1 else 0) = (if c = b then lcpN f g + 1 else 0)
    by_cases e : c = b
    · rw [if_pos e, if_pos e, lcp_snoc fun h' => h (by rw [e, List.cons_append, List.cons_prefix_cons]; exact ⟨rfl, h'⟩)]
    · rw [if_neg e, if_neg e]
theorem prefs_nil : prefs [] = [[]] := rfl
theorem prefs_snoc (f : List Nat) (a : Nat) : prefs (f ++ [a]) = (f ++ [a]) :: prefs f := by
  rw [prefs, List.length_append, List.length_singleton, wayP, List.dropLast_concat]
  rfl
theorem snoc_ind {P : List Nat → Prop} (h0 : P []) (h1 : ∀ f a, P f → P (f ++ [a])) : ∀ (n : Nat) (f : List Nat), f.length = n → P f
  | 0, f, e => by rw [List.length_eq_zero_iff.mp e]; exact h0
  | n + 1, f, e => by
    have hf : f ≠ [] := by intro q; rw [q] at e; cases e
    rw [← List.dropLast_concat_getLast hf]
    exact h1 _ _ (snoc_ind h0 h1 n _ (by rw [List.length_dropLast, e]; rfl))
theorem is_pre (p q : List Nat) : p.isPrefixOf q = true ↔ p <+: q := List.isPrefixOf_iff_prefix
theorem not_pre {p q : List Nat} (h : ¬ p <+: q) : p.isPrefixOf q = false := by
  cases hb : p.isPrefixOf q with
  | false => rfl
  | true => exact absurd ((is_pre p q).mp hb) h
theorem step_lcp0 (g : List Nat) (f : List Nat) : ((prefs f).findIdx fun q => q.isPrefixOf g) + lcpN f g = f.length := by
  refine snoc_ind (P := fun f => ((prefs f).findIdx fun q => q.isPrefixOf g) + lcpN f g = f.length) ?_ ?_ _ f rfl
  · rw [prefs_nil, List.findIdx_cons, (is_pre [] g).mpr List.nil_prefix]
    cases g <;> rfl
  · intro f a ih
    rw [prefs_snoc, List.findIdx_cons]
    by_cases h : (f ++ [a]) <+: g
    · rw [(is_pre _ g).mpr h, lcp_full_len h]; simp
    · rw [not_pre h, lcp_snoc h]; simp only [cond_false, List.length_append, List.length_singleton]; omega
theorem prefs_two0 (g : List Nat) (f : List Nat) : ((prefs f).filter fun q => q.isPrefixOf g).length = lcpN f g + 1 := by
  refine snoc_ind (P := fun f => ((prefs f).filter fun q => q.isPrefixOf g).length = lcpN f g + 1) ?_ ?_ _ f rfl
  · rw [prefs_nil, List.filter_cons, if_pos ((is_pre [] g).mpr List.nil_prefix)]
    cases g <;> rfl
  · intro f a ih
    rw [prefs_snoc, List.filter_cons]
    by_cases h : (f ++ [a]) <+: g
    · rw [if_pos ((is_pre _ g).mpr h), List.length_cons, ih, lcp_full_len h, lcp_full_len ((List.prefix_append f [a]).trans h), List.length_append, List.length_singleton]
    · rw [not_pre h, if_neg (by simp), ih, lcp_snoc h]
theorem prefs_mem0 (q f : List Nat) : q ∈ prefs f ↔ q <+: f := by
  refine snoc_ind (P := fun f => q ∈ prefs f ↔ q <+: f) ?_ ?_ _ f rfl
  · rw [prefs_nil, List.mem_singleton, List.prefix_nil]
  · intro f a ih
    rw [prefs_snoc, List.mem_cons, ih, List.prefix_concat_iff]
theorem prefs_nodup0 (f : List Nat) : (prefs f).Nodup := by
  refine snoc_ind (P := fun f => (prefs f).Nodup) (by rw [prefs_nil]; simp) ?_ _ f rfl
  intro f a ih
  rw [prefs_snoc, List.nodup_cons]
  refine ⟨fun h => ?_, ih⟩
  have := ((prefs_mem0 _ _).mp h).length_le
  rw [List.length_append, List.length_singleton] at this
  omega
theorem step_lcp : ∀ f ∈ paths, ∀ g ∈ paths, ((prefs f).findIdx fun q => q.isPrefixOf g) + lcpN f g = f.length := fun f _ g _ => step_lcp0 g f
theorem prefs_two : ∀ f ∈ paths, ∀ g ∈ paths, ((prefs f).filter fun q => q.isPrefixOf g).length = lcpN f g + 1 := fun f _ g _ => prefs_two0 g f
theorem prefs_nodup : ∀ f ∈ paths, (prefs f).Nodup := fun f _ => prefs_nodup0 f
theorem prefs_mem : ∀ f ∈ paths, ∀ q ∈ paths, (prefs f).contains q = q.isPrefixOf f := fun f _ q _ => by
  rw [Bool.eq_iff_iff, List.contains_iff_mem, prefs_mem0, is_pre]
end Mine
end
section
open PySem PySem.W PyProof.Rows
set_option maxRecDepth 100000
set_option maxHeartbeats 4000000
namespace Mine
theorem fresh_ZQ : True := by w_top off; trivial
def cntB (g : List Nat → Bool) (ks : List (List Nat)) : Nat := (ks.filter g).length
theorem cntB_cons (g : List Nat → Bool) (p : List Nat) (ks : List (List Nat)) : cntB g (p :: ks) = (if g p then 1 else 0) + cntB g ks := by
  unfold cntB
  cases h : g p <;> simp [h]; omega
theorem cntK_is (x : Nat → Int) (ks : List (List Nat)) (k : Nat) : cntK x ks k = cntB (fun p => kindP x p == k) ks := rfl
def kB (b0 b1 b2 b3 : Bool) : Nat := kindB (insB b0 b1 b2 b3)
theorem kind_is (x : Nat → Int) (p : List Nat) : kindP x p = kB (bitAt x p 0) (bitAt x p 1) (bitAt x p 2) (bitAt x p 3) := by
  rw [kindP, ins_is]; rfl
def nb (b : Bool) : Nat := if b then 1 else 0
theorem one_01 : ∀ a b c d, nb a + nb b + nb c + nb d = nb (kB a b c d == 3) + 2 * (nb (kB a b c d == 1) + nb (kB a b c d == 2)) + 2 * nb (a && b) + 2 * nb (c && d) := by decide +kernel
theorem one_02 : ∀ a b c d, nb a + nb b + nb c + nb d = nb (kB a b c d == 3) + 2 * (nb (kB a b c d == 0) + nb (kB a b c d == 2)) + 2 * nb (a && c) + 2 * nb (b && d) := by decide +kernel
theorem one_03 : ∀ a b c d, nb a + nb b + nb c + nb d = nb (kB a b c d == 3) + 2 * (nb (kB a b c d == 0) + nb (kB a b c d == 1)) + 2 * nb (a && d) + 2 * nb (b && c) := by decide +kernel
theorem one_low : ∀ a b c d, nb (kB a b c d == 3) + 2 * (nb (kB a b c d == 0) + nb (kB a b c d == 1) + nb (kB a b c d == 2)) ≤ nb a + nb b + nb c + nb d := by decide +kernel
theorem cntB_nb (g : List Nat → Bool) (p : List Nat) (ks : List (List Nat)) : cntB g (p :: ks) = nb (g p) + cntB g ks := cntB_cons g p ks
theorem tot_01 (x : Nat → Int) : ∀ ks : List (List Nat), cntB (bitAt x · 0) ks + cntB (bitAt x · 1) ks + cntB (bitAt x · 2) ks + cntB (bitAt x · 3) ks =
    cntK x ks 3 + 2 * (cntK x ks 1 + cntK x ks 2) + 2 * cntB (fun p => bitAt x p 0 && bitAt x p 1) ks + 2 * cntB (fun p => bitAt x p 2 && bitAt x p 3) ks
  | [] => rfl
  | p :: ks => by
    have ih := tot_01 x ks
    have h := one_01 (bitAt x p 0) (bitAt x p 1) (bitAt x p 2) (bitAt x p 3)
    simp only [cntK_is, cntB_nb, kind_is] at ih ⊢
    omega
theorem tot_02 (x : Nat → Int) : ∀ ks : List (List Nat), cntB (bitAt x · 0) ks + cntB (bitAt x · 1) ks + cntB (bitAt x · 2) ks + cntB (bitAt x · 3) ks =
    cntK x ks 3 + 2 * (cntK x ks 0 + cntK x ks 2) + 2 * cntB (fun p => bitAt x p 0 && bitAt x p 2) ks + 2 * cntB (fun p => bitAt x p 1 && bitAt x p 3) ks
  | [] => rfl
  | p :: ks => by
    have ih := tot_02 x ks
    have h := one_02 (bitAt x p 0) (bitAt x p 1) (bitAt x p 2) (bitAt x p 3)
    simp only [cntK_is, cntB_nb, kind_is] at ih ⊢
    omega
theorem tot_03 (x : Nat → Int) : ∀ ks : List (List Nat), cntB (bitAt x · 0) ks + cntB (bitAt x · 1) ks + cntB (bitAt x · 2) ks + cntB (bitAt x · 3) ks =
    cntK x ks 3 + 2 * (cntK x ks 0 + cntK x ks 1) + 2 * cntB (fun p => bitAt x p 0 && bitAt x p 3) ks + 2 * cntB (fun p => bitAt x p 1 && bitAt x p 2) ks
  | [] => rfl
  | p :: ks => by
    have ih := tot_03 x ks
    have h := one_03 (bitAt x p 0) (bitAt x p 1) (bitAt x p 2) (bitAt x p 3)
    simp only [cntK_is, cntB_nb, kind_is] at ih ⊢
    omega
theorem tot_low (x : Nat → Int) : ∀ ks : List (List Nat), cntK x ks 3 + 2 * (cntK x ks 0 + cntK x ks 1 + cntK x ks 2) ≤ cntB (bitAt x · 0) ks + cntB (bitAt x · 1) ks + cntB (bitAt x · 2) ks + cntB (bitAt x · 3) ks
  | [] => Nat.le_refl _
  | p :: ks => by
    have ih := tot_low x ks
    have h := one_low (bitAt x p 0) (bitAt x p 1) (bitAt x p 2) (bitAt x p 3)
    simp only [cntK_is, cntB_nb, kind_is] at ih ⊢
    omega
/-- the keys under both i and j -/
theorem both_keys (x : Nat → Int) {i j : Nat} (hi : i < 4) (hj : j < 4) (hk : ∀ p ∈ keysTo x 4, p ∈ paths) (hn : (keysTo x 4).Nodup) :
    cntB (fun p => bitAt x p i && bitAt x p j) (keysTo x 4) = lcpN (full x i) (full x j) + 1 := by
  rw [← prefs_two _ (full_in x hi) _ (full_in x hj), cntB]
  refine List.Perm.length_eq ((List.perm_ext_iff_of_nodup (hn.filter _) ((prefs_nodup _ (full_in x hi)).filter _)).mpr fun p => ?_)
  rw [List.mem_filter, List.mem_filter, bitAt_is, bitAt_is, Bool.and_eq_true]
  have hin : p ∈ paths → (p ∈ prefs (full x i) ↔ p.isPrefixOf (full x i) = true) := fun hp => by
    rw [← prefs_mem _ (full_in x hi) p hp]
    simp
  constructor
  · rintro ⟨h1, h2, h3⟩
    exact ⟨(hin (hk p h1)).mpr h2, h3⟩
  · rintro ⟨h1, h2⟩
    have hkp := prefs_keys x hi p h1
    exact ⟨hkp, (hin (hk p hkp)).mp h1, h2⟩
end Mine
end
section
open PySem PySem.W PyProof.Rows
set_option maxRecDepth 100000
set_option maxHeartbeats 4000000
namespace Mine
theorem fresh_ZR : True := by w_top off; trivial
theorem lcp_self : ∀ p : List Nat, lcpN p p = p.length
  | [] => rfl
  | a :: p => by rw [lcpN, if_pos rfl, lcp_self p]; rfl
theorem lcp_comm : ∀ p q : List Nat, lcpN p q = lcpN q p
  | [], [] => rfl
  | [], _ :: _ => rfl
  | _ :: _, [] => rfl
  | a :: p, b :: q => by
    rw [lcpN, lcpN, lcp_comm p q]
    by_cases h : a = b
    · rw [if_pos h, if_pos h.symm]
    · rw [if_neg h, if_neg (fun e => h e.symm)]
theorem lcp_le : ∀ p q : List Nat, lcpN p q ≤ p.length
  | [], q => by cases q <;> exact Nat.le_refl _
  | _ :: _, [] => Nat.zero_le _
  | a :: p, b :: q => by
    rw [lcpN]
    split
    · have := lcp_le p q; rw [List.length_cons]; omega
    · exact Nat.zero_le _
theorem labS_inj {a b : Nat} (h : labS a = labS b) : a = b := by
  have := congrArg (fun x : Str => x.cps.toList) h
  simpa [labS] using this
theorem shared_lcp : ∀ p q : List Nat, sharedF (p.map labS) (q.map labS) = lcpN p q
  | [], q => by cases q <;> (unfold sharedF; rfl)
  | _ :: _, [] => by unfold sharedF; rfl
  | a :: p, b :: q => by
    rw [List.map_cons, List.map_cons, sharedF, lcpN, shared_lcp p q]
    by_cases h : a = b
    · rw [if_pos (by rw [h]), if_pos h]
    · rw [if_neg (fun e => h (labS_inj e)), if_neg h]
def optL (b : Bool) (j : Nat) : List Nat := if b then [119 + j] else []
theorem full_lcp : ∀ r ∈ rows15, ∀ t ∈ rows15, ∀ i < 4, ∀ j < 4, i ≠ j → ∀ b c : Bool, lcpN (r ++ optL b i) (t ++ optL c j) = lcpN r t := by decide +kernel
theorem full_opt (x : Nat → Int) (j : Nat) : full x j = rowC (x j) ++ optL (flag x j) j := rfl
theorem lcp_full (x : Nat → Int) {i j : Nat} (hi : i < 4) (hj : j < 4) (h : i ≠ j) : lcpN (full x i) (full x j) = lcpN (rowC (x i)) (rowC (x j)) := by
  rw [full_opt, full_opt]
  exact full_lcp _ (row_in _) _ (row_in _) i hi j hj h _ _
theorem full_len (x : Nat → Int) (i : Nat) : (full x i).length = (rowC (x i)).length + nb (flag x i) := by
  rw [full_opt, List.length_append, optL, nb]
  cases flag x i <;> rfl
theorem step_lcp' (x : Nat → Int) {i j : Nat} (hi : i < 4) (hj : j < 4) : stepN x i j + lcpN (full x i) (full x j) = (full x i).length := by
  rw [← step_lcp _ (full_in x hi) _ (full_in x hj), stepN]
  congr 2
  funext q
  rw [bitAt_is]
theorem fI_is (x : Nat → Int) {i j : Nat} (hi : i < 4) (hj : j < 4) : fI x i j = ((full x i).length : Int) + ((full x j).length : Int) - 2 * (lcpN (full x i) (full x j) : Int) := by
  have h1 := step_lcp' x hi hj
  have h2 := step_lcp' x hj hi
  rw [lcp_comm (full x j)] at h2
  rw [fI]; omega
theorem dI_is (x : Nat → Int) (i j : Nat) : dI x i j = ((rowC (x i)).length : Int) + ((rowC (x j)).length : Int) - 2 * (lcpN (rowC (x i)) (rowC (x j)) : Int) := by
  rw [dI, rowS, rowS, shared_lcp, List.length_map, List.length_map]
theorem fd_is (x : Nat → Int) {i j : Nat} (hi : i < 4) (hj : j < 4) (h : i ≠ j) : fI x i j = dI x i j + (nb (flag x i) : Int) + (nb (flag x j) : Int) := by
  rw [fI_is x hi hj, dI_is, lcp_full x hi hj h, full_len, full_len]; omega
theorem priv4 (x : Nat → Int) : privN x 4 = nb (flag x 0) + nb (flag x 1) + nb (flag x 2) + nb (flag x 3) := by
  have h0 : privN x 0 = 0 := rfl
  rw [priv_succ, priv_succ, priv_succ, priv_succ, h0, Nat.zero_add]
  rfl
def dN (x : Nat → Int) : Nat → Nat := pick4f ((dI x 0 1 + dI x 2 3).toNat) ((dI x 0 2 + dI x 1 3).toNat) ((dI x 0 3 + dI x 1 2).toNat) 0
theorem row3 (x : Int) : (rowC x).length ≤ 3 := by
  rw [rowC, List.length_map, List.length_range]; omega
theorem dI_nn (x : Nat → Int) (i j : Nat) : 0 ≤ dI x i j ∧ dI x i j ≤ 6 := by
  rw [dI_is]
  have h1 := lcp_le (rowC (x i)) (rowC (x j))
  have h2 := lcp_le (rowC (x j)) (rowC (x i))
  rw [lcp_comm] at h2
  have h3 := row3 (x i)
  have h4 := row3 (x j)
  omega
end Mine
end
section
open PySem PySem.W PyProof.Rows
set_option maxRecDepth 100000
set_option maxHeartbeats 4000000
namespace Mine
theorem fresh_ZF : True := by w_top off; trivial
def flB (fl : UInt64) (e : Int) : Bool := !(Float64.isNaN (tenK fl)) && !(Float64.isInf (tenK fl)) && (Flt.toInt Float64.nearestOf (tenK fl) == e)
theorem flB_ok {fl : UInt64} {e : Int} (h : flB fl e = true) : FlOK fl e := by
  unfold flB at h
  simp only [Bool.and_eq_true, Bool.not_eq_true', beq_iff_eq] at h
  exact ⟨h.1.1, h.1.2, h.2⟩
def okB (c0 c1 c2 al : Nat) : Bool :=
  let f0 : Nat := al + 2 * (c1 + c2)
  let f1 : Nat := al + 2 * (c0 + c2)
  let f2 : Nat := al + 2 * (c0 + c1)
  flB (yF f0 f1 f2) (due0 (pick4f c0 c1 c2 0) al) && flB (iF f0 f1 f2) (due1 (pick4f c0 c1 c2 0)) && flB (qF f0 f1 f2) (due2 (pick4f c0 c1 c2 0))
theorem ok_0a : ∀ n < 2, ∀ al < 21 - 2 * n, okB n 0 0 al = true := by decide +kernel
theorem ok_0b : ∀ n < 3, ∀ al < 17 - 2 * n, okB (n + 2) 0 0 al = true := by decide +kernel
theorem ok_0c : ∀ n < 6, ∀ al < 11 - 2 * n, okB (n + 5) 0 0 al = true := by decide +kernel
theorem ok_0 : ∀ n < 11, ∀ al < 21 - 2 * n, okB n 0 0 al = true := by
  intro n hn al ha
  by_cases h1 : n < 2
  · exact ok_0a n h1 al ha
  by_cases h2 : n < 5
  · have h := ok_0b (n - 2) (by omega) al (by omega)
    rwa [show n - 2 + 2 = n by omega] at h
  · have h := ok_0c (n - 5) (by omega) al (by omega)
    rwa [show n - 5 + 5 = n by omega] at h
theorem ok_1a : ∀ n < 2, ∀ al < 21 - 2 * n, okB 0 n 0 al = true := by decide +kernel
theorem ok_1b : ∀ n < 3, ∀ al < 17 - 2 * n, okB 0 (n + 2) 0 al = true := by decide +kernel
theorem ok_1c : ∀ n < 6, ∀ al < 11 - 2 * n, okB 0 (n + 5) 0 al = true := by decide +kernel
theorem ok_1 : ∀ n < 11, ∀ al < 21 - 2 * n, okB 0 n 0 al = true := by
  intro n hn al ha
  by_cases h1 : n < 2
  · exact ok_1a n h1 al ha
  by_cases h2 : n < 5
  · have h := ok_1b (n - 2) (by omega) al (by omega)
    rwa [show n - 2 + 2 = n by omega] at h
  · have h := ok_1c (n - 5) (by omega) al (by omega)
    rwa [show n - 5 + 5 = n by omega] at h
theorem ok_2a : ∀ n < 2, ∀ al < 21 - 2 * n, okB 0 0 n al = true := by decide +kernel
theorem ok_2b : ∀ n < 3, ∀ al < 17 - 2 * n, okB 0 0 (n + 2) al = true := by decide +kernel
theorem ok_2c : ∀ n < 6, ∀ al < 11 - 2 * n, okB 0 0 (n + 5) al = true := by decide +kernel
theorem ok_2 : ∀ n < 11, ∀ al < 21 - 2 * n, okB 0 0 n al = true := by
  intro n hn al ha
  by_cases h1 : n < 2
  · exact ok_2a n h1 al ha
  by_cases h2 : n < 5
  · have h := ok_2b (n - 2) (by omega) al (by omega)
    rwa [show n - 2 + 2 = n by omega] at h
  · have h := ok_2c (n - 5) (by omega) al (by omega)
    rwa [show n - 5 + 5 = n by omega] at h
end Mine
end
section
open PySem PySem.W PyProof.Rows
set_option maxRecDepth 100000
set_option maxHeartbeats 4000000
namespace Mine
theorem fresh_ZS : True := by w_top off; trivial
theorem keys_in (x : Nat → Int) : ∀ i ≤ 4, ∀ p ∈ keysTo x i, p ∈ paths
  | 0, _, p, hp => by simp [keysTo] at hp
  | i + 1, h, p, hp => by
    rw [keysTo_succ, addP_in] at hp
    rcases hp with hp | hp
    · exact keys_in x i (by omega) p hp
    · exact wayP_in _ _ (full_in x (by omega)) p hp
theorem keys_nodup (x : Nat → Int) : ∀ i, (keysTo x i).Nodup
  | 0 => by simp [keysTo]
  | i + 1 => by rw [keysTo_succ]; exact addP_nodup (keys_nodup x i)
theorem one_keys (x : Nat → Int) {i : Nat} (hi : i < 4) : cntB (bitAt x · i) (keysTo x 4) = (full x i).length + 1 := by
  have := both_keys x hi hi (keys_in x 4 (Nat.le_refl _)) (keys_nodup x 4)
  rw [lcp_self] at this
  simpa only [Bool.and_self] using this
abbrev cX (x : Nat → Int) (k : Nat) : Nat := cntK x (keysTo x 4) k
theorem f_01 (x : Nat → Int) : fI x 0 1 + fI x 2 3 = ((cX x 3 + 2 * (cX x 1 + cX x 2) : Nat) : Int) := by
  have t := tot_01 x (keysTo x 4)
  rw [one_keys x (by decide), one_keys x (by decide), one_keys x (by decide), one_keys x (by decide), both_keys x (by decide) (by decide) (keys_in x 4 (Nat.le_refl _)) (keys_nodup x 4), both_keys x (by decide) (by decide) (keys_in x 4 (Nat.le_refl _)) (keys_nodup x 4)] at t
  rw [fI_is x (by decide) (by decide), fI_is x (by decide) (by decide)]
  unfold cX
  omega
theorem f_02 (x : Nat → Int) : fI x 0 2 + fI x 1 3 = ((cX x 3 + 2 * (cX x 0 + cX x 2) : Nat) : Int) := by
  have t := tot_02 x (keysTo x 4)
  rw [one_keys x (by decide), one_keys x (by decide), one_keys x (by decide), one_keys x (by decide), both_keys x (by decide) (by decide) (keys_in x 4 (Nat.le_refl _)) (keys_nodup x 4), both_keys x (by decide) (by decide) (keys_in x 4 (Nat.le_refl _)) (keys_nodup x 4)] at t
  rw [fI_is x (by decide) (by decide), fI_is x (by decide) (by decide)]
  unfold cX
  omega
theorem f_03 (x : Nat → Int) : fI x 0 3 + fI x 1 2 = ((cX x 3 + 2 * (cX x 0 + cX x 1) : Nat) : Int) := by
  have t := tot_03 x (keysTo x 4)
  rw [one_keys x (by decide), one_keys x (by decide), one_keys x (by decide), one_keys x (by decide), both_keys x (by decide) (by decide) (keys_in x 4 (Nat.le_refl _)) (keys_nodup x 4), both_keys x (by decide) (by decide) (keys_in x 4 (Nat.le_refl _)) (keys_nodup x 4)] at t
  rw [fI_is x (by decide) (by decide), fI_is x (by decide) (by decide)]
  unfold cX
  omega
theorem few_all (x : Nat → Int) : cX x 3 + 2 * (cX x 0 + cX x 1 + cX x 2) ≤ 20 := by
  have t := tot_low x (keysTo x 4)
  rw [one_keys x (by decide), one_keys x (by decide), one_keys x (by decide), one_keys x (by decide)] at t
  have h0 := few_p _ (full_in x (j := 0) (by decide))
  have h1 := few_p _ (full_in x (j := 1) (by decide))
  have h2 := few_p _ (full_in x (j := 2) (by decide))
  have h3 := few_p _ (full_in x (j := 3) (by decide))
  unfold cX
  omega
theorem clash : ∀ a b c d a' b' c' d' : Bool, kB a b c d < 3 → kB a' b' c' d' < 3 → kB a b c d ≠ kB a' b' c' d' →
    ((a && a') || (b && b') || (c && c') || (d && d')) = true ∧ ((!a || a') && (!b || b') && (!c || c') && (!d || d')) = false ∧ ((!a' || a) && (!b' || b) && (!c' || c) && (!d' || d)) = false := by decide +kernel
theorem bit_mono {x : Nat → Int} {p q : List Nat} (h : p <+: q) (i : Nat) : (!bitAt x q i || bitAt x p i) = true := by
  rw [bitAt_is, bitAt_is]
  cases hq : q.isPrefixOf (full x i) with
  | false => rfl
  | true =>
    have := List.isPrefixOf_iff_prefix.mp hq
    rw [List.isPrefixOf_iff_prefix.mpr (h.trans this)]; rfl
theorem no_two (x : Nat → Int) {p q : List Nat} (hp : kindP x p < 3) (hq : kindP x q < 3) (h : kindP x p ≠ kindP x q) : False := by
  rw [kind_is] at hp hq h
  rw [kind_is x q] at h
  obtain ⟨h1, h2, h3⟩ := clash _ _ _ _ _ _ _ _ hp hq h
  have key : ∀ i, (bitAt x p i && bitAt x q i) = true → p <+: q ∨ q <+: p := fun i hi => by
    rw [Bool.and_eq_true, bitAt_is, bitAt_is] at hi
    have a := List.isPrefixOf_iff_prefix.mp hi.1
    have b := List.isPrefixOf_iff_prefix.mp hi.2
    rcases Nat.le_total p.length q.length with l | l
    · exact .inl (List.prefix_of_prefix_length_le a b l)
    · exact .inr (List.prefix_of_prefix_length_le b a l)
  have hpq : p <+: q ∨ q <+: p := by
    simp only [Bool.or_eq_true] at h1
    rcases h1 with ((h1 | h1) | h1) | h1
    · exact key _ h1
    · exact key _ h1
    · exact key _ h1
    · exact key _ h1
  rcases hpq with g | g
  · rw [bit_mono g 0, bit_mono g 1, bit_mono g 2, bit_mono g 3] at h3; cases h3
  · rw [bit_mono g 0, bit_mono g 1, bit_mono g 2, bit_mono g 3] at h2; cases h2
theorem cnt_pos {x : Nat → Int} {ks : List (List Nat)} {k : Nat} (h : cntK x ks k ≠ 0) : ∃ p ∈ ks, kindP x p = k := by
  rw [cntK] at h
  obtain ⟨p, hp⟩ := List.exists_mem_of_length_pos (Nat.pos_of_ne_zero h)
  rw [List.mem_filter, beq_iff_eq] at hp
  exact ⟨p, hp⟩
theorem two_zero (x : Nat → Int) {j k : Nat} (hj : j < 3) (hk : k < 3) (h : j ≠ k) : cX x j = 0 ∨ cX x k = 0 := by
  by_cases a : cX x j = 0
  · exact .inl a
  by_cases b : cX x k = 0
  · exact .inr b
  obtain ⟨p, _, hp⟩ := cnt_pos a
  obtain ⟨q, _, hq⟩ := cnt_pos b
  exact (no_two x (p := p) (q := q) (by omega) (by omega) (by omega)).elim
end Mine
end
section
open PySem PySem.W PyProof.Rows
set_option maxRecDepth 100000
set_option maxHeartbeats 4000000
namespace Mine
theorem fresh_ZT : True := by w_top off; trivial
theorem few_cuts (x : Nat → Int) : ((List.range 3).filter fun i => cX x i != 0).length ≤ 1 := by
  have h1 := two_zero x (j := 0) (k := 1) (by decide) (by decide) (by decide)
  have h2 := two_zero x (j := 0) (k := 2) (by decide) (by decide) (by decide)
  have h3 := two_zero x (j := 1) (k := 2) (by decide) (by decide) (by decide)
  rw [show List.range 3 = [0, 1, 2] from rfl]
  simp only [List.filter_cons, List.filter_nil]
  rcases h1 with h1 | h1 <;> rcases h2 with h2 | h2 <;> rcases h3 with h3 | h3 <;> simp [*] <;> (try split) <;> simp
def fX (x : Nat → Int) : Nat → Nat := pick4f (cX x 3 + 2 * (cX x 1 + cX x 2)) (cX x 3 + 2 * (cX x 0 + cX x 2)) (cX x 3 + 2 * (cX x 0 + cX x 1)) 0
theorem all_ok (x : Nat → Int) : okB (cX x 0) (cX x 1) (cX x 2) (cX x 3) = true := by
  have hf := few_all x
  have h1 := two_zero x (j := 0) (k := 1) (by decide) (by decide) (by decide)
  have h2 := two_zero x (j := 0) (k := 2) (by decide) (by decide) (by decide)
  have h3 := two_zero x (j := 1) (k := 2) (by decide) (by decide) (by decide)
  by_cases a : cX x 0 = 0
  · rcases h3 with b | b
    · rw [a, b]; exact ok_2 _ (by omega) _ (by omega)
    · rw [a, b]; exact ok_1 _ (by omega) _ (by omega)
  · have b : cX x 1 = 0 := h1.resolve_left a
    have c : cX x 2 = 0 := h2.resolve_left a
    rw [b, c]; exact ok_0 _ (by omega) _ (by omega)
theorem fl_all (x : Nat → Int) : FlOK (yF (fX x 0 : Nat) (fX x 1 : Nat) (fX x 2 : Nat)) (due0 (cX x) (cX x 3)) ∧ FlOK (iF (fX x 0 : Nat) (fX x 1 : Nat) (fX x 2 : Nat)) (due1 (cX x)) ∧ FlOK (qF (fX x 0 : Nat) (fX x 1 : Nat) (fX x 2 : Nat)) (due2 (cX x)) := by
  have h := all_ok x
  unfold okB at h
  simp only [Bool.and_eq_true] at h
  exact ⟨flB_ok h.1.1, flB_ok h.1.2, flB_ok h.2⟩
theorem fX_few (x : Nat → Int) : ∀ i < 3, fX x i < 100 := by
  have hf := few_all x
  intro i hi
  match i, hi with
  | 0, _ => show cX x 3 + 2 * (cX x 1 + cX x 2) < 100; omega
  | 1, _ => show cX x 3 + 2 * (cX x 0 + cX x 2) < 100; omega
  | 2, _ => show cX x 3 + 2 * (cX x 0 + cX x 1) < 100; omega
theorem fX_is (x : Nat → Int) : fI x 0 1 + fI x 2 3 = (fX x 0 : Nat) ∧ fI x 0 2 + fI x 1 3 = (fX x 1 : Nat) ∧ fI x 0 3 + fI x 1 2 = (fX x 2 : Nat) := ⟨f_01 x, f_02 x, f_03 x⟩
theorem dN_is (x : Nat → Int) : dI x 0 1 + dI x 2 3 = (dN x 0 : Nat) ∧ dI x 0 2 + dI x 1 3 = (dN x 1 : Nat) ∧ dI x 0 3 + dI x 1 2 = (dN x 2 : Nat) := by
  have a1 := dI_nn x 0 1
  have a2 := dI_nn x 2 3
  have a3 := dI_nn x 0 2
  have a4 := dI_nn x 1 3
  have a5 := dI_nn x 0 3
  have a6 := dI_nn x 1 2
  refine ⟨?_, ?_, ?_⟩
  · show _ = (((dI x 0 1 + dI x 2 3).toNat : Nat) : Int); omega
  · show _ = (((dI x 0 2 + dI x 1 3).toNat : Nat) : Int); omega
  · show _ = (((dI x 0 3 + dI x 1 2).toNat : Nat) : Int); omega
theorem dN_few (x : Nat → Int) : ∀ i < 3, dN x i < 100 := by
  have a1 := dI_nn x 0 1
  have a2 := dI_nn x 2 3
  have a3 := dI_nn x 0 2
  have a4 := dI_nn x 1 3
  have a5 := dI_nn x 0 3
  have a6 := dI_nn x 1 2
  intro i hi
  match i, hi with
  | 0, _ => show (dI x 0 1 + dI x 2 3).toNat < 100; omega
  | 1, _ => show (dI x 0 2 + dI x 1 3).toNat < 100; omega
  | 2, _ => show (dI x 0 3 + dI x 1 2).toNat < 100; omega
theorem mail_same (x : Nat → Int) : mailB x (fun k => dN x k + privN x 4) = mailB x (fX x) := by
  have key : ∀ k < 3, dN x k + privN x 4 = fX x k := by
    obtain ⟨d0, d1, d2⟩ := dN_is x
    obtain ⟨f0, f1, f2⟩ := fX_is x
    rw [fd_is x (by decide) (by decide) (by decide), fd_is x (by decide) (by decide) (by decide)] at f0 f1 f2
    have hp := priv4 x
    intro k hk
    match k, hk with
    | 0, _ => omega
    | 1, _ => omega
    | 2, _ => omega
  rw [mailB, mailB, key 0 (by decide), key 1 (by decide), key 2 (by decide)]
end Mine
end
section
open PySem PySem.W PyProof.Rows
set_option maxRecDepth 100000
set_option maxHeartbeats 4000000
namespace Mine
theorem fresh_ZM : True := by w_top off; trivial
theorem re_a {α : Type} {a b c d e : α} {S : List α} {p : α} (h : p ∈ [a, c, d, e] ++ S) : p ∈ [a, b, c, d, e] ++ S := by grind
theorem re_b {α : Type} {a b c d e : α} {S : List α} {p : α} (h : p ∈ [a, b, c, d, e] ++ S) : p ∈ b :: ([a, c, d, e] ++ S) := by grind
theorem re_c {α : Type} {a b c d e f g : α} {S : List α} {p : α} (h : p ∈ [b, c, d, e, f]) : p ∈ f :: g :: ([a, b, c, d, e] ++ S) := by grind
theorem re_d {α : Type} {a b c d w t0 t1 t2 t3 hh : α} {p : α} (h : p ∈ [a, b, c, d] ++ [w, t0, t1, t2, t3, hh]) : p ∈ [w, t0, t1, t2, t3] ++ [a, b, c, d, hh] := by grind
theorem re_e {α : Type} {a b c d e : α} {S : List α} {p : α} (h : p ∈ a :: d :: ([e, b, c] ++ S)) : p ∈ e :: d :: ([b, a, c] ++ S) := by grind
theorem ne_of_data {h : Heap} {a b : Addr} {o o' : Obj} (e : h.get? a = some o) (e' : h.get? b = some o') (hd : o.data ≠ o'.data) : a ≠ b := by
  rintro rfl
  rw [e] at e'
  cases e'
  exact hd rfl
theorem nums4 (xs : List Int) : ∃ x : Nat → Int, nums xs = [x 0, x 1, x 2, x 3] := by
  have hl : (nums xs).length = 4 := by simp [nums]
  match h : nums xs, hl with
  | [a, b, c, d], _ => exact ⟨pick4f a b c d, rfl⟩
section
variable {prog : Program} {w : World} {A : Around} {s : Shared} {mg mb : Str → Option Value}
theorem law_end {h₀ : Heap} {L a Dd Df : Addr} {cd : Value} {m : Str → Option Value} {news : List (Addr × Obj)} {of : Obj} {x : Nat → Int} {nd : Nat} {d0 d1 d2 f0 f1 f2 : Tok} {Q : Flow → Shared → Prop} {n : Nat} (R : Room A (n + 3)) (G : Gd mg mb h₀)
    (F : Fr h₀ L s.heap m) (N : News h₀ L s.heap news) (md : m "due" = some (.ref Dd)) (hd : (Dd, lobj [.int (due0 (cX x) (cX x 3)) d0, .int (due1 (cX x)) d1, .int (due2 (cX x)) d2] nd) ∈ news)
    (mf : m "found" = some (.ref Df)) (hdf : (Df, of) ∈ news) (hof : ListO of [.int (fX x 0 : Nat) f0, .int (fX x 1 : Nat) f1, .int (fX x 2 : Nat) f2])
    (q : ∀ h tk m', Fr h₀ L h m' → Q (.ret (.bool true)) { s with heap := h, toks := tk }) :
    wpAny (model prog w) A (execs [st16 21] (lawE L a cd)) Q (fun _ _ => False) s := by
  have hu := R.units
  have hu9 : A.units + 65 < cLine := by omega
  have hod : ListO (lobj [.int (due0 (cX x) (cX x 3)) d0, .int (due1 (cX x)) d1, .int (due2 (cX x)) d2] nd) [.int (due0 (cX x) (cX x 3)) d0, .int (due1 (cX x)) d1, .int (due2 (cX x)) d2] := lobj_O _ _
  obtain ⟨k0, k1, k2⟩ := fl_all x
  have kf := fX_few x
  generalize due0 (cX x) (cX x 3) = e0 at k0 hod hd
  generalize due1 (cX x) = e1 at k1 hod hd
  generalize due2 (cX x) = e2 at k2 hod hd
  generalize fX x = f at k0 k1 k2 kf hof
  refine wpAny_execs_cons ?_
  exact ret_st R G F N md hd hod mf hdf hof kf k0 k1 k2 hu9 fun h tk e => q h tk _ (F.keeps e)
theorem law_body {h₀ : Heap} {L a ls : Addr} {cd : Value} {m : Str → Option Value} {o1 o2 o3 o4 o5 : Obj} {vs : List Value} {xs : List Int} {Q : Flow → Shared → Prop} {n : Nat} (R : Room A (n + 5)) (G : Gd mg mb h₀)
    (F : Fr h₀ L s.heap m) (N : News h₀ L s.heap [(L + 1, o1), (L + 2, o2), (L + 3, o3), (L + 4, o4), (L + 5, o5)]) (c1 : o1.data = .cell none) (c2 : o2.data = .cell none) (c3 : o3.data = .cell none) (c4 : o4.data = .cell none) (c5 : o5.data = .cell none)
    (hs : m "script" = some (.ref ls)) (hl : h₀.IsList ls vs.toArray) (hi : IntsAre vs xs) (hlen : vs.length < 100)
    (q : ∀ h tk m', Fr h₀ L h m' → Q (.ret (.bool true)) { s with heap := h, toks := tk }) :
    wpAny (model prog w) A (execs (bodyAt 16) (lawE L a cd)) Q (fun _ _ => False) s := by
  have hR := R.units
  show wpAny _ _ (execs [st16 0, st16 1, st16 2, st16 3, st16 4, st16 5, st16 6, st16 7, st16 8, st16 9, st16 10, st16 11, st16 12, st16 13, st16 14, st16 15, st16 16, st16 17, st16 18, st16 19, st16 20, st16 21] _) _ _ _
  obtain ⟨x, hx⟩ := nums4 xs
  refine wpAny_execs_cons (numbers_st R G F N hs hl hi hlen fun h tk Dn ys F1 N1 hDL l1 hD0 hi1 => ?_)
  rw [hx] at hi1
  obtain ⟨nn, l1⟩ := l1
  have N1' : News h₀ L h ((Dn, lobj ys nn) :: [(L + 2, o2), (L + 3, o3), (L + 4, o4), (L + 5, o5)]) := fun p hp => by
    rcases List.mem_cons.mp hp with rfl | hp
    · exact ⟨l1, hDL, hD0⟩
    · exact N1 p (.tail _ hp)
  have g1 := (N1 _ (.head _)).1
  dsimp only
  refine wpAny_execs_cons (rows_st (news := (Dn, lobj ys nn) :: [(L + 2, o2), (L + 3, o3), (L + 4, o4), (L + 5, o5)]) R G F1 N1' (if_pos rfl) ⟨nn, l1⟩ hi1 ⟨o1, g1, c1⟩ (fun p hp => ?_) fun h tk Dr nD T o its o1' F2 N2 hd1 hT => ?_)
  · rcases List.mem_cons.mp hp with rfl | hp
    · exact ne_of_data l1 g1 (by rw [c1]; intro e; cases e)
    · simp only [List.mem_cons, List.mem_nil_iff, or_false] at hp
      rcases hp with rfl | rfl | rfl | rfl <;> exact Nat.ne_of_gt (by omega)
  have S2 : ∀ p ∈ ([(Dr, lobj [.ref (T 0), .ref (T 1), .ref (T 2), .ref (T 3)] nD), (T 0, o 0), (T 1, o 1), (T 2, o 2), (T 3, o 3), (Dn, lobj ys nn)] : List (Addr × Obj)), ∃ its, ListO p.2 its := by
    intro p hp
    simp only [List.mem_cons, List.mem_nil_iff, or_false] at hp
    rcases hp with rfl | rfl | rfl | rfl | rfl | rfl
    · exact ⟨_, lobj_O _ _⟩
    · exact ⟨_, (hT 0 (by decide)).1⟩
    · exact ⟨_, (hT 1 (by decide)).1⟩
    · exact ⟨_, (hT 2 (by decide)).1⟩
    · exact ⟨_, (hT 3 (by decide)).1⟩
    · exact ⟨_, lobj_O _ _⟩
  generalize hS : ([(Dr, lobj [.ref (T 0), .ref (T 1), .ref (T 2), .ref (T 3)] nD), (T 0, o 0), (T 1, o 1), (T 2, o 2), (T 3, o 3), (Dn, lobj ys nn)] : List (Addr × Obj)) = S at S2
  have mDr : (Dr, lobj [.ref (T 0), .ref (T 1), .ref (T 2), .ref (T 3)] nD) ∈ S := by rw [← hS]; exact .head _
  have mT : ∀ i < 4, (T i, o i) ∈ S := by
    intro i hi
    rw [← hS]
    match i, hi with
    | 0, _ => exact .tail _ (.head _)
    | 1, _ => exact .tail _ (.tail _ (.head _))
    | 2, _ => exact .tail _ (.tail _ (.tail _ (.head _)))
    | 3, _ => exact .tail _ (.tail _ (.tail _ (.tail _ (.head _))))
  have mDn : (Dn, lobj ys nn) ∈ S := by rw [← hS]; exact .tail _ (.tail _ (.tail _ (.tail _ (.tail _ (.head _)))))
  have N2' : News h₀ L h ([(L + 1, o1'), (L + 2, o2), (L + 3, o3), (L + 4, o4), (L + 5, o5)] ++ S) := fun p hp => by
    refine N2 p ?_
    rw [← hS] at hp
    simp only [List.mem_cons, List.mem_append, List.mem_nil_iff, or_false] at hp ⊢
    rcases hp with (h | h | h | h | h) | h | h | h | h | h | h <;> simp [h]
  clear N2 N1 N1' hS
  have R3 : Room A (n + 1) := R.less (by omega)
  have cell_ne : ∀ (h : Heap) (news : List (Addr × Obj)) (c : Addr) (oc : Obj) (v : Option Value), News h₀ L h news → (c, oc) ∈ news → oc.data = .cell v → (∀ p ∈ S, p ∈ news) → ∀ p ∈ S, p.1 ≠ c := by
    intro h news c oc v N hc hd hsub p hp
    obtain ⟨its, hO⟩ := S2 p hp
    exact list_ne_cell hO (N p (hsub p hp)).1 hd (N _ hc).1
  have N3 : News h₀ L h ([(L + 1, o1'), (L + 3, o3), (L + 4, o4), (L + 5, o5)] ++ S) := fun p hp => N2' p (re_a hp)
  refine wpAny_execs_cons (close_st R3 G F2 N3 (if_pos rfl) (List.mem_append_right _ mDn) hi1 ⟨o2, (N2' (L + 2, o2) (by simp)).1, c2⟩ (fun p hp => ?_) fun h4 tk4 o2' tb F4 N4 hd2 => ?_)
  · rcases List.mem_append.mp hp with hp | hp
    · simp only [List.mem_cons, List.mem_nil_iff, or_false] at hp
      rcases hp with rfl | rfl | rfl | rfl
      · exact Nat.ne_of_lt (by omega)
      all_goals exact Nat.ne_of_gt (by omega)
    · exact cell_ne h _ (L + 2) o2 _ N2' (by simp) c2 (fun p hp => List.mem_append_right _ hp) p hp
  have R4 : Room A (n + 3) := R.less (by omega)
  have N4' : News h₀ L h4 ([(L + 1, o1'), (L + 2, o2'), (L + 3, o3), (L + 4, o4), (L + 5, o5)] ++ S) := fun p hp => N4 p (re_b hp)
  clear N4 N3 N2'
  refine wpAny_execs_cons (drawn_st (x := x) (T := T) (its := its) R4 G F4 N4' ⟨o1', (N4' (L + 1, o1') (by simp)).1, hd1⟩ ((lobj_O _ _).isList (N4' _ (List.mem_append_right _ mDr)).1) (fun i hi => ⟨(hT i hi).1.isList (N4' _ (List.mem_append_right _ (mT i hi))).1, (hT i hi).2⟩) fun h5 tk5 Dd od u0 u1 u2 F5 N5 hod => ?_)
  rw [(dN_is x).1, (dN_is x).2.1, (dN_is x).2.2] at hod
  refine wpAny_execs_cons (mail_st (v := dN x) (x := x) R4 G F5 N5 (if_pos rfl) (hod.isList (N5 _ (.head _)).1) (dN_few x) ⟨o2', (N5 (L + 2, o2') (by simp)).1, hd2⟩ fun h6 tk6 tm F6 N6 => ?_)
  refine wpAny_execs_cons (hosts_st F6 N6 fun h7 tk7 Dh nh F7 N7 hne7 => ?_)
  refine wpAny_execs_cons (loop_st (S := (Dd, od) :: ([(L + 1, o1'), (L + 2, o2'), (L + 3, o3), (L + 4, o4), (L + 5, o5)] ++ S)) (x := x) (v := dN x) (T := T) (o := o) (its := its) R4 G F7 N7 hne7 (if_pos rfl) ((if_neg (by decide)).trans ((if_neg (by decide)).trans ((if_neg (by decide)).trans (if_pos rfl)))) ((if_neg (by decide)).trans (if_pos rfl)) (dN_few x)
    (.tail _ (List.mem_append_right _ mDn)) hi1 (.tail _ (.head _)) hd1 (.tail _ (List.mem_append_right _ mDr)) (fun i hi => ⟨.tail _ (List.mem_append_right _ (mT i hi)), hT i hi⟩) fun h8 tk8 m8 hv8 nh8 tm8 F8 N8 hh8 mh8 mm8 => ?_)
  rw [mail_same] at mm8
  have N9 : News h₀ L h8 [(L + 2, o2'), (L + 3, o3), (L + 4, o4), (L + 5, o5), (Dh, lobj hv8 nh8)] := fun p hp => N8 p (re_c hp)
  clear N8 N7 N6 N5 N4' F7 F6 F5 F4 F2 F1 S2 mDr mT mDn cell_ne hT l1 hod hne7
  refine wpAny_execs_cons (ways_st (x := x) R G F8 N9 mh8 ((lobj_O _ _).isList (N9 (Dh, lobj hv8 nh8) (by simp)).1) hh8 fun h10 tk10 Dw nW T o its F10 N10 hW10 => ?_)
  have S3 : ∀ p ∈ ([(Dw, lobj [.ref (T 0), .ref (T 1), .ref (T 2), .ref (T 3)] nW), (T 0, o 0), (T 1, o 1), (T 2, o 2), (T 3, o 3), (Dh, lobj hv8 nh8)] : List (Addr × Obj)), ∃ its, ListO p.2 its := by
    intro p hp
    simp only [List.mem_cons, List.mem_nil_iff, or_false] at hp
    rcases hp with rfl | rfl | rfl | rfl | rfl | rfl
    · exact ⟨_, lobj_O _ _⟩
    · exact ⟨_, (hW10 0 (by decide)).1⟩
    · exact ⟨_, (hW10 1 (by decide)).1⟩
    · exact ⟨_, (hW10 2 (by decide)).1⟩
    · exact ⟨_, (hW10 3 (by decide)).1⟩
    · exact ⟨_, lobj_O _ _⟩
  generalize hS : ([(Dw, lobj [.ref (T 0), .ref (T 1), .ref (T 2), .ref (T 3)] nW), (T 0, o 0), (T 1, o 1), (T 2, o 2), (T 3, o 3), (Dh, lobj hv8 nh8)] : List (Addr × Obj)) = S at S3
  have mDw : (Dw, lobj [.ref (T 0), .ref (T 1), .ref (T 2), .ref (T 3)] nW) ∈ S := by rw [← hS]; exact .head _
  have mT : ∀ i < 4, (T i, o i) ∈ S := by
    intro i hi
    rw [← hS]
    match i, hi with
    | 0, _ => exact .tail _ (.head _)
    | 1, _ => exact .tail _ (.tail _ (.head _))
    | 2, _ => exact .tail _ (.tail _ (.tail _ (.head _)))
    | 3, _ => exact .tail _ (.tail _ (.tail _ (.tail _ (.head _))))
  have mDh : (Dh, lobj hv8 nh8) ∈ S := by rw [← hS]; exact .tail _ (.tail _ (.tail _ (.tail _ (.tail _ (.head _)))))
  have N11 : News h₀ L h10 ([(L + 2, o2'), (L + 3, o3), (L + 4, o4), (L + 5, o5)] ++ S) := fun p hp => N10 p (by rw [← hS] at hp; exact re_d hp)
  clear N10 N9 hS
  have cell_ne : ∀ (h : Heap) (news : List (Addr × Obj)) (c : Addr) (oc : Obj) (v : Option Value), News h₀ L h news → (c, oc) ∈ news → oc.data = .cell v → (∀ p ∈ S, p ∈ news) → ∀ p ∈ S, p.1 ≠ c := by
    intro h news c oc v N hc hd hsub p hp
    obtain ⟨its, hO⟩ := S3 p hp
    exact list_ne_cell hO (N p (hsub p hp)).1 hd (N _ hc).1
  have N12 : News h₀ L h10 ([(L + 2, o2'), (L + 4, o4), (L + 5, o5)] ++ S) := fun p hp => N11 p (by
    rcases List.mem_append.mp hp with hp | hp
    · simp only [List.mem_cons, List.mem_nil_iff, or_false] at hp
      rcases hp with rfl | rfl | rfl <;> simp
    · exact List.mem_append_right _ hp)
  refine wpAny_execs_cons (under_st G F10 N12 ⟨o3, (N11 (L + 3, o3) (by simp)).1, c3⟩ (fun p hp => ?_) fun h13 tk13 Du od o3' F13 N13 hd3 hdo hsm hneu => ?_)
  · rcases List.mem_append.mp hp with hp | hp
    · simp only [List.mem_cons, List.mem_nil_iff, or_false] at hp
      rcases hp with rfl | rfl | rfl
      · exact Nat.ne_of_lt (by omega)
      all_goals exact Nat.ne_of_gt (by omega)
    · exact cell_ne h10 _ (L + 3) o3 _ N11 (by simp) c3 (fun p hp => List.mem_append_right _ hp) p hp
  have N14 : News h₀ L h13 ((L + 4, o4) :: (Du, od) :: ([(L + 3, o3'), (L + 2, o2'), (L + 5, o5)] ++ S)) := fun p hp => N13 p (re_e hp)
  have hu3 : (L + 3 : Addr) ≠ Du := by
    obtain ⟨_, es, ep, hdd, _⟩ := hdo
    exact ne_of_data (N13 _ (.head _)).1 (N13 _ (.tail _ (.head _))).1 (by rw [hd3, hdd]; intro e; cases e)
  refine wpAny_execs_cons (dict_st (x := x) (T := T) (o := o) (its := its) (S := [(L + 3, o3'), (L + 2, o2'), (L + 5, o5)] ++ S) R G F13 N14 c4 hdo hsm (if_pos rfl) (List.mem_append_right _ mDw) (fun i hi => ⟨List.mem_append_right _ (mT i hi), hW10 i hi⟩) (.head _) hd3 ((if_neg (by decide)).trans mh8) (List.mem_append_right _ mDh) (lobj_O _ _) hh8 (fun p hp => ?_) (fun p hp => ?_) fun h15 tk15 m15 od15 kvs ls15 oc15 v15 F15 N15 hc15 hd15 K15 hm15 hap15 hne15 => ?_)
  · rcases List.mem_append.mp hp with hp | hp
    · simp only [List.mem_cons, List.mem_nil_iff, or_false] at hp
      rcases hp with rfl | rfl | rfl
      · exact hu3
      · exact hneu (L + 2, o2') (by simp)
      · exact hneu (L + 5, o5) (by simp)
    · exact hneu p (List.mem_append_right _ hp)
  · rcases List.mem_cons.mp hp with rfl | hp
    · exact Ne.symm (hneu (L + 4, o4) (by simp))
    rcases List.mem_append.mp hp with hp | hp
    · simp only [List.mem_cons, List.mem_nil_iff, or_false] at hp
      rcases hp with rfl | rfl | rfl
      · exact Nat.ne_of_lt (by omega)
      · exact Nat.ne_of_lt (by omega)
      · exact Nat.ne_of_gt (by omega)
    · exact cell_ne h13 _ (L + 4) o4 _ N14 (.head _) c4 (fun p hp => .tail _ (.tail _ (List.mem_append_right _ hp))) p hp
  have mu3 : ∀ {ls : List (Addr × Obj)}, ((L + 3, o3') : Addr × Obj) ∈ ls ++ ([(L + 3, o3'), (L + 2, o2'), (L + 5, o5)] ++ S) := fun {ls} => List.mem_append_right _ (.head _)
  have ne5 : ∀ p ∈ (L + 4, oc15) :: (Du, od15) :: (ls15 ++ ([(L + 3, o3'), (L + 2, o2')] ++ S)), p.1 ≠ L + 5 := by
    intro p hp
    rcases List.mem_cons.mp hp with rfl | hp
    · exact Nat.ne_of_lt (by omega)
    rcases List.mem_cons.mp hp with rfl | hp
    · exact Ne.symm (hneu (L + 5, o5) (by simp))
    rcases List.mem_append.mp hp with hp | hp
    · exact hap15 p hp (L + 5, o5) (by simp)
    rcases List.mem_append.mp hp with hp | hp
    · simp only [List.mem_cons, List.mem_nil_iff, or_false] at hp
      rcases hp with rfl | rfl
      · exact Nat.ne_of_lt (by omega)
      · exact Nat.ne_of_lt (by omega)
    · exact cell_ne h13 _ (L + 5) o5 _ N14 (by simp) c5 (fun p hp => .tail _ (.tail _ (List.mem_append_right _ hp))) p hp
  have N16 : News h₀ L h15 ((L + 4, oc15) :: (Du, od15) :: (ls15 ++ ([(L + 3, o3'), (L + 2, o2')] ++ S))) := fun p hp => by
    refine N15 p ?_
    simp only [List.mem_cons, List.mem_append, List.mem_nil_iff, or_false] at hp ⊢
    rcases hp with h | h | h | (h | h) | h <;> simp [h]
  have G15 := N15 (L + 5, o5) (by simp)
  have Gu15 := N15 (Du, od15) (by simp)
  have hU15 := und_of hsm Gu15.1 hd15 K15 N15 (fun p hp => .tail _ (.tail _ (List.mem_append_left _ hp)))
  have mways : m15 "ways" = some (.ref Dw) := (hm15 _ (by decide)).trans (if_pos rfl)
  have mmail : m15 "mail" = some (.bytes (mailB x (fX x)) tm8) := (hm15 _ (by decide)).trans ((if_neg (by decide)).trans mm8)
  refine wpAny_execs_cons (steps_st (x := x) (T := T) (its := its) R G F15 N16 mways ((lobj_O _ _).isList (N15 _ (.tail _ (.tail _ (List.mem_append_right _ (List.mem_append_right _ mDw))))).1) (fun i hi => ⟨(hW10 i hi).1.isList (N15 _ (.tail _ (.tail _ (List.mem_append_right _ (List.mem_append_right _ (mT i hi)))))).1, (hW10 i hi).2⟩) ⟨o3', (N15 (L + 3, o3') (by simp)).1, hd3⟩ hU15 (keys_in x 4 (Nat.le_refl _)) ⟨o5, G15.1, c5⟩ ne5 fun h16 tk16 Ds nS T' o' tt o5' F16 N17 hd5 hs16 => ?_)
  refine wpAny_execs_cons (found_st (x := x) (T := T') (t := tt) R4 G F16 N17 ⟨o5', (N17 (L + 5, o5') (by simp)).1, hd5⟩ ((lobj_O _ _).isList (N17 (Ds, lobj [.ref (T' 0), .ref (T' 1), .ref (T' 2), .ref (T' 3)] nS) (by simp)).1) (fun i hi => (hs16 i hi).isList (N17 (T' i, o' i) (by
    match i, hi with
    | 0, _ => simp
    | 1, _ => simp
    | 2, _ => simp
    | 3, _ => simp)).1) fun h17 tk17 Df of f0 f1 f2 F17 N18 hof => ?_)
  rw [(fX_is x).1, (fX_is x).2.1, (fX_is x).2.2] at hof
  refine wpAny_execs_cons (cmp_st (x := x) (v := fX x) R4 G F17 N18 (if_pos rfl) (hof.isList (N18 _ (.head _)).1) (fX_few x) ⟨o2', (N18 (L + 2, o2') (by simp)).1, hd2⟩ ((if_neg (by decide)).trans mmail) fun h18 tk18 F18 N19 => ?_)
  refine wpAny_execs_cons (cuts_st F18 N19 fun h19 tk19 Dc nc z0 z1 z2 F19 N20 hcne => ?_)
  refine wpAny_execs_cons (alone_st F19 N20 fun h20 tk20 za F20 N21 => ?_)
  have sub : ∀ p ∈ (Df, of) :: (Du, od15) :: (L + 3, o3') :: ls15, p ∈ (Df, of) :: (L + 5, o5') :: ([(Ds, lobj [.ref (T' 0), .ref (T' 1), .ref (T' 2), .ref (T' 3)] nS), (T' 0, o' 0), (T' 1, o' 1), (T' 2, o' 2), (T' 3, o' 3)] ++ ((L + 4, oc15) :: (Du, od15) :: (ls15 ++ ([(L + 3, o3'), (L + 2, o2')] ++ S)))) := by
    intro p hp
    simp only [List.mem_cons, List.mem_append, List.mem_nil_iff, or_false] at hp ⊢
    rcases hp with h | h | h | h <;> simp [h]
  have N22 : News h₀ L h20 ((L + 4, oc15) :: (Dc, lobj [.int 0 z0, .int 0 z1, .int 0 z2] nc) :: (Df, of) :: (Du, od15) :: (L + 3, o3') :: ls15) := fun p hp => by
    rcases List.mem_cons.mp hp with rfl | hp
    · exact N21 (L + 4, oc15) (by simp)
    rcases List.mem_cons.mp hp with rfl | hp
    · exact N21 _ (.head _)
    · exact N21 _ (.tail _ (sub p hp))
  have neDc : ∀ p ∈ (Df, of) :: (Du, od15) :: (L + 3, o3') :: ls15, p.1 ≠ Dc := fun p hp => hcne p (sub p hp)
  have ne4 : ∀ p ∈ (Dc, lobj [.int 0 z0, .int 0 z1, .int 0 z2] nc) :: (Df, of) :: (Du, od15) :: (L + 3, o3') :: ls15, p.1 ≠ L + 4 := by
    intro p hp
    rcases List.mem_cons.mp hp with rfl | hp
    · exact Ne.symm (hcne (L + 4, oc15) (by simp))
    rcases List.mem_cons.mp hp with rfl | hp
    · exact list_ne_cell hof (N22 (Df, of) (by simp)).1 hc15 (N22 _ (.head _)).1
    refine hne15 p ?_
    simp only [List.mem_cons, List.mem_append, List.mem_nil_iff, or_false] at hp ⊢
    rcases hp with h | h | h <;> simp [h]
  clear N21 N20 N19 N18 N17 N16 N15 N14 N13 N12 N11 F19 F18 F17 F16 F15 F13 F10 F8 sub hcne hne15 hap15 ne5 S3 cell_ne
  refine wpAny_execs_cons (tally_st (x := x) (ks := keysTo x 4) (S := (Df, of) :: (Du, od15) :: (L + 3, o3') :: ls15) R G F20 N22 hc15 hd15 K15 hsm (.tail _ (.head _)) (fun p hp => .tail _ (.tail _ (.tail _ hp))) (.tail _ (.tail _ (.head _))) hd3 ne4 neDc ((if_neg (by decide)).trans (if_pos rfl)) (if_pos rfl) (lobj_O _ _) fun h21 tk21 m21 oc21 y0 y1 y2 ya F21 N23 hoc21 ma21 hm21 => ?_)
  have mc21 : m21 "cuts" = some (.ref Dc) := (hm21 _ (by decide) (by decide)).trans ((if_neg (by decide)).trans (if_pos rfl))
  have mf21 : m21 "found" = some (.ref Df) := (hm21 _ (by decide) (by decide)).trans ((if_neg (by decide)).trans ((if_neg (by decide)).trans (if_pos rfl)))
  refine wpAny_execs_cons (many_st (c := cX x) R4 G F21 N23 mc21 (hoc21.isList (N23 _ (.head _)).1) (few_cuts x) fun h22 tk22 F22 N24 => ?_)
  refine wpAny_execs_cons (unpack_st (c := cX x) R4 F22 N24 mc21 (hoc21.isList (N24 _ (.head _)).1) fun h23 tk23 F23 N25 => ?_)
  refine wpAny_execs_cons (due_st (c := cX x) (al := cX x 3) R4 G F23 N25 ((if_neg (by decide)).trans ((if_neg (by decide)).trans ((if_neg (by decide)).trans mc21))) (.head _) hoc21 ((if_neg (by decide)).trans ((if_neg (by decide)).trans (if_pos rfl))) ((if_neg (by decide)).trans (if_pos rfl)) (if_pos rfl) ((if_neg (by decide)).trans ((if_neg (by decide)).trans ((if_neg (by decide)).trans ma21))) fun h24 tk24 Dd nd d0 F24 N26 hdne => ?_)
  refine wpAny_execs_cons (app1_st (c := cX x) F24 N26 (if_pos rfl) (by simp) hdne ((if_neg (by decide)).trans ((if_neg (by decide)).trans ((if_neg (by decide)).trans (if_pos rfl)))) ((if_neg (by decide)).trans ((if_neg (by decide)).trans (if_pos rfl))) ((if_neg (by decide)).trans (if_pos rfl)) fun h25 tk25 nd1 d1 F25 N27 => ?_)
  refine wpAny_execs_cons (app2_st (c := cX x) F25 N27 (if_pos rfl) (by simp) hdne ((if_neg (by decide)).trans ((if_neg (by decide)).trans ((if_neg (by decide)).trans (if_pos rfl)))) ((if_neg (by decide)).trans ((if_neg (by decide)).trans (if_pos rfl))) ((if_neg (by decide)).trans (if_pos rfl)) fun h26 tk26 nd2 d2 F26 N28 => ?_)
  exact law_end (nd := nd2) R4 G F26 N28 (if_pos rfl) (.head _) ((if_neg (by decide)).trans ((if_neg (by decide)).trans ((if_neg (by decide)).trans ((if_neg (by decide)).trans mf21)))) (.tail _ (.tail _ (.head _))) hof q
end
end Mine
end
section
open PySem PySem.W PyProof.Rows
set_option maxRecDepth 100000
namespace Mine
theorem fresh_ZG : True := by w_top off; trivial
def quad (d : DefRec) : Str × Arguments × List Stmt × Scope := (d.name, d.params, d.body, d.scope)
def quadAt (k : Nat) : Str × Arguments × List Stmt × Scope := (nameAt k, parsAt k, bodyAt k, scopeAt k)
theorem bi_names : ∀ x ∈ (["list", "range", "len", "sum", "zip", "round"] : List Str), x ≠ ("__name__" : Str) := by decide
theorem gd_of {p : Program} {loose : List Str} {mean : ExcName → Option Value} {mg mb : Str → Option Value} {h : Heap} (T : Top p loose mean mg mb h) (X : Flt.MathXP p mg h)
    (hf : (recsOf p).map quad = [2, 5, 6, 7, 10, 12, 13, 14, 15, 16].map quadAt) (hp : Flt.patsOf p = [Mine.patA, Mine.patB])
    (hb : ∀ x ∈ (["list", "range", "len", "sum", "zip", "round"] : List Str), x ∉ startupNames ∧ x ∉ loose ∧ x ∉ (recsOf p).map (·.name) ∧ x ∉ (litsOf p).map (·.1) ∧ x ∉ (clssOf p loose).map (·.name)) : Gd mg mb h where
  g := T.g
  b := T.b
  lim := T.nolimit
  fn := fun k hk => by
    have h1 : quadAt k ∈ (recsOf p).map quad := by
      rw [hf]
      refine List.mem_map_of_mem ?_
      simp only [List.mem_cons, List.mem_nil_iff, or_false] at hk ⊢
      omega
    obtain ⟨d, hd, e⟩ := List.mem_map.mp h1
    obtain ⟨e1, e2⟩ := Prod.mk.inj e
    obtain ⟨e2, e3⟩ := Prod.mk.inj e2
    obtain ⟨e3, e4⟩ := Prod.mk.inj e3
    obtain ⟨a, o, pm, code, doc, z1, z2, z3, z4⟩ := T.fn d hd
    rw [e1, e2, e3, e4] at z3
    rw [e1] at z1 z4
    exact ⟨a, o, pm, code, doc, z1, z2, z3, z4⟩
  bi := fun x hx => by
    obtain ⟨b1, b2, b3, b4, b5⟩ := hb x hx
    exact ⟨T.free x b1 b2 b3 b4 b5, T.builtins x (bi_names x hx)⟩
  patA := by
    obtain ⟨a, e, z⟩ := X.pats Mine.patA (by rw [hp]; exact .head _)
    exact ⟨a, e, z⟩
  patB := by
    obtain ⟨a, e, z⟩ := X.pats Mine.patB (by rw [hp]; exact .tail _ (.head _))
    exact ⟨a, e, z⟩
end Mine
end
open PySem PySem.W PyProof.Rows
namespace Mine
theorem room_law {env : Env} : Room (callerA.deeper env) (0 + 5) := ⟨rfl, by show callerA.depth + 1 + (0 + 5) < recursionLimit; decide, by show callerA.units + _ + 100 * (0 + 5) < cLine; decide⟩
end Mine
open Mine
set_option maxRecDepth 100000 in
set_option maxHeartbeats 8000000 in
theorem PySem.Challenge.cw_xg0024_01_holds : PySem.Challenge.rw_xg0024_01.Holds := by
  w_on; o_law; k_head; (case hw => w_witness2); w_strict (
    k_go0; (all_goals try k_fold)
    (rename Top _ _ _ _ _ _ => T')
    (rename Flt.MathXP _ _ _ => X')
    (rename Fr _ _ _ _ => F')
    (rename News _ _ _ _ => N')
    (rename Heap.IsList _ _ _ => hL')
    (rename IntsAre _ _ => hI')
    (have G' := gd_of T' X' (by kernel_rfl) (by kernel_rfl) (by decide +kernel))
    (have hlen' := hI'.length)
    (have N2' := fun p hp => N' p (List.mem_reverse.mp hp))
    (simp only [List.reverse_cons, List.reverse_nil, List.nil_append, List.cons_append] at N2')
    (refine wpAny_mono (law_body (n := 0) room_law G' F' N2' ?_ ?_ ?_ ?_ ?_ ?_ hL' hI' ?_ fun h tk m' F9 => ?_) (fun _ _ h => h) (fun _ _ e => e.elim))
    iterate 5 (focus ((refine Eq.trans (by assumption) ?_); rfl))
    (focus rfl)
    (focus omega)
    k_unfold
    dsimp only
    (k_end; wrow_close))

import PyProof.Rows.All
import Wide.All
import OpenK.AllK
import Wide.FinOn
import Lean
import PySem.Challenge.RW_bw0031_01
open PySem PySem.W PyProof.Rows PySem.Calls PySem.Spec
set_option Elab.async false
set_option rowWalk.seconds 0
set_option maxRecDepth 100000 in
set_option maxHeartbeats 8000000 in
open_top hd for PySem.Challenge.rw_bw0031_01
set_option maxRecDepth 100000
namespace Mine

abbrev Led := List (Addr × Obj)

def tup4 (s m e b : Int) (t1 t2 t3 t4 : Tok) (c : Nat) : Obj := { cls := .type "tuple", data := .seq #[.int s t1, .int m t2, .int e t3, .int b t4] c }

/-- the object at `a` is a tuple of these four ints: it stands in the top or in the ledger -/
def TupA (K : Frag) (news : Led) (a : Addr) (s m e b : Int) : Prop :=
  ∃ t1 t2 t3 t4 c, K.lookup a = some (tup4 s m e b t1 t2 t3 t4 c) ∨ (a, tup4 s m e b t1 t2 t3 t4 c) ∈ news

theorem TupA.isTup {K : Frag} {news : Led} {a L : Addr} {s m e b : Int} {h₀ h : Heap} {mm : Str → Option Value}
    (T : TupA K news a s m e b) (F : Fr h₀ L h mm) (X : K.In h₀) (N : News h₀ L h news) :
    ∃ t1 t2 t3 t4, IsTup h a #[.int s t1, .int m t2, .int e t3, .int b t4] := by
  obtain ⟨t1, t2, t3, t4, c, hk | hk⟩ := T
  · exact ⟨t1, t2, t3, t4, _, F.keep _ _ (X _ _ hk), rfl, _, rfl⟩
  · exact ⟨t1, t2, t3, t4, _, (N _ hk).1, rfl, _, rfl⟩

theorem TupA.cons {K : Frag} {news : Led} {p : Addr × Obj} {a : Addr} {s m e b : Int} (T : TupA K news a s m e b) : TupA K (p :: news) a s m e b := by
  obtain ⟨t1, t2, t3, t4, c, hk | hk⟩ := T
  · exact ⟨t1, t2, t3, t4, c, .inl hk⟩
  · exact ⟨t1, t2, t3, t4, c, .inr (.tail _ hk)⟩
theorem TupA.sub {K : Frag} {news news' : Led} {a : Addr} {s m e b : Int} (T : TupA K news a s m e b) (h : ∀ p ∈ news, p ∈ news') : TupA K news' a s m e b := by
  obtain ⟨t1, t2, t3, t4, c, hk | hk⟩ := T
  · exact ⟨t1, t2, t3, t4, c, .inl hk⟩
  · exact ⟨t1, t2, t3, t4, c, .inr (h _ hk)⟩
theorem TupA.new {K : Frag} {news : Led} {a : Addr} {s m e b : Int} {t1 t2 t3 t4 : Tok} {c : Nat} (h : (a, tup4 s m e b t1 t2 t3 t4 c) ∈ news) : TupA K news a s m e b :=
  ⟨t1, t2, t3, t4, c, .inr h⟩
theorem TupA.top {K : Frag} {news : Led} {a : Addr} {s m e b : Int} {t1 t2 t3 t4 : Tok} {c : Nat} (h : K.lookup a = some (tup4 s m e b t1 t2 t3 t4 c)) : TupA K news a s m e b :=
  ⟨t1, t2, t3, t4, c, .inl h⟩

theorem TupA.reads {K : Frag} {news : Led} {a L : Addr} {s m e b : Int} {h₀ h : Heap} {mm : Str → Option Value}
    (T : TupA K news a s m e b) (F : Fr h₀ L h mm) (X : K.In h₀) (N : News h₀ L h news) :
    Reads h (.ref a) (.tuple [.int s, .int m, .int e, .int b]) [] := by
  obtain ⟨t1, t2, t3, t4, o, ho, hc, n, hd⟩ := T.isTup F X N
  exact reads_tuple_at ho hc hd (.cons (.int _ _) (.cons (.int _ _) (.cons (.int _ _) (.cons (.int _ _) .nil))))

section
variable {w : World} {A : Around} {E : Value → Shared → Prop} {st : Shared} {env : Env} {h₀ : Heap} {L : Addr} {mm : Str → Option Value} {news : Led} {K : Frag} {prog : Program}

theorem unpack4 {elts : List Expr} {k : Nat} {pos : Pos} {a : Addr} {s m e b : Int} {Q : Unit → Shared → Prop}
    (F : Fr h₀ L st.heap mm) (N : News h₀ L st.heap news) (X : K.In h₀) (T : TupA K news a s m e b)
    (hh : A.handled = none) (hn : (assignEach elts env).length = 4) (hstar : (assignEach elts env).findIdx? (·.1) = none)
    (h : ∀ t1 t2 t3 t4 h', Fr h₀ L h' mm → News h₀ L h' news →
      wpAny (model prog w) A (assignInOrder ((assignEach elts env).map (·.2)) [.int s t1, .int m t2, .int e t3, .int b t4]) Q E { st with heap := h' }) :
    wpAny (model prog w) A (assign (.Tuple elts k pos) env (.ref a)) Q E st := by
  obtain ⟨t1, t2, t3, t4, hT⟩ := T.isTup F X N
  exact unpackN_ F N hT hh hn hstar fun h' F' N' => h t1 t2 t3 t4 h' F' N'

def e4 (s m e b s' m' e' b' : Int) : Bool := decide (s = s' ∧ m = m' ∧ e = e' ∧ b = b')
theorem of_e4 {s m e b s' m' e' b' : Int} (h : e4 s m e b s' m' e' b' = true) : s = s' ∧ m = m' ∧ e = e' ∧ b = b' := of_decide_eq_true h
theorem not_e4 {s m e b s' m' e' b' : Int} (h : e4 s m e b s' m' e' b' = false) : ¬(s = s' ∧ m = m' ∧ e = e' ∧ b = b') := of_decide_eq_false h
theorem eqv4 {s m e b s' m' e' b' : Int} : PyData.eqv (.tuple [.int s, .int m, .int e, .int b]) (.tuple [.int s', .int m', .int e', .int b']) = e4 s m e b s' m' e' b' := by
  unfold e4
  simp [PyData.eqv, PyData.eqvAll, Bool.decide_and]; rfl
theorem shaped4 {s m e b : Int} : PySem.SeqAt.shaped (.tuple [.int s, .int m, .int e, .int b]) = true := by
  simp [PySem.SeqAt.shaped, PyData.canLay0, PyData.canLayAll0, PyData.depth, PyData.depthAll]

theorem eq4 {a a' : Addr} {s m e b s' m' e' b' : Int} {Q : Value → Shared → Prop}
    (F : Fr h₀ L st.heap mm) (N : News h₀ L st.heap news) (X : K.In h₀) (T : TupA K news a s m e b) (T' : TupA K news a' s' m' e' b') (hu : A.units + 64 < cLine)
    (h : Q (.bool (e4 s m e b s' m' e' b')) st) : wpAny (model prog w) A (compareOp .Eq (.ref a) (.ref a')) Q E st :=
  eq_dataH (T.reads F X N) (T'.reads F X N) shaped4 shaped4 hu (by rw [eqv4]; exact h)
theorem ne4 {a a' : Addr} {s m e b s' m' e' b' : Int} {Q : Value → Shared → Prop}
    (F : Fr h₀ L st.heap mm) (N : News h₀ L st.heap news) (X : K.In h₀) (T : TupA K news a s m e b) (T' : TupA K news a' s' m' e' b') (hu : A.units + 64 < cLine)
    (h : Q (.bool (!e4 s m e b s' m' e' b')) st) : wpAny (model prog w) A (compareOp .NotEq (.ref a) (.ref a')) Q E st :=
  ne_dataH (T.reads F X N) (T'.reads F X N) shaped4 shaped4 hu (by rw [eqv4]; exact h)
end

/-- a claim about a call of the def at `f`, whatever the caller -/
def Ctr (w : World) (n : Nat) (f : Addr) (news : Led) (vs : List Value) (R : Heap → Addr → (Str → Option Value) → Shared → (Value → Shared → Prop) → Prop) : Prop :=
  ∀ (p : Program) (loose : List Str) (mean : ExcName → Option Value) (mg mb : Str → Option Value)
    (dp un : Nat) (gd : Option (List Code)) (cn : Str) (cs : Scope) (ca : Addr) (ccd : Value) (cl : List (Str × Addr)) (outer : List Env) (A₀ : Around) (base h₀ : Heap) (L : Addr) (mm : Str → Option Value) (st : Shared)
    (Q E : Value → Shared → Prop),
    Below A₀ base outer h₀ → Fr h₀ L st.heap mm → (hd.heap_39 w.params).In h₀ → News h₀ L st.heap news → Top p loose mean mg mb h₀ → cs.kind = .function → dp + n < recursionLimit → un + (100 + 8 * n) < cLine →
    R h₀ L mm st Q → wpAny (model PySem.Challenge.rw_bw0031_01.row.prog w) (ktrTop dp un gd cn cs L ca ccd cl outer) (call (.ref f) vs) Q E st

abbrev RI (news : Led) (x : Int) (h₀ : Heap) (L : Addr) (mm : Str → Option Value) (st : Shared) (Q : Value → Shared → Prop) : Prop :=
  ∀ t h' tk', Fr h₀ L h' mm → News h₀ L h' news → Q (.int x t) { st with heap := h', toks := tk' }
abbrev RB (news : Led) (x : Bool) (h₀ : Heap) (L : Addr) (mm : Str → Option Value) (st : Shared) (Q : Value → Shared → Prop) : Prop :=
  ∀ h' tk', Fr h₀ L h' mm → News h₀ L h' news → Q (.bool x) { st with heap := h', toks := tk' }
abbrev RS (news : Led) (x : Str) (h₀ : Heap) (L : Addr) (mm : Str → Option Value) (st : Shared) (Q : Value → Shared → Prop) : Prop :=
  ∀ t h' tk', Fr h₀ L h' mm → News h₀ L h' news → Q (.str x t) { st with heap := h', toks := tk' }
end Mine
namespace Mine
section
variable {h₀ h' : Heap} {L : Addr} {mm : Str → Option Value} {news news' : Led} {st : Shared} {Q : Value → Shared → Prop} {t : Tok} {tk' : Nat}
theorem RI.use {x y : Int} (hret : RI news x h₀ L mm st Q) (e : y = x) (F : Fr h₀ L h' mm) (N : News h₀ L h' news) : Q (.int y t) { st with heap := h', toks := tk' } := e ▸ hret t h' tk' F N
theorem RB.use {x y : Bool} (hret : RB news x h₀ L mm st Q) (e : y = x) (F : Fr h₀ L h' mm) (N : News h₀ L h' news) : Q (.bool y) { st with heap := h', toks := tk' } := e ▸ hret h' tk' F N
theorem RS.use {x y : Str} (hret : RS news x h₀ L mm st Q) (e : y = x) (F : Fr h₀ L h' mm) (N : News h₀ L h' news) : Q (.str y t) { st with heap := h', toks := tk' } := e ▸ hret t h' tk' F N
theorem news_drop (N : News h₀ L h' news') (hs : ∀ p ∈ news, p ∈ news') : News h₀ L h' news := fun p hp => N p (hs p hp)
end
end Mine
namespace Mine
theorem Ctr.use {w : World} {n : Nat} {f : Addr} {news : Led} {vs : List Value} {R : Heap → Addr → (Str → Option Value) → Shared → (Value → Shared → Prop) → Prop}
    (C : Ctr w n f news vs R) {p : Program} {loose : List Str} {mean : ExcName → Option Value} {mg mb : Str → Option Value}
    {dp un : Nat} {gd : Option (List Code)} {cn : Str} {cs : Scope} {ca : Addr} {ccd : Value} {cl : List (Str × Addr)} {outer : List Env} {A₀ : Around} {base h₀ : Heap} {L : Addr} {mm : Str → Option Value} {st : Shared}
    {Q E : Value → Shared → Prop} (B : Below A₀ base outer h₀) (F : Fr h₀ L st.heap mm) (X : (hd.heap_39 w.params).In h₀) (N : News h₀ L st.heap news) (T : Top p loose mean mg mb h₀) (hk : cs.kind = .function) (h1 : dp + n < recursionLimit) (h2 : un + (100 + 8 * n) < cLine)
    (h : R h₀ L mm st Q) : wpAny (model PySem.Challenge.rw_bw0031_01.row.prog w) (ktrTop dp un gd cn cs L ca ccd cl outer) (call (.ref f) vs) Q E st :=
  C p loose mean mg mb dp un gd cn cs ca ccd cl outer A₀ base h₀ L mm st Q E B F X N T hk h1 h2 h

/-- a tuple comes back: one that stands (in the top or the ledger), or a new one -/
abbrev RT (w : World) (news : Led) (old : Prop) (s m e b : Int) (h₀ : Heap) (L : Addr) (mm : Str → Option Value) (st : Shared) (Q : Value → Shared → Prop) : Prop :=
  (old → ∀ a h' tk', TupA (hd.heap_39 w.params) news a s m e b → Fr h₀ L h' mm → News h₀ L h' news → Q (.ref a) { st with heap := h', toks := tk' }) ∧
  (¬ old → ∀ D o h' tk', TupA (hd.heap_39 w.params) ((D, o) :: news) D s m e b → (∀ p ∈ news, p.1 < D) → Fr h₀ L h' mm → News h₀ L h' ((D, o) :: news) → Q (.ref D) { st with heap := h', toks := tk' })
theorem RT.old {w : World} {news : Led} {old : Prop} {s m e b s' m' e' b' : Int} {h₀ h' : Heap} {L a : Addr} {mm : Str → Option Value} {st : Shared} {Q : Value → Shared → Prop} {tk' : Nat}
    (hret : RT w news old s m e b h₀ L mm st Q) (T : TupA (hd.heap_39 w.params) news a s' m' e' b') (F : Fr h₀ L h' mm) (N : News h₀ L h' news) (ho : old) (h1 : s' = s ∧ m' = m ∧ e' = e ∧ b' = b) : Q (.ref a) { st with heap := h', toks := tk' } := by
  obtain ⟨rfl, rfl, rfl, rfl⟩ := h1
  exact hret.1 ho a h' tk' T F N
theorem RT.new {w : World} {news : Led} {old : Prop} {s m e b s' m' e' b' : Int} {t1 t2 t3 t4 : Tok} {h₀ h' : Heap} {L D : Addr} {mm : Str → Option Value} {st : Shared} {Q : Value → Shared → Prop} {tk' : Nat} {news' : Led}
    (hret : RT w news old s m e b h₀ L mm st Q) (F : Fr h₀ L h' mm) (N : News h₀ L h' news') (hm : (D, ({ cls := .type "tuple", data := .seq #[.int s' t1, .int m' t2, .int e' t3, .int b' t4] } : Obj)) ∈ news') (hs : ∀ p ∈ news, p ∈ news') (hl : ∀ p ∈ news, p.1 < D) (ho : ¬ old) (h1 : s' = s ∧ m' = m ∧ e' = e ∧ b' = b) : Q (.ref D) { st with heap := h', toks := tk' } := by
  obtain ⟨rfl, rfl, rfl, rfl⟩ := h1
  refine hret.2 ho D (tup4 s' m' e' b' t1 t2 t3 t4 0) h' tk' (TupA.new (t1 := t1) (t2 := t2) (t3 := t3) (t4 := t4) (c := 0) (List.Mem.head _)) hl F fun (p : Addr × Obj) hp => ?_
  rcases List.mem_cons.mp hp with rfl | hp
  · exact N _ hm
  · exact N p (hs p hp)
end Mine
namespace Mine
abbrev RIf (news : Led) (x : Int) (P : Prop) (h₀ : Heap) (L : Addr) (mm : Str → Option Value) (st : Shared) (Q : Value → Shared → Prop) : Prop :=
  ∀ t h' tk', P → Fr h₀ L h' mm → News h₀ L h' news → Q (.int x t) { st with heap := h', toks := tk' }
theorem RIf.use {h₀ h' : Heap} {L : Addr} {mm : Str → Option Value} {news : Led} {st : Shared} {Q : Value → Shared → Prop} {t : Tok} {tk' : Nat} {P : Prop} {x y : Int} (hret : RIf news x P h₀ L mm st Q) (p : P) (e : y = x) (F : Fr h₀ L h' mm) (N : News h₀ L h' news) : Q (.int y t) { st with heap := h', toks := tk' } := e ▸ hret t h' tk' p F N
end Mine
namespace Mine
theorem RT.new2 {w : World} {news : Led} {old : Prop} {s m e b s' m' e' b' : Int} {o : Obj} {h₀ h' : Heap} {L D : Addr} {mm : Str → Option Value} {st : Shared} {Q : Value → Shared → Prop} {tk' : Nat}
    (hret : RT w news old s m e b h₀ L mm st Q) (T : TupA (hd.heap_39 w.params) ((D, o) :: news) D s' m' e' b') (hl : ∀ p ∈ news, p.1 < D) (F : Fr h₀ L h' mm) (N : News h₀ L h' ((D, o) :: news)) (ho : ¬ old) (h1 : s' = s ∧ m' = m ∧ e' = e ∧ b' = b) : Q (.ref D) { st with heap := h', toks := tk' } := by
  obtain ⟨rfl, rfl, rfl, rfl⟩ := h1
  exact hret.2 ho D _ h' tk' T hl F N
end Mine
namespace Mine
section
variable {prog : Program} {w : World} {A : Around} {E : Value → Shared → Prop} {s : Shared}
theorem itemL {value slice : PySem.Expr} {l : Addr} {vs : List Value} {k : Int} {u : Tok} {v : Value} {Q : Value → Shared → Prop}
    (hl : s.heap.IsList l vs.toArray) (h0 : 0 ≤ k) (hhi : k < 2 ^ 63) (hx : vs[k.toNat]? = some v) (h : Q v s)
    (hs : subscripted slice false (.ref l) (.int k u) = operate [.ref l, .int k u] (getItem (.ref l) (.int k u)) := by with_unfolding_all rfl) :
    wpAny (model prog w) A (subscriptTail value slice (.ref l) (.int k u)) Q E s :=
  tail_any hl.typeIs slot_list_getitem.lookup (wpAny_getItem_list hl h0 hhi (by simpa using hx) h) hs
theorem item3 {value slice : PySem.Expr} {l : Addr} {v0 v1 v2 : Value} {k : Int} {u : Tok} {Q : Value → Shared → Prop}
    (hl : s.heap.IsList l #[v0, v1, v2]) (h0 : 0 ≤ k) (h3 : k < 3) (h : (k = 0 → Q v0 s) ∧ (k = 1 → Q v1 s) ∧ (k = 2 → Q v2 s))
    (hs : subscripted slice false (.ref l) (.int k u) = operate [.ref l, .int k u] (getItem (.ref l) (.int k u)) := by with_unfolding_all rfl) :
    wpAny (model prog w) A (subscriptTail value slice (.ref l) (.int k u)) Q E s := by
  have hl' : s.heap.IsList l [v0, v1, v2].toArray := hl
  rcases (by omega : k = 0 ∨ k = 1 ∨ k = 2) with rfl | rfl | rfl
  · exact itemL hl' (by decide) (by decide) rfl (h.1 rfl) hs
  · exact itemL hl' (by decide) (by decide) rfl (h.2.1 rfl) hs
  · exact itemL hl' (by decide) (by decide) rfl (h.2.2 rfl) hs
end
theorem fmod_bound (n : Int) {k : Int} (h : 0 < k) : 0 ≤ n.fmod k ∧ n.fmod k < k := by
  rw [Int.fmod_eq_emod_of_nonneg _ (by omega)]
  exact ⟨Int.emod_nonneg _ (by omega), Int.emod_lt_of_pos _ h⟩
end Mine
namespace Mine
section
variable {w : World} {A : Around} {E : Value → Shared → Prop} {st : Shared} {env : Env} {h₀ : Heap} {L : Addr} {mm : Str → Option Value} {news : Led} {K : Frag} {prog : Program}
theorem in4 {D x a b : Addr} {s1 m1 e1 b1 s2 m2 e2 b2 s3 m3 e3 b3 : Int} {c : Nat} {Q : Value → Shared → Prop}
    (F : Fr h₀ L st.heap mm) (N : News h₀ L st.heap news) (X : K.In h₀) (T1 : TupA K news x s1 m1 e1 b1) (T2 : TupA K news a s2 m2 e2 b2) (T3 : TupA K news b s3 m3 e3 b3)
    (hD : (D, ({ cls := .type "tuple", data := .seq #[.ref a, .ref b] c } : Obj)) ∈ news) (hu : A.units + 64 < cLine)
    (h : Q (.bool (e4 s2 m2 e2 b2 s1 m1 e1 b1 || e4 s3 m3 e3 b3 s1 m1 e1 b1)) st) :
    wpAny (model prog w) A (compareOp .In (.ref x) (.ref D)) Q E st := by
  have r2 := T2.reads F X N
  have r3 := T3.reads F X N
  refine SeqAt.in_tuple_reads (reads_tuple_at (N _ hD).1 rfl rfl (.cons r2 (.cons r3 .nil))) (T1.reads F X N) ?_ ?_ ?_ ?_
  · simp [PyData.canLay0, PyData.canLayAll0]
  · simp [PyData.canLay0, PyData.canLayAll0]
  · have : min (PyData.depthAll [PyData.tuple [.int s2, .int m2, .int e2, .int b2], PyData.tuple [.int s3, .int m3, .int e3, .int b3]]) (PyData.tuple [.int s1, .int m1, .int e1, .int b1]).depth ≤ 10 := by
      refine Nat.le_trans (Nat.min_le_right _ _) ?_
      simp [PyData.depth, PyData.depthAll]
    omega
  · simp only [List.any_cons, List.any_nil, eqv4, Bool.or_false]
    exact h
theorem sub4_0 {value slice : PySem.Expr} {a : Addr} {s m e b : Int} {u : Tok} {Q : Value → Shared → Prop}
    (F : Fr h₀ L st.heap mm) (N : News h₀ L st.heap news) (X : K.In h₀) (T : TupA K news a s m e b) (h : ∀ t, Q (.int s t) st)
    (hs : subscripted slice false (.ref a) (.int 0 u) = operate [.ref a, .int 0 u] (getItem (.ref a) (.int 0 u)) := by with_unfolding_all rfl) :
    wpAny (model prog w) A (subscriptTail value slice (.ref a) (.int 0 u)) Q E st := by
  obtain ⟨t1, t2, t3, t4, hT⟩ := T.isTup F X N
  exact item_tupleT hT (by decide) (by decide) rfl rfl (h t1) hs
theorem sub4_1 {value slice : PySem.Expr} {a : Addr} {s m e b : Int} {u : Tok} {Q : Value → Shared → Prop}
    (F : Fr h₀ L st.heap mm) (N : News h₀ L st.heap news) (X : K.In h₀) (T : TupA K news a s m e b) (h : ∀ t, Q (.int m t) st)
    (hs : subscripted slice false (.ref a) (.int 1 u) = operate [.ref a, .int 1 u] (getItem (.ref a) (.int 1 u)) := by with_unfolding_all rfl) :
    wpAny (model prog w) A (subscriptTail value slice (.ref a) (.int 1 u)) Q E st := by
  obtain ⟨t1, t2, t3, t4, hT⟩ := T.isTup F X N
  exact item_tupleT hT (by decide) (by decide) rfl rfl (h t2) hs
end
end Mine
namespace Mine
theorem allLt_ne {d : Addr} {l : Led} (h : AllLt d l) : ∀ p ∈ l, p.1 ≠ d := fun p hp => Nat.ne_of_lt (ktn_ltOf h p hp)
theorem allLt_gt {d D : Addr} {l : Led} (h : AllLt d l) (h2 : d ≤ D) : ∀ p ∈ l, p.1 ≠ D := fun p hp => Nat.ne_of_lt (Nat.lt_of_lt_of_le (ktn_ltOf h p hp) h2)
section
variable {prog : Program} {w : World} {A : Around} {E : Value → Shared → Prop} {st : Shared} {h₀ : Heap} {L d : Addr} {news : Led} {o : Obj}
theorem dictItem {value slice : PySem.Expr} {v1 v2 : Value} {k : Int} {t : Tok} {Q : Value → Shared → Prop} (N : News h₀ L st.heap news) (hp : (d, o) ∈ news) (hd : o.IsDictOf (PySem.intKind prog w) [(1, v1), (-1, v2)]) (hk : k = 1 ∨ k = -1)
    (h : (k = 1 → Q v1 { st with toks := st.toks + 1 }) ∧ (k = -1 → Q v2 { st with toks := st.toks + 1 }))
    (hs : subscripted slice false (.ref d) (.int k t) = operate [.ref d, .int k t] (getItem (.ref d) (.int k t)) := by with_unfolding_all rfl) :
    wpAny (model prog w) A (subscriptTail value slice (.ref d) (.int k t)) Q E st := by
  have hD := kda_dict N hp hd
  refine tail_any hD.typeIs slot_dict_getitem.lookup ?_ hs
  rcases hk with rfl | rfl
  · exact kdt_getItem N hp hd (intKind_is prog w 1 t) rfl (h.1 rfl)
  · exact kdt_getItem N hp hd (intKind_is prog w (-1) t) rfl (h.2 rfl)
end
end Mine
namespace Mine
section
variable {prog : Program} {w : World} {A A₀ : Around} {E : Value → Shared → Prop} {s : Shared} {K : Frag} {C L : Addr} {h₀ base : Heap} {m mg mb : Str → Option Value} {news : List (Addr × Obj)} {p : Program} {loose : List Str} {mean : ExcName → Option Value} {Q : Value → Shared → Prop}
theorem code_defL {env : Env} {outer : List Env} {R : Result → Shared → Prop} {name qual : Str} {params : Arguments} {body : List Stmt} {scope : Scope} {dV kV doc pm cdv ct oc : Value} {an od : Option Addr} {osl : Array (Option Value)} {f : Addr} {args : Args} (binds lk : List (Str × Value)) (hlk : binds.reverse = lk)
    (B : Below A₀ base outer h₀) (F : Fr h₀ L s.heap m) (X₀ : K.In h₀) (N : News h₀ L s.heap news) (T : Top p loose mean mg mb h₀) (hA : A.frames = some (env :: outer)) (hf : env.frame = some L) (hke : env.scope.kind = .function)
    (ho : K.lookup f = some ⟨oc, od, .func (fnOf name qual params body scope dV kV doc pm an cdv ct), osl⟩) (hcd : codeIn K cdv qual = true) (hroom : A.depth < recursionLimit)
    (hbind : BindsTo s (fnOf name qual params body scope dV kV doc pm an cdv ct) args binds) (hloc : ∀ y ∈ binds, scope.names.lookup y.1 = some .local)
    (h : ∀ g L' h₁, Fr h₀ L g m → Fr g L' h₁ (fun y => lk.lookup y) → News g L' h₁ news → Below A base (env :: outer) g → K.In g → Top p loose mean mg mb g →
      wpAny (model prog w) (A.deeper (envOf qual scope L' f cdv)) (execs body (envOf qual scope L' f cdv))
        (fun fl s' => LeaveK h₀ L m g R (match fl with | .ret v => v | _ => .none) s')
        (fun e s' => wpAny (model prog w) (A.deeper (envOf qual scope L' f cdv)) (leaving (envOf qual scope L' f cdv) e) (fun _ s'' => R (.error e) s'') (fun e' s'' => R (.error e') s'') s')
        { s with heap := h₁, toks := s.toks + binds.length })
    (hco : scope.isCoroutine = false) (hgen : scope.isGenerator = false) (hk : scope.kind = .function)
    (hcell : ∀ x ∈ scope.names, x.2 ≠ .cell) : codeAny (model prog w) A (.call (.ref f) args) R s :=
  code_def B F X₀ N T hA hf hke ho hcd hroom hbind hloc (fun g L' h₁ FG F' N' B' X' T' => h g L' h₁ FG (hlk ▸ F') N' B' X' T') hco hgen hk hcell
end
end Mine

namespace Mine
section
variable {prog : Program} {w : World} {A A₀ : Around} {E : Value → Shared → Prop} {s : Shared} {K : Frag} {C L : Addr} {h₀ base : Heap} {m mg mb : Str → Option Value} {news : List (Addr × Obj)} {p : Program} {loose : List Str} {mean : ExcName → Option Value} {Q : Value → Shared → Prop}
/-- a def is entered: its frame's names as one list -/
theorem code_defZ {env : Env} {outer : List Env} {R : Result → Shared → Prop} {name qual : Str} {params : Arguments} {body : List Stmt} {scope : Scope} {dV kV doc pm cdv ct oc : Value} {an od : Option Addr} {osl : Array (Option Value)} {f : Addr} {vs : List Value} (ns : List Str) (ds : List Value)
    (B : Below A₀ base outer h₀) (F : Fr h₀ L s.heap m) (X₀ : K.In h₀) (N : News h₀ L s.heap news) (T : Top p loose mean mg mb h₀) (hA : A.frames = some (env :: outer)) (hf : env.frame = some L) (hke : env.scope.kind = .function)
    (ho : K.lookup f = some ⟨oc, od, .func (fnOf name qual params body scope dV kV doc pm an cdv ct), osl⟩) (hcd : codeIn K cdv qual = true) (hroom : A.depth < recursionLimit)
    (hbind : BindsTo s (fnOf name qual params body scope dV kV doc pm an cdv ct) ⟨vs, []⟩ (ns.zip (vs ++ ds))) (hloc : (ns.all fun x => decide (scope.names.lookup x = some .local)) = true)
    (h : ∀ g L' h₁, Fr h₀ L g m → Fr g L' h₁ (fun y => (ns.zip (vs ++ ds)).reverse.lookup y) → News g L' h₁ news → Below A base (env :: outer) g → K.In g → Top p loose mean mg mb g →
      wpAny (model prog w) (A.deeper (envOf qual scope L' f cdv)) (execs body (envOf qual scope L' f cdv))
        (fun fl s' => LeaveK h₀ L m g R (match fl with | .ret v => v | _ => .none) s')
        (fun e s' => wpAny (model prog w) (A.deeper (envOf qual scope L' f cdv)) (leaving (envOf qual scope L' f cdv) e) (fun _ s'' => R (.error e) s'') (fun e' s'' => R (.error e') s'') s')
        { s with heap := h₁, toks := s.toks + (ns.zip (vs ++ ds)).length })
    (hco : scope.isCoroutine = false) (hgen : scope.isGenerator = false) (hk : scope.kind = .function)
    (hcell : ∀ x ∈ scope.names, x.2 ≠ .cell) : codeAny (model prog w) A (.call (.ref f) ⟨vs, []⟩) R s :=
  code_def B F X₀ N T hA hf hke ho hcd hroom hbind (fun y hy => of_decide_eq_true (List.all_eq_true.mp hloc y.1 (List.of_mem_zip hy).1)) (fun g L' h₁ FG F' N' B' X' T' => h g L' h₁ FG F' N' B' X' T') hco hgen hk hcell
end
section
variable {M : Model} {A : Around} {E : Value → Shared → Prop} {s : Shared} {name : Str} {scope : Scope} {L a : Addr} {cd : Value} {h₀ : Heap} {news : Led} {lk : List (Str × Value)} {K : Frag} {p : Program} {loose : List Str} {mg mb : Str → Option Value} {mm : Str → Option Value}
theorem nmL {x : Str} {pos : Pos} {v : Value} {Q : Value → Shared → Prop} (F : Fr h₀ L s.heap (fun y => lk.lookup y)) (hv : lk.lookup x = some v) (hl : scope.names.lookup x = some .local) (hk : scope.kind = .function) (hd : (x == ("__debug__" : Str)) = false) (h : Q v s) :
    wpAny M A (eval (.Name x pos) (envOf name scope L a cd)) Q E s := ld F hv h hk hl hd
theorem nmN {x : Str} {v : Value} {Q : Value → Shared → Prop} (F : Fr h₀ L s.heap (fun y => lk.lookup y)) (hv : lk.lookup x = some v) (hl : scope.names.lookup x = some .local) (hk : scope.kind = .function) (h : Q v s) :
    wpAny M A (loadName (envOf name scope L a cd) x) Q E s := ldn F hv h hk hl
theorem nmK {x : Str} {pos : Pos} {v : Value} {Q : Value → Shared → Prop} (F : Fr h₀ L s.heap mm) (X : K.In h₀) (T : TopRead p loose mg mb h₀) (e : nsIn K mainGlobals x = some (some v)) (hl : scope.names.lookup x = some .globalImplicit) (hk : scope.kind = .function) (hd : (x == ("__debug__" : Str)) = false) (h : Q v s) :
    wpAny M A (eval (.Name x pos) (envOf name scope L a cd)) Q E s := name_K F X T e h hk hl hd
theorem lookupL_store {x : Str} {v : Value} {lk : List (Str × Value)} : (fun y => if y = x then some v else lk.lookup y) = fun y => ((x, v) :: lk).lookup y := by
  funext y
  rw [List.lookup_cons]
  by_cases h : y = x
  · subst h; simp
  · have h' : (y == x) = false := by simpa using h
    rw [if_neg h, h']
theorem stL {x : Str} {v : Value} {Q : Unit → Shared → Prop} (F : Fr h₀ L s.heap (fun y => lk.lookup y)) (N : News h₀ L s.heap news) (hl : scope.names.lookup x = some .local) (hk : scope.kind = .function)
    (h : ∀ h', Fr h₀ L h' (fun y => ((x, v) :: lk).lookup y) → News h₀ L h' news → Q () { s with heap := h', toks := s.toks + 1 }) :
    wpAny M A (storeName (envOf name scope L a cd) x v) Q E s := stN F N (fun h' F' N' => h h' (lookupL_store ▸ F') N') hk hl
end
theorem lk0 {x : Str} {v : Value} {r : List (Str × Value)} : ((x, v) :: r).lookup x = some v := by rw [List.lookup_cons]; simp
theorem lk1 {x n0 : Str} {v w0 : Value} {r : List (Str × Value)} (h : ([n0].any fun n => x == n) = false) : ((n0, w0) :: (x, v) :: r).lookup x = some v := by
  simp only [List.any_cons, List.any_nil, Bool.or_eq_false_iff, Bool.or_false] at h
  simp [List.lookup_cons, h]
theorem lk2 {x n0 n1 : Str} {v w0 w1 : Value} {r : List (Str × Value)} (h : ([n0, n1].any fun n => x == n) = false) : ((n0, w0) :: (n1, w1) :: (x, v) :: r).lookup x = some v := by
  simp only [List.any_cons, List.any_nil, Bool.or_eq_false_iff, Bool.or_false] at h
  simp [List.lookup_cons, h]
theorem lk3 {x n0 n1 n2 : Str} {v w0 w1 w2 : Value} {r : List (Str × Value)} (h : ([n0, n1, n2].any fun n => x == n) = false) : ((n0, w0) :: (n1, w1) :: (n2, w2) :: (x, v) :: r).lookup x = some v := by
  simp only [List.any_cons, List.any_nil, Bool.or_eq_false_iff, Bool.or_false] at h
  simp [List.lookup_cons, h]
theorem lk4 {x n0 n1 n2 n3 : Str} {v w0 w1 w2 w3 : Value} {r : List (Str × Value)} (h : ([n0, n1, n2, n3].any fun n => x == n) = false) : ((n0, w0) :: (n1, w1) :: (n2, w2) :: (n3, w3) :: (x, v) :: r).lookup x = some v := by
  simp only [List.any_cons, List.any_nil, Bool.or_eq_false_iff, Bool.or_false] at h
  simp [List.lookup_cons, h]
theorem lk5 {x n0 n1 n2 n3 n4 : Str} {v w0 w1 w2 w3 w4 : Value} {r : List (Str × Value)} (h : ([n0, n1, n2, n3, n4].any fun n => x == n) = false) : ((n0, w0) :: (n1, w1) :: (n2, w2) :: (n3, w3) :: (n4, w4) :: (x, v) :: r).lookup x = some v := by
  simp only [List.any_cons, List.any_nil, Bool.or_eq_false_iff, Bool.or_false] at h
  simp [List.lookup_cons, h]
theorem lk6 {x n0 n1 n2 n3 n4 n5 : Str} {v w0 w1 w2 w3 w4 w5 : Value} {r : List (Str × Value)} (h : ([n0, n1, n2, n3, n4, n5].any fun n => x == n) = false) : ((n0, w0) :: (n1, w1) :: (n2, w2) :: (n3, w3) :: (n4, w4) :: (n5, w5) :: (x, v) :: r).lookup x = some v := by
  simp only [List.any_cons, List.any_nil, Bool.or_eq_false_iff, Bool.or_false] at h
  simp [List.lookup_cons, h]
theorem lk7 {x n0 n1 n2 n3 n4 n5 n6 : Str} {v w0 w1 w2 w3 w4 w5 w6 : Value} {r : List (Str × Value)} (h : ([n0, n1, n2, n3, n4, n5, n6].any fun n => x == n) = false) : ((n0, w0) :: (n1, w1) :: (n2, w2) :: (n3, w3) :: (n4, w4) :: (n5, w5) :: (n6, w6) :: (x, v) :: r).lookup x = some v := by
  simp only [List.any_cons, List.any_nil, Bool.or_eq_false_iff, Bool.or_false] at h
  simp [List.lookup_cons, h]
theorem lk8 {x n0 n1 n2 n3 n4 n5 n6 n7 : Str} {v w0 w1 w2 w3 w4 w5 w6 w7 : Value} {r : List (Str × Value)} (h : ([n0, n1, n2, n3, n4, n5, n6, n7].any fun n => x == n) = false) : ((n0, w0) :: (n1, w1) :: (n2, w2) :: (n3, w3) :: (n4, w4) :: (n5, w5) :: (n6, w6) :: (n7, w7) :: (x, v) :: r).lookup x = some v := by
  simp only [List.any_cons, List.any_nil, Bool.or_eq_false_iff, Bool.or_false] at h
  simp [List.lookup_cons, h]
theorem lk9 {x n0 n1 n2 n3 n4 n5 n6 n7 n8 : Str} {v w0 w1 w2 w3 w4 w5 w6 w7 w8 : Value} {r : List (Str × Value)} (h : ([n0, n1, n2, n3, n4, n5, n6, n7, n8].any fun n => x == n) = false) : ((n0, w0) :: (n1, w1) :: (n2, w2) :: (n3, w3) :: (n4, w4) :: (n5, w5) :: (n6, w6) :: (n7, w7) :: (n8, w8) :: (x, v) :: r).lookup x = some v := by
  simp only [List.any_cons, List.any_nil, Bool.or_eq_false_iff, Bool.or_false] at h
  simp [List.lookup_cons, h]
theorem lk10 {x n0 n1 n2 n3 n4 n5 n6 n7 n8 n9 : Str} {v w0 w1 w2 w3 w4 w5 w6 w7 w8 w9 : Value} {r : List (Str × Value)} (h : ([n0, n1, n2, n3, n4, n5, n6, n7, n8, n9].any fun n => x == n) = false) : ((n0, w0) :: (n1, w1) :: (n2, w2) :: (n3, w3) :: (n4, w4) :: (n5, w5) :: (n6, w6) :: (n7, w7) :: (n8, w8) :: (n9, w9) :: (x, v) :: r).lookup x = some v := by
  simp only [List.any_cons, List.any_nil, Bool.or_eq_false_iff, Bool.or_false] at h
  simp [List.lookup_cons, h]
theorem lk11 {x n0 n1 n2 n3 n4 n5 n6 n7 n8 n9 n10 : Str} {v w0 w1 w2 w3 w4 w5 w6 w7 w8 w9 w10 : Value} {r : List (Str × Value)} (h : ([n0, n1, n2, n3, n4, n5, n6, n7, n8, n9, n10].any fun n => x == n) = false) : ((n0, w0) :: (n1, w1) :: (n2, w2) :: (n3, w3) :: (n4, w4) :: (n5, w5) :: (n6, w6) :: (n7, w7) :: (n8, w8) :: (n9, w9) :: (n10, w10) :: (x, v) :: r).lookup x = some v := by
  simp only [List.any_cons, List.any_nil, Bool.or_eq_false_iff, Bool.or_false] at h
  simp [List.lookup_cons, h]
theorem lk12 {x n0 n1 n2 n3 n4 n5 n6 n7 n8 n9 n10 n11 : Str} {v w0 w1 w2 w3 w4 w5 w6 w7 w8 w9 w10 w11 : Value} {r : List (Str × Value)} (h : ([n0, n1, n2, n3, n4, n5, n6, n7, n8, n9, n10, n11].any fun n => x == n) = false) : ((n0, w0) :: (n1, w1) :: (n2, w2) :: (n3, w3) :: (n4, w4) :: (n5, w5) :: (n6, w6) :: (n7, w7) :: (n8, w8) :: (n9, w9) :: (n10, w10) :: (n11, w11) :: (x, v) :: r).lookup x = some v := by
  simp only [List.any_cons, List.any_nil, Bool.or_eq_false_iff, Bool.or_false] at h
  simp [List.lookup_cons, h]
theorem lk13 {x n0 n1 n2 n3 n4 n5 n6 n7 n8 n9 n10 n11 n12 : Str} {v w0 w1 w2 w3 w4 w5 w6 w7 w8 w9 w10 w11 w12 : Value} {r : List (Str × Value)} (h : ([n0, n1, n2, n3, n4, n5, n6, n7, n8, n9, n10, n11, n12].any fun n => x == n) = false) : ((n0, w0) :: (n1, w1) :: (n2, w2) :: (n3, w3) :: (n4, w4) :: (n5, w5) :: (n6, w6) :: (n7, w7) :: (n8, w8) :: (n9, w9) :: (n10, w10) :: (n11, w11) :: (n12, w12) :: (x, v) :: r).lookup x = some v := by
  simp only [List.any_cons, List.any_nil, Bool.or_eq_false_iff, Bool.or_false] at h
  simp [List.lookup_cons, h]
theorem lk14 {x n0 n1 n2 n3 n4 n5 n6 n7 n8 n9 n10 n11 n12 n13 : Str} {v w0 w1 w2 w3 w4 w5 w6 w7 w8 w9 w10 w11 w12 w13 : Value} {r : List (Str × Value)} (h : ([n0, n1, n2, n3, n4, n5, n6, n7, n8, n9, n10, n11, n12, n13].any fun n => x == n) = false) : ((n0, w0) :: (n1, w1) :: (n2, w2) :: (n3, w3) :: (n4, w4) :: (n5, w5) :: (n6, w6) :: (n7, w7) :: (n8, w8) :: (n9, w9) :: (n10, w10) :: (n11, w11) :: (n12, w12) :: (n13, w13) :: (x, v) :: r).lookup x = some v := by
  simp only [List.any_cons, List.any_nil, Bool.or_eq_false_iff, Bool.or_false] at h
  simp [List.lookup_cons, h]
theorem lk15 {x n0 n1 n2 n3 n4 n5 n6 n7 n8 n9 n10 n11 n12 n13 n14 : Str} {v w0 w1 w2 w3 w4 w5 w6 w7 w8 w9 w10 w11 w12 w13 w14 : Value} {r : List (Str × Value)} (h : ([n0, n1, n2, n3, n4, n5, n6, n7, n8, n9, n10, n11, n12, n13, n14].any fun n => x == n) = false) : ((n0, w0) :: (n1, w1) :: (n2, w2) :: (n3, w3) :: (n4, w4) :: (n5, w5) :: (n6, w6) :: (n7, w7) :: (n8, w8) :: (n9, w9) :: (n10, w10) :: (n11, w11) :: (n12, w12) :: (n13, w13) :: (n14, w14) :: (x, v) :: r).lookup x = some v := by
  simp only [List.any_cons, List.any_nil, Bool.or_eq_false_iff, Bool.or_false] at h
  simp [List.lookup_cons, h]
theorem lk16 {x n0 n1 n2 n3 n4 n5 n6 n7 n8 n9 n10 n11 n12 n13 n14 n15 : Str} {v w0 w1 w2 w3 w4 w5 w6 w7 w8 w9 w10 w11 w12 w13 w14 w15 : Value} {r : List (Str × Value)} (h : ([n0, n1, n2, n3, n4, n5, n6, n7, n8, n9, n10, n11, n12, n13, n14, n15].any fun n => x == n) = false) : ((n0, w0) :: (n1, w1) :: (n2, w2) :: (n3, w3) :: (n4, w4) :: (n5, w5) :: (n6, w6) :: (n7, w7) :: (n8, w8) :: (n9, w9) :: (n10, w10) :: (n11, w11) :: (n12, w12) :: (n13, w13) :: (n14, w14) :: (n15, w15) :: (x, v) :: r).lookup x = some v := by
  simp only [List.any_cons, List.any_nil, Bool.or_eq_false_iff, Bool.or_false] at h
  simp [List.lookup_cons, h]
theorem lk17 {x n0 n1 n2 n3 n4 n5 n6 n7 n8 n9 n10 n11 n12 n13 n14 n15 n16 : Str} {v w0 w1 w2 w3 w4 w5 w6 w7 w8 w9 w10 w11 w12 w13 w14 w15 w16 : Value} {r : List (Str × Value)} (h : ([n0, n1, n2, n3, n4, n5, n6, n7, n8, n9, n10, n11, n12, n13, n14, n15, n16].any fun n => x == n) = false) : ((n0, w0) :: (n1, w1) :: (n2, w2) :: (n3, w3) :: (n4, w4) :: (n5, w5) :: (n6, w6) :: (n7, w7) :: (n8, w8) :: (n9, w9) :: (n10, w10) :: (n11, w11) :: (n12, w12) :: (n13, w13) :: (n14, w14) :: (n15, w15) :: (n16, w16) :: (x, v) :: r).lookup x = some v := by
  simp only [List.any_cons, List.any_nil, Bool.or_eq_false_iff, Bool.or_false] at h
  simp [List.lookup_cons, h]
theorem lk18 {x n0 n1 n2 n3 n4 n5 n6 n7 n8 n9 n10 n11 n12 n13 n14 n15 n16 n17 : Str} {v w0 w1 w2 w3 w4 w5 w6 w7 w8 w9 w10 w11 w12 w13 w14 w15 w16 w17 : Value} {r : List (Str × Value)} (h : ([n0, n1, n2, n3, n4, n5, n6, n7, n8, n9, n10, n11, n12, n13, n14, n15, n16, n17].any fun n => x == n) = false) : ((n0, w0) :: (n1, w1) :: (n2, w2) :: (n3, w3) :: (n4, w4) :: (n5, w5) :: (n6, w6) :: (n7, w7) :: (n8, w8) :: (n9, w9) :: (n10, w10) :: (n11, w11) :: (n12, w12) :: (n13, w13) :: (n14, w14) :: (n15, w15) :: (n16, w16) :: (n17, w17) :: (x, v) :: r).lookup x = some v := by
  simp only [List.any_cons, List.any_nil, Bool.or_eq_false_iff, Bool.or_false] at h
  simp [List.lookup_cons, h]
theorem lk19 {x n0 n1 n2 n3 n4 n5 n6 n7 n8 n9 n10 n11 n12 n13 n14 n15 n16 n17 n18 : Str} {v w0 w1 w2 w3 w4 w5 w6 w7 w8 w9 w10 w11 w12 w13 w14 w15 w16 w17 w18 : Value} {r : List (Str × Value)} (h : ([n0, n1, n2, n3, n4, n5, n6, n7, n8, n9, n10, n11, n12, n13, n14, n15, n16, n17, n18].any fun n => x == n) = false) : ((n0, w0) :: (n1, w1) :: (n2, w2) :: (n3, w3) :: (n4, w4) :: (n5, w5) :: (n6, w6) :: (n7, w7) :: (n8, w8) :: (n9, w9) :: (n10, w10) :: (n11, w11) :: (n12, w12) :: (n13, w13) :: (n14, w14) :: (n15, w15) :: (n16, w16) :: (n17, w17) :: (n18, w18) :: (x, v) :: r).lookup x = some v := by
  simp only [List.any_cons, List.any_nil, Bool.or_eq_false_iff, Bool.or_false] at h
  simp [List.lookup_cons, h]
theorem lk20 {x n0 n1 n2 n3 n4 n5 n6 n7 n8 n9 n10 n11 n12 n13 n14 n15 n16 n17 n18 n19 : Str} {v w0 w1 w2 w3 w4 w5 w6 w7 w8 w9 w10 w11 w12 w13 w14 w15 w16 w17 w18 w19 : Value} {r : List (Str × Value)} (h : ([n0, n1, n2, n3, n4, n5, n6, n7, n8, n9, n10, n11, n12, n13, n14, n15, n16, n17, n18, n19].any fun n => x == n) = false) : ((n0, w0) :: (n1, w1) :: (n2, w2) :: (n3, w3) :: (n4, w4) :: (n5, w5) :: (n6, w6) :: (n7, w7) :: (n8, w8) :: (n9, w9) :: (n10, w10) :: (n11, w11) :: (n12, w12) :: (n13, w13) :: (n14, w14) :: (n15, w15) :: (n16, w16) :: (n17, w17) :: (n18, w18) :: (n19, w19) :: (x, v) :: r).lookup x = some v := by
  simp only [List.any_cons, List.any_nil, Bool.or_eq_false_iff, Bool.or_false] at h
  simp [List.lookup_cons, h]
theorem lk21 {x n0 n1 n2 n3 n4 n5 n6 n7 n8 n9 n10 n11 n12 n13 n14 n15 n16 n17 n18 n19 n20 : Str} {v w0 w1 w2 w3 w4 w5 w6 w7 w8 w9 w10 w11 w12 w13 w14 w15 w16 w17 w18 w19 w20 : Value} {r : List (Str × Value)} (h : ([n0, n1, n2, n3, n4, n5, n6, n7, n8, n9, n10, n11, n12, n13, n14, n15, n16, n17, n18, n19, n20].any fun n => x == n) = false) : ((n0, w0) :: (n1, w1) :: (n2, w2) :: (n3, w3) :: (n4, w4) :: (n5, w5) :: (n6, w6) :: (n7, w7) :: (n8, w8) :: (n9, w9) :: (n10, w10) :: (n11, w11) :: (n12, w12) :: (n13, w13) :: (n14, w14) :: (n15, w15) :: (n16, w16) :: (n17, w17) :: (n18, w18) :: (n19, w19) :: (n20, w20) :: (x, v) :: r).lookup x = some v := by
  simp only [List.any_cons, List.any_nil, Bool.or_eq_false_iff, Bool.or_false] at h
  simp [List.lookup_cons, h]
theorem lk22 {x n0 n1 n2 n3 n4 n5 n6 n7 n8 n9 n10 n11 n12 n13 n14 n15 n16 n17 n18 n19 n20 n21 : Str} {v w0 w1 w2 w3 w4 w5 w6 w7 w8 w9 w10 w11 w12 w13 w14 w15 w16 w17 w18 w19 w20 w21 : Value} {r : List (Str × Value)} (h : ([n0, n1, n2, n3, n4, n5, n6, n7, n8, n9, n10, n11, n12, n13, n14, n15, n16, n17, n18, n19, n20, n21].any fun n => x == n) = false) : ((n0, w0) :: (n1, w1) :: (n2, w2) :: (n3, w3) :: (n4, w4) :: (n5, w5) :: (n6, w6) :: (n7, w7) :: (n8, w8) :: (n9, w9) :: (n10, w10) :: (n11, w11) :: (n12, w12) :: (n13, w13) :: (n14, w14) :: (n15, w15) :: (n16, w16) :: (n17, w17) :: (n18, w18) :: (n19, w19) :: (n20, w20) :: (n21, w21) :: (x, v) :: r).lookup x = some v := by
  simp only [List.any_cons, List.any_nil, Bool.or_eq_false_iff, Bool.or_false] at h
  simp [List.lookup_cons, h]
theorem lk23 {x n0 n1 n2 n3 n4 n5 n6 n7 n8 n9 n10 n11 n12 n13 n14 n15 n16 n17 n18 n19 n20 n21 n22 : Str} {v w0 w1 w2 w3 w4 w5 w6 w7 w8 w9 w10 w11 w12 w13 w14 w15 w16 w17 w18 w19 w20 w21 w22 : Value} {r : List (Str × Value)} (h : ([n0, n1, n2, n3, n4, n5, n6, n7, n8, n9, n10, n11, n12, n13, n14, n15, n16, n17, n18, n19, n20, n21, n22].any fun n => x == n) = false) : ((n0, w0) :: (n1, w1) :: (n2, w2) :: (n3, w3) :: (n4, w4) :: (n5, w5) :: (n6, w6) :: (n7, w7) :: (n8, w8) :: (n9, w9) :: (n10, w10) :: (n11, w11) :: (n12, w12) :: (n13, w13) :: (n14, w14) :: (n15, w15) :: (n16, w16) :: (n17, w17) :: (n18, w18) :: (n19, w19) :: (n20, w20) :: (n21, w21) :: (n22, w22) :: (x, v) :: r).lookup x = some v := by
  simp only [List.any_cons, List.any_nil, Bool.or_eq_false_iff, Bool.or_false] at h
  simp [List.lookup_cons, h]
theorem lk24 {x n0 n1 n2 n3 n4 n5 n6 n7 n8 n9 n10 n11 n12 n13 n14 n15 n16 n17 n18 n19 n20 n21 n22 n23 : Str} {v w0 w1 w2 w3 w4 w5 w6 w7 w8 w9 w10 w11 w12 w13 w14 w15 w16 w17 w18 w19 w20 w21 w22 w23 : Value} {r : List (Str × Value)} (h : ([n0, n1, n2, n3, n4, n5, n6, n7, n8, n9, n10, n11, n12, n13, n14, n15, n16, n17, n18, n19, n20, n21, n22, n23].any fun n => x == n) = false) : ((n0, w0) :: (n1, w1) :: (n2, w2) :: (n3, w3) :: (n4, w4) :: (n5, w5) :: (n6, w6) :: (n7, w7) :: (n8, w8) :: (n9, w9) :: (n10, w10) :: (n11, w11) :: (n12, w12) :: (n13, w13) :: (n14, w14) :: (n15, w15) :: (n16, w16) :: (n17, w17) :: (n18, w18) :: (n19, w19) :: (n20, w20) :: (n21, w21) :: (n22, w22) :: (n23, w23) :: (x, v) :: r).lookup x = some v := by
  simp only [List.any_cons, List.any_nil, Bool.or_eq_false_iff, Bool.or_false] at h
  simp [List.lookup_cons, h]
theorem lk25 {x n0 n1 n2 n3 n4 n5 n6 n7 n8 n9 n10 n11 n12 n13 n14 n15 n16 n17 n18 n19 n20 n21 n22 n23 n24 : Str} {v w0 w1 w2 w3 w4 w5 w6 w7 w8 w9 w10 w11 w12 w13 w14 w15 w16 w17 w18 w19 w20 w21 w22 w23 w24 : Value} {r : List (Str × Value)} (h : ([n0, n1, n2, n3, n4, n5, n6, n7, n8, n9, n10, n11, n12, n13, n14, n15, n16, n17, n18, n19, n20, n21, n22, n23, n24].any fun n => x == n) = false) : ((n0, w0) :: (n1, w1) :: (n2, w2) :: (n3, w3) :: (n4, w4) :: (n5, w5) :: (n6, w6) :: (n7, w7) :: (n8, w8) :: (n9, w9) :: (n10, w10) :: (n11, w11) :: (n12, w12) :: (n13, w13) :: (n14, w14) :: (n15, w15) :: (n16, w16) :: (n17, w17) :: (n18, w18) :: (n19, w19) :: (n20, w20) :: (n21, w21) :: (n22, w22) :: (n23, w23) :: (n24, w24) :: (x, v) :: r).lookup x = some v := by
  simp only [List.any_cons, List.any_nil, Bool.or_eq_false_iff, Bool.or_false] at h
  simp [List.lookup_cons, h]
end Mine
namespace Mine
section
variable {w : World} {A : Around} {E : Value → Shared → Prop} {st : Shared} {env : Env} {h₀ : Heap} {L : Addr} {mm : Str → Option Value} {news : Led} {K : Frag} {prog : Program}
theorem eq4F {a a' : Addr} {s m e b s' m' e' b' : Int} {Q : Value → Shared → Prop}
    (F : Fr h₀ L st.heap mm) (N : News h₀ L st.heap news) (X : K.In h₀) (T : TupA K news a s m e b) (T' : TupA K news a' s' m' e' b') (hu : A.units + 64 < cLine) (hf : e4 s m e b s' m' e' b' = false)
    (h : Q (.bool false) st) : wpAny (model prog w) A (compareOp .Eq (.ref a) (.ref a')) Q E st := eq4 F N X T T' hu (by rw [hf]; exact h)
end
end Mine
namespace Mine
abbrev RN (w : World) (news : Led) (s m e b : Int) (h₀ : Heap) (L : Addr) (mm : Str → Option Value) (st : Shared) (Q : Value → Shared → Prop) : Prop :=
  ∀ D o h' tk', TupA (hd.heap_39 w.params) ((D, o) :: news) D s m e b → (∀ p ∈ news, p.1 < D) → Fr h₀ L h' mm → News h₀ L h' ((D, o) :: news) → Q (.ref D) { st with heap := h', toks := tk' }
theorem RN.rt {w : World} {news : Led} {s m e b : Int} {h₀ : Heap} {L : Addr} {mm : Str → Option Value} {st : Shared} {Q : Value → Shared → Prop} (h : RN w news s m e b h₀ L mm st Q) : RT w news False s m e b h₀ L mm st Q :=
  ⟨fun f => f.elim, fun _ D o h' tk' T l F N => h D o h' tk' T l F N⟩
/-- some tuple comes back, new, of this sign -/
abbrev RNs (w : World) (news : Led) (s : Int) (h₀ : Heap) (L : Addr) (mm : Str → Option Value) (st : Shared) (Q : Value → Shared → Prop) : Prop :=
  ∀ m e b D o h' tk', TupA (hd.heap_39 w.params) ((D, o) :: news) D s m e b → (∀ p ∈ news, p.1 < D) → Fr h₀ L h' mm → News h₀ L h' ((D, o) :: news) → Q (.ref D) { st with heap := h', toks := tk' }
theorem RNs.use {w : World} {news : Led} {s s' m e b : Int} {h₀ h' : Heap} {L D : Addr} {o : Obj} {mm : Str → Option Value} {st : Shared} {Q : Value → Shared → Prop} {tk' : Nat} (h : RNs w news s h₀ L mm st Q)
    (T : TupA (hd.heap_39 w.params) ((D, o) :: news) D s' m e b) (l : ∀ p ∈ news, p.1 < D) (F : Fr h₀ L h' mm) (N : News h₀ L h' ((D, o) :: news)) (hs : s' = s) : Q (.ref D) { st with heap := h', toks := tk' } := h m e b D o h' tk' (hs ▸ T) l F N
end Mine
namespace Mine
theorem Ctr.mono {w : World} {n n' : Nat} {f : Addr} {news : Led} {vs : List Value} {R : Heap → Addr → (Str → Option Value) → Shared → (Value → Shared → Prop) → Prop} (h : Ctr w n f news vs R) (hn : n ≤ n') : Ctr w n' f news vs R :=
  fun p loose mean mg mb dp un gd cn cs ca ccd cl outer A₀ base h₀ L mm st Q E B F X N T hk h1 h2 hr => h p loose mean mg mb dp un gd cn cs ca ccd cl outer A₀ base h₀ L mm st Q E B F X N T hk (by omega) (by omega) hr
end Mine

namespace Mine

/-- the law's extended numbers -/
inductive LX where
  | nan | over | under
  | num (n : Int)

def LX.isNan : LX → Bool | .nan => true | _ => false
def LX.wide : LX → Bool | .over => true | .under => true | _ => false
def LX.isZero : LX → Bool | .num n => decide (n = 0) | _ => false
/-- none of the finite ones -/
def LX.spec : LX → Bool | .num _ => false | _ => true
def sgnI (n : Int) : Int := if n > 0 then 1 else if n < 0 then -1 else 0
def LX.side : LX → Int | .over => 1 | .under => -1 | .nan => 0 | .num n => sgnI n
def infL (s : Int) : LX := if s > 0 then .over else .under
def negL : LX → LX | .nan => .nan | .over => .under | .under => .over | .num n => .num (-n)
def sumL : LX → LX → LX
  | .nan, _ => .nan
  | _, .nan => .nan
  | .over, .over => .over
  | .under, .under => .under
  | .over, .under => .nan
  | .under, .over => .nan
  | .over, .num _ => .over
  | .under, .num _ => .under
  | .num _, .over => .over
  | .num _, .under => .under
  | .num a, .num b => .num (a + b)
def prodL (x y : LX) : LX := if x.isNan = true ∨ y.isNan = true ∨ x.side * y.side = 0 then .nan else infL (x.side * y.side)
def quotL (x y : LX) : LX := if x.isNan = true ∨ y.isNan = true ∨ (x.wide = true ∧ y.wide = true) then .nan else if x.wide = true then infL (x.side * y.side) else .num 0
def eqL : LX → LX → Bool
  | .nan, .nan => true | .over, .over => true | .under, .under => true | .num a, .num b => decide (a = b) | _, _ => false
def ordL (x y : LX) : Int := if eqL x y = true then 0 else if x.wide = true then x.side else if y.wide = true then -y.side else match x, y with | .num a, .num b => if a > b then 1 else -1 | _, _ => 0

/-- what value stands for an extended number of the law's -/
def LV (v : Value) : LX → Prop
  | .nan => ∃ t, v = .str (Str.ofString "nan") t
  | .over => ∃ t, v = .str (Str.ofString "over") t
  | .under => ∃ t, v = .str (Str.ofString "under") t
  | .num n => ∃ t, v = .int n t

def tz (n : Int) : Int := if n = 0 then 0 else ((Builtin.Int.intBits (Builtin.bitAnd n (-n)) : Nat) : Int) - 1
def bl (n : Int) : Int := ((Builtin.Int.intBits n : Nat) : Int)
end Mine
namespace Mine
def numAt (ns : List Int) (a : Int) : Int := if a < (ns.length : Int) then ns.getD a.toNat 0 else 29 * a + 3
def drawL (n : Int) : LX := if n.fmod 5 < 3 then (if n.fmod 5 = 0 then .nan else if n.fmod 5 = 1 then .over else .under) else if n.fmod 5 = 3 then .num 0 else .num ((n.fdiv 5).fmod 41 - 20)
end Mine
namespace Mine
abbrev RV (news : Led) (x : LX) (h₀ : Heap) (L : Addr) (mm : Str → Option Value) (st : Shared) (Q : Value → Shared → Prop) : Prop :=
  ∀ v h' tk', LV v x → Fr h₀ L h' mm → News h₀ L h' news → Q v { st with heap := h', toks := tk' }
theorem RV.use {h₀ h' : Heap} {L : Addr} {mm : Str → Option Value} {news : Led} {st : Shared} {Q : Value → Shared → Prop} {tk' : Nat} {x y : LX} {v : Value} (hret : RV news x h₀ L mm st Q) (F : Fr h₀ L h' mm) (N : News h₀ L h' news) (hv : LV v y) (e : y = x) : Q v { st with heap := h', toks := tk' } := hret v h' tk' (e ▸ hv) F N
theorem lv_nan {t : Tok} : LV (.str (Str.ofString "nan") t) .nan := ⟨t, rfl⟩
theorem lv_over {t : Tok} : LV (.str (Str.ofString "over") t) .over := ⟨t, rfl⟩
theorem lv_under {t : Tok} : LV (.str (Str.ofString "under") t) .under := ⟨t, rfl⟩
theorem lv_num {t : Tok} {n : Int} : LV (.int n t) (.num n) := ⟨t, rfl⟩
end Mine
namespace Mine
def LX.isOver : LX → Bool | .over => true | _ => false
def LX.isUnder : LX → Bool | .under => true | _ => false
theorem sgnI_bound (n : Int) : -1 ≤ sgnI n ∧ sgnI n ≤ 1 := by unfold sgnI; split <;> (try split) <;> omega
theorem side_bound (x : LX) : -1 ≤ x.side ∧ x.side ≤ 1 := by
  cases x <;> simp only [LX.side] <;> first | omega | exact sgnI_bound _
end Mine
namespace Mine
section
variable {x y : LX}
theorem sum_nanL (h : x.isNan = true) : LX.nan = sumL x y := by cases x <;> simp_all [LX.isNan, sumL]
theorem sum_nanR (h : y.isNan = true) : LX.nan = sumL x y := by cases x <;> cases y <;> simp_all [LX.isNan, sumL]
theorem sum_same (h : x.wide = true) (h' : y.wide = true) (e : eqL x y = true) : x = sumL x y := by cases x <;> cases y <;> simp_all [LX.wide, sumL, eqL]
theorem sum_diff (h : x.wide = true) (h' : y.wide = true) (e : eqL x y = false) : LX.nan = sumL x y := by cases x <;> cases y <;> simp_all [LX.wide, sumL, eqL]
theorem sum_left (h : x.wide = true) (h' : y.wide = false) (e : y.isNan = false) : x = sumL x y := by cases x <;> cases y <;> simp_all [LX.wide, sumL, LX.isNan]
theorem sum_right (h : x.wide = false) (h' : y.wide = true) (e : x.isNan = false) : y = sumL x y := by cases x <;> cases y <;> simp_all [LX.wide, sumL, LX.isNan]
theorem two_nums (h : x.wide = false) (h' : y.wide = false) (e : x.isNan = false) (e' : y.isNan = false) (hn : ¬((∃ n, x = LX.num n) ∧ ∃ n, y = LX.num n)) : False := by
  cases x <;> cases y <;> simp_all [LX.wide, LX.isNan]
theorem prod_nan (h : x.isNan = true ∨ y.isNan = true ∨ x.side * y.side = 0) : LX.nan = prodL x y := by unfold prodL; rw [if_pos h]
theorem prod_inf (h : x.isNan = false) (h' : y.isNan = false) (e : x.side * y.side ≠ 0) : infL (x.side * y.side) = prodL x y := by unfold prodL; rw [if_neg (by simp [h, h', e])]
theorem quot_nan (h : x.isNan = true ∨ y.isNan = true ∨ (x.wide = true ∧ y.wide = true)) : LX.nan = quotL x y := by unfold quotL; rw [if_pos h]
theorem quot_inf (h : x.isNan = false) (h' : y.isNan = false) (e : y.wide = false) (e' : x.wide = true) : infL (x.side * y.side) = quotL x y := by unfold quotL; rw [if_neg (by simp [h, h', e]), if_pos e']
theorem quot_zero (h : x.isNan = false) (h' : y.isNan = false) (e' : x.wide = false) : LX.num 0 = quotL x y := by unfold quotL; rw [if_neg (by simp [h, h', e']), if_neg (by simp [e'])]
theorem ord_eq (h : eqL x y = true) : 0 = ordL x y := by unfold ordL; rw [if_pos h]
theorem ord_left (h : eqL x y = false) (hx : x.wide = true) : x.side = ordL x y := by unfold ordL; rw [if_neg (by simp [h]), if_pos hx]
theorem ord_right (h : eqL x y = false) (hx : x.wide = false) (hy : y.wide = true) : -y.side = ordL x y := by unfold ordL; rw [if_neg (by simp [h]), if_neg (by simp [hx]), if_pos hy]
end
theorem ord_num {a b : Int} : ordL (.num a) (.num b) = if a = b then 0 else if a > b then 1 else -1 := by
  unfold ordL eqL
  simp [LX.wide]
end Mine

namespace Mine
theorem intBits_le {x : Int} {k : Nat} (h : x.natAbs < 2 ^ k) : Builtin.Int.intBits x ≤ k := by
  unfold Builtin.Int.intBits
  by_cases hx : x = 0
  · subst hx; simp
  · rw [if_neg (by simpa using hx)]
    have := (Nat.log2_lt (by omega : x.natAbs ≠ 0)).mpr h
    omega
theorem intBits_pos {x : Int} (h : x ≠ 0) : 1 ≤ Builtin.Int.intBits x := by
  unfold Builtin.Int.intBits
  rw [if_neg (by simpa using h)]
  omega
theorem bitAnd_neg {n : Int} (h : 0 < n) : 1 ≤ Builtin.bitAnd n (-n) ∧ Builtin.bitAnd n (-n) ≤ n := by
  unfold Builtin.bitAnd
  have h1 : decide (0 ≤ n) = true := by simp; omega
  have h2 : decide (0 ≤ -n) = false := by simp; omega
  rw [h1, h2]
  simp only
  have h3 : n.toNat &&& (Builtin.bitNot (-n)).toNat ≤ (Builtin.bitNot (-n)).toNat := Nat.and_le_right
  have h4 : (Builtin.bitNot (-n)).toNat + 1 = n.toNat := by unfold Builtin.bitNot; omega
  omega
theorem tz_bound {n : Int} (h : 0 < n) (h1 : n < 1000000) : 0 ≤ tz n ∧ tz n ≤ 19 := by
  unfold tz
  rw [if_neg (by omega)]
  have ⟨a, b⟩ := bitAnd_neg h
  have h2 := intBits_pos (x := Builtin.bitAnd n (-n)) (by omega)
  have h3 := intBits_le (x := Builtin.bitAnd n (-n)) (k := 20) (by omega)
  omega
end Mine
namespace Mine
def aI (n : Int) : Int := if n < 0 then -n else n
def qS (n : Int) : Int := if n < 0 then 1 else 0
def qM (n : Int) : Int := (aI n).fdiv (2 ^ (tz (aI n)).toNat)
def qE (n exp : Int) : Int := if n = 0 then 0 else exp + tz (aI n)
def qB (n : Int) : Int := bl (aI n) - tz (aI n)

theorem all_lt {p : Nat → Prop} [∀ a, Decidable (p a)] (N : Nat) (h : (List.range N).all (fun a => decide (p a)) = true) : ∀ a, a < N → p a := by
  intro a ha
  have := List.all_eq_true.mp h a (List.mem_range.mpr ha)
  exact of_decide_eq_true this

theorem tz_small : ∀ a : Nat, a < 512 → 0 < a →
    (Builtin.bitAnd (a : Int) 1 ≠ 0 → tz a = 0 ∧ Int.fdiv a (2 ^ (tz a).toNat) = a) ∧
    (Builtin.bitAnd (a : Int) 1 = 0 → Builtin.bitAnd (a : Int) 2 ≠ 0 → tz a = 1) ∧
    0 < Int.fdiv a (2 ^ (tz a).toNat) ∧ Int.fdiv a (2 ^ (tz a).toNat) ≤ a ∧ 0 ≤ tz a ∧ tz a ≤ 8 ∧ 0 < bl a - tz a ∧ bl a - tz a ≤ 9 :=
  all_lt 512 (by decide +kernel)

theorem tz_odd {a : Int} (h0 : 0 < a) (h1 : a < 512) (h : Builtin.bitAnd a 1 ≠ 0) : tz a = 0 ∧ Int.fdiv a (2 ^ (tz a).toNat) = a := by
  have := (tz_small a.toNat (by omega) (by omega)).1
  rw [Int.toNat_of_nonneg (by omega)] at this
  exact this h
theorem tz_two {a : Int} (h0 : 0 < a) (h1 : a < 512) (h : Builtin.bitAnd a 1 = 0) (h2 : Builtin.bitAnd a 2 ≠ 0) : tz a = 1 := by
  have := (tz_small a.toNat (by omega) (by omega)).2.1
  rw [Int.toNat_of_nonneg (by omega)] at this
  exact this h h2
theorem tz_more {a : Int} (h0 : 0 < a) (h1 : a < 512) : 0 < Int.fdiv a (2 ^ (tz a).toNat) ∧ Int.fdiv a (2 ^ (tz a).toNat) ≤ a ∧ 0 ≤ tz a ∧ tz a ≤ 8 ∧ 0 < bl a - tz a ∧ bl a - tz a ≤ 9 := by
  have := (tz_small a.toNat (by omega) (by omega)).2.2
  rw [Int.toNat_of_nonneg (by omega)] at this
  exact this

theorem q_odd {a man exp : Int} (ha : a = aI man) (h0 : a ≠ 0) (h1 : a < 512) (h : Builtin.bitAnd a 1 ≠ 0) : a = qM man ∧ exp = qE man exp ∧ ((Builtin.Int.intBits a : Nat) : Int) = qB man := by
  have hp : 0 < a := by rw [ha] at h0 ⊢; unfold aI at *; split <;> omega
  have hm : man ≠ 0 := by intro q; apply h0; rw [ha, q]; rfl
  obtain ⟨e1, e2⟩ := tz_odd hp h1 h
  unfold qM qE qB bl
  rw [if_neg hm, ← ha, e2, e1]
  omega
theorem q_two {a man exp : Int} (ha : a = aI man) (h0 : a ≠ 0) (h1 : a < 512) (h : Builtin.bitAnd a 1 = 0) (h2 : Builtin.bitAnd a 2 ≠ 0) : a.fdiv (2 ^ Int.toNat 1) = qM man ∧ exp + 1 = qE man exp ∧ ((Builtin.Int.intBits a : Nat) : Int) - 1 = qB man := by
  have hp : 0 < a := by rw [ha] at h0 ⊢; unfold aI at *; split <;> omega
  have hm : man ≠ 0 := by intro q; apply h0; rw [ha, q]; rfl
  have e1 := tz_two hp h1 h h2
  unfold qM qE qB bl
  rw [if_neg hm, ← ha, e1]
  simp
theorem q_more {a man exp : Int} (ha : a = aI man) (h0 : a ≠ 0) : a.fdiv (2 ^ (tz a).toNat) = qM man ∧ exp + tz a = qE man exp ∧ ((Builtin.Int.intBits a : Nat) : Int) - tz a = qB man := by
  have hm : man ≠ 0 := by intro q; apply h0; rw [ha, q]; rfl
  unfold qM qE qB bl
  rw [if_neg hm, ← ha]
  simp
theorem q_zero : qS 0 = 0 ∧ qM 0 = 0 ∧ (∀ e, qE 0 e = 0) ∧ qB 0 = 0 := by
  refine ⟨by decide, by decide +kernel, fun e => rfl, by decide +kernel⟩
end Mine
namespace Mine
def mS : LX → Int | .nan => 0 | .over => 0 | .under => 1 | .num n => qS n
def mM : LX → Int | .nan => 0 | .over => 0 | .under => 0 | .num n => qM n
def mE : LX → Int | .nan => -123 | .over => -456 | .under => -789 | .num n => qE n (-2)
def mB : LX → Int | .nan => -1 | .over => -2 | .under => -3 | .num n => qB n
def LX.old : LX → Prop | .num n => n = 0 | _ => True
def LX.small : LX → Prop | .num n => -512 < n ∧ n < 512 | _ => True
abbrev TupX (w : World) (news : Led) (a : Addr) (x : LX) : Prop := TupA (hd.heap_39 w.params) news a (mS x) (mM x) (mE x) (mB x)
abbrev RX (w : World) (news : Led) (x : LX) := RT w news x.old (mS x) (mM x) (mE x) (mB x)
end Mine
namespace Mine
/-- what is known of the four ints of an extended number -/
def Kf : LX → Int → Int → Int → Int → Prop
  | .nan, s, m, e, b => s = 0 ∧ m = 0 ∧ e = -123 ∧ b = -1
  | .over, s, m, e, b => s = 0 ∧ m = 0 ∧ e = -456 ∧ b = -2
  | .under, s, m, e, b => s = 1 ∧ m = 0 ∧ e = -789 ∧ b = -3
  | .num n, s, m, e, b => (n = 0 ∧ s = 0 ∧ m = 0 ∧ e = 0 ∧ b = 0) ∨ (n > 0 ∧ s = 0 ∧ 0 < m ∧ m < 512) ∨ (n < 0 ∧ s = 1 ∧ 0 < m ∧ m < 512)
theorem aI_pos {n : Int} (h : n ≠ 0) : 0 < aI n := by unfold aI; split <;> omega
theorem aI_lt {n : Int} (h : -512 < n) (h' : n < 512) : aI n < 512 := by unfold aI; split <;> omega
theorem kf_of (x : LX) (hs : x.small) : Kf x (mS x) (mM x) (mE x) (mB x) := by
  rcases x with _ | _ | _ | n
  · exact ⟨rfl, rfl, rfl, rfl⟩
  · exact ⟨rfl, rfl, rfl, rfl⟩
  · exact ⟨rfl, rfl, rfl, rfl⟩
  · have hs' : -512 < n ∧ n < 512 := hs
    by_cases h0 : n = 0
    · subst h0
      exact .inl ⟨rfl, q_zero.1, q_zero.2.1, q_zero.2.2.1 _, q_zero.2.2.2⟩
    · have hm0 := tz_more (aI_pos h0) (aI_lt hs'.1 hs'.2)
      have hm : 0 < qM n ∧ qM n < 512 := ⟨hm0.1, Int.lt_of_le_of_lt hm0.2.1 (aI_lt hs'.1 hs'.2)⟩
      refine .inr ?_
      by_cases h1 : n < 0
      · exact .inr ⟨h1, by show qS n = 1; unfold qS; rw [if_pos h1], hm⟩
      · exact .inl ⟨by omega, by show qS n = 0; unfold qS; rw [if_neg h1], hm⟩
/-- the same, whatever the number -/
theorem kf_any {x : LX} {s m e b : Int} (h : Kf x s m e b) : (m = 0 ∧ s = 0 ∧ e = -123 ∧ b = -1) ∨ (m = 0 ∧ s = 0 ∧ e = -456 ∧ b = -2) ∨ (m = 0 ∧ s = 1 ∧ e = -789 ∧ b = -3) ∨ (m = 0 ∧ s = 0 ∧ e = 0 ∧ b = 0) ∨ (0 < m ∧ m < 512 ∧ (s = 0 ∨ s = 1)) := by
  rcases x with _ | _ | _ | n <;> simp only [Kf] at h
  · exact .inl ⟨h.2.1, h.1, h.2.2⟩
  · exact .inr (.inl ⟨h.2.1, h.1, h.2.2⟩)
  · exact .inr (.inr (.inl ⟨h.2.1, h.1, h.2.2⟩))
  · rcases h with ⟨_, h1, h2, h3⟩ | ⟨_, h1, h2, h3⟩ | ⟨_, h1, h2, h3⟩
    · exact .inr (.inr (.inr (.inl ⟨h2, h1, h3⟩)))
    · exact .inr (.inr (.inr (.inr ⟨h2, h3, .inl h1⟩)))
    · exact .inr (.inr (.inr (.inr ⟨h2, h3, .inr h1⟩)))
end Mine
namespace Mine
theorem TupX.open {w : World} {news : Led} {a : Addr} {x : LX} (h : TupX w news a x) (hs : x.small) : ∃ s m e b, TupA (hd.heap_39 w.params) news a s m e b ∧ Kf x s m e b ∧
    ((m = 0 ∧ s = 0 ∧ e = -123 ∧ b = -1) ∨ (m = 0 ∧ s = 0 ∧ e = -456 ∧ b = -2) ∨ (m = 0 ∧ s = 1 ∧ e = -789 ∧ b = -3) ∨ (m = 0 ∧ s = 0 ∧ e = 0 ∧ b = 0) ∨ (0 < m ∧ m < 512 ∧ (s = 0 ∨ s = 1))) ∧ (s = mS x ∧ m = mM x ∧ e = mE x ∧ b = mB x) :=
  ⟨_, _, _, _, h, kf_of x hs, kf_any (kf_of x hs), rfl, rfl, rfl, rfl⟩
def eqM (x y : LX) : Bool := if x.isNan = true ∨ y.isNan = true then false else eqL x y
end Mine
namespace Mine
theorem sd_m {x : LX} {s m e b : Int} (h : Kf x s m e b) (hm : m ≠ 0) : (-1) ^ s.toNat = x.side := by
  rcases x with _ | _ | _ | n <;> simp only [Kf] at h <;> try omega
  rcases h with h | ⟨h1, h2, _, _⟩ | ⟨h1, h2, _, _⟩
  · omega
  · subst h2; simp [LX.side, sgnI, h1]
  · subst h2; simp only [LX.side, sgnI]; rw [if_neg (by omega), if_pos h1]; decide
theorem sd_o {x : LX} {s m e b : Int} (h : Kf x s m e b) (he : s = 0 ∧ m = 0 ∧ e = -456 ∧ b = -2) : 1 = x.side := by
  rcases x with _ | _ | _ | n <;> simp only [Kf] at h <;> simp only [LX.side] <;> omega
theorem sd_u {x : LX} {s m e b : Int} (h : Kf x s m e b) (he : s = 1 ∧ m = 0 ∧ e = -789 ∧ b = -3) : -1 = x.side := by
  rcases x with _ | _ | _ | n <;> simp only [Kf] at h <;> simp only [LX.side] <;> omega
theorem sd_z {x : LX} {s m e b : Int} (h : Kf x s m e b) (hm : m = 0) (h1 : ¬(s = 0 ∧ m = 0 ∧ e = -456 ∧ b = -2)) (h2 : ¬(s = 1 ∧ m = 0 ∧ e = -789 ∧ b = -3)) : 0 = x.side := by
  rcases x with _ | _ | _ | n <;> simp only [Kf] at h <;> simp only [LX.side, sgnI] <;> first | omega | rw [if_neg (by omega), if_neg (by omega)]
end Mine
namespace Mine
section
variable {x y : LX} {s m e b s' m' e' b' : Int}
theorem eq_nanL (h : Kf x s m e b) (he : s = 0 ∧ m = 0 ∧ e = -123 ∧ b = -1) : false = eqM x y := by
  rcases x with _ | _ | _ | n <;> simp only [Kf] at h <;> first | omega | simp [eqM, LX.isNan]
theorem eq_nanR (h : Kf y s m e b) (he : s = 0 ∧ m = 0 ∧ e = -123 ∧ b = -1) : false = eqM x y := by
  rcases y with _ | _ | _ | n <;> simp only [Kf] at h <;> first | omega | simp [eqM, LX.isNan]
theorem eq_rest (hk : Kf x s m e b) (hl : Kf y s' m' e' b') (hp : x.spec = true ∨ y.spec = true) (h1 : m ≠ 0 ∨ ¬(s = 0 ∧ m = 0 ∧ e = -123 ∧ b = -1)) (h2 : m' ≠ 0 ∨ ¬(s' = 0 ∧ m' = 0 ∧ e' = -123 ∧ b' = -1)) :
    e4 s m e b s' m' e' b' = eqM x y := by
  rcases x with _ | _ | _ | n <;> rcases y with _ | _ | _ | n' <;> simp only [Kf] at hk hl <;> simp only [LX.spec] at hp <;> first
    | omega
    | (simp only [e4, eqM, LX.isNan, eqL]; simp; omega)
    | (simp at hp)
def absL : LX → LX | .nan => .nan | .over => .over | .under => .over | .num n => .num (aI n)
end
abbrev RXo (w : World) (news : Led) (z : LX) (h₀ : Heap) (L : Addr) (mm : Str → Option Value) (st : Shared) (Q : Value → Shared → Prop) : Prop :=
  ∀ a h' tk', TupX w news a z → Fr h₀ L h' mm → News h₀ L h' news → Q (.ref a) { st with heap := h', toks := tk' }
theorem RXo.use {w : World} {news : Led} {z : LX} {s' m' e' b' : Int} {h₀ h' : Heap} {L a : Addr} {mm : Str → Option Value} {st : Shared} {Q : Value → Shared → Prop} {tk' : Nat}
    (hret : RXo w news z h₀ L mm st Q) (T : TupA (hd.heap_39 w.params) news a s' m' e' b') (F : Fr h₀ L h' mm) (N : News h₀ L h' news) (h1 : s' = mS z ∧ m' = mM z ∧ e' = mE z ∧ b' = mB z) : Q (.ref a) { st with heap := h', toks := tk' } := by
  obtain ⟨rfl, rfl, rfl, rfl⟩ := h1
  exact hret a h' tk' T F N
/-- the four ints of an extended number, told by the kind's facts -/
theorem kf_eq {x z : LX} {s m e b : Int} (hq : s = mS x ∧ m = mM x ∧ e = mE x ∧ b = mB x) (hz : x = z) : s = mS z ∧ m = mM z ∧ e = mE z ∧ b = mB z := hz ▸ hq
theorem k_nan {z : LX} (h : LX.nan = z) : 0 = mS z ∧ 0 = mM z ∧ -123 = mE z ∧ -1 = mB z := by subst h; exact ⟨rfl, rfl, rfl, rfl⟩
theorem k_over {z : LX} (h : LX.over = z) : 0 = mS z ∧ 0 = mM z ∧ -456 = mE z ∧ -2 = mB z := by subst h; exact ⟨rfl, rfl, rfl, rfl⟩
theorem k_under {z : LX} (h : LX.under = z) : 1 = mS z ∧ 0 = mM z ∧ -789 = mE z ∧ -3 = mB z := by subst h; exact ⟨rfl, rfl, rfl, rfl⟩
theorem k_zero {z : LX} (h : LX.num 0 = z) : 0 = mS z ∧ 0 = mM z ∧ 0 = mE z ∧ 0 = mB z := by subst h; exact ⟨q_zero.1.symm, q_zero.2.1.symm, (q_zero.2.2.1 _).symm, q_zero.2.2.2.symm⟩
end Mine
namespace Mine
theorem kf_sp {x : LX} {s m e b : Int} (h : Kf x s m e b) (hp : x.spec = true) : (m = 0 ∧ s = 0 ∧ e = -123 ∧ b = -1) ∨ (m = 0 ∧ s = 0 ∧ e = -456 ∧ b = -2) ∨ (m = 0 ∧ s = 1 ∧ e = -789 ∧ b = -3) := by
  rcases x with _ | _ | _ | n <;> simp only [Kf] at h
  · exact .inl ⟨h.2.1, h.1, h.2.2⟩
  · exact .inr (.inl ⟨h.2.1, h.1, h.2.2⟩)
  · exact .inr (.inr ⟨h.2.1, h.1, h.2.2⟩)
  · simp [LX.spec] at hp
section
variable {x y : LX} {s m e b s' m' e' b' : Int}
theorem is_nan (h : Kf x s m e b) (he : s = 0 ∧ m = 0 ∧ e = -123 ∧ b = -1) : x = .nan := by
  rcases x with _ | _ | _ | n <;> simp only [Kf] at h <;> first | omega | rfl
theorem is_over (h : Kf x s m e b) (he : s = 0 ∧ m = 0 ∧ e = -456 ∧ b = -2) : x = .over := by
  rcases x with _ | _ | _ | n <;> simp only [Kf] at h <;> first | omega | rfl
theorem is_under (h : Kf x s m e b) (he : s = 1 ∧ m = 0 ∧ e = -789 ∧ b = -3) : x = .under := by
  rcases x with _ | _ | _ | n <;> simp only [Kf] at h <;> first | omega | rfl
theorem is_zero (h : Kf x s m e b) (he : m = 0) (he' : e = 0) : x = .num 0 := by
  rcases x with _ | _ | _ | n <;> simp only [Kf] at h <;> first | omega | (have : n = 0 := by omega) <;> rw [this]
theorem is_fin (h : Kf x s m e b) (he : m ≠ 0) : ∃ n, x = .num n ∧ n ≠ 0 := by
  rcases x with _ | _ | _ | n <;> simp only [Kf] at h <;> first | omega | exact ⟨n, rfl, by omega⟩
theorem is_sp (h : Kf x s m e b) (he : m = 0) (he' : e ≠ 0) : x.spec = true := by
  rcases x with _ | _ | _ | n <;> simp only [Kf] at h <;> first | omega | rfl
theorem is_nan' (h : Kf x s m e b) (he : m = 0) (he' : e ≠ 0) (h1 : ¬(s = 0 ∧ m = 0 ∧ e = -456 ∧ b = -2)) (h2 : ¬(s = 1 ∧ m = 0 ∧ e = -789 ∧ b = -3)) : x = .nan := by
  rcases x with _ | _ | _ | n <;> simp only [Kf] at h <;> first | omega | rfl
end
theorem qS_neg {n : Int} (h : n ≠ 0) : qS (-n) = 1 - qS n := by unfold qS; split <;> split <;> omega
theorem aI_neg (n : Int) : aI (-n) = aI n := by unfold aI; split <;> split <;> omega
theorem fin_neg {x : LX} {s m e b : Int} (h : Kf x s m e b) (hq : s = mS x ∧ m = mM x ∧ e = mE x ∧ b = mB x) (he : m ≠ 0) : 1 - s = mS (negL x) ∧ m = mM (negL x) ∧ e = mE (negL x) ∧ b = mB (negL x) := by
  obtain ⟨n, rfl, hn⟩ := is_fin h he
  obtain ⟨rfl, rfl, rfl, rfl⟩ := hq
  refine ⟨(qS_neg hn).symm, ?_, ?_, ?_⟩
  · show qM n = qM (-n); unfold qM; rw [aI_neg]
  · show qE n (-2) = qE (-n) (-2); unfold qE; rw [aI_neg, if_neg hn, if_neg (by omega)]
  · show qB n = qB (-n); unfold qB; rw [aI_neg]
theorem fin_negold {x : LX} {s m e b : Int} (h : Kf x s m e b) (he : m ≠ 0) : ¬ (negL x).old := by
  obtain ⟨n, rfl, hn⟩ := is_fin h he
  show ¬ (-n = 0)
  omega
end Mine
namespace Mine
theorem abs_end {x : LX} {s m e b : Int} (h : Kf x s m e b) (hp : x.spec = true) (h1 : ¬(s = 1 ∧ m = 0 ∧ e = -789 ∧ b = -3)) : x = absL x := by
  rcases x with _ | _ | _ | n <;> simp only [Kf] at h <;> first | omega | rfl | cases hp
end Mine
namespace Mine
theorem sp_or {x y : LX} {s m e b s' m' e' b' : Int} (h : Kf x s m e b) (h' : Kf y s' m' e' b') (hp : x.spec = true ∨ y.spec = true) : (m = 0 ∧ e ≠ 0) ∨ (m' = 0 ∧ e' ≠ 0) := by
  rcases hp with hp | hp
  · have := kf_sp h hp; omega
  · have := kf_sp h' hp; omega
end Mine
namespace Mine
section
variable {x z y : LX} {s m e b s' m' e' b' : Int}
theorem neg_spec : (negL y).spec = y.spec := by cases y <;> rfl
theorem neg_small (h : y.small) : (negL y).small := by
  rcases y with _ | _ | _ | n <;> first | exact trivial | (have h' : -512 < n ∧ n < 512 := h; show -512 < -n ∧ -n < 512; omega)
theorem spec_old (h : x.spec = true) : x.old := by cases x <;> first | exact trivial | cases h
theorem spec_small (h : x.spec = true) : x.small := by cases x <;> first | exact trivial | cases h
theorem nsp_fin (h : Kf y s m e b) (hm : m ≠ 0) : y.spec = false := by
  rcases y with _ | _ | _ | n <;> simp only [Kf] at h <;> first | omega | rfl
theorem nsp_zero (h : Kf y s m e b) (hm : m = 0) (he : e = 0) : y.spec = false := by
  rcases y with _ | _ | _ | n <;> simp only [Kf] at h <;> first | omega | rfl
theorem a1 (h : Kf x s m e b) (hm : m ≠ 0) (hz : z.spec = true) : z = sumL x z := by
  obtain ⟨n, rfl, -⟩ := is_fin h hm
  cases z <;> first | rfl | cases hz
theorem a2 (hx : x.spec = true) (h : Kf x s m e b) (h' : Kf z s' m' e' b') (he : s = s' ∧ m = m' ∧ e = e' ∧ b = b') : x = sumL x z := by
  obtain ⟨rfl, rfl, rfl, rfl⟩ := he
  rcases x with _ | _ | _ | n <;> rcases z with _ | _ | _ | n' <;> simp only [Kf] at h h' <;> first | rfl | omega | cases hx
theorem a3 (hx : x.spec = true) (hz : z.spec = false) : x = sumL x z := by
  cases x <;> cases z <;> first | rfl | (simp [LX.spec] at hx; done) | (simp [LX.spec] at hz; done)
theorem a4 (hx : x.spec = true) (hz : z.spec = true) (h : Kf x s m e b) (h' : Kf z s' m' e' b') (he : ¬(s = s' ∧ m = m' ∧ e = e' ∧ b = b')) : LX.nan = sumL x z := by
  rcases x with _ | _ | _ | n <;> rcases z with _ | _ | _ | n' <;> first | rfl | (simp [LX.spec] at hx; done) | (simp [LX.spec] at hz; done) | (exfalso; apply he; simp only [Kf] at h h'; omega)
theorem a6 (h : Kf x s m e b) (hm : m = 0) (he : e = 0) (hz : z.spec = true) : z = sumL x z := by
  rw [is_zero h hm he]
  cases z <;> first | rfl | cases hz
end
end Mine

namespace Mine
theorem mm_zero {m e m' e' : Int} (h : (m = 0 ∧ e ≠ 0) ∨ (m' = 0 ∧ e' ≠ 0)) : m * m' = 0 := by
  rcases h with ⟨rfl, _⟩ | ⟨rfl, _⟩ <;> simp
end Mine
namespace Mine
section
variable {x y : LX} {s m e b s' m' e' b' : Int}
theorem side_pm (h : Kf x s m e b) (hn : ¬(s = 0 ∧ m = 0 ∧ e = -123 ∧ b = -1)) (hz : m ≠ 0 ∨ e ≠ 0) : x.side = 1 ∨ x.side = -1 := by
  rcases x with _ | _ | _ | n <;> simp only [Kf] at h
  · omega
  · exact .inl rfl
  · exact .inr rfl
  · simp only [LX.side, sgnI]
    by_cases h1 : n > 0
    · rw [if_pos h1]; exact .inl rfl
    · rw [if_neg h1, if_pos (by omega)]; exact .inr rfl
theorem not_or_dec {s1 m1 e1 b1 s2 m2 e2 b2 s3 m3 e3 b3 s4 m4 e4' b4 : Int} (h : (e4 s1 m1 e1 b1 s2 m2 e2 b2 || e4 s3 m3 e3 b3 s4 m4 e4' b4) = false) : ¬(s1 = s2 ∧ m1 = m2 ∧ e1 = e2 ∧ b1 = b2) ∧ ¬(s3 = s4 ∧ m3 = m4 ∧ e3 = e4' ∧ b3 = b4) := by
  have h' : e4 s1 m1 e1 b1 s2 m2 e2 b2 = false ∧ e4 s3 m3 e3 b3 s4 m4 e4' b4 = false := by simpa using h
  exact ⟨not_e4 h'.1, not_e4 h'.2⟩
theorem prod_pm (hx : Kf x s m e b) (hy : Kf y s' m' e' b') (hf : ¬(s = 0 ∧ m = 0 ∧ e = -123 ∧ b = -1) ∧ ¬(s' = 0 ∧ m' = 0 ∧ e' = -123 ∧ b' = -1)) (z1 : m ≠ 0 ∨ e ≠ 0) (z2 : m' ≠ 0 ∨ e' ≠ 0) :
    (x.side * y.side = 1 ∨ x.side * y.side = -1) ∧ (y.side * x.side = 1 ∨ y.side * x.side = -1) := by
  rcases side_pm hx hf.1 z1 with h | h <;> rcases side_pm hy hf.2 z2 with h' | h' <;> rw [h, h'] <;> decide
end
end Mine
namespace Mine
section
variable {x y : LX} {s m e b s' m' e' b' : Int}
theorem nn_of (h : Kf x s m e b) (hn : ¬(s = 0 ∧ m = 0 ∧ e = -123 ∧ b = -1)) : x.isNan = false := by
  rcases x with _ | _ | _ | n <;> simp only [Kf] at h <;> first | omega | rfl
theorem p_nan (hx : Kf x s m e b) (hy : Kf y s' m' e' b') (hf : (e4 s m e b 0 0 (-123) (-1) || e4 s' m' e' b' 0 0 (-123) (-1)) = true) : LX.nan = prodL x y := by
  rcases ((by simpa using hf : _ ∨ _).imp of_e4 of_e4) with h | h
  · exact prod_nan (.inl (by rw [is_nan hx h]; rfl))
  · exact prod_nan (.inr (.inl (by rw [is_nan hy h]; rfl)))
theorem p_zero (hx : Kf x s m e b) (hy : Kf y s' m' e' b') (hz : (m = 0 ∧ e = 0) ∨ (m' = 0 ∧ e' = 0)) : LX.nan = prodL x y := by
  rcases hz with h | h
  · exact prod_nan (.inr (.inr (by rw [is_zero hx h.1 h.2]; simp [LX.side, sgnI])))
  · exact prod_nan (.inr (.inr (by rw [is_zero hy h.1 h.2]; simp [LX.side, sgnI])))
theorem p_pos (hx : Kf x s m e b) (hy : Kf y s' m' e' b') (hf : ¬(s = 0 ∧ m = 0 ∧ e = -123 ∧ b = -1) ∧ ¬(s' = 0 ∧ m' = 0 ∧ e' = -123 ∧ b' = -1)) (hi : x.side * y.side = 1 ∨ y.side * x.side = 1) : LX.over = prodL x y := by
  have hi' : x.side * y.side = 1 := hi.elim id fun h => by rw [Int.mul_comm]; exact h
  have := prod_inf (nn_of hx hf.1) (nn_of hy hf.2) (by omega)
  rw [← this, hi']; rfl
theorem p_neg (hx : Kf x s m e b) (hy : Kf y s' m' e' b') (hf : ¬(s = 0 ∧ m = 0 ∧ e = -123 ∧ b = -1) ∧ ¬(s' = 0 ∧ m' = 0 ∧ e' = -123 ∧ b' = -1)) (hi : x.side * y.side = -1 ∨ y.side * x.side = -1) : LX.under = prodL x y := by
  have hi' : x.side * y.side = -1 := hi.elim id fun h => by rw [Int.mul_comm]; exact h
  have := prod_inf (nn_of hx hf.1) (nn_of hy hf.2) (by omega)
  rw [← this, hi']; rfl
theorem d_nan (hx : Kf x s m e b) (hy : Kf y s' m' e' b') (hf : (s = 0 ∧ m = 0 ∧ e = -123 ∧ b = -1) ∨ (s' = 0 ∧ m' = 0 ∧ e' = -123 ∧ b' = -1)) : LX.nan = quotL x y := by
  rcases hf with h | h
  · exact quot_nan (.inl (by rw [is_nan hx h]; rfl))
  · exact quot_nan (.inr (.inl (by rw [is_nan hy h]; rfl)))
theorem wide_sp (h : x.spec = true) : x.isNan = true ∨ x.wide = true := by cases x <;> simp [LX.isNan, LX.wide, LX.spec] at *
theorem d_both (hx : x.spec = true) (hy : y.spec = true) : LX.nan = quotL x y := by
  rcases wide_sp hx with h | h
  · exact quot_nan (.inl h)
  · rcases wide_sp hy with h' | h'
    · exact quot_nan (.inr (.inl h'))
    · exact quot_nan (.inr (.inr ⟨h, h'⟩))
theorem d_pos (hx : Kf x s m e b) (hy : Kf y s' m' e' b') (h1 : x.spec = true) (h2 : y.spec = false) (hf : ¬(s = 0 ∧ m = 0 ∧ e = -123 ∧ b = -1)) (hi : x.side * y.side = 1) : LX.over = quotL x y := by
  rcases x with _ | _ | _ | n <;> rcases y with _ | _ | _ | n' <;> simp only [LX.spec, Bool.false_eq_true, Bool.true_eq_false, reduceCtorEq] at h1 h2
  · simp only [Kf] at hx; exact absurd hx hf
  · rw [← quot_inf rfl rfl rfl rfl, hi]; rfl
  · rw [← quot_inf rfl rfl rfl rfl, hi]; rfl
theorem d_neg (hx : Kf x s m e b) (hy : Kf y s' m' e' b') (h1 : x.spec = true) (h2 : y.spec = false) (hf : ¬(s = 0 ∧ m = 0 ∧ e = -123 ∧ b = -1)) (hi : x.side * y.side = -1) : LX.under = quotL x y := by
  rcases x with _ | _ | _ | n <;> rcases y with _ | _ | _ | n' <;> simp only [LX.spec, Bool.false_eq_true, Bool.true_eq_false, reduceCtorEq] at h1 h2
  · simp only [Kf] at hx; exact absurd hx hf
  · rw [← quot_inf rfl rfl rfl rfl, hi]; rfl
  · rw [← quot_inf rfl rfl rfl rfl, hi]; rfl
theorem d_zero (h1 : x.spec = false) (hy : Kf y s' m' e' b') (hf : ¬(s' = 0 ∧ m' = 0 ∧ e' = -123 ∧ b' = -1)) : LX.num 0 = quotL x y := by
  rcases x with _ | _ | _ | n <;> simp only [LX.spec, Bool.true_eq_false, reduceCtorEq] at h1
  exact quot_zero rfl (nn_of hy hf) rfl
theorem nz_of (h : Kf y s m e b) (hz : y.isZero = false) : m ≠ 0 ∨ e ≠ 0 := by
  rcases y with _ | _ | _ | n <;> simp only [Kf] at h <;> first | omega | (have : n ≠ 0 := by simpa [LX.isZero] using hz) <;> omega
end
end Mine

namespace Mine
theorem kf_lin {x : LX} {s m e b : Int} (h : Kf x s m e b) : 0 ≤ s ∧ s ≤ 1 ∧ 0 ≤ m ∧ m < 512 := by
  have := kf_any h
  omega
theorem TupX.opn {w : World} {news : Led} {a : Addr} {x : LX} (h : TupX w news a x) (hs : x.small) : ∃ s m e b, TupA (hd.heap_39 w.params) news a s m e b ∧ Kf x s m e b ∧ (0 ≤ s ∧ s ≤ 1 ∧ 0 ≤ m ∧ m < 512) ∧ (s = mS x ∧ m = mM x ∧ e = mE x ∧ b = mB x) :=
  ⟨_, _, _, _, h, kf_of x hs, kf_lin (kf_of x hs), rfl, rfl, rfl, rfl⟩
theorem sp_m {x : LX} {s m e b : Int} (h : Kf x s m e b) (hp : x.spec = true) : m = 0 ∧ e ≠ 0 := by
  have := kf_sp h hp
  omega
theorem sp_or0 {x y : LX} {s m e b s' m' e' b' : Int} (h : Kf x s m e b) (h' : Kf y s' m' e' b') (hp : x.spec = true ∨ y.spec = true) : m = 0 ∨ m' = 0 := by
  have := sp_or h h' hp
  omega
theorem or_e4 {p q : Bool} (h : (p || q) = true) : p = true ∨ q = true := by simpa using h
theorem nor_e4 {p q : Bool} (h : (p || q) = false) : p = false ∧ q = false := by simpa using h
end Mine
namespace Mine
section
variable {x y : LX} {s m e b s' m' e' b' : Int}
theorem a6s (h : Kf x s m e b) (h' : Kf y s' m' e' b') (hp : x.spec = true ∨ y.spec = true) (hm : m = 0) (he : e = 0) : y.spec = true := by
  rcases hp with hp | hp
  · exact absurd (sp_m h hp).2 (by omega)
  · exact hp
theorem a6' (h : Kf x s m e b) (h' : Kf y s' m' e' b') (hp : x.spec = true ∨ y.spec = true) (hm : m = 0) (he : e = 0) : y = sumL x y := a6 h hm he (a6s h h' hp hm he)
end
end Mine
namespace Mine
section
variable {x y : LX} {s m e b s' m' e' b' : Int}
theorem nz_e4 (h : Kf x s m e b) (hz : e4 s m e b 0 0 0 0 = false) : m ≠ 0 ∨ e ≠ 0 := by
  have := kf_any h
  have h2 := not_e4 hz
  omega
theorem nn_e4 (h : Kf x s m e b) (hm : m ≠ 0) : ¬(s = 0 ∧ m = 0 ∧ e = -123 ∧ b = -1) := by omega
end
end Mine
namespace Mine
section
variable {x y : LX} {s m e b s' m' e' b' : Int}
theorem nzf (h : Kf y s m e b) (hz : y.isZero = false) : e4 s m e b 0 0 0 0 = false := by
  have h1 := nz_of h hz
  unfold e4
  exact decide_eq_false (by omega)
theorem fin_nzf {m : Int} (hm : m ≠ 0) : e4 s m e b 0 0 0 0 = false := decide_eq_false (by omega)
end
end Mine
namespace Mine
section
variable {x y : LX} {s m e b s' m' e' b' : Int}
theorem o_sz (hx : Kf x s m e b) (h1 : e4 s m e b 0 0 0 0 = true) (hy : y.spec = true) (hyn : y.isNan = false) : -y.side = ordL x y := by
  rw [is_zero hx (of_e4 h1).2.1 (of_e4 h1).2.2.1]
  cases y <;> simp [LX.spec, LX.isNan, ordL, eqL, LX.wide, LX.side] at *
theorem o_tz (hy : Kf y s' m' e' b') (h1 : e4 s' m' e' b' 0 0 0 0 = true) (hx : x.spec = true) (hxn : x.isNan = false) : x.side = ordL x y := by
  rw [is_zero hy (of_e4 h1).2.1 (of_e4 h1).2.2.1]
  cases x <;> simp [LX.spec, LX.isNan, ordL, eqL, LX.wide, LX.side] at *
theorem o_eq (hx : Kf x s m e b) (hy : Kf y s' m' e' b') (h : e4 s m e b s' m' e' b' = true) (hp : x.spec = true ∨ y.spec = true) : 0 = ordL x y := by
  obtain ⟨rfl, rfl, rfl, rfl⟩ := of_e4 h
  refine ord_eq ?_
  rcases x with _ | _ | _ | n <;> rcases y with _ | _ | _ | n' <;> simp only [Kf] at hx hy <;> first | rfl | omega | (simp [LX.spec] at hp)
theorem o_over (hx : Kf x s m e b) (hy : Kf y s' m' e' b') (h : e4 s m e b 0 0 (-456) (-2) = true) (hn : e4 s m e b s' m' e' b' = false) : 1 = ordL x y := by
  have h1 := not_e4 hn
  obtain ⟨rfl, rfl, rfl, rfl⟩ := of_e4 h
  rw [is_over hx ⟨rfl, rfl, rfl, rfl⟩]
  rcases y with _ | _ | _ | n' <;> simp only [Kf] at hy <;> first | omega | simp [ordL, eqL, LX.wide, LX.side]
theorem o_under (hx : Kf x s m e b) (hy : Kf y s' m' e' b') (h : e4 s' m' e' b' 1 0 (-789) (-3) = true) (hn : e4 s m e b s' m' e' b' = false) (ho : e4 s m e b 0 0 (-456) (-2) = false) (hxn : x.isNan = false) : 1 = ordL x y := by
  have h1 := not_e4 hn
  have h2 := not_e4 ho
  obtain ⟨rfl, rfl, rfl, rfl⟩ := of_e4 h
  rw [is_under hy ⟨rfl, rfl, rfl, rfl⟩]
  rcases x with _ | _ | _ | n' <;> simp only [Kf] at hx <;> first | (exact absurd hx h2) | (exact absurd hx h1) | (simp [LX.isNan] at hxn; done) | simp [ordL, eqL, LX.wide, LX.side]
theorem o_rest (hx : Kf x s m e b) (hy : Kf y s' m' e' b') (hn : e4 s m e b s' m' e' b' = false) (ho : e4 s m e b 0 0 (-456) (-2) = false) (hu : e4 s' m' e' b' 1 0 (-789) (-3) = false) (hxn : x.isNan = false) (hyn : y.isNan = false) (hp : x.spec = true ∨ y.spec = true) : -1 = ordL x y := by
  have h1 := not_e4 hn
  have h2 := not_e4 ho
  have h3 := not_e4 hu
  rcases x with _ | _ | _ | n <;> rcases y with _ | _ | _ | n' <;> simp only [Kf] at hx hy <;> first
    | (simp [LX.isNan] at hxn; done) | (simp [LX.isNan] at hyn; done) | (exact absurd hx h2) | (exact absurd hy h3) | (simp [LX.spec] at hp; done) | simp [ordL, eqL, LX.wide, LX.side]
theorem nn_f (hx : Kf x s m e b) (hxn : x.isNan = false) : e4 s m e b 0 0 (-123) (-1) = false := by
  unfold e4
  refine decide_eq_false ?_
  rcases x with _ | _ | _ | n <;> simp only [Kf] at hx <;> first | (simp [LX.isNan] at hxn; done) | omega
theorem sp_not0 (hx : Kf x s m e b) (h1 : e4 s m e b 0 0 0 0 = true) : x.spec = false := nsp_zero hx (of_e4 h1).2.1 (of_e4 h1).2.2.1
end
end Mine
namespace Mine
theorem bits_one {man : Int} (h : man = 1) : (1 : Int) = ((Builtin.Int.intBits man : Nat) : Int) := by subst h; decide +kernel
def mA (a : Int) : Int := a.fdiv (2 ^ (tz a).toNat)
/-- what the difference of two numbers of one height comes to (the greater place first) -/
def dOk (a a' : Int) : Bool :=
  if tz a > tz a' ∧ bl a = bl a' then
    (let v := mA a * 2 ^ (tz a - tz a').toNat - mA a'
     decide (tz a - tz a' ≤ 4) && decide (v ≠ 0) && decide (bl (aI v) ≤ 5) && decide (Builtin.bitAnd (aI v) 1 ≠ 0) && decide (v > 0 ↔ a > a'))
  else true
/-- sizes told by height -/
def hOk (a a' : Int) : Bool :=
  (if tz a = tz a' then decide (mA a = mA a' ↔ a = a') && decide (mA a > mA a' ↔ a > a') else true) && (if bl a < bl a' then decide (a < a') else true)
def rng : List Int := (List.range 20).map fun (k : Nat) => (k : Int) + 1
theorem rng_mem {n : Int} (h : 1 ≤ n) (h' : n ≤ 20) : n ∈ rng := by
  unfold rng
  exact List.mem_map.mpr ⟨(n - 1).toNat, List.mem_range.mpr (by omega), by omega⟩
theorem dOk_all : (rng.all fun n => rng.all fun n' => dOk n n' && hOk n n') = true := by decide +kernel
theorem dhOk {n n' : Int} (h : 1 ≤ n) (h1 : n ≤ 20) (h2 : 1 ≤ n') (h3 : n' ≤ 20) : dOk n n' = true ∧ hOk n n' = true :=
  Bool.and_eq_true_iff.mp (List.all_eq_true.mp (List.all_eq_true.mp dOk_all n (rng_mem h h1)) n' (rng_mem h2 h3))
theorem d_facts {a a' : Int} (h : 1 ≤ a) (h1 : a ≤ 20) (h2 : 1 ≤ a') (h3 : a' ≤ 20) (ht : tz a > tz a') (hb : bl a = bl a') :
    tz a - tz a' ≤ 4 ∧ (mA a * 2 ^ (tz a - tz a').toNat - mA a' ≠ 0) ∧ bl (aI (mA a * 2 ^ (tz a - tz a').toNat - mA a')) ≤ 5 ∧ Builtin.bitAnd (aI (mA a * 2 ^ (tz a - tz a').toNat - mA a')) 1 ≠ 0 ∧ (mA a * 2 ^ (tz a - tz a').toNat - mA a' > 0 ↔ a > a') := by
  have := (dhOk h h1 h2 h3).1
  unfold dOk at this
  rw [if_pos ⟨ht, hb⟩] at this
  simpa only [Bool.and_eq_true, decide_eq_true_eq, and_assoc] using this
theorem h_facts {a a' : Int} (h : 1 ≤ a) (h1 : a ≤ 20) (h2 : 1 ≤ a') (h3 : a' ≤ 20) : (tz a = tz a' → (mA a = mA a' ↔ a = a') ∧ (mA a > mA a' ↔ a > a')) ∧ (bl a < bl a' → a < a') := by
  have := (dhOk h h1 h2 h3).2
  unfold hOk at this
  rw [Bool.and_eq_true] at this
  refine ⟨fun e => ?_, fun e => ?_⟩
  · have h4 := this.1
    rw [if_pos e] at h4
    simpa only [Bool.and_eq_true, decide_eq_true_eq] using h4
  · have h4 := this.2
    rw [if_pos e] at h4
    simpa only [decide_eq_true_eq] using h4
end Mine
namespace Mine
theorem aI_of {v : Int} (h : 0 ≤ v) : aI v = v := by unfold aI; rw [if_neg (by omega)]
end Mine
namespace Mine
def PN (x : Int) : Prop := 0 < x ∧ Builtin.bitAnd x 1 ≠ 0 ∧ ((Builtin.Int.intBits x : Nat) : Int) ≤ 5
theorem PN.pos {x : Int} (h : PN x) : 0 < x := h.1
theorem PN.odd {x : Int} (h : PN x) : Builtin.bitAnd x 1 ≠ 0 := h.2.1
theorem PN.bits {x : Int} (h : PN x) : ((Builtin.Int.intBits x : Nat) : Int) ≤ 5 := h.2.2
theorem pn1 {x : Int} (f : 0 ≤ x → PN x) (h : 0 ≤ x) : PN x := f h
theorem pn2 {x : Int} (f : ¬0 ≤ x → PN (-x)) (h : ¬0 ≤ x) : PN (-x) := f h
theorem pn_all {v : Int} (h0 : v ≠ 0) (hb : bl (aI v) ≤ 5) (ho : Builtin.bitAnd (aI v) 1 ≠ 0) : (0 ≤ v → PN v) ∧ (¬0 ≤ v → PN (-v)) := by
  refine ⟨fun h => ?_, fun h => ?_⟩
  · rw [aI_of h] at hb ho
    exact ⟨by omega, ho, hb⟩
  · have : aI v = -v := by unfold aI; rw [if_pos (by omega)]
    rw [this] at hb ho
    exact ⟨by omega, ho, hb⟩
theorem pn_neg {v w : Int} (hw : w = -v) (h : (0 ≤ v → PN v) ∧ (¬0 ≤ v → PN (-v))) (h0 : v ≠ 0) : (0 ≤ w → PN w) ∧ (¬0 ≤ w → PN (-w)) := by
  subst hw
  refine ⟨fun q => h.2 (by omega), fun q => ?_⟩
  rw [Int.neg_neg]
  exact h.1 (by omega)
end Mine
namespace Mine
/-- a number of the law's, not nought -/
structure Nz (n s m e b : Int) : Prop where
  lo : -20 ≤ n
  hi : n ≤ 20
  ne : n ≠ 0
  s : s = qS n
  m : m = qM n
  e : e = qE n (-2)
  b : b = qB n
theorem Nz.e' {n s m e b : Int} (h : Nz n s m e b) : e = tz (aI n) - 2 := by
  have := h.e
  unfold qE at this
  rw [if_neg h.ne] at this
  omega
theorem Nz.be {n s m e b : Int} (h : Nz n s m e b) : b + e = bl (aI n) - 2 := by
  have := h.e'
  have h2 := h.b
  unfold qB at h2
  omega
theorem Nz.mA {n s m e b : Int} (h : Nz n s m e b) : m = mA (aI n) := h.m
theorem Nz.r {n s m e b : Int} (h : Nz n s m e b) : 1 ≤ aI n ∧ aI n ≤ 20 := by
  have h1 := h.lo; have h2 := h.hi; have h3 := h.ne
  unfold aI
  split <;> omega
theorem Nz.sg {n s m e b : Int} (h : Nz n s m e b) : (s = 0 ∧ n = aI n) ∨ (s = 1 ∧ n = -aI n) := by
  have h1 := h.s; have h3 := h.ne
  unfold qS at h1
  unfold aI
  split at h1
  · rename_i h4; rw [if_pos h4]; exact .inr ⟨h1, by omega⟩
  · rename_i h4; rw [if_neg h4]; exact .inl ⟨h1, rfl⟩
section
variable {n s m e b n' s' m' e' b' : Int} (h : Nz n s m e b) (h' : Nz n' s' m' e' b')
include h h'
theorem f_sign (hs : s ≠ s') : (s = 0 → 1 = ordL (.num n) (.num n')) ∧ (s ≠ 0 → -1 = ordL (.num n) (.num n')) := by
  have r := h.r; have r' := h'.r
  rw [ord_num]
  refine ⟨fun h0 => ?_, fun h0 => ?_⟩
  · rcases h.sg with g | g <;> rcases h'.sg with g' | g' <;> (first | omega | (rw [if_neg (by omega), if_pos (by omega)]))
  · rcases h.sg with g | g <;> rcases h'.sg with g' | g' <;> (first | omega | (rw [if_neg (by omega), if_neg (by omega)]))
theorem f_e (hs : s = s') (he : e = e') : (m = m' → 0 = ordL (.num n) (.num n')) ∧ (m > m' → s ≠ 0 → -1 = ordL (.num n) (.num n')) ∧ (m > m' → s = 0 → 1 = ordL (.num n) (.num n')) ∧ (m ≠ m' → ¬ m > m' → s ≠ 0 → 1 = ordL (.num n) (.num n')) ∧ (m ≠ m' → ¬ m > m' → s = 0 → -1 = ordL (.num n) (.num n')) := by
  have r := h.r; have r' := h'.r
  have ht : tz (aI n) = tz (aI n') := by have := h.e'; have := h'.e'; omega
  have f := (h_facts r.1 r.2 r'.1 r'.2).1 ht
  rw [← h.mA, ← h'.mA] at f
  rw [ord_num]
  refine ⟨fun q => ?_, fun q q' => ?_, fun q q' => ?_, fun q q' q2 => ?_, fun q q' q2 => ?_⟩
  · have := f.1.mp q
    rw [if_pos (by rcases h.sg with g | g <;> rcases h'.sg with g' | g' <;> omega)]
  · have := f.2.mp q
    rw [if_neg (by rcases h.sg with g | g <;> rcases h'.sg with g' | g' <;> omega), if_neg (by rcases h.sg with g | g <;> rcases h'.sg with g' | g' <;> omega)]
  · have := f.2.mp q
    rw [if_neg (by rcases h.sg with g | g <;> rcases h'.sg with g' | g' <;> omega), if_pos (by rcases h.sg with g | g <;> rcases h'.sg with g' | g' <;> omega)]
  · have f1 : aI n ≠ aI n' := fun e => q (f.1.mpr e)
    have f2 : ¬ aI n > aI n' := fun e => q' (f.2.mpr e)
    rw [if_neg (by rcases h.sg with g | g <;> rcases h'.sg with g' | g' <;> omega), if_pos (by rcases h.sg with g | g <;> rcases h'.sg with g' | g' <;> omega)]
  · have f1 : aI n ≠ aI n' := fun e => q (f.1.mpr e)
    have f2 : ¬ aI n > aI n' := fun e => q' (f.2.mpr e)
    rw [if_neg (by rcases h.sg with g | g <;> rcases h'.sg with g' | g' <;> omega), if_neg (by rcases h.sg with g | g <;> rcases h'.sg with g' | g' <;> omega)]
theorem f_lt (hs : s = s') (hb : b + e < b' + e') : (s ≠ 0 → 1 = ordL (.num n) (.num n')) ∧ (s = 0 → -1 = ordL (.num n) (.num n')) := by
  have r := h.r; have r' := h'.r
  have f := (h_facts r.1 r.2 r'.1 r'.2).2 (by have := h.be; have := h'.be; omega)
  rw [ord_num]
  refine ⟨fun q => ?_, fun q => ?_⟩
  · rw [if_neg (by rcases h.sg with g | g <;> rcases h'.sg with g' | g' <;> omega), if_pos (by rcases h.sg with g | g <;> rcases h'.sg with g' | g' <;> omega)]
  · rw [if_neg (by rcases h.sg with g | g <;> rcases h'.sg with g' | g' <;> omega), if_neg (by rcases h.sg with g | g <;> rcases h'.sg with g' | g' <;> omega)]
theorem f_gt (hs : s = s') (hb : b' + e' < b + e) : (s ≠ 0 → -1 = ordL (.num n) (.num n')) ∧ (s = 0 → 1 = ordL (.num n) (.num n')) := by
  have r := h.r; have r' := h'.r
  have f := (h_facts r'.1 r'.2 r.1 r.2).2 (by have := h.be; have := h'.be; omega)
  rw [ord_num]
  refine ⟨fun q => ?_, fun q => ?_⟩
  · rw [if_neg (by rcases h.sg with g | g <;> rcases h'.sg with g' | g' <;> omega), if_neg (by rcases h.sg with g | g <;> rcases h'.sg with g' | g' <;> omega)]
  · rw [if_neg (by rcases h.sg with g | g <;> rcases h'.sg with g' | g' <;> omega), if_pos (by rcases h.sg with g | g <;> rcases h'.sg with g' | g' <;> omega)]
theorem f_ne (he : e ≠ e') : n ≠ n' := by
  rintro rfl
  exact he (h.e.trans h'.e.symm)
theorem f_d (he : e ≠ e') : ((if n < n' then (1 : Int) else 0) ≠ 0 → -1 = ordL (.num n) (.num n')) ∧ ((if n < n' then (1 : Int) else 0) = 0 → 1 = ordL (.num n) (.num n')) := by
  have := f_ne h h' he
  rw [ord_num]
  refine ⟨fun q => ?_, fun q => ?_⟩
  · have : n < n' := by
      by_cases h9 : n < n'
      · exact h9
      · rw [if_neg h9] at q; exact absurd rfl q
    rw [if_neg (by omega), if_neg (by omega)]
  · have : ¬ n < n' := by
      intro h9
      rw [if_pos h9] at q; exact absurd q (by decide)
    rw [if_neg (by omega), if_pos (by omega)]
/-- what the difference asks, one height, the first place the greater -/
theorem f_down (he : e' < e) (hb : b + e = b' + e') : e ≤ e' + 4 ∧ m * 2 ^ (e - e').toNat - m' ≠ 0 ∧ ((0 ≤ m * 2 ^ (e - e').toNat - m' → PN (m * 2 ^ (e - e').toNat - m')) ∧ (¬0 ≤ m * 2 ^ (e - e').toNat - m' → PN (-(m * 2 ^ (e - e').toNat - m')))) ∧ (m * 2 ^ (e - e').toNat - m' > 0 ↔ aI n > aI n') := by
  have r := h.r; have r' := h'.r
  have h1 := h.e'; have h2 := h'.e'; have h3 := h.be; have h4 := h'.be
  have f := d_facts r.1 r.2 r'.1 r'.2 (by omega) (by omega)
  rw [← h.mA, ← h'.mA, show tz (aI n) - tz (aI n') = e - e' by omega] at f
  exact ⟨by omega, f.2.1, pn_all f.2.1 f.2.2.1 f.2.2.2.1, f.2.2.2.2⟩
end
end Mine
namespace Mine
section
variable {n s m e b n' s' m' e' b' : Int} (h : Nz n s m e b) (h' : Nz n' s' m' e' b')
include h h'
theorem f_up (he : e < e') (hb : b + e = b' + e') : e' ≤ e + 4 ∧ m' * 2 ^ (-(e - e')).toNat - m ≠ 0 ∧ ((0 ≤ m' * 2 ^ (-(e - e')).toNat - m → PN (m' * 2 ^ (-(e - e')).toNat - m)) ∧ (¬0 ≤ m' * 2 ^ (-(e - e')).toNat - m → PN (-(m' * 2 ^ (-(e - e')).toNat - m)))) ∧ (m' * 2 ^ (-(e - e')).toNat - m > 0 ↔ aI n' > aI n) := by
  have f := f_down h' h he hb.symm
  rw [show e' - e = -(e - e') by omega] at f
  exact f
theorem sg_down (hs : s = s') (he : e' < e) (hb : b + e = b' + e') : (if (s = 0 ↔ 0 ≤ m * 2 ^ (e - e').toNat - m') then (0 : Int) else 1) = if n < n' then 1 else 0 := by
  have f := f_down h h' he hb
  have h8 := f_ne h h' (by omega)
  have f1 := f.2.1
  have f2 := f.2.2.2
  generalize m * 2 ^ (e - e').toNat - m' = v at f1 f2
  have g := h.sg; have g' := h'.sg
  rcases g with g | g
  · have g' := g'.resolve_right (by omega)
    by_cases h9 : v > 0
    · have := f2.mp h9
      rw [if_pos ⟨fun _ => by omega, fun _ => g.1⟩, if_neg (by omega)]
    · have : ¬ aI n > aI n' := fun q => h9 (f2.mpr q)
      rw [if_neg (fun q => by have := q.mp g.1; omega), if_pos (by omega)]
  · have g' := g'.resolve_left (by omega)
    by_cases h9 : v > 0
    · have := f2.mp h9
      rw [if_neg (fun q => by have := q.mpr (by omega); omega), if_pos (by omega)]
    · have : ¬ aI n > aI n' := fun q => h9 (f2.mpr q)
      rw [if_pos ⟨fun q => by omega, fun q => by omega⟩, if_neg (by omega)]
theorem sg_up (hs : s = s') (he : e < e') (hb : b + e = b' + e') : (if (s = 1 ↔ 0 ≤ m' * 2 ^ (-(e - e')).toNat - m) then (0 : Int) else 1) = if n < n' then 1 else 0 := by
  have f := f_up h h' he hb
  have h8 := f_ne h h' (by omega)
  have f1 := f.2.1
  have f2 := f.2.2.2
  generalize m' * 2 ^ (-(e - e')).toNat - m = v at f1 f2
  have g := h.sg; have g' := h'.sg
  rcases g with g | g
  · have g' := g'.resolve_right (by omega)
    by_cases h9 : v > 0
    · have := f2.mp h9
      rw [if_neg (fun q => by have := q.mpr (by omega); omega), if_pos (by omega)]
    · have : ¬ aI n' > aI n := fun q => h9 (f2.mpr q)
      rw [if_pos ⟨fun q => by omega, fun q => by omega⟩, if_neg (by omega)]
  · have g' := g'.resolve_left (by omega)
    by_cases h9 : v > 0
    · have := f2.mp h9
      rw [if_pos ⟨fun _ => by omega, fun _ => g.1⟩, if_neg (by omega)]
    · have : ¬ aI n' > aI n := fun q => h9 (f2.mpr q)
      rw [if_neg (fun q => by have := q.mp g.1; omega), if_pos (by omega)]
end
end Mine
namespace Mine
theorem Nz.mlt {n s m e b : Int} (h : Nz n s m e b) : 0 < m ∧ m < 512 := by
  have r := h.r
  have := tz_more (a := aI n) (by omega) (by omega)
  have hm : m = (aI n).fdiv (2 ^ (tz (aI n)).toNat) := h.m
  omega
end Mine
namespace Mine
def LX.tiny : LX → Prop | .num n => -20 ≤ n ∧ n ≤ 20 | _ => True
theorem LX.tiny.small {x : LX} (h : x.tiny) : x.small := by
  rcases x with _ | _ | _ | n
  · exact trivial
  · exact trivial
  · exact trivial
  · have h' : -20 ≤ n ∧ n ≤ 20 := h
    show -512 < n ∧ n < 512
    omega
theorem not_spec {x : LX} (h : x.spec = false) : ∃ n, x = .num n := by
  cases x <;> simp [LX.spec] at h
  exact ⟨_, rfl⟩
section
variable {n s m e b n' s' m' e' b' : Int}
theorem z_or (h : Kf (.num n) s m e b) (h' : Kf (.num n') s' m' e' b') (hz : n = 0 ∨ n' = 0) : m = 0 ∨ m' = 0 := by
  simp only [Kf] at h h'
  rcases hz with rfl | rfl
  · left; omega
  · right; omega
theorem z_imp (h : Kf (.num n) s m e b) (h' : Kf (.num n') s' m' e' b') (hz : n = 0 ∨ n' = 0) : e4 s m e b 0 0 0 0 = false → e4 s' m' e' b' 0 0 0 0 = true := by
  intro q
  have q' := not_e4 q
  refine decide_eq_true ?_
  simp only [Kf] at h h'
  rcases hz with rfl | rfl
  · exact absurd (by omega) q'
  · omega
theorem z_l (h : Kf (.num n) s m e b) (h1 : e4 s m e b 0 0 0 0 = true) : -(LX.num n').side = ordL (.num n) (.num n') := by
  have := is_zero h (of_e4 h1).2.1 (of_e4 h1).2.2.1
  cases this
  rw [ord_num]
  simp only [LX.side, sgnI]
  by_cases h1 : n' > 0
  · rw [if_pos h1, if_neg (by omega), if_neg (by omega)]
  · by_cases h2 : n' < 0
    · rw [if_neg h1, if_pos h2, if_neg (by omega), if_pos (by omega)]; rfl
    · rw [if_neg h1, if_neg h2, if_pos (by omega)]; rfl
theorem z_r (h : Kf (.num n') s' m' e' b') (h1 : e4 s' m' e' b' 0 0 0 0 = true) : (LX.num n).side = ordL (.num n) (.num n') := by
  have := is_zero h (of_e4 h1).2.1 (of_e4 h1).2.2.1
  cases this
  rw [ord_num]
  simp only [LX.side, sgnI]
  by_cases h1 : n > 0
  · rw [if_pos h1, if_neg (by omega), if_pos (by omega)]
  · by_cases h2 : n < 0
    · rw [if_neg h1, if_pos h2, if_neg (by omega), if_neg (by omega)]
    · rw [if_neg h1, if_neg h2, if_pos (by omega)]
end
end Mine

namespace Mine
/-- values that stand for these extended numbers, place by place -/
def LVs (vs : List Value) (xs : List LX) : Prop := vs.length = xs.length ∧ ∀ (i : Nat) v, vs[i]? = some v → ∃ x, xs[i]? = some x ∧ LV v x
def TXs (w : World) (news : Led) (vs : List Value) (xs : List LX) : Prop := vs.length = xs.length ∧ ∀ (i : Nat) v, vs[i]? = some v → ∃ x a, xs[i]? = some x ∧ v = .ref a ∧ TupX w news a x
def loStep (lo v : LX) : LX := if ordL v lo < 0 then v else lo
def hiStep (hi v : LX) : LX := if ordL v hi > 0 then v else hi
def loL (x : LX) (xs : List LX) : LX := xs.foldl loStep x
def hiL (x : LX) (xs : List LX) : LX := xs.foldl hiStep x
def ownL (k : Bool) (x : LX) : LX := if x.isNan = true ∨ k = false ∨ x.side ≥ 0 then x else negL x
def totL (k : Bool) (xs : List LX) : LX := xs.foldl (fun t x => sumL t (ownL k x)) (.num 0)
def finL : LX → Int | .num n => n | _ => 0
def finS (k : Bool) (xs : List LX) : Int := xs.foldl (fun t x => t + finL (ownL k x)) 0
def AllOk (xs : List LX) : Prop := (∀ x ∈ xs, x.tiny) ∧ xs.length ≤ 5
def hasNan (xs : List LX) : Bool := xs.any (·.isNan)
theorem TXs.mono {w : World} {news news' : Led} {vs : List Value} {xs : List LX} (h : TXs w news vs xs) (hs : ∀ p ∈ news, p ∈ news') : TXs w news' vs xs :=
  ⟨h.1, fun i v hv => by
    obtain ⟨x, a, h1, h2, h3⟩ := h.2 i v hv
    exact ⟨x, a, h1, h2, TupA.sub h3 hs⟩⟩
theorem take_fold {α β : Type} (f : β → α → β) (z : β) {xs : List α} {i : Nat} {x : α} (h : xs[i]? = some x) : (xs.take (i + 1)).foldl f z = f ((xs.take i).foldl f z) x := by
  rw [List.take_add_one, h]; simp
theorem mem_of_at {α : Type} {xs : List α} {i : Nat} {x : α} (h : xs[i]? = some x) : x ∈ xs := List.mem_of_getElem? h
theorem loStep_tiny {a b : LX} (ha : a.tiny) (hb : b.tiny) : (loStep a b).tiny := by unfold loStep; split <;> assumption
theorem hiStep_tiny {a b : LX} (ha : a.tiny) (hb : b.tiny) : (hiStep a b).tiny := by unfold hiStep; split <;> assumption
theorem loStep_nn {a b : LX} (ha : a.isNan = false) (hb : b.isNan = false) : (loStep a b).isNan = false := by unfold loStep; split <;> assumption
theorem hiStep_nn {a b : LX} (ha : a.isNan = false) (hb : b.isNan = false) : (hiStep a b).isNan = false := by unfold hiStep; split <;> assumption
theorem fold_all {α : Type} {P : α → Prop} {f : α → α → α} (hf : ∀ a b, P a → P b → P (f a b)) : ∀ (xs : List α) (z : α), P z → (∀ x ∈ xs, P x) → P (xs.foldl f z)
  | [], _, h, _ => h
  | x :: r, z, h, hx => fold_all hf r _ (hf _ _ h (hx x (.head _))) fun y hy => hx y (.tail _ hy)
theorem own_tiny {k : Bool} {x : LX} (h : x.tiny) : (ownL k x).tiny := by
  unfold ownL
  split
  · exact h
  · rcases x with _ | _ | _ | n <;> first | exact trivial | (have h' : -20 ≤ n ∧ n ≤ 20 := h; show -20 ≤ -n ∧ -n ≤ 20; omega)
theorem fin_bound {x : LX} (h : x.tiny) : -20 ≤ finL x ∧ finL x ≤ 20 := by
  rcases x with _ | _ | _ | n
  · exact ⟨by decide, by decide⟩
  · exact ⟨by decide, by decide⟩
  · exact ⟨by decide, by decide⟩
  · exact h
theorem finS_bound {k : Bool} : ∀ (xs : List LX) (z : Int), (∀ x ∈ xs, x.tiny) → z - 20 * xs.length ≤ xs.foldl (fun t x => t + finL (ownL k x)) z ∧ xs.foldl (fun t x => t + finL (ownL k x)) z ≤ z + 20 * xs.length
  | [], z, _ => by simp
  | x :: r, z, h => by
    have h1 := finS_bound (k := k) r (z + finL (ownL k x)) fun y hy => h y (.tail _ hy)
    have h2 := fin_bound (own_tiny (k := k) (h x (.head _)))
    simp only [List.foldl_cons, List.length_cons, Int.natCast_add, Int.cast_ofNat_Int]
    omega
theorem tot_spec {k : Bool} : ∀ (xs : List LX) (z : LX) (f : Int), (z.spec = true ∨ z = .num f) → ((xs.foldl (fun t x => sumL t (ownL k x)) z).spec = true ∨ xs.foldl (fun t x => sumL t (ownL k x)) z = .num (xs.foldl (fun t x => t + finL (ownL k x)) f))
  | [], _, _, h => h
  | x :: r, z, f, h => by
    refine tot_spec r _ _ ?_
    rcases h with h | rfl
    · left
      show (sumL z (ownL k x)).spec = true
      generalize ownL k x = y
      rcases z with _ | _ | _ | n <;> rcases y with _ | _ | _ | m <;> first | rfl | cases h
    · show (sumL (.num f) (ownL k x)).spec = true ∨ sumL (.num f) (ownL k x) = .num (f + finL (ownL k x))
      generalize ownL k x = y
      rcases y with _ | _ | _ | m
      · exact .inl rfl
      · exact .inl rfl
      · exact .inl rfl
      · exact .inr rfl
theorem tot_small {k : Bool} {xs : List LX} (h : AllOk xs) : (totL k xs).small := by
  rcases tot_spec (k := k) xs (.num 0) 0 (.inr rfl) with h1 | h1
  · have : (totL k xs).spec = true := h1
    revert this
    generalize totL k xs = t
    intro h2
    cases t <;> first | exact trivial | cases h2
  · have h2 := finS_bound (k := k) xs 0 h.1
    have h3 := h.2
    have : totL k xs = .num (finS k xs) := h1
    rw [this]
    show -512 < finS k xs ∧ finS k xs < 512
    unfold finS
    omega
end Mine
namespace Mine
/-- the four ints of a small number, as the law makes them -/
theorem fin_eq : ∀ a : Nat, a < 21 → 0 < a → ∃ e : Nat, e ≤ 4 ∧ -2 + tz a = (e : Int) - 2 ∧ Int.fdiv a (2 ^ (tz a).toNat) * 2 ^ e = a := by
  intro a h h0
  have h1 : ∀ a : Nat, a < 21 → 0 < a → tz a ≤ 4 ∧ 0 ≤ tz a ∧ Int.fdiv a (2 ^ (tz a).toNat) * 2 ^ (tz a).toNat = a := all_lt 21 (by decide +kernel)
  obtain ⟨h2, h3, h4⟩ := h1 a h h0
  exact ⟨(tz a).toNat, by omega, by omega, h4⟩
theorem num_parts {n : Int} (h : -20 ≤ n ∧ n ≤ 20) (hn : n ≠ 0) : ∃ e : Nat, e ≤ 4 ∧ mE (.num n) = (e : Int) - 2 ∧ mM (.num n) * 2 ^ e = aI n := by
  obtain ⟨e, h1, h2, h3⟩ := fin_eq (aI n).toNat (by unfold aI; split <;> omega) (by unfold aI; split <;> omega)
  have h4 : ((aI n).toNat : Int) = aI n := Int.toNat_of_nonneg (by unfold aI; split <;> omega)
  rw [h4] at h2 h3
  refine ⟨e, h1, ?_, h3⟩
  show qE n (-2) = _
  unfold qE
  rw [if_neg hn]
  exact h2
end Mine
namespace Mine
theorem q_shift : ∀ k : Nat, k < 303 → 0 < k / 3 → tz (((k / 3 : Nat) : Int) * 2 ^ (k % 3)) = tz ((k / 3 : Nat) : Int) + ((k % 3 : Nat) : Int) ∧ bl (((k / 3 : Nat) : Int) * 2 ^ (k % 3)) = bl ((k / 3 : Nat) : Int) + ((k % 3 : Nat) : Int) ∧ Int.fdiv (((k / 3 : Nat) : Int) * 2 ^ (k % 3)) (2 ^ (tz (((k / 3 : Nat) : Int) * 2 ^ (k % 3))).toNat) = Int.fdiv ((k / 3 : Nat) : Int) (2 ^ (tz ((k / 3 : Nat) : Int)).toNat) :=
  all_lt 303 (by decide +kernel)
theorem q_shift' {a : Int} {d : Nat} (h0 : 0 < a) (h1 : a ≤ 100) (hd : d ≤ 2) : tz (a * 2 ^ d) = tz a + (d : Int) ∧ bl (a * 2 ^ d) = bl a + (d : Int) ∧ Int.fdiv (a * 2 ^ d) (2 ^ (tz (a * 2 ^ d)).toNat) = Int.fdiv a (2 ^ (tz a).toNat) := by
  have h := q_shift (a.toNat * 3 + d) (by omega) (by omega)
  have e1 : (a.toNat * 3 + d) / 3 = a.toNat := by omega
  have e2 : (a.toNat * 3 + d) % 3 = d := by omega
  rw [e1, e2, Int.toNat_of_nonneg (by omega)] at h
  exact h
theorem aI_mul {m : Int} {d : Nat} : aI (m * 2 ^ d) = aI m * 2 ^ d := by
  have hp : (0 : Int) < 2 ^ d := Int.pow_pos (by decide)
  unfold aI
  by_cases h : m < 0
  · rw [if_pos h, if_pos (Int.mul_neg_of_neg_of_pos h hp), Int.neg_mul]
  · rw [if_neg h, if_neg (Int.not_lt.mpr (Int.mul_nonneg (Int.not_lt.mp h) (Int.le_of_lt hp)))]
theorem man_zero {m : Int} {d : Nat} : m * 2 ^ d = 0 ↔ m = 0 := by
  have hp : (2 : Int) ^ d ≠ 0 := Int.ne_of_gt (Int.pow_pos (by decide))
  constructor
  · intro h; rcases Int.mul_eq_zero.mp h with h | h
    · exact h
    · exact absurd h hp
  · rintro rfl; simp
theorem man_le {m F : Int} {d : Nat} (h : m * 2 ^ d = F) (hF : -100 ≤ F ∧ F ≤ 100) (hd : d ≤ 2) : -100 ≤ m ∧ m ≤ 100 := by
  rcases (by omega : d = 0 ∨ d = 1 ∨ d = 2) with rfl | rfl | rfl
  · have h' : m * 1 = F := h
    omega
  · have h' : m * 2 = F := h
    omega
  · have h' : m * 4 = F := h
    omega
theorem q_all {m F ex : Int} {d : Nat} (h : m * 2 ^ d = F) (hF : -100 ≤ F ∧ F ≤ 100) (hd : d ≤ 2) (hx : ex = (d : Int) - 2) : qS m = mS (.num F) ∧ qM m = mM (.num F) ∧ qE m ex = mE (.num F) ∧ qB m = mB (.num F) := by
  have hb := man_le h hF hd
  subst h hx
  show qS m = qS (m * 2 ^ d) ∧ qM m = qM (m * 2 ^ d) ∧ qE m _ = qE (m * 2 ^ d) (-2) ∧ qB m = qB (m * 2 ^ d)
  by_cases h0 : m = 0
  · subst h0
    rw [Int.zero_mul]
    exact ⟨rfl, rfl, rfl, rfl⟩
  · have ha : 0 < aI m ∧ aI m ≤ 100 := by unfold aI; split <;> omega
    obtain ⟨e1, e2, e3⟩ := q_shift' ha.1 ha.2 hd
    refine ⟨?_, ?_, ?_, ?_⟩
    · have hp : (0 : Int) < 2 ^ d := Int.pow_pos (by decide)
      unfold qS
      by_cases h : m < 0
      · rw [if_pos h, if_pos (Int.mul_neg_of_neg_of_pos h hp)]
      · rw [if_neg h, if_neg (Int.not_lt.mpr (Int.mul_nonneg (Int.not_lt.mp h) (Int.le_of_lt hp)))]
    · unfold qM; rw [aI_mul, e3]
    · unfold qE; rw [if_neg h0, if_neg (fun q => h0 (man_zero.mp q)), aI_mul, e1]; omega
    · unfold qB; rw [aI_mul, e1, e2]; omega
theorem sum_up {m xm : Int} {d e : Nat} (h : d ≤ e) : (m + xm * 2 ^ (e - d)) * 2 ^ d = m * 2 ^ d + xm * 2 ^ e := by
  rw [Int.add_mul, Int.mul_assoc, ← Int.pow_add, Nat.sub_add_cancel h]
theorem sum_dn {m xm : Int} {d e : Nat} (h : e ≤ d) : (m * 2 ^ (d - e) + xm) * 2 ^ e = m * 2 ^ d + xm * 2 ^ e := by
  rw [Int.add_mul, Int.mul_assoc, ← Int.pow_add, Nat.sub_add_cancel h]
theorem fin_take {k : Bool} {xs : List LX} {i : Nat} {x : LX} (h : xs[i]? = some x) : finS k (xs.take (i + 1)) = finS k (xs.take i) + finL (ownL k x) := take_fold (fun t x => t + finL (ownL k x)) 0 h
theorem tot_take {k : Bool} {xs : List LX} {i : Nat} {x : LX} (h : xs[i]? = some x) : totL k (xs.take (i + 1)) = sumL (totL k (xs.take i)) (ownL k x) := take_fold (fun t x => sumL t (ownL k x)) (.num 0) h
theorem fin_ok {k : Bool} {xs : List LX} (h : AllOk xs) (i : Nat) : -100 ≤ finS k (xs.take i) ∧ finS k (xs.take i) ≤ 100 := by
  have h1 := finS_bound (k := k) (xs.take i) 0 fun x hx => h.1 x (List.mem_of_mem_take hx)
  have h2 : (xs.take i).length ≤ 5 := Nat.le_trans (by rw [List.length_take]; exact Nat.min_le_right _ _) h.2
  unfold finS
  omega
theorem own_spec {k : Bool} {x : LX} (h : x.spec = true) : ownL k x = if k = true then absL x else x := by
  cases k <;> cases x <;> first | rfl | cases h
theorem own_fin0 {k : Bool} {x : LX} (h : x.spec = true) : finL (ownL k x) = 0 := by
  cases k <;> cases x <;> first | rfl | cases h
theorem sum_num0 {z : LX} : sumL z (.num 0) = z := by cases z <;> simp [sumL]
theorem sum_numF {F G : Int} {z : LX} (h : z.spec = true) : sumL (.num F) z = sumL (.num G) z := by cases z <;> first | rfl | cases h
theorem own_num {k : Bool} {n : Int} : finL (ownL k (.num n)) = if k = true then aI n else n := by
  cases k
  · have : ownL false (.num n) = .num n := if_pos (.inr (.inl rfl))
    rw [this, if_neg (by decide)]; rfl
  · rw [if_pos rfl]
    by_cases h : n < 0
    · have hs : (LX.num n).side = -1 := by show sgnI n = -1; unfold sgnI; rw [if_neg (by omega), if_pos h]
      have h2 : ¬ ((LX.num n).isNan = true ∨ true = false ∨ (LX.num n).side ≥ 0) := by
        rw [hs]; simp [LX.isNan]
      have : ownL true (.num n) = .num (-n) := if_neg h2
      rw [this]
      show -n = aI n
      unfold aI; rw [if_pos h]
    · have hs : (LX.num n).side ≥ 0 := by show sgnI n ≥ 0; unfold sgnI; split <;> (try split) <;> omega
      have : ownL true (.num n) = .num n := if_pos (.inr (.inr hs))
      rw [this]
      show n = aI n
      unfold aI; rw [if_neg h]
theorem own_isnum {k : Bool} {n : Int} : ∃ m, ownL k (.num n) = .num m := by
  unfold ownL
  split
  · exact ⟨n, rfl⟩
  · exact ⟨-n, rfl⟩
theorem abs_spec {x : LX} (h : x.spec = true) : (absL x).spec = true := by cases x <;> first | rfl | cases h
end Mine

namespace Mine
def selT : List (Str × Value) → List Bool → List (Str × Value)
  | p :: r, true :: f => p :: selT r f
  | _ :: r, false :: f => selT r f
  | _, _ => []
def selF : List (Str × Value) → List Bool → List (Str × Value)
  | _ :: r, true :: f => selF r f
  | p :: r, false :: f => p :: selF r f
  | _, _ => []
theorem lookup_upd {x : Str} {v : Value} {lk : List (Str × Value)} : (fun y => if y = x then some v else lk.lookup y) = fun y => ((x, v) :: lk).lookup y := lookupL_store
theorem bindL_sel {kd : Str → Option NameKind} : ∀ (bs : List (Str × Value)) (fl : List Bool) (lk : List (Str × Value)), bs.length = fl.length → (∀ q ∈ bs.zip fl, decide (kd q.1.1 = some .local) = q.2) →
    bindL kd bs (fun y => lk.lookup y) = fun y => ((selT bs fl).reverse ++ lk).lookup y
  | [], [], lk, _, _ => rfl
  | (n, v) :: r, true :: f, lk, hl, h => by
    have h0 := h ((n, v), true) (.head _)
    unfold bindL
    rw [if_pos (of_decide_eq_true h0), lookup_upd, bindL_sel r f _ (Nat.succ.inj hl) fun q hq => h q (.tail _ hq)]
    simp [selT]
  | (n, v) :: r, false :: f, lk, hl, h => by
    have h0 := h ((n, v), false) (.head _)
    unfold bindL
    rw [if_neg (of_decide_eq_false h0), bindL_sel r f _ (Nat.succ.inj hl) fun q hq => h q (.tail _ hq)]
    simp [selT]
theorem bindC_sel {kd : Str → Option NameKind} : ∀ (bs : List (Str × Value)) (fl : List Bool) (lk : List (Str × Value)), bs.length = fl.length → (∀ q ∈ bs.zip fl, decide (kd q.1.1 = some .local) = q.2) →
    bindC kd bs (fun y => lk.lookup y) = fun y => ((selF bs fl).reverse ++ lk).lookup y
  | [], [], lk, _, _ => rfl
  | (n, v) :: r, true :: f, lk, hl, h => by
    have h0 := h ((n, v), true) (.head _)
    unfold bindC
    rw [if_pos (of_decide_eq_true h0), bindC_sel r f _ (Nat.succ.inj hl) fun q hq => h q (.tail _ hq)]
    simp [selF]
  | (n, v) :: r, false :: f, lk, hl, h => by
    have h0 := h ((n, v), false) (.head _)
    unfold bindC
    rw [if_neg (of_decide_eq_false h0), lookup_upd, bindC_sel r f _ (Nat.succ.inj hl) fun q hq => h q (.tail _ hq)]
    simp [selF]
theorem flags_ok {nk : List (Str × NameKind)} : ∀ (ns : List Str) (vs : List Value) (fl : List Bool), ns.length = vs.length → (ns.map fun n => decide (nk.lookup n = some .local)) = fl →
    (ns.zip vs).length = fl.length ∧ ∀ q ∈ (ns.zip vs).zip fl, decide (nk.lookup q.1.1 = some .local) = q.2 := by
  intro ns
  induction ns with
  | nil => intro vs fl hl e; subst e; exact ⟨rfl, fun q hq => nomatch hq⟩
  | cons n r ih =>
    intro vs fl hl e
    cases vs with
    | nil => exact absurd hl (by simp)
    | cons v vs =>
      subst e
      obtain ⟨h1, h2⟩ := ih vs _ (Nat.succ.inj hl) rfl
      refine ⟨by simpa using h1, fun q hq => ?_⟩
      rcases List.mem_cons.mp hq with rfl | hq
      · rfl
      · exact h2 q hq
section
variable {prog : Program} {w : World} {A A₀ : Around} {s : Shared} {K : Frag} {L : Addr} {h₀ base : Heap} {m mg mb : Str → Option Value} {news : List (Addr × Obj)} {p : Program} {loose : List Str} {mean : ExcName → Option Value}
/-- a def with cells is entered: its frame's names as one list, its cells as another -/
theorem code_defCZ {env : Env} {outer : List Env} {R : Result → Shared → Prop} {name qual : Str} {params : Arguments} {body : List Stmt} {scope : Scope} {dV kV doc pm cdv ct oc : Value} {an od : Option Addr} {osl : Array (Option Value)} {f : Addr} {vs : List Value} (ns : List Str) (fl : List Bool) (cl : Addr → List (Str × Addr))
    (B : Below A₀ base outer h₀) (F : Fr h₀ L s.heap m) (X₀ : K.In h₀) (N : News h₀ L s.heap news) (T : Top p loose mean mg mb h₀) (hA : A.frames = some (env :: outer)) (hf : env.frame = some L) (hke : env.scope.kind = .function)
    (ho : K.lookup f = some ⟨oc, od, .func (fnOf name qual params body scope dV kV doc pm an cdv ct), osl⟩) (hcd : codeIn K cdv qual = true) (hroom : A.depth < recursionLimit)
    (hbind : BindsTo s (fnOf name qual params body scope dV kV doc pm an cdv ct) ⟨vs, []⟩ (ns.zip vs)) (hlen : ns.length = vs.length) (hfl : (ns.map fun n => decide (scope.names.lookup n = some .local)) = fl)
    (hkind : (ns.all fun y => scope.names.lookup y == some .local || scope.names.lookup y == some .cell) = true)
    (hnd : ((cellsFrom 0 scope.names []).map (·.1)).Nodup) (hcl : ∀ L', cellsFrom (L' + 1) scope.names [] = cl L')
    (h : ∀ g L' h₁ tk cells, Fr h₀ L g m → Fr g L' h₁ (fun y => (selT (ns.zip vs) fl).reverse.lookup y) → News g L' h₁ (cells ++ news) →
      CellsAre (fun y => (selF (ns.zip vs) fl).reverse.lookup y) (cl L') cells → Below A base (env :: outer) g → K.In g → Top p loose mean mg mb g → (∀ p ∈ news, p.1 < L') →
      wpAny (model prog w) (A.deeper (envX qual scope L' f cdv (cl L'))) (execs body (envX qual scope L' f cdv (cl L')))
        (fun fl s' => LeaveK h₀ L m g R (match fl with | .ret v => v | _ => .none) s')
        (fun e s' => wpAny (model prog w) (A.deeper (envX qual scope L' f cdv (cl L'))) (leaving (envX qual scope L' f cdv (cl L')) e) (fun _ s'' => R (.error e) s'') (fun e' s'' => R (.error e') s'') s')
        { s with heap := h₁, toks := tk })
    (hco : scope.isCoroutine = false) (hgen : scope.isGenerator = false) (hk : scope.kind = .function) : codeAny (model prog w) A (.call (.ref f) ⟨vs, []⟩) R s := by
  obtain ⟨f1, f2⟩ := flags_ok (nk := scope.names) ns vs fl hlen hfl
  refine code_defC B F X₀ N T hA hf hke ho hcd hroom hbind (List.all_eq_true.mpr fun y hy => List.all_eq_true.mp hkind y.1 (List.of_mem_zip hy).1) hnd (fun g L' h₁ tk cells FG F' N' Y' B' X' T' l => ?_) hco hgen hk
  have e1 : bindL (envOfC qual scope L' f cdv).kindOf (ns.zip vs) (fun _ => none) = fun y => (selT (ns.zip vs) fl).reverse.lookup y := by
    have := bindL_sel (kd := (envOfC qual scope L' f cdv).kindOf) (ns.zip vs) fl [] f1 f2
    simpa using this
  have e2 : bindC (envOfC qual scope L' f cdv).kindOf (ns.zip vs) (fun _ => none) = fun y => (selF (ns.zip vs) fl).reverse.lookup y := by
    have := bindC_sel (kd := (envOfC qual scope L' f cdv).kindOf) (ns.zip vs) fl [] f1 f2
    simpa using this
  rw [e1] at F'
  rw [e2, hcl] at Y'
  have h' := h g L' h₁ tk cells FG F' N' Y' B' X' T' l
  have e3 : envOfC qual scope L' f cdv = envX qual scope L' f cdv (cl L') := by rw [← hcl]; rfl
  rw [e3]
  exact h'
end
section
variable {M : Model} {A : Around} {E : Value → Shared → Prop} {s : Shared} {name : Str} {scope : Scope} {L a : Addr} {cd : Value} {cl : List (Str × Addr)} {h₀ : Heap} {lk : List (Str × Value)} {mm mg mb : Str → Option Value} {news : List (Addr × Obj)} {K : Frag} {p : Program} {loose : List Str}
theorem nmXL {x : Str} {pos : Pos} {v : Value} {Q : Value → Shared → Prop} (F : Fr h₀ L s.heap (fun y => lk.lookup y)) (hv : lk.lookup x = some v) (hl : scope.names.lookup x = some .local) (hk : scope.kind = .function) (hd : (x == ("__debug__" : Str)) = false) (h : Q v s) :
    wpAny M A (eval (.Name x pos) (envX name scope L a cd cl)) Q E s := nameX_L F hv h hk hl hd
theorem nmXK {x : Str} {pos : Pos} {v : Value} {Q : Value → Shared → Prop} (F : Fr h₀ L s.heap mm) (X : K.In h₀) (T : TopRead p loose mg mb h₀) (e : nsIn K mainGlobals x = some (some v)) (hl : scope.names.lookup x = some .globalImplicit) (hk : scope.kind = .function) (hd : (x == ("__debug__" : Str)) = false) (h : Q v s) :
    wpAny M A (eval (.Name x pos) (envX name scope L a cd cl)) Q E s := nameX_K F X T e h hk hl hd
theorem stXL {x : Str} {v : Value} {Q : Unit → Shared → Prop} (F : Fr h₀ L s.heap (fun y => lk.lookup y)) (N : News h₀ L s.heap news) (hl : scope.names.lookup x = some .local) (hk : scope.kind = .function)
    (h : ∀ h', Fr h₀ L h' (fun y => ((x, v) :: lk).lookup y) → News h₀ L h' news → Q () { s with heap := h', toks := s.toks + 1 }) :
    wpAny M A (storeName (envX name scope L a cd cl) x v) Q E s := storeX_L F N (fun h' F' N' => h h' (lookupL_store ▸ F') N') hk hl
theorem nmXC {x : Str} {pos : Pos} {v : Value} {c : Addr} {o : Obj} {Q : Value → Shared → Prop} (N : News h₀ L s.heap news) (hc : cl.lookup x = some c) (hm : (c, o) ∈ news) (hd : o.data = .cell (some v)) (hl : scope.names.lookup x = some .cell) (hk : scope.kind = .function) (hb : (x == ("__debug__" : Str)) = false) (h : Q v s) :
    wpAny M A (eval (.Name x pos) (envX name scope L a cd cl)) Q E s := nameX_C N hc hm hd h hk hl hb
theorem nmXF {x : Str} {pos : Pos} {v : Value} {c : Addr} {o : Obj} {Q : Value → Shared → Prop} (N : News h₀ L s.heap news) (hc : cl.lookup x = some c) (hm : (c, o) ∈ news) (hd : o.data = .cell (some v)) (hl : scope.names.lookup x = some .free) (hk : scope.kind = .function) (hb : (x == ("__debug__" : Str)) = false) (hn : (x == ("__classdict__" : Str)) = false) (h : Q v s) :
    wpAny M A (eval (.Name x pos) (envX name scope L a cd cl)) Q E s := nameX_F N hc hm hd h hk hl hb hn
end
theorem TupA.strip {K : Frag} {x a : Addr} {o : Obj} {r : Led} {s m e b : Int} (hn : ∀ vs c, o.data ≠ .seq vs c) (T : TupA K ((x, o) :: r) a s m e b) : TupA K r a s m e b := by
  obtain ⟨t1, t2, t3, t4, c, hk | hk⟩ := T
  · exact ⟨t1, t2, t3, t4, c, .inl hk⟩
  · rcases List.mem_cons.mp hk with e | hk
    · exact absurd (congrArg (fun q : Addr × Obj => q.2.data) e).symm (hn _ _)
    · exact ⟨t1, t2, t3, t4, c, .inr hk⟩
theorem ns_cell {o : Obj} {v : Option Value} (h : o.data = .cell v) : ∀ vs c, o.data ≠ .seq vs c := fun vs c q => by rw [h] at q; cases q
theorem ns_tab {ps : Array Value} : ∀ vs c, (tabObj ps).data ≠ .seq vs c := fun vs c q => by cases q
end Mine
namespace Mine
theorem alk0 {x : Str} {v : Addr} {r : List (Str × Addr)} : ((x, v) :: r).lookup x = some v := by rw [List.lookup_cons]; simp
theorem alk1 {x n0 : Str} {v w0 : Addr} {r : List (Str × Addr)} (h : ([n0].any fun n => x == n) = false) : ((n0, w0) :: (x, v) :: r).lookup x = some v := by
  simp only [List.any_cons, List.any_nil, Bool.or_eq_false_iff, Bool.or_false] at h
  simp [List.lookup_cons, h]
theorem alk2 {x n0 n1 : Str} {v w0 w1 : Addr} {r : List (Str × Addr)} (h : ([n0, n1].any fun n => x == n) = false) : ((n0, w0) :: (n1, w1) :: (x, v) :: r).lookup x = some v := by
  simp only [List.any_cons, List.any_nil, Bool.or_eq_false_iff, Bool.or_false] at h
  simp [List.lookup_cons, h]
theorem alk3 {x n0 n1 n2 : Str} {v w0 w1 w2 : Addr} {r : List (Str × Addr)} (h : ([n0, n1, n2].any fun n => x == n) = false) : ((n0, w0) :: (n1, w1) :: (n2, w2) :: (x, v) :: r).lookup x = some v := by
  simp only [List.any_cons, List.any_nil, Bool.or_eq_false_iff, Bool.or_false] at h
  simp [List.lookup_cons, h]
end Mine
namespace Mine
section
variable {K : Frag} {r : Led} {a : Addr}
theorem tx_nan (T : TupA K r a (mS .nan) (mM .nan) (mE .nan) (mB .nan)) : TupA K r a 0 0 (-123) (-1) := T
theorem tx_over (T : TupA K r a (mS .over) (mM .over) (mE .over) (mB .over)) : TupA K r a 0 0 (-456) (-2) := T
theorem tx_under (T : TupA K r a (mS .under) (mM .under) (mE .under) (mB .under)) : TupA K r a 1 0 (-789) (-3) := T
end
end Mine
namespace Mine
section
variable {M : Model} {A : Around} {E : Value → Shared → Prop} {s' : Shared} {base g g₂ : Heap} {outer : List Env} {L a e : Addr} {m : Str → Option Value} {name : Str} {scope : Scope} {cd : Value} {cl : List (Str × Addr)} {Q : Unit → Shared → Prop} {news : List (Addr × Obj)}
theorem leave_onNX {cls : Value} (K : Below A base outer g) (F : Fr g L g₂ m) (R : RaisedN base (envX name scope L a cd cl :: outer) e cls news s'.heap) (hsm : g₂.UpToSlots s'.heap)
    (hQ : ∀ h', RaisedN base outer e cls news h' → g.UpToSlots h' → Q () { s' with heap := h' }) :
    wpAny M (A.deeper (envX name scope L a cd cl)) (leaving (envX name scope L a cd cl) (.ref e)) Q E s' := by
  obtain ⟨B, a0, hB, hl, hfl⟩ := R
  exact wpAny_leaves_onW (Around.frames_deeper K.stack) rfl hfl fun h' x1 x2 => hQ h' ⟨B, a0, hB, hl, x1⟩ ((Heap.UpToSlots.of_keeps F.keep).trans (hsm.trans x2))
end
end Mine

namespace Mine
theorem memX {env : Env} {L b : Addr} {outer : List Env} (hf : env.frame = some L) (hm : b ∈ (env :: outer).filterMap (·.frame)) : b = L ∨ b ∈ outer.filterMap (·.frame) := by
  obtain ⟨e, he, hf'⟩ := List.mem_filterMap.mp hm
  rcases List.mem_cons.mp he with rfl | he
  · exact .inl (Option.some.inj (hf'.symm.trans hf))
  · exact .inr (List.mem_filterMap.mpr ⟨e, he, hf'⟩)
section
variable {prog : Program} {w : World} {A₀ A : Around} {s : Shared} {base h₀ : Heap} {outer : List Env} {L : Addr} {m : Str → Option Value} {env : Env} {news : List (Addr × Obj)} {K : Frag} {p : Program} {loose : List Str} {mean : ExcName → Option Value} {mg mb : Str → Option Value}
    {R : Result → Shared → Prop}
theorem groundS (B : Below A₀ base outer h₀) (F : Fr h₀ L s.heap m) (N : News h₀ L s.heap news) (XB : K.In base) (TB : Top p loose mean mg mb base) (D : KtsDicts (outer.filterMap (·.frame)) h₀)
    (hA : A.frames = some (env :: outer)) (hf : env.frame = some L) (hke : env.scope.kind = .function) :
    Fr h₀ L (hideAll s.heap (news.map (·.1))) m ∧ Below A base (env :: outer) (hideAll s.heap (news.map (·.1))) ∧ h₀.StaysIn (hideAll s.heap (news.map (·.1))) ∧ KtsDicts ((env :: outer).filterMap (·.frame)) (hideAll s.heap (news.map (·.1))) ∧
      ∀ v s', LeaveS ((env :: outer).filterMap (·.frame)) A₀ base outer K p loose mean mg mb h₀ h₀ L m (hideAll s.heap (news.map (·.1))) R v s' → R (.ok (.ret v)) s' := by
  have nm : ∀ b o, h₀.get? b = some o → b ∉ news.map (·.1) := fun b o e q => by
    obtain ⟨p, hp, rfl⟩ := List.mem_map.mp q
    rw [(N p hp).2.2] at e; cases e
  have st : h₀.StaysIn (hideAll s.heap (news.map (·.1))) := fun b o e => hideAll_get _ (F.keep b o e) (nm b o e)
  obtain ⟨oL, es, ep, hL, hLd, hLk, hLf⟩ := F.ns
  have nL : L ∉ news.map (·.1) := fun q => by
    obtain ⟨p, hp, e⟩ := List.mem_map.mp q
    exact (N p hp).2.1 e
  have hLg := hideAll_get (news.map (·.1)) hL nL
  have B₁ := pushX B F hf hke
  have hN : ∀ h', h'.get? L = some oL → Heap.Ns h' L m := fun h' e => ⟨oL, es, ep, e, hLd, hLk, hLf⟩
  have hNs : ∀ (sl : Array (Option Value)) h', h'.get? L = some { oL with slots := sl } → Heap.Ns h' L m := fun sl h' e => ⟨_, es, ep, e, hLd, hLk, hLf⟩
  refine ⟨⟨⟨oL, es, ep, hLg, hLd, hLk, hLf⟩, st, F.above⟩, ⟨hA, fun b o e => st b o (B.stays b o e), funFrames_hideAll B₁.frames fun env' he b hb hf' => ?_⟩, st, fun b hb => ?_, fun v s' hl => ?_⟩
  · cases he with
    | head => exact nL ((Option.some.inj (hf.symm.trans hf') : L = b) ▸ hb)
    | tail _ he =>
      obtain ⟨L₁, o₁, hf₁, ho₁⟩ := funFrames_in B.frames env' he
      rw [hf₁] at hf'
      exact nm L₁ o₁ ho₁ ((Option.some.inj hf' : L₁ = b) ▸ hb)
  · rcases memX hf hb with rfl | hb
    · exact ⟨oL, es, ep, hLg, hLd⟩
    · obtain ⟨o, es', n', ho', hd'⟩ := D b hb
      exact ⟨o, es', n', st b o ho', hd'⟩
  · have nL₀ : h₀.get? L = none := kts_self F
    rcases hl with ⟨L', m', news', F', N', k⟩ | ⟨g', L', m', news', T', F', N', k⟩
    · refine k ⟨hN _ (F'.keep _ _ hLg), fun b o e => F'.keep b o (st b o e), F.above⟩ fun p hp => ⟨(N' p hp).1, fun q => ?_, ?_⟩
      · have := (N' p hp).2.2; rw [q, hLg] at this; cases this
      · cases q : h₀.get? p.1 with
        | none => rfl
        | some o => have := (N' p hp).2.2; rw [st _ _ q] at this; cases this
    obtain ⟨sl, hs⟩ := T'.up hLg
    obtain ⟨T₁, S₁⟩ := kts_turn_at (h := s'.heap) (fs := outer.filterMap (·.frame)) (g := h₀)
      (fun b hb => by
        obtain ⟨_, o, ho', _⟩ := B.frames.mem hb
        exact ⟨o, ho'⟩)
      (fun b o e nmem => F'.keep b o (T'.other b o (st b o e) (fun q => by
        rcases memX hf q with z | z
        · rw [z, nL₀] at e
          cases e
        · exact nmem z)))
      (fun b o e hm => by
        obtain ⟨sl', hs'⟩ := T'.up (st b o e)
        exact ⟨sl', F'.keep _ _ hs'⟩)
    have B₃ : Below A₀ base outer (ktsHeap s'.heap (outer.filterMap (·.frame)) h₀) := ⟨B.stack, fun b o e => T₁.other b o (B.stays b o e) (fun hm => by
      rw [(B.frames.mem hm).1] at e
      cases e), B.frames.of_keeps fun b o e _ => by
      obtain ⟨sl', hs'⟩ := T₁.up e
      exact ⟨_, hs', rfl⟩⟩
    refine k _ T₁ ⟨hNs sl _ (F'.keep _ _ hs), S₁, by rw [T₁.size]; exact F.above⟩ (fun p hp => ⟨(N' p hp).1, fun q => ?_, ?_⟩) B₃ (XB.keeps B₃.stays) (TB.keeps B₃.stays) (D.turn T₁)
    · have := (N' p hp).2.2; rw [q, hs] at this; cases this
    · refine T₁.none_ _ ?_
      cases q : h₀.get? p.1 with
      | none => rfl
      | some o =>
        obtain ⟨sl', hs'⟩ := T'.up (st _ _ q)
        have := (N' p hp).2.2
        rw [hs'] at this
        cases this
end
end Mine
namespace Mine
section
variable {prog : Program} {w : World} {A₀ A : Around} {s : Shared} {base h₀ : Heap} {outer : List Env} {L : Addr} {m : Str → Option Value} {env : Env} {news : List (Addr × Obj)} {K : Frag} {p : Program} {loose : List Str} {mean : ExcName → Option Value} {mg mb : Str → Option Value}
    {R : Result → Shared → Prop}
/-- a def is entered that stands under a try of its own, or of one that it calls -/
theorem code_defXS {name qual : Str} {params : Arguments} {body : List Stmt} {scope : Scope} {dV kV doc pm cdv ct oc : Value} {an od : Option Addr} {osl : Array (Option Value)} {f : Addr} {vs : List Value} (ns : List Str) (ds : List Value)
    (B : Below A₀ base outer h₀) (F : Fr h₀ L s.heap m) (X₀ : K.In h₀) (N : News h₀ L s.heap news) (T : Top p loose mean mg mb h₀) (XB : K.In base) (TB : Top p loose mean mg mb base) (D : KtsDicts (outer.filterMap (·.frame)) h₀) (hA : A.frames = some (env :: outer)) (hf : env.frame = some L) (hke : env.scope.kind = .function)
    (ho : K.lookup f = some ⟨oc, od, .func (fnOf name qual params body scope dV kV doc pm an cdv ct), osl⟩) (hcd : codeIn K cdv qual = true) (hroom : A.depth < recursionLimit)
    (hbind : BindsTo s (fnOf name qual params body scope dV kV doc pm an cdv ct) ⟨vs, []⟩ (ns.zip (vs ++ ds))) (hloc : (ns.all fun x => decide (scope.names.lookup x = some .local)) = true)
    (h : ∀ g L' h₁, Fr h₀ L g m → Fr g L' h₁ (fun y => (ns.zip (vs ++ ds)).reverse.lookup y) → News g L' h₁ news → Below A base (env :: outer) g → K.In g → Top p loose mean mg mb g → KtsDicts ((env :: outer).filterMap (·.frame)) g →
      wpAny (model prog w) (A.deeper (envOf qual scope L' f cdv)) (execs body (envOf qual scope L' f cdv))
        (fun fl s' => LeaveS ((env :: outer).filterMap (·.frame)) A₀ base outer K p loose mean mg mb h₀ h₀ L m g R (match fl with | .ret v => v | _ => .none) s')
        (fun e s' => wpAny (model prog w) (A.deeper (envOf qual scope L' f cdv)) (leaving (envOf qual scope L' f cdv) e) (fun _ s'' => R (.error e) s'') (fun e' s'' => R (.error e') s'') s')
        { s with heap := h₁, toks := s.toks + (ns.zip (vs ++ ds)).length })
    (hco : scope.isCoroutine = false) (hgen : scope.isGenerator = false) (hk : scope.kind = .function)
    (hcell : ∀ x ∈ scope.names, x.2 ≠ .cell) : codeAny (model prog w) A (.call (.ref f) ⟨vs, []⟩) R s := by
  have X := X₀.keeps F.keep
  obtain ⟨FG, BG, st, DG, lv⟩ := groundS (R := R) B F N XB TB D hA hf hke
  refine codeAny_call_def (fd := fnOf name qual params body scope dV kV doc pm an cdv ct) (body := body) (binds := ns.zip (vs ++ ds)) hroom (X _ _ ho) rfl (T.nolimit.keeps F.keep) (codeRec_of X hcd) rfl hbind hcell
    (fun y hy => of_decide_eq_true (List.all_eq_true.mp hloc y.1 (List.of_mem_zip hy).1)) (fun h₁ hns hk₁ => ?_) hco hgen hk
  exact wpAny_mono (h _ s.heap.objs.size h₁ FG ⟨hns, fun b o e => hk₁ b o (of_hideAll _ e), Nat.le_of_eq (hideAll_size _ _)⟩
    (fun p hp => ⟨hk₁ _ _ (N p hp).1, Nat.ne_of_lt (Heap.lt_size (N p hp).1), hideAll_none _ (List.mem_map_of_mem hp)⟩) BG (X₀.keeps st) (T.keeps st) DG) (fun fl s' hl => lv _ _ hl) fun _ _ y => y
/-- the same of a def with cells -/
theorem code_defCXS {name qual : Str} {params : Arguments} {body : List Stmt} {scope : Scope} {dV kV doc pm cdv ct oc : Value} {an od : Option Addr} {osl : Array (Option Value)} {f : Addr} {vs : List Value} (ns : List Str) (fl : List Bool) (cl : Addr → List (Str × Addr))
    (B : Below A₀ base outer h₀) (F : Fr h₀ L s.heap m) (X₀ : K.In h₀) (N : News h₀ L s.heap news) (T : Top p loose mean mg mb h₀) (XB : K.In base) (TB : Top p loose mean mg mb base) (D : KtsDicts (outer.filterMap (·.frame)) h₀) (hA : A.frames = some (env :: outer)) (hf : env.frame = some L) (hke : env.scope.kind = .function)
    (ho : K.lookup f = some ⟨oc, od, .func (fnOf name qual params body scope dV kV doc pm an cdv ct), osl⟩) (hcd : codeIn K cdv qual = true) (hroom : A.depth < recursionLimit)
    (hbind : BindsTo s (fnOf name qual params body scope dV kV doc pm an cdv ct) ⟨vs, []⟩ (ns.zip vs)) (hlen : ns.length = vs.length) (hfl : (ns.map fun n => decide (scope.names.lookup n = some .local)) = fl)
    (hkind : (ns.all fun y => scope.names.lookup y == some .local || scope.names.lookup y == some .cell) = true)
    (hnd : ((cellsFrom 0 scope.names []).map (·.1)).Nodup) (hcl : ∀ L', cellsFrom (L' + 1) scope.names [] = cl L')
    (h : ∀ g L' h₁ tk cells, Fr h₀ L g m → Fr g L' h₁ (fun y => (selT (ns.zip vs) fl).reverse.lookup y) → News g L' h₁ (cells ++ news) →
      CellsAre (fun y => (selF (ns.zip vs) fl).reverse.lookup y) (cl L') cells → Below A base (env :: outer) g → K.In g → Top p loose mean mg mb g → KtsDicts ((env :: outer).filterMap (·.frame)) g → (∀ p ∈ news, p.1 < L') →
      wpAny (model prog w) (A.deeper (envX qual scope L' f cdv (cl L'))) (execs body (envX qual scope L' f cdv (cl L')))
        (fun fl s' => LeaveS ((env :: outer).filterMap (·.frame)) A₀ base outer K p loose mean mg mb h₀ h₀ L m g R (match fl with | .ret v => v | _ => .none) s')
        (fun e s' => wpAny (model prog w) (A.deeper (envX qual scope L' f cdv (cl L'))) (leaving (envX qual scope L' f cdv (cl L')) e) (fun _ s'' => R (.error e) s'') (fun e' s'' => R (.error e') s'') s')
        { s with heap := h₁, toks := tk })
    (hco : scope.isCoroutine = false) (hgen : scope.isGenerator = false) (hk : scope.kind = .function) : codeAny (model prog w) A (.call (.ref f) ⟨vs, []⟩) R s := by
  obtain ⟨FG, BG, st, DG, lv⟩ := groundS (R := R) B F N XB TB D hA hf hke
  obtain ⟨f1, f2⟩ := flags_ok (nk := scope.names) ns vs fl hlen hfl
  have X := X₀.keeps F.keep
  refine codeAny_call_function hroom (X _ _ ho) rfl hco hgen rfl (codeRec_of X hcd) (hbind _ _ _ _ ?_)
  refine wpAny_newFunctionEnv_cells hk (kindsX (List.all_eq_true.mpr fun y hy => List.all_eq_true.mp hkind y.1 (List.of_mem_zip hy).1) _) fun env' he s' x => ?_
  subst he
  refine ⟨(T.nolimit.keeps F.keep).keeps x.toInCall.keep, codeAny_func ?_⟩
  obtain ⟨h₁, tk, rfl, _⟩ := x.done
  have hk₁ := x.toInCall.keep
  obtain ⟨cells, NC, Y⟩ := Cl.news (h₀ := s.heap) (Nat.le_refl _) fun n c hm => ⟨x.cell n c (lookup_of_mem_nodup (cellsFrom_names scope.names 0 (s.heap.objs.size + 1) [] [] rfl ▸ hnd) hm), x.above n c hm⟩
  have hns := x.toInCall.ns
  have e1 : bindL (envOfC qual scope s.heap.objs.size f cdv).kindOf (ns.zip vs) (fun _ => none) = fun y => (selT (ns.zip vs) fl).reverse.lookup y := by
    have := bindL_sel (kd := (envOfC qual scope s.heap.objs.size f cdv).kindOf) (ns.zip vs) fl [] f1 f2
    simpa using this
  have e2 : bindC (envOfC qual scope s.heap.objs.size f cdv).kindOf (ns.zip vs) (fun _ => none) = fun y => (selF (ns.zip vs) fl).reverse.lookup y := by
    have := bindC_sel (kd := (envOfC qual scope s.heap.objs.size f cdv).kindOf) (ns.zip vs) fl [] f1 f2
    simpa using this
  have e3 : envOfC qual scope s.heap.objs.size f cdv = envX qual scope s.heap.objs.size f cdv (cl s.heap.objs.size) := by rw [← hcl]; rfl
  have F' : Fr (hideAll s.heap (news.map (·.1))) s.heap.objs.size h₁ (bindL (envOfC qual scope s.heap.objs.size f cdv).kindOf (ns.zip vs) (fun _ => none)) := ⟨hns, fun b o e => hk₁ b o (of_hideAll _ e), Nat.le_of_eq (hideAll_size _ _)⟩
  have Y' : CellsAre (bindC (envOfC qual scope s.heap.objs.size f cdv).kindOf (ns.zip vs) (fun _ => none)) (cellsFrom (s.heap.objs.size + 1) scope.names []) cells := Y
  rw [e1] at F'
  rw [e2, hcl] at Y'
  have N' : News (hideAll s.heap (news.map (·.1))) s.heap.objs.size h₁ (cells ++ news) := fun p hp => by
    rcases List.mem_append.mp hp with hp | hp
    · refine ⟨(NC p hp).1, (NC p hp).2.1, ?_⟩
      cases q : (hideAll s.heap (news.map (·.1))).get? p.1 with
      | none => rfl
      | some o => have := of_hideAll _ q; rw [(NC p hp).2.2] at this; cases this
    · exact ⟨hk₁ _ _ (N p hp).1, Nat.ne_of_lt (Heap.lt_size (N p hp).1), hideAll_none _ (List.mem_map_of_mem hp)⟩
  have h' := h _ s.heap.objs.size h₁ tk cells FG F' N' Y' BG (X₀.keeps st) (T.keeps st) DG (fun p hp => Heap.lt_size (N p hp).1)
  show wpAny (model prog w) (A.deeper (envOfC qual scope s.heap.objs.size f cdv)) (execs body (envOfC qual scope s.heap.objs.size f cdv)) _ _ _
  rw [e3]
  refine wpAny_mono h' (fun fl s' hl => lv _ _ hl) fun _ _ y => ?_
  rw [← e3] at y
  exact y
end
section
variable {M : Model} {A : Around} {E : Value → Shared → Prop} {s' : Shared} {base g g₂ : Heap} {outer : List Env} {L a e : Addr} {m : Str → Option Value} {name : Str} {scope : Scope} {cd : Value} {cl : List (Str × Addr)} {Q : Unit → Shared → Prop} {news : List (Addr × Obj)}
theorem leave_onSNX {cls : Value} (K : Below A base outer g) (F : Fr g L g₂ m) (R : RaisedSN base g₂ (envX name scope L a cd cl :: outer) e cls news s'.heap) (hsm : g₂.UpToSlots s'.heap)
    (hQ : ∀ h', RaisedSN base g outer e cls news h' → RaisedN base outer e cls news h' → g.UpToSlots h' → Q () { s' with heap := h' }) :
    wpAny M (A.deeper (envX name scope L a cd cl)) (leaving (envX name scope L a cd cl) (.ref e)) Q E s' := by
  obtain ⟨B, a0, hB, hBG, hl, hfl⟩ := R
  exact wpAny_leaves_onW (Around.frames_deeper K.stack) rfl hfl fun h' x1 x2 =>
    have R : RaisedSN base g outer e cls news h' := ⟨B, a0, hB, fun b o q nm => hBG b o (F.keep b o q) (fun hm => by
      rcases memX (env := envX name scope L a cd cl) rfl hm with z | z
      · rw [z, kts_self F] at q
        cases q
      · exact nm z), fun q hq => ⟨(hl q hq).1, kts_none F.keep (hl q hq).2.1, (hl q hq).2.2⟩, x1⟩
    hQ h' R R.toN ((Heap.UpToSlots.of_keeps F.keep).trans (hsm.trans x2))
end
end Mine
namespace Mine
section
variable {prog : Program} {w : World} {A₀ : Around} {E : Value → Shared → Prop} {s' : Shared} {base g g₀ G : Heap} {outer : List Env} {L a e : Addr} {m : Str → Option Value} {name : Str} {scope : Scope} {cd : Value}
  {n : Str} {b₀ b1 b2 : Stmt} {suite su1 su2 : List Stmt} {pos np pos1 np1 pos2 np2 : Pos} {rest : List ExceptHandler} {Q : Flow → Shared → Prop} {news : List (Addr × Obj)} {KF : Frag}
  {p : Program} {loose : List Str} {mean : ExcName → Option Value} {mg mb : Str → Option Value} {x x1 x2 : Str} {X T' T1 T2 : String}
/-- the second handler takes it -/
theorem caught_1 (R : RaisedSN base G (envOf name scope L a cd :: outer) e (.type X) news s'.heap) (F : Fr g L G m) (K : Below A₀ base outer g) (hsm : G.UpToSlots s'.heap) (XB : KF.In base) (TB : Top p loose mean mg mb base)
    (D : KtsDicts (outer.filterMap (·.frame)) g) (T0 : KtsTurn (outer.filterMap (·.frame)) g₀ g)
    (ex1 : nsIn KF mainGlobals x1 = some none) (hv1 : bootBuiltins x1 = some (.type T1)) (hn1 : x1 ≠ "__name__")
    (hexc1 : isSubtype (.type T1) (.type "BaseException") = pure true) (hnt1 : isSubtype (.type ((Manifest.find? T1).elim "type" fun y => y.metatype)) (.type "tuple") = pure false) (hsub1 : isSubtype (.type X) (.type T1) = pure false)
    (ex : nsIn KF mainGlobals x = some none) (hv : bootBuiltins x = some (.type T')) (hn' : x ≠ "__name__")
    (hexc : isSubtype (.type T') (.type "BaseException") = pure true) (hnt : isSubtype (.type ((Manifest.find? T').elim "type" fun y => y.metatype)) (.type "tuple") = pure false) (hsub : isSubtype (.type X) (.type T') = pure true)
    (k : ∀ h' g', KtsTurn (outer.filterMap (·.frame)) g₀ g' → Fr g' L h' m → News g' L h' news → Below A₀ base outer g' → KF.In g' → Top p loose mean mg mb g' → KtsDicts (outer.filterMap (·.frame)) g' →
      wpAny (model prog w) ((A₀.deeper (envOf name scope L a cd)).mark (some (.ref e))) (execs (b₀ :: suite) (envOf name scope L a cd)) Q E { s' with heap := h' })
    (hk : scope.kind = .function) (hx1 : (envOf name scope L a cd).kindOf x1 = some .globalImplicit) (hd1 : (x1 == ("__debug__" : Str)) = false) (hx : (envOf name scope L a cd).kindOf x = some .globalImplicit) (hd : (x == ("__debug__" : Str)) = false)
    (hE : PassesOwnAt (model prog w) ((A₀.deeper (envOf name scope L a cd)).mark (some (.ref e))) (A₀.deeper (envOf name scope L a cd)) (envOf name scope L a cd) E) :
    wpAny (model prog w) (A₀.deeper (envOf name scope L a cd)) (noteFrame (.ref e) (envOf name scope L a cd))
      (fun _ s₂ => wpAny (model prog w) (A₀.deeper (envOf name scope L a cd)) (setFlight (.ref e) none) (fun _ s₃ =>
        wpAny (model prog w) (A₀.deeper (envOf name scope L a cd)) (handleBy (.ref e) (envOf name scope L a cd) (.ExceptHandler (some (.Name x1 np1)) none (b1 :: su1) pos1 :: .ExceptHandler (some (.Name x np)) none (b₀ :: suite) pos :: rest)) Q E s₃) E s₂) E s' := by
  obtain ⟨B, a0, hB, hBG, hl, hfl⟩ := R
  have hL : B.get? L = none := by
    obtain ⟨_, ⟨L', _, hf, hn', _⟩, _⟩ := hfl.2.2.1
    obtain rfl : L = L' := Option.some.inj hf
    exact hn'
  refine wpAny_looks_onW (Around.frames_deeper K.stack) rfl hfl fun h₄ hheld₄ hsm₄ => ?_
  refine wpAny_landsW hheld₄ fun h₅ hheld hsm₅' => ?_
  have hsm₅ := hsm₄.trans hsm₅'
  obtain ⟨g₅, T₅, F₅, K₅⟩ := kts_ground K F hBG hheld.1 (hsm.trans hsm₅)
  have X₅ : KF.In g₅ := XB.keeps K₅.stays
  have P₅ : TopRead p loose mg mb g₅ := topRead_of (TB.keeps K₅.stays)
  obtain ⟨ob, hob, hobc⟩ := hheld.there
  have st0 : wpAny (model prog w) (A₀.deeper (envOf name scope L a cd)) (handleBy (.ref e) (envOf name scope L a cd) (.ExceptHandler (some (.Name x np)) none (b₀ :: suite) pos :: rest)) Q E { s' with heap := h₅ } := by
    refine wpAny_handleBy_builtin (X := X) (T := T') (b := true) hexc hnt hsub (name_B F₅ X₅ P₅ ex hv hn' ⟨rfl, ⟨ob, hob, hobc⟩, ?_⟩ hk hx hd)
    refine lands_againW hheld fun h₆ hfl₆ hsm₆ => ?_
    obtain ⟨g₆, T₆, F₆, K₆⟩ := kts_ground K F hBG hfl₆.1 ((hsm.trans hsm₅).trans hsm₆)
    have Nl : News g₆ L h₆ news := fun q hq => ⟨hfl₆.1 _ _ (hl q hq).1, (fun z => by have := (hl q hq).1; rw [z, hL] at this; cases this), T₆.none_ _ (kts_none F.keep (hl q hq).2.1)⟩
    have X₆ : KF.In g₆ := XB.keeps K₆.stays
    have P₆ : Top p loose mean mg mb g₆ := TB.keeps K₆.stays
    have D₆ : KtsDicts (outer.filterMap (·.frame)) g₆ := D.turn T₆
    exact wpAny_passesOwnAt hE (k h₆ g₆ (T0.trans T₆) F₆ Nl K₆ X₆ P₆ D₆)
  refine wpAny_handleBy_builtin (X := X) (T := T1) (b := false) hexc1 hnt1 hsub1 (name_B F₅ X₅ P₅ ex1 hv1 hn1 ⟨rfl, ⟨ob, hob, hobc⟩, ?_⟩ hk hx1 hd1)
  rw [if_neg (by decide)]
  exact st0
/-- the third handler takes it -/
theorem caught_2 (R : RaisedSN base G (envOf name scope L a cd :: outer) e (.type X) news s'.heap) (F : Fr g L G m) (K : Below A₀ base outer g) (hsm : G.UpToSlots s'.heap) (XB : KF.In base) (TB : Top p loose mean mg mb base)
    (D : KtsDicts (outer.filterMap (·.frame)) g) (T0 : KtsTurn (outer.filterMap (·.frame)) g₀ g)
    (ex1 : nsIn KF mainGlobals x1 = some none) (hv1 : bootBuiltins x1 = some (.type T1)) (hn1 : x1 ≠ "__name__")
    (hexc1 : isSubtype (.type T1) (.type "BaseException") = pure true) (hnt1 : isSubtype (.type ((Manifest.find? T1).elim "type" fun y => y.metatype)) (.type "tuple") = pure false) (hsub1 : isSubtype (.type X) (.type T1) = pure false)
    (ex2 : nsIn KF mainGlobals x2 = some none) (hv2 : bootBuiltins x2 = some (.type T2)) (hn2 : x2 ≠ "__name__")
    (hexc2 : isSubtype (.type T2) (.type "BaseException") = pure true) (hnt2 : isSubtype (.type ((Manifest.find? T2).elim "type" fun y => y.metatype)) (.type "tuple") = pure false) (hsub2 : isSubtype (.type X) (.type T2) = pure false)
    (ex : nsIn KF mainGlobals x = some none) (hv : bootBuiltins x = some (.type T')) (hn' : x ≠ "__name__")
    (hexc : isSubtype (.type T') (.type "BaseException") = pure true) (hnt : isSubtype (.type ((Manifest.find? T').elim "type" fun y => y.metatype)) (.type "tuple") = pure false) (hsub : isSubtype (.type X) (.type T') = pure true)
    (k : ∀ h' g', KtsTurn (outer.filterMap (·.frame)) g₀ g' → Fr g' L h' m → News g' L h' news → Below A₀ base outer g' → KF.In g' → Top p loose mean mg mb g' → KtsDicts (outer.filterMap (·.frame)) g' →
      wpAny (model prog w) ((A₀.deeper (envOf name scope L a cd)).mark (some (.ref e))) (execs (b₀ :: suite) (envOf name scope L a cd)) Q E { s' with heap := h' })
    (hk : scope.kind = .function) (hx1 : (envOf name scope L a cd).kindOf x1 = some .globalImplicit) (hd1 : (x1 == ("__debug__" : Str)) = false) (hx2 : (envOf name scope L a cd).kindOf x2 = some .globalImplicit) (hd2 : (x2 == ("__debug__" : Str)) = false) (hx : (envOf name scope L a cd).kindOf x = some .globalImplicit) (hd : (x == ("__debug__" : Str)) = false)
    (hE : PassesOwnAt (model prog w) ((A₀.deeper (envOf name scope L a cd)).mark (some (.ref e))) (A₀.deeper (envOf name scope L a cd)) (envOf name scope L a cd) E) :
    wpAny (model prog w) (A₀.deeper (envOf name scope L a cd)) (noteFrame (.ref e) (envOf name scope L a cd))
      (fun _ s₂ => wpAny (model prog w) (A₀.deeper (envOf name scope L a cd)) (setFlight (.ref e) none) (fun _ s₃ =>
        wpAny (model prog w) (A₀.deeper (envOf name scope L a cd)) (handleBy (.ref e) (envOf name scope L a cd) (.ExceptHandler (some (.Name x1 np1)) none (b1 :: su1) pos1 :: .ExceptHandler (some (.Name x2 np2)) none (b2 :: su2) pos2 :: .ExceptHandler (some (.Name x np)) none (b₀ :: suite) pos :: rest)) Q E s₃) E s₂) E s' := by
  obtain ⟨B, a0, hB, hBG, hl, hfl⟩ := R
  have hL : B.get? L = none := by
    obtain ⟨_, ⟨L', _, hf, hn', _⟩, _⟩ := hfl.2.2.1
    obtain rfl : L = L' := Option.some.inj hf
    exact hn'
  refine wpAny_looks_onW (Around.frames_deeper K.stack) rfl hfl fun h₄ hheld₄ hsm₄ => ?_
  refine wpAny_landsW hheld₄ fun h₅ hheld hsm₅' => ?_
  have hsm₅ := hsm₄.trans hsm₅'
  obtain ⟨g₅, T₅, F₅, K₅⟩ := kts_ground K F hBG hheld.1 (hsm.trans hsm₅)
  have X₅ : KF.In g₅ := XB.keeps K₅.stays
  have P₅ : TopRead p loose mg mb g₅ := topRead_of (TB.keeps K₅.stays)
  obtain ⟨ob, hob, hobc⟩ := hheld.there
  have st0 : wpAny (model prog w) (A₀.deeper (envOf name scope L a cd)) (handleBy (.ref e) (envOf name scope L a cd) (.ExceptHandler (some (.Name x np)) none (b₀ :: suite) pos :: rest)) Q E { s' with heap := h₅ } := by
    refine wpAny_handleBy_builtin (X := X) (T := T') (b := true) hexc hnt hsub (name_B F₅ X₅ P₅ ex hv hn' ⟨rfl, ⟨ob, hob, hobc⟩, ?_⟩ hk hx hd)
    refine lands_againW hheld fun h₆ hfl₆ hsm₆ => ?_
    obtain ⟨g₆, T₆, F₆, K₆⟩ := kts_ground K F hBG hfl₆.1 ((hsm.trans hsm₅).trans hsm₆)
    have Nl : News g₆ L h₆ news := fun q hq => ⟨hfl₆.1 _ _ (hl q hq).1, (fun z => by have := (hl q hq).1; rw [z, hL] at this; cases this), T₆.none_ _ (kts_none F.keep (hl q hq).2.1)⟩
    have X₆ : KF.In g₆ := XB.keeps K₆.stays
    have P₆ : Top p loose mean mg mb g₆ := TB.keeps K₆.stays
    have D₆ : KtsDicts (outer.filterMap (·.frame)) g₆ := D.turn T₆
    exact wpAny_passesOwnAt hE (k h₆ g₆ (T0.trans T₆) F₆ Nl K₆ X₆ P₆ D₆)
  have st2 : wpAny (model prog w) (A₀.deeper (envOf name scope L a cd)) (handleBy (.ref e) (envOf name scope L a cd) (.ExceptHandler (some (.Name x2 np2)) none (b2 :: su2) pos2 :: .ExceptHandler (some (.Name x np)) none (b₀ :: suite) pos :: rest)) Q E { s' with heap := h₅ } := by
    refine wpAny_handleBy_builtin (X := X) (T := T2) (b := false) hexc2 hnt2 hsub2 (name_B F₅ X₅ P₅ ex2 hv2 hn2 ⟨rfl, ⟨ob, hob, hobc⟩, ?_⟩ hk hx2 hd2)
    rw [if_neg (by decide)]
    exact st0
  refine wpAny_handleBy_builtin (X := X) (T := T1) (b := false) hexc1 hnt1 hsub1 (name_B F₅ X₅ P₅ ex1 hv1 hn1 ⟨rfl, ⟨ob, hob, hobc⟩, ?_⟩ hk hx1 hd1)
  rw [if_neg (by decide)]
  exact st2
end
end Mine
namespace Mine
/-- a claim about a call of a def that catches under itself: the ground is a new one afterwards -/
def CtrG (w : World) (n : Nat) (f : Addr) (news : Led) (vs : List Value) (ok : Value → Led → Prop) : Prop :=
  ∀ (p : Program) (loose : List Str) (mean : ExcName → Option Value) (mg mb : Str → Option Value)
    (dp un : Nat) (gd : Option (List Code)) (cn : Str) (cs : Scope) (ca : Addr) (ccd : Value) (cl : List (Str × Addr)) (outer : List Env) (A₀ : Around) (base h₀ : Heap) (L : Addr) (mm : Str → Option Value) (st : Shared)
    (Q E : Value → Shared → Prop),
    Below A₀ base outer h₀ → Fr h₀ L st.heap mm → (hd.heap_39 w.params).In h₀ → News h₀ L st.heap news → Top p loose mean mg mb h₀ → (hd.heap_39 w.params).In base → Top p loose mean mg mb base → KtsDicts (outer.filterMap (·.frame)) h₀ →
    cs.kind = .function → dp + n < recursionLimit → un + (100 + 8 * n) < cLine →
    (∀ v news' h₀' h' tk', ok v news' → Fr h₀' L h' mm → News h₀' L h' news' → Below A₀ base outer h₀' → (hd.heap_39 w.params).In h₀' → Top p loose mean mg mb h₀' → KtsDicts (outer.filterMap (·.frame)) h₀' → Q v { st with heap := h', toks := tk' }) →
    wpAny (model PySem.Challenge.rw_bw0031_01.row.prog w) (ktrTop dp un gd cn cs L ca ccd cl outer) (call (.ref f) vs) Q E st
end Mine

namespace Mine
section
variable {prog : Program} {w : World} {A : Around} {E : Value → Shared → Prop} {s : Shared} {env : Env} {h₀ : Heap} {x : Str} {body : List Stmt} {Q : Flow → Shared → Prop}
/-- a turn's end: the frame's names tell what they should, the ledger holds what it held -/
def TurnEnd (h₀ : Heap) (L : Addr) (J : (Str → Option Value) → Prop) (need : Led) (s₁ : Shared) (Q : Flow → Shared → Prop) (f : Flow) (s₂ : Shared) : Prop :=
  match f with
  | .ret v => Q (.ret v) s₂
  | .brk => Q .next s₂
  | _ => ∃ h' tk m', s₂ = { s₁ with heap := h', toks := tk } ∧ Fr h₀ L h' m' ∧ News h₀ L h' need ∧ J m'
/-- a loop over a list that stands in the ledger, whatever its items: an invariant over the turn's number and the frame's names -/
theorem iter_L {l : Addr} {vs : List Value} {k : Nat} {m₀ : Str → Option Value} {news : Led} (J : Nat → (Str → Option Value) → Prop)
    (hh : A.handled = none) (hl : (l, ({ cls := .type "list", data := .seq vs.toArray k } : Obj)) ∈ news) (F : Fr h₀ env.locals s.heap m₀) (N : News h₀ env.locals s.heap news) (hj : J 0 m₀)
    (turn : ∀ i v m₁ h tk need, vs[i]? = some v → J i m₁ → Fr h₀ env.locals h (fun y => if y = x then some v else m₁ y) → (∀ p ∈ news, p ∈ need) → (∀ p ∈ need, p ∈ news ∨ p.2.cls ≠ .type "tuple") → News h₀ env.locals h need →
      wpAny (model prog w) A (execs body env) (TurnEnd h₀ env.locals (J (i + 1)) need { s with heap := h, toks := tk } Q) E { s with heap := h, toks := tk })
    (done : ∀ m₁ h tk, J vs.length m₁ → Fr h₀ env.locals h m₁ → News h₀ env.locals h news → Q .next { s with heap := h, toks := tk }) :
    wpAny (model prog w) A (pyIter (.ref l)) (fun it s₂ => LoopAtV prog w A h₀ env x body Q E it s₂) E s := by
  have hol := (N _ hl).1
  have hls : s.heap.IsList l vs.toArray := ⟨_, hol, rfl, k, rfl⟩
  have hne : l ≠ s.heap.objs.size := Nat.ne_of_lt (Heap.lt_size hol)
  refine wpAny_pyIter_list hls ?_
  have W := Walks.list (prog := prog) (w := w) hh s.heap.objs.size l hne vs.toArray
  have hlen : vs.toArray.size = vs.length := by simp
  rw [hlen] at W
  refine ⟨_, _, _, vs.length, _, _, m₀, news, (fun i m nx => nx = news ∧ J i m), rfl, W, ?_, ?_, ?_, ⟨⟨_, Heap.get?_push_size _ rfl, rfl, rfl⟩, hls.at fun o e => Heap.get?_push_of_some _ e⟩, F.push _, (fun p hp => ⟨Heap.get?_push_of_some _ (N p hp).1, (N p hp).2⟩), ⟨rfl, hj⟩, ?_, ?_⟩
  · intro hm
    rcases List.mem_cons.mp hm with e | hm
    · exact absurd F.ns.lt (e ▸ Nat.lt_irrefl _)
    · exact (N _ hl).2.1 ((List.mem_singleton.mp hm).symm)
  · intro b hb
    rw [List.mem_singleton.mp hb]
    exact next_is_new F
  · intro p hp hI
    exact absurd (Heap.lt_size (N p hp).1) ((List.mem_singleton.mp hI) ▸ Nat.lt_irrefl _)
  · rintro i v m₁ news₁ s₁ own ⟨hh', tk', rfl⟩ hin hP ⟨rfl, hJ⟩ hoff hown hget hfp hst F₁ N₁
    have hP' : vs[i]? = some v := by simpa using hP
    have hcl : ∀ p ∈ own ++ news₁, p ∈ news₁ ∨ p.2.cls ≠ .type "tuple" := fun p hp => by
      rcases List.mem_append.mp hp with hp | hp
      · right
        obtain ⟨⟨o1, g1, c1, _⟩, ⟨o2, g2, c2, _⟩⟩ := hst
        have hg := hget p hp
        rcases List.mem_cons.mp (hown p hp) with e | e
        · rw [e, g1] at hg
          have := Option.some.inj hg
          rw [← this, c1]
          decide
        · rw [List.mem_singleton.mp e, g2] at hg
          have := Option.some.inj hg
          rw [← this, c2]
          decide
      · exact .inl hp
    refine wpAny_mono (turn i v m₁ hh' tk' (own ++ news₁) hP' hJ F₁ (fun p hp => List.mem_append_right _ hp) hcl N₁) (fun f s₂ p => ?_) fun _ _ e => e
    have fin : (∃ h' tk m', s₂ = { s with heap := h', toks := tk } ∧ Fr h₀ env.locals h' m' ∧ News h₀ env.locals h' (own ++ news₁) ∧ J (i + 1) m') →
        LoopStepU h₀ env.locals [s.heap.objs.size] own (fun m nx => nx = news₁ ∧ J (i + 1) m) { s with heap := hh', toks := tk' } .next s₂ := by
      rintro ⟨h', tk, m', e, F', N', hm⟩
      exact ⟨rfl, h', tk, m', news₁, e, F', N', fun p hp hI => absurd (Heap.lt_size (N p hp).1) ((List.mem_singleton.mp hI) ▸ Nat.lt_irrefl _), rfl, hm⟩
    cases f with
    | ret v => exact .ret p
    | brk => exact .brk p
    | next => exact .next (fin p)
    | cont => exact .cont (fin p)
  · rintro h' tk m' news' F' N' _ ⟨rfl, hJ⟩
    exact done m' h' tk hJ F' N'
end
section
variable {h₀ h' : Heap} {L : Addr} {J : (Str → Option Value) → Prop} {need news' : Led} {s₁ : Shared} {Q : Flow → Shared → Prop} {tk : Nat} {m' : Str → Option Value}
theorem TurnEnd.next (F : Fr h₀ L h' m') (N : News h₀ L h' news') (hs : ∀ p ∈ need, p ∈ news') (hj : J m') : TurnEnd h₀ L J need s₁ Q .next { s₁ with heap := h', toks := tk } :=
  ⟨h', tk, m', rfl, F, news_drop N hs, hj⟩
end
/-- a name told twice -/
theorem lk_twice {lk : List (Str × Value)} {n : Str} {v : Value} (h : lk.lookup n = some v) : (fun y => lk.lookup y) = fun y => ((n, v) :: lk).lookup y := by
  funext y
  rw [List.lookup_cons]
  by_cases e : y = n
  · subst e; simp [h]
  · have : (y == n) = false := by simpa using e
    rw [this]
theorem lk_store {lk : List (Str × Value)} {n : Str} {v : Value} : (fun y => if y = n then some v else lk.lookup y) = fun y => ((n, v) :: lk).lookup y := lookupL_store
end Mine

namespace Mine
theorem TupA.topL {K : Frag} {news : Led} {a : Addr} {s m e b : Int} {t1 t2 t3 t4 : Tok} {c : Nat} (_hl : Nat.ble a 400 = true) (h : K.lookup a = some (tup4 s m e b t1 t2 t3 t4 c)) : TupA K news a s m e b :=
  ⟨t1, t2, t3, t4, c, .inl h⟩
theorem cw_guard {M : Model} {A : Around} {x y z u} {f : Addr} {Q : Value → Shared → Prop} {E : Value → Shared → Prop} {s : Shared} (_hl : Nat.ble f 400 = true) (h : wpAny M A (callWith x (Value.ref f) y z u) Q E s) : wpAny M A (callWith x (Value.ref f) y z u) Q E s := h
end Mine

namespace Mine
section
variable {w : World} {A : Around} {E : Value → Shared → Prop} {st : Shared} {h₀ : Heap} {L : Addr} {news : Led} {prog : Program}
theorem eqS2 {D D' : Addr} {a b c d : Str} {ta tb tc td : Tok} {k k' : Nat} {r : Bool} {Q : Value → Shared → Prop} (N : News h₀ L st.heap news)
    (m1 : (D, ({ cls := .type "list", data := .seq #[.str a ta, .str b tb] k } : Obj)) ∈ news) (m2 : (D', ({ cls := .type "list", data := .seq #[.str c tc, .str d td] k' } : Obj)) ∈ news) (hu : A.units + 64 < cLine)
    (hs : ((PyData.strOk a && PyData.strOk b) && (PyData.strOk c && PyData.strOk d)) = true) (hr : ((a == c) && (b == d)) = r) (h : Q (.bool r) st) : wpAny (model prog w) A (compareOp .Eq (.ref D) (.ref D')) Q E st := by
  simp only [Bool.and_eq_true] at hs
  refine eq_dataH (reads_list_at (N _ m1).1 rfl rfl (.cons (.str _ _) (.cons (.str _ _) .nil))) (reads_list_at (N _ m2).1 rfl rfl (.cons (.str _ _) (.cons (.str _ _) .nil))) ?_ ?_ hu ?_
  · simp [PySem.SeqAt.shaped, PyData.canLay0, PyData.canLayAll0, PyData.depth, PyData.depthAll, hs]
  · simp [PySem.SeqAt.shaped, PyData.canLay0, PyData.canLayAll0, PyData.depth, PyData.depthAll, hs]
  · simp only [PyData.eqv, PyData.eqvAll, Bool.and_true]
    rw [hr]; exact h
theorem eqB5 {D D' : Addr} {a1 a2 a3 a4 a5 b1 b2 b3 b4 b5 : Bool} {k k' : Nat} {r : Bool} {Q : Value → Shared → Prop} (N : News h₀ L st.heap news)
    (m1 : (D, ({ cls := .type "list", data := .seq #[.bool a1, .bool a2, .bool a3, .bool a4, .bool a5] k } : Obj)) ∈ news) (m2 : (D', ({ cls := .type "list", data := .seq #[.bool b1, .bool b2, .bool b3, .bool b4, .bool b5] k' } : Obj)) ∈ news) (hu : A.units + 64 < cLine)
    (hr : (a1 == b1 && (a2 == b2 && (a3 == b3 && (a4 == b4 && a5 == b5)))) = r) (h : Q (.bool r) st) : wpAny (model prog w) A (compareOp .Eq (.ref D) (.ref D')) Q E st := by
  refine eq_dataH (reads_list_at (N _ m1).1 rfl rfl (.cons (.bool _) (.cons (.bool _) (.cons (.bool _) (.cons (.bool _) (.cons (.bool _) .nil)))))) (reads_list_at (N _ m2).1 rfl rfl (.cons (.bool _) (.cons (.bool _) (.cons (.bool _) (.cons (.bool _) (.cons (.bool _) .nil)))))) ?_ ?_ hu ?_
  · simp [PySem.SeqAt.shaped, PyData.canLay0, PyData.canLayAll0, PyData.depth, PyData.depthAll]
  · simp [PySem.SeqAt.shaped, PyData.canLay0, PyData.canLayAll0, PyData.depth, PyData.depthAll]
  · simp only [PyData.eqv, PyData.eqvAll, Bool.and_true]
    rw [hr]; exact h
end
end Mine
namespace Mine
theorem TupA.back {K : Frag} {news need : Led} {a : Addr} {s m e b : Int} (hc : ∀ p ∈ need, p ∈ news ∨ p.2.cls ≠ .type "tuple") (T : TupA K need a s m e b) : TupA K news a s m e b := by
  obtain ⟨t1, t2, t3, t4, c, hk | hk⟩ := T
  · exact ⟨t1, t2, t3, t4, c, .inl hk⟩
  · rcases hc _ hk with h | h
    · exact ⟨t1, t2, t3, t4, c, .inr h⟩
    · exact absurd rfl h
end Mine

namespace Mine
/-- what a table of made code holds: nothing, or the one code object made at this place -/
def TabOk (q : Str) (ln co : Nat) (news : Led) (ps : Array Value) : Prop :=
  ps = #[] ∨ ∃ (c' : Addr) (oc : Obj) (vs : Array Value) (t : Tok), ps = #[rawInt ln, rawInt co, .ref c'] ∧ (c', oc) ∈ news ∧ oc.data = .fields vs ∧ vs[1]? = some (.str q t)
theorem TabOk.nil {q : Str} {ln co : Nat} {news : Led} : TabOk q ln co news #[] := .inl rfl
theorem TabOk.mono {q : Str} {ln co : Nat} {news news' : Led} {ps : Array Value} (h : TabOk q ln co news ps) (hs : ∀ p ∈ news, p ∈ news') : TabOk q ln co news' ps := by
  rcases h with h | ⟨c', oc, vs, t, h, hm, r⟩
  · exact .inl h
  · exact .inr ⟨c', oc, vs, t, h, hs _ hm, r⟩
theorem TabOk.one {q : Str} {ln co : Nat} {news : Led} {c' : Addr} {oc : Obj} {vs : Array Value} {t : Tok} (hm : (c', oc) ∈ news) (h1 : oc.data = .fields vs) (h2 : vs[1]? = some (.str q t)) : TabOk q ln co news (#[rawInt ln, rawInt co, .ref c']) :=
  .inr ⟨c', oc, vs, t, rfl, hm, h1, h2⟩
section
variable {M : Model} {A : Around} {E : Value → Shared → Prop} {s : Shared} {h₀ : Heap} {L a c P : Addr} {m mg mb : Str → Option Value} {cn : Str} {cs : Scope} {ccd : Value} {cl : List (Str × Addr)} {news : List (Addr × Obj)} {g : Obj → List (Addr × Obj)}
  {p : Program} {loose : List Str} {mean : ExcName → Option Value} {name qual : Str} {params : Arguments} {body : Expr} {scope : Scope} {ps : Array Value} {pos : Pos} {firstLine : Nat} {clos : List (Str × Addr)}
/-- a lambda is made, its code made now or found in the table -/
theorem kla_both {Q : Value → Shared → Prop} (F : Fr h₀ L s.heap m) (N : News h₀ L s.heap news) (T : Top p loose mean mg mb h₀) (C : CodeHd h₀ c P) (hcd : ccd = .ref c) (U : UpdF P (tabObj ps) news g) (ht : TabOk qual pos.line pos.col news ps)
    (hcl : closureFor scope (envX cn cs L a ccd cl) = pure clos)
    (h : ∀ f c' oc vs t ctv h' tk, Fr h₀ L h' m →
      News h₀ L h' ((f, kla_obj name qual params body scope clos ((mg "__name__").getD .none) c' ctv) :: (c', oc) :: g (tabObj #[rawInt pos.line, rawInt pos.col, .ref c'])) →
      oc.data = .fields vs → vs[1]? = some (.str qual t) → (∀ q ∈ news, q.1 < f) → c' < f → c' ≠ P → Q (.ref f) { s with heap := h', toks := tk }) :
    wpAny M A (makeFunction name qual params (.expr body) scope (envX cn cs L a ccd cl) [] [] [] pos firstLine) Q E s := by
  have U' := U
  rcases ht with rfl | ⟨c', oc, vs, t, rfl, hm, h1, h2⟩
  · refine kla_nest F N T C hcd U trivial rfl hcl fun f c' oc vs t ctv h' tk F' N' d1 d2 l1 l2 => ?_
    obtain ⟨own, rest, rfl, hgr, -, -⟩ := U'.split
    exact h f c' oc vs t ctv h' tk F' N' d1 d2 (fun q hq => Nat.lt_trans (l1 q hq) l2) l2 (Nat.ne_of_gt (l1 _ (List.mem_append_right _ (.head _))))
  · obtain ⟨own, rest, rfl, hgr, hg1, hg2⟩ := U'.split
    have hne : c' ≠ P := fun q => by
      have x1 := (N _ hm).1
      have x2 := (N (P, _) (List.mem_append_right _ (.head _))).1
      dsimp only at x1 x2
      rw [q, x2] at x1
      have x3 := Option.some.inj x1
      rw [← x3] at h1
      have h1' : (tabObj #[rawInt pos.line, rawInt pos.col, Value.ref c']).data = Data.fields vs := h1
      have h3 : #[rawInt pos.line, rawInt pos.col, Value.ref c'] = vs := by
        have : Data.fields #[rawInt pos.line, rawInt pos.col, Value.ref c'] = Data.fields vs := h1'
        exact Data.fields.inj this
      rw [← h3] at h2
      cases h2
    refine kla_hit (c' := c') F N T C hcd (List.mem_append_right _ (.head _)) (by simp [TriplesOk, rawInt]) (by simp [codeAmong, rawInt]) hcl fun f ctv h' tk F' N' l1 => ?_
    refine h f c' oc vs t ctv h' tk F' (fun p hp => ?_) h1 h2 l1 (l1 _ hm) hne
    rcases List.mem_cons.mp hp with rfl | hp
    · exact N' _ (.head _)
    · rcases List.mem_cons.mp hp with rfl | hp
      · exact N' _ (.tail _ hm)
      · refine N' _ (.tail _ ?_)
        rw [hgr] at hp
        exact hp
end
end Mine
namespace Mine
/-- a law's value is made: the new tuple, if it is new, goes behind what stands ahead -/
abbrev RXg (w : World) (pre rest : Led) (x : LX) (h₀ : Heap) (L : Addr) (mm : Str → Option Value) (st : Shared) (Q : Value → Shared → Prop) : Prop :=
  ∀ a rest' h' tk', (∀ p ∈ rest, p ∈ rest') → (∀ c o, (c, o) ∈ pre → (∀ p ∈ rest, p.1 ≠ c) → ∀ p ∈ rest', p.1 ≠ c) → TupX w rest' a x → Fr h₀ L h' mm → News h₀ L h' (pre ++ rest') → Q (.ref a) { st with heap := h', toks := tk' }
theorem TupA.strips {K : Frag} {pre r : Led} {a : Addr} {s m e b : Int} (hn : ∀ p ∈ pre, ∀ vs c, p.2.data ≠ .seq vs c) (T : TupA K (pre ++ r) a s m e b) : TupA K r a s m e b := by
  obtain ⟨t1, t2, t3, t4, c, hk | hk⟩ := T
  · exact ⟨t1, t2, t3, t4, c, .inl hk⟩
  · rcases List.mem_append.mp hk with hk | hk
    · exact absurd rfl (hn _ hk _ _)
    · exact ⟨t1, t2, t3, t4, c, .inr hk⟩
theorem made_gen {w : World} {pre rest : Led} {v : Value} {x : LX} (C : Ctr w 6 223 (pre ++ rest) [v] (RX w (pre ++ rest) x)) (hn : ∀ p ∈ pre, ∀ vs c, p.2.data ≠ .seq vs c) : Ctr w 6 223 (pre ++ rest) [v] (RXg w pre rest x) :=
  fun p loose mean mg mb dp un gd cn cs ca ccd cl outer A₀ base h₀ L mm st Q E B F X N T hk h1 h2 hr => by
    refine C p loose mean mg mb dp un gd cn cs ca ccd cl outer A₀ base h₀ L mm st Q E B F X N T hk h1 h2 ⟨fun _ a h' tk' hT F' N' => ?_, fun _ D o h' tk' hT l F' N' => ?_⟩
    · exact hr a rest h' tk' (fun _ h => h) (fun _ _ _ h => h) (hT.strips hn) F' N'
    · refine hr D ((D, o) :: rest) h' tk' (fun _ h => .tail _ h) (fun c oc hc h p hp => ?_) ?_ F' (fun p hp => ?_)
      · rcases List.mem_cons.mp hp with rfl | hp
        · exact Nat.ne_of_gt (l _ (List.mem_append_left _ hc))
        · exact h p hp
      · obtain ⟨t1, t2, t3, t4, c, hk | hk⟩ := hT
        · exact ⟨t1, t2, t3, t4, c, .inl hk⟩
        · rcases List.mem_cons.mp hk with e | hk
          · exact ⟨t1, t2, t3, t4, c, .inr (e ▸ .head _)⟩
          · rcases List.mem_append.mp hk with hk | hk
            · exact absurd rfl (hn _ hk _ _)
            · exact ⟨t1, t2, t3, t4, c, .inr (.tail _ hk)⟩
      · rcases List.mem_append.mp hp with hp | hp
        · exact N' _ (.tail _ (List.mem_append_left _ hp))
        · rcases List.mem_cons.mp hp with rfl | hp
          · exact N' _ (.head _)
          · exact N' _ (.tail _ (List.mem_append_right _ hp))
section
variable {x y : LX}
theorem sum_spec (h : x.spec = true ∨ y.spec = true) : (sumL x y).spec = true := by
  rcases x with _ | _ | _ | n <;> rcases y with _ | _ | _ | n' <;> first | rfl | (simp [LX.spec] at h)
theorem sumneg_spec (h : x.spec = true ∨ y.spec = true) : (sumL x (negL y)).spec = true := sum_spec (h.imp_right fun q => neg_spec.trans q)
theorem inf_spec {s : Int} : (infL s).spec = true := by unfold infL; split <;> rfl
theorem prod_spec : (prodL x y).spec = true := by unfold prodL; split; rfl; exact inf_spec
theorem quot_old : (quotL x y).old := by
  unfold quotL
  split
  · exact trivial
  · split
    · exact spec_old inf_spec
    · exact rfl
theorem quot_small : (quotL x y).small := by
  unfold quotL
  split
  · exact trivial
  · split
    · exact spec_small inf_spec
    · exact ⟨by decide, by decide⟩
theorem neg_tiny (h : y.tiny) : (negL y).tiny := by
  rcases y with _ | _ | _ | n <;> first | exact trivial | (have h' : -20 ≤ n ∧ n ≤ 20 := h; show -20 ≤ -n ∧ -n ≤ 20; omega)
theorem ord_eqL : decide (ordL x y = 0) = (if x.isNan = true ∨ y.isNan = true then decide (ordL x y = 0) else eqL x y) := by
  rcases x with _ | _ | _ | n <;> rcases y with _ | _ | _ | n' <;> simp [ordL, eqL, LX.isNan, LX.wide, LX.side, sgnI] <;> (repeat' split) <;> simp_all <;> omega
theorem eqM_ord (hx : x.isNan = false) (hy : y.isNan = false) : eqM x y = decide (ordL x y = 0) := by
  rw [ord_eqL]; unfold eqM; simp [hx, hy]
theorem told_nan {P1 P2 P3 P4 : Prop} [Decidable P1] [Decidable P2] [Decidable P3] [Decidable P4] (h : x.isNan = true ∨ y.isNan = true) :
    ((if x.isNan = true ∨ y.isNan = true then false else decide P1) == false && ((if x.isNan = true ∨ y.isNan = true then false else decide P2) == false && ((eqM x y) == false && ((if x.isNan = true ∨ y.isNan = true then false else decide P3) == false && (if x.isNan = true ∨ y.isNan = true then false else decide P4) == false)))) = true := by
  unfold eqM
  simp only [if_pos h]; rfl
theorem told_ord (hx : x.isNan = false) (hy : y.isNan = false) :
    ((if x.isNan = true ∨ y.isNan = true then false else decide (ordL x y < 0)) == decide (ordL x y < 0) && ((if x.isNan = true ∨ y.isNan = true then false else decide (ordL x y ≤ 0)) == decide (ordL x y ≤ 0) && ((eqM x y) == decide (ordL x y = 0) && ((if x.isNan = true ∨ y.isNan = true then false else decide (ordL x y ≥ 0)) == decide (ordL x y ≥ 0) && (if x.isNan = true ∨ y.isNan = true then false else decide (ordL x y > 0)) == decide (ordL x y > 0))))) = true := by
  rw [eqM_ord hx hy]
  simp [hx, hy]
end
end Mine
namespace Mine
section
variable {w : World} {A : Around} {E : Value → Shared → Prop} {s : Shared} {h₀ : Heap} {L : Addr} {m : Str → Option Value} {news : Led} {prog : Program}
theorem mulF5 {l : Addr} {u : Tok} {Q : Value → Shared → Prop} (F : Fr h₀ L s.heap m) (N : News h₀ L s.heap news) (hl : (l, ({ cls := .type "list", data := .seq #[.bool false] 0 } : Obj)) ∈ news)
    (h : ∀ D h', Fr h₀ L h' m → News h₀ L h' ((D, ({ cls := .type "list", data := .seq #[.bool false, .bool false, .bool false, .bool false, .bool false] 0 } : Obj)) :: news) → (∀ p ∈ news, p.1 < D) → Q (.ref D) { s with heap := h' }) :
    wpAny (model prog w) A (binaryOp .Mult (.ref l) (.int 5 u)) Q E s :=
  mul_list F N (N _ hl).1 (by decide) (by decide) (by decide) fun h' F' N' => h _ h' F' N' fun p hp => Heap.lt_size (N p hp).1
end
end Mine
namespace Mine
theorem sub_trans {a b c : Led} (h1 : ∀ p ∈ a, p ∈ b) (h2 : ∀ p ∈ b, p ∈ c) : ∀ p ∈ a, p ∈ c := fun p hp => h2 p (h1 p hp)
theorem news_two {h₀ h : Heap} {L : Addr} {pre rest : Led} {x y : Addr × Obj} (N : News h₀ L h pre) (hx : x ∈ pre) (hy : y ∈ pre) (hr : ∀ p ∈ rest, p ∈ pre) : News h₀ L h (x :: y :: rest) := fun p hp => by
  rcases List.mem_cons.mp hp with rfl | hp
  · exact N _ hx
  · rcases List.mem_cons.mp hp with rfl | hp
    · exact N _ hy
    · exact N _ (hr _ hp)
theorem ne_cons {c P : Addr} {o : Obj} {rest : Led} (h : c ≠ P) (hr : ∀ p ∈ rest, p.1 ≠ P) : ∀ p ∈ (c, o) :: rest, p.1 ≠ P := fun p hp => by
  rcases List.mem_cons.mp hp with rfl | hp
  · exact h
  · exact hr _ hp
end Mine
namespace Mine
theorem spec_tiny {x : LX} (h : x.spec = true) : x.tiny := by cases x <;> first | exact trivial | cases h
theorem nz_f {s m e b : Int} (he : e ≠ 0) : e4 s m e b 0 0 0 0 = false := decide_eq_false (by omega)
end Mine
namespace Mine
theorem tx_zero {K : Frag} {r : Led} {a : Addr} (T : TupA K r a (mS (.num 0)) (mM (.num 0)) (mE (.num 0)) (mB (.num 0))) : TupA K r a 0 0 0 0 := by
  have h1 : mS (.num 0) = 0 := q_zero.1
  have h2 : mM (.num 0) = 0 := q_zero.2.1
  have h3 : mE (.num 0) = 0 := q_zero.2.2.1 _
  have h4 : mB (.num 0) = 0 := q_zero.2.2.2
  rw [h1, h2, h3, h4] at T
  exact T
end Mine
namespace Mine
theorem tx_sp {K : Frag} {r : Led} {a : Addr} {x : LX} (h : mM x = 0) (T : TupA K r a (mS x) (mM x) (mE x) (mB x)) : TupA K r a (mS x) 0 (mE x) (mB x) := by
  rw [h] at T
  exact T
end Mine
namespace Mine
theorem pair_end {q : Str} {ln co : Nat} {h₀ h : Heap} {L c' : Addr} {oc : Obj} {vs : Array Value} {t : Tok} {pre rest : Led} {P : Addr} {Z : Led → Prop} (d1 : oc.data = .fields vs) (d2 : vs[1]? = some (.str q t)) (hne : c' ≠ P) (N : News h₀ L h pre) (m1 : (P, tabObj #[rawInt ln, rawInt co, .ref c']) ∈ pre) (m2 : (c', oc) ∈ pre)
    (hs : ∀ p ∈ rest, p ∈ pre) (hr : ∀ p ∈ rest, p.1 ≠ P)
    (k : ∀ news', (∃ ps' rest', news' = (P, tabObj ps') :: rest' ∧ TabOk q ln co rest' ps' ∧ (∀ p ∈ rest, p ∈ rest') ∧ ∀ p ∈ rest', p.1 ≠ P) → News h₀ L h news' → Z news') : ∃ news', Z news' :=
  ⟨_, k _ ⟨_, _, rfl, TabOk.one (.head _) d1 d2, fun _ h => .tail _ h, ne_cons hne hr⟩ (news_two N m1 m2 hs)⟩
theorem pair_end' {q : Str} {ln co : Nat} {h₀ h : Heap} {L c' : Addr} {oc : Obj} {vs : Array Value} {t : Tok} {pre rest : Led} {P : Addr} {Z : Prop} (d1 : oc.data = .fields vs) (d2 : vs[1]? = some (.str q t)) (hne : c' ≠ P) (N : News h₀ L h pre) (m1 : (P, tabObj #[rawInt ln, rawInt co, .ref c']) ∈ pre) (m2 : (c', oc) ∈ pre)
    (hs : ∀ p ∈ rest, p ∈ pre) (hr : ∀ p ∈ rest, p.1 ≠ P)
    (k : ∀ news', (∃ ps' rest', news' = (P, tabObj ps') :: rest' ∧ TabOk q ln co rest' ps' ∧ (∀ p ∈ rest, p ∈ rest') ∧ ∀ p ∈ rest', p.1 ≠ P) → News h₀ L h news' → Z) : Z :=
  k _ ⟨_, _, rfl, TabOk.one (.head _) d1 d2, fun _ h => .tail _ h, ne_cons hne hr⟩ (news_two N m1 m2 hs)
end Mine

namespace Mine
def UseJ (_ : Nat → (Str → Option Value) → Prop) : Prop := True
theorem useJ (J : Nat → (Str → Option Value) → Prop) : UseJ J := trivial
section
variable {prog : Program} {w : World} {A : Around} {E : Value → Shared → Prop} {s : Shared} {env : Env} {h₀ : Heap} {x : Str} {body : List Stmt} {Q : Flow → Shared → Prop}
theorem iter_U {l L : Addr} {vs : List Value} {k : Nat} {m₀ : Str → Option Value} {news : Led} {J : Nat → (Str → Option Value) → Prop} (_ : UseJ J) (hL : env.locals = L)
    (hh : A.handled = none) (hl : (l, listOf vs.toArray k) ∈ news) (F : Fr h₀ L s.heap m₀) (N : News h₀ L s.heap news) (hj : J 0 m₀)
    (turn : ∀ i v m₁ h tk need, vs[i]? = some v → J i m₁ → Fr h₀ L h (fun y => if y = x then some v else m₁ y) → (∀ p ∈ news, p ∈ need) → (∀ p ∈ need, p ∈ news ∨ p.2.cls ≠ .type "tuple") → News h₀ L h need →
      wpAny (model prog w) A (execs body env) (TurnEnd h₀ L (J (i + 1)) need { s with heap := h, toks := tk } Q) E { s with heap := h, toks := tk })
    (done : ∀ m₁ h tk, J vs.length m₁ → Fr h₀ L h m₁ → News h₀ L h news → Q .next { s with heap := h, toks := tk }) :
    wpAny (model prog w) A (pyIter (.ref l)) (fun it s₂ => LoopAtV prog w A h₀ env x body Q E it s₂) E s := by
  subst hL
  exact iter_L J hh hl F N hj turn done
end
theorem front {lk P : List (Str × Value)} (h : ∀ p ∈ P, lk.lookup p.1 = some p.2) : (fun y => lk.lookup y) = fun y => (P ++ lk).lookup y := by
  induction P with
  | nil => rfl
  | cons q P ih =>
    have ih' := ih fun p hp => h p (.tail _ hp)
    have h0 : (P ++ lk).lookup q.1 = some q.2 := by
      have := h q (.head _)
      have e := congrFun ih' q.1
      exact e.symm.trans this
    exact ih'.trans (lk_twice h0)
theorem pick_one {a : Value} {r : List Value} : kms_pick (a :: r) (some 1) none = r := by
  have h1 : kms_lo (some 1) (a :: r).length = 1 := by
    show (if (1 : Int) < 0 then (a :: r).length - (-1 : Int).toNat else min (1 : Int).toNat (r.length + 1)) = 1
    rw [if_neg (by decide)]
    show min 1 (r.length + 1) = 1
    omega
  have h2 : kms_hi none (a :: r).length = r.length + 1 := rfl
  unfold kms_pick
  rw [h1, h2]
  simp
section
variable {x lo hi : LX}
theorem lo_y (h : ordL x lo < 0) : loStep lo x = x := if_pos h
theorem lo_n (h : ¬ ordL x lo < 0) : loStep lo x = lo := if_neg h
theorem hi_y (h : ordL x hi > 0) : hiStep hi x = x := if_pos h
theorem hi_n (h : ¬ ordL x hi > 0) : hiStep hi x = hi := if_neg h
end
abbrev RMM (w : World) (news : Led) (lo hi : LX) (h₀ : Heap) (L : Addr) (mm : Str → Option Value) (st : Shared) (Q : Value → Shared → Prop) : Prop :=
  ∀ D a b h' tk', TupX w news a lo → TupX w news b hi → (∀ p ∈ news, p.1 < D) → Fr h₀ L h' mm → News h₀ L h' ((D, ({ cls := .type "tuple", data := .seq #[.ref a, .ref b] } : Obj)) :: news) → Q (.ref D) { st with heap := h', toks := tk' }
/-- what stands between two turns of the loop of mpf_min_max -/
def JMM (w : World) (news : Led) (x0 : LX) (xs : List LX) (i : Nat) (m : Str → Option Value) : Prop :=
  ∃ lk a b, m = (fun y => lk.lookup y) ∧ (∀ p ∈ [(Str.ofString "min", Value.ref a), (Str.ofString "max", Value.ref b)], List.lookup p.1 lk = some p.2) ∧ TupX w news a (loL x0 (xs.take i)) ∧ TupX w news b (hiL x0 (xs.take i))
theorem JMM.intro {w : World} {news : Led} {x0 : LX} {xs : List LX} {i : Nat} {lk : List (Str × Value)} {a b : Addr} (h1 : lk.lookup (Str.ofString "min") = some (.ref a)) (h2 : lk.lookup (Str.ofString "max") = some (.ref b)) (T1 : TupX w news a (loL x0 (xs.take i))) (T2 : TupX w news b (hiL x0 (xs.take i))) : JMM w news x0 xs i (fun y => lk.lookup y) :=
  ⟨lk, a, b, rfl, by simp only [List.forall_mem_cons]; exact ⟨h1, h2, fun _ h => nomatch h⟩, T1, T2⟩
theorem lo_take {x0 : LX} {xs : List LX} {i : Nat} {x : LX} (h : xs[i]? = some x) : loL x0 (xs.take (i + 1)) = loStep (loL x0 (xs.take i)) x := take_fold _ _ h
theorem hi_take {x0 : LX} {xs : List LX} {i : Nat} {x : LX} (h : xs[i]? = some x) : hiL x0 (xs.take (i + 1)) = hiStep (hiL x0 (xs.take i)) x := take_fold _ _ h
theorem lo_ok {x0 : LX} {xs : List LX} (h : ∀ x ∈ x0 :: xs, x.tiny ∧ x.isNan = false) (i : Nat) : (loL x0 (xs.take i)).tiny ∧ (loL x0 (xs.take i)).isNan = false :=
  fold_all (P := fun x => x.tiny ∧ x.isNan = false) (fun _ _ p q => ⟨loStep_tiny p.1 q.1, loStep_nn p.2 q.2⟩) _ _ (h _ (.head _)) fun x hx => h x (.tail _ (List.mem_of_mem_take hx))
theorem hi_ok {x0 : LX} {xs : List LX} (h : ∀ x ∈ x0 :: xs, x.tiny ∧ x.isNan = false) (i : Nat) : (hiL x0 (xs.take i)).tiny ∧ (hiL x0 (xs.take i)).isNan = false :=
  fold_all (P := fun x => x.tiny ∧ x.isNan = false) (fun _ _ p q => ⟨hiStep_tiny p.1 q.1, hiStep_nn p.2 q.2⟩) _ _ (h _ (.head _)) fun x hx => h x (.tail _ (List.mem_of_mem_take hx))
end Mine
namespace Mine
theorem TXs.tail {w : World} {news : Led} {v0 : Value} {vs : List Value} {x0 : LX} {xs : List LX} (h : TXs w news (v0 :: vs) (x0 :: xs)) : TXs w news vs xs :=
  ⟨Nat.succ.inj h.1, fun i v hv => h.2 (i + 1) v hv⟩
end Mine
namespace Mine
theorem news_hd {h₀ h : Heap} {L : Addr} {x y : Addr × Obj} {r : Led} (N : News h₀ L h (x :: y :: r)) : News h₀ L h (x :: r) := fun p hp => by
  rcases List.mem_cons.mp hp with rfl | hp
  · exact N _ (.head _)
  · exact N _ (.tail _ (.tail _ hp))
theorem lt_of2 {A : Prop} {D : Addr} {r : Led} (h : A ∧ AllLt D r) : ∀ p ∈ r, p.1 < D := ktn_ltOf h.2
end Mine

namespace Mine
/-- the names that mpf_sum's loop reads and stores -/
def sumNames (man ex : Int) (sp : Value) (kk : Bool) (r : Str) (t1 t2 t3 t4 t5 : Tok) : List (Str × Value) :=
  [(Str.ofString "man", .int man t1), (Str.ofString "exp", .int ex t2), (Str.ofString "special", sp), (Str.ofString "max_extra_prec", .int 1000000 t3), (Str.ofString "absolute", .bool kk), (Str.ofString "prec", .int 0 t4), (Str.ofString "rnd", .str r t5)]
/-- what the name special holds -/
def SpOk (w : World) (news : Led) (kk : Bool) (xs : List LX) (i : Nat) (sp : Value) : Prop :=
  (sp = .none ∧ totL kk (xs.take i) = .num (finS kk (xs.take i))) ∨ ∃ a, sp = .ref a ∧ TupX w news a (totL kk (xs.take i)) ∧ (totL kk (xs.take i)).spec = true
/-- what stands between two turns of the loop of mpf_sum -/
def JS (w : World) (news : Led) (kk : Bool) (xs : List LX) (r : Str) (i : Nat) (m : Str → Option Value) : Prop :=
  ∃ lk man ex d sp t1 t2 t3 t4 t5, m = (fun y => List.lookup y lk) ∧ (∀ p ∈ sumNames man ex sp kk r t1 t2 t3 t4 t5, List.lookup p.1 lk = some p.2) ∧ d ≤ 2 ∧ ex = ((d : Nat) : Int) - 2 ∧ man * 2 ^ d = finS kk (xs.take i) ∧
    SpOk w news kk xs i sp
theorem JS.intro {w : World} {news : Led} {kk : Bool} {xs : List LX} {r : Str} {i : Nat} {lk : List (Str × Value)} {man ex : Int} {d : Nat} {sp : Value} {t1 t2 t3 t4 t5 : Tok}
    (h1 : lk.lookup (Str.ofString "man") = some (.int man t1)) (h2 : lk.lookup (Str.ofString "exp") = some (.int ex t2)) (h3 : lk.lookup (Str.ofString "special") = some sp) (h4 : lk.lookup (Str.ofString "max_extra_prec") = some (.int 1000000 t3)) (h5 : lk.lookup (Str.ofString "absolute") = some (.bool kk)) (h6 : lk.lookup (Str.ofString "prec") = some (.int 0 t4)) (h7 : lk.lookup (Str.ofString "rnd") = some (.str r t5))
    (hd : d ≤ 2) (he : ex = (d : Int) - 2) (hm : man * 2 ^ d = finS kk (xs.take i))
    (hs : SpOk w news kk xs i sp) : JS w news kk xs r i (fun y => lk.lookup y) :=
  ⟨lk, man, ex, d, sp, t1, t2, t3, t4, t5, rfl, by unfold sumNames; simp only [List.forall_mem_cons]; exact ⟨h1, h2, h3, h4, h5, h6, h7, fun _ h => nomatch h⟩, hd, he, hm, hs⟩
end Mine
namespace Mine
theorem TupA.at {K : Frag} {news : Led} {a L : Addr} {s m e b : Int} {h₀ h : Heap} {mm : Str → Option Value}
    (T : TupA K news a s m e b) (F : Fr h₀ L h mm) (X : K.In h₀) (N : News h₀ L h news) :
    ∃ t1 t2 t3 t4 c, h.get? a = some (tup4 s m e b t1 t2 t3 t4 c) := by
  obtain ⟨t1, t2, t3, t4, c, hk | hk⟩ := T
  · exact ⟨t1, t2, t3, t4, c, F.keep _ _ (X _ _ hk)⟩
  · exact ⟨t1, t2, t3, t4, c, (N _ hk).1⟩
section
variable {w : World} {A : Around} {E : Value → Shared → Prop} {st : Shared} {h₀ : Heap} {L : Addr} {mm : Str → Option Value} {news : Led} {K : Frag} {prog : Program}
theorem truthy4 {a : Addr} {s m e b : Int} {Q : Bool → Shared → Prop} (F : Fr h₀ L st.heap mm) (N : News h₀ L st.heap news) (X : K.In h₀) (T : TupA K news a s m e b) (h : Q true { st with toks := st.toks + 1 + 1 }) :
    wpAny (model prog w) A (truthy (.ref a)) Q E st := by
  obtain ⟨t1, t2, t3, t4, c, hg⟩ := T.at F X N
  exact ktl_truthy (items := #[.int s t1, .int m t2, .int e t3, .int b t4]) hg (by simp) h
end
theorem tup_zero {K : Frag} {news : Led} {a : Addr} {t1 t2 t3 t4 : Tok} {c : Nat} (_hl : Nat.ble a 400 = true) (h : K.lookup a = some (tup4 0 0 0 0 t1 t2 t3 t4 c)) : TupA K news a (mS (.num 0)) (mM (.num 0)) (mE (.num 0)) (mB (.num 0)) := by
  have h1 : mS (.num 0) = 0 := q_zero.1
  have h2 : mM (.num 0) = 0 := q_zero.2.1
  have h3 : mE (.num 0) = 0 := q_zero.2.2.1 _
  have h4 : mB (.num 0) = 0 := q_zero.2.2.2
  rw [h1, h2, h3, h4]
  exact TupA.top h
end Mine
namespace Mine
section
variable {w : World} {news need : Led} {kk : Bool} {xs : List LX} {i : Nat} {sp : Value} {x y : LX} {a : Addr} {F : Int}
theorem js_a (hx : xs[i]? = some x) (hc : totL kk (xs.take i) = .num F) (hb : ∀ p ∈ need, p ∈ news ∨ p.2.cls ≠ .type "tuple") (hy : ownL kk x = y) (hys : y.spec = true) (T : TupX w need a (sumL (.num 0) y)) : SpOk w news kk xs (i + 1) (.ref a) := by
  have e : totL kk (xs.take (i + 1)) = sumL (.num 0) y := by rw [tot_take hx, hc, hy, sum_numF hys (G := 0)]
  unfold SpOk
  rw [e]
  exact .inr ⟨a, rfl, TupA.back hb T, sum_spec (.inr hys)⟩
theorem js_b (hx : xs[i]? = some x) (hc : (totL kk (xs.take i)).spec = true) (hb : ∀ p ∈ need, p ∈ news ∨ p.2.cls ≠ .type "tuple") (hy : ownL kk x = y) (T : TupX w need a (sumL (totL kk (xs.take i)) y)) : SpOk w news kk xs (i + 1) (.ref a) := by
  have e : totL kk (xs.take (i + 1)) = sumL (totL kk (xs.take i)) y := by rw [tot_take hx, hy]
  unfold SpOk
  rw [e]
  exact .inr ⟨a, rfl, TupA.back hb T, sum_spec (.inl hc)⟩
theorem spec_num {z : LX} {m : Int} (h : z.spec = true) : sumL z (.num m) = z := by cases z <;> first | rfl | cases h
theorem js_num {n : Int} (hx : xs[i]? = some (.num n)) (hc : SpOk w news kk xs i sp) : SpOk w news kk xs (i + 1) sp := by
  obtain ⟨m, hm⟩ := own_isnum (k := kk) (n := n)
  have hf : finL (ownL kk (.num n)) = m := by rw [hm]; rfl
  unfold SpOk
  rw [tot_take hx, fin_take hx, hf, hm]
  rcases hc with ⟨rfl, hc⟩ | ⟨a, rfl, T, hc⟩
  · left
    rw [hc]; exact ⟨rfl, rfl⟩
  · right
    rw [spec_num hc]
    exact ⟨a, rfl, T, hc⟩
end
theorem xm_val {n m s : Int} {e : Nat} {kk : Bool} (hs : s = qS n) (hm : m * 2 ^ e = aI n) : (s ≠ 0 → kk = false → -m * 2 ^ e = finL (ownL kk (.num n))) ∧ (s = 0 ∨ kk = true → m * 2 ^ e = finL (ownL kk (.num n))) := by
  have hs' : s = if n < 0 then 1 else 0 := hs
  have ha : aI n = if n < 0 then -n else n := rfl
  rw [own_num]
  constructor
  · rintro h rfl
    have hn : n < 0 := by
      by_cases q : n < 0
      · exact q
      · rw [if_neg q] at hs'; exact absurd hs' h
    rw [Int.neg_mul, hm, ha, if_pos hn, if_neg (by decide)]
    omega
  · rintro h
    rw [hm]
    rcases h with h | h
    · have hn : ¬ n < 0 := by
        intro q; rw [if_pos q] at hs'; omega
      rw [ha, if_neg hn]
      split <;> rfl
    · rw [if_pos h]
end Mine
namespace Mine
theorem ar_up {man xm ex x F G : Int} {d e : Nat} (hx : x = (e : Int) - 2) (he : ex = (d : Int) - 2) (hle : ex ≤ x) (hm : man * 2 ^ d = F) (hx' : xm * 2 ^ e = G) : (man + xm * 2 ^ (x - ex).toNat) * 2 ^ d = F + G := by
  have q : (x - ex).toNat = e - d := by omega
  rw [q, sum_up (by omega), hm, hx']
theorem ar_dn {man xm ex x F G : Int} {d e : Nat} (hx : x = (e : Int) - 2) (he : ex = (d : Int) - 2) (hle : ¬ ex ≤ x) (hm : man * 2 ^ d = F) (hx' : xm * 2 ^ e = G) : (man * 2 ^ (-(x - ex)).toNat + xm) * 2 ^ e = F + G := by
  have q : (-(x - ex)).toNat = d - e := by omega
  rw [q, sum_dn (by omega), hm, hx']
end Mine
namespace Mine
/-- as RT; what stood already stands in the top -/
abbrev RT0 (w : World) (news : Led) (old : Prop) (s m e b : Int) (h₀ : Heap) (L : Addr) (mm : Str → Option Value) (st : Shared) (Q : Value → Shared → Prop) : Prop :=
  (old → ∀ a h' tk', TupA (hd.heap_39 w.params) [] a s m e b → Fr h₀ L h' mm → News h₀ L h' news → Q (.ref a) { st with heap := h', toks := tk' }) ∧
  (¬ old → ∀ D o h' tk', TupA (hd.heap_39 w.params) ((D, o) :: news) D s m e b → (∀ p ∈ news, p.1 < D) → Fr h₀ L h' mm → News h₀ L h' ((D, o) :: news) → Q (.ref D) { st with heap := h', toks := tk' })
theorem RT0.old {w : World} {news : Led} {old : Prop} {s m e b s' m' e' b' : Int} {h₀ h' : Heap} {L a : Addr} {mm : Str → Option Value} {st : Shared} {Q : Value → Shared → Prop} {tk' : Nat}
    (hret : RT0 w news old s m e b h₀ L mm st Q) (T : TupA (hd.heap_39 w.params) [] a s' m' e' b') (F : Fr h₀ L h' mm) (N : News h₀ L h' news) (ho : old) (h1 : s' = s ∧ m' = m ∧ e' = e ∧ b' = b) : Q (.ref a) { st with heap := h', toks := tk' } := by
  obtain ⟨rfl, rfl, rfl, rfl⟩ := h1
  exact hret.1 ho a h' tk' T F N
theorem TupA.nil {K : Frag} {news : Led} {a : Addr} {s m e b : Int} (T : TupA K [] a s m e b) : TupA K news a s m e b := TupA.sub T fun _ h => nomatch h
theorem RT.to0 {w : World} {news : Led} {old : Prop} {s m e b : Int} {h₀ : Heap} {L : Addr} {mm : Str → Option Value} {st : Shared} {Q : Value → Shared → Prop} (h : RT w news old s m e b h₀ L mm st Q) : RT0 w news old s m e b h₀ L mm st Q :=
  ⟨fun o a h' tk' T F N => h.1 o a h' tk' T.nil F N, h.2⟩
theorem RT0.new2 {w : World} {news : Led} {old : Prop} {s m e b s' m' e' b' : Int} {o : Obj} {h₀ h' : Heap} {L D : Addr} {mm : Str → Option Value} {st : Shared} {Q : Value → Shared → Prop} {tk' : Nat}
    (hret : RT0 w news old s m e b h₀ L mm st Q) (T : TupA (hd.heap_39 w.params) ((D, o) :: news) D s' m' e' b') (hl : ∀ p ∈ news, p.1 < D) (F : Fr h₀ L h' mm) (N : News h₀ L h' ((D, o) :: news)) (ho : ¬ old) (h1 : s' = s ∧ m' = m ∧ e' = e ∧ b' = b) : Q (.ref D) { st with heap := h', toks := tk' } := by
  obtain ⟨rfl, rfl, rfl, rfl⟩ := h1
  exact hret.2 ho D _ h' tk' T hl F N
theorem RT0.new {w : World} {news : Led} {old : Prop} {s m e b s' m' e' b' : Int} {t1 t2 t3 t4 : Tok} {h₀ h' : Heap} {L D : Addr} {mm : Str → Option Value} {st : Shared} {Q : Value → Shared → Prop} {tk' : Nat} {news' : Led}
    (hret : RT0 w news old s m e b h₀ L mm st Q) (F : Fr h₀ L h' mm) (N : News h₀ L h' news') (hm : (D, ({ cls := .type "tuple", data := .seq #[.int s' t1, .int m' t2, .int e' t3, .int b' t4] } : Obj)) ∈ news') (hs : ∀ p ∈ news, p ∈ news') (hl : ∀ p ∈ news, p.1 < D) (ho : ¬ old) (h1 : s' = s ∧ m' = m ∧ e' = e ∧ b' = b) : Q (.ref D) { st with heap := h', toks := tk' } :=
  RT.new (old := False) ⟨fun f => f.elim, fun _ => hret.2 ho⟩ F N hm hs hl not_false h1
abbrev RX0 (w : World) (news : Led) (x : LX) := RT0 w news x.old (mS x) (mM x) (mE x) (mB x)
theorem Ctr.of0 {w : World} {n : Nat} {f : Addr} {news : Led} {vs : List Value} {old : Prop} {s m e b : Int} (h : Ctr w n f news vs (RT0 w news old s m e b)) : Ctr w n f news vs (RT w news old s m e b) :=
  fun p loose mean mg mb dp un gd cn cs ca ccd cl outer A₀ base h₀ L mm st Q E B F X N T hk h1 h2 hr => h p loose mean mg mb dp un gd cn cs ca ccd cl outer A₀ base h₀ L mm st Q E B F X N T hk h1 h2 hr.to0
/-- the new tuple, if it is new, goes behind what stands ahead -/
theorem rx_gen0 {w : World} {n : Nat} {f : Addr} {pre rest : Led} {vs : List Value} {x : LX} (C : Ctr w n f (pre ++ rest) vs (RX0 w (pre ++ rest) x)) : Ctr w n f (pre ++ rest) vs (RXg w pre rest x) :=
  fun p loose mean mg mb dp un gd cn cs ca ccd cl outer A₀ base h₀ L mm st Q E B F X N T hk h1 h2 hr => by
    refine C p loose mean mg mb dp un gd cn cs ca ccd cl outer A₀ base h₀ L mm st Q E B F X N T hk h1 h2 ⟨fun _ a h' tk' hT F' N' => ?_, fun _ D o h' tk' hT l F' N' => ?_⟩
    · exact hr a rest h' tk' (fun _ h => h) (fun _ _ _ h => h) hT.nil F' N'
    · refine hr D ((D, o) :: rest) h' tk' (fun _ h => .tail _ h) (fun c oc hc h p hp => ?_) ?_ F' (fun p hp => ?_)
      · rcases List.mem_cons.mp hp with rfl | hp
        · exact Nat.ne_of_gt (l _ (List.mem_append_left _ hc))
        · exact h p hp
      · obtain ⟨t1, t2, t3, t4, c, hk | hk⟩ := hT
        · exact ⟨t1, t2, t3, t4, c, .inl hk⟩
        · rcases List.mem_cons.mp hk with e | hk
          · exact ⟨t1, t2, t3, t4, c, .inr (e ▸ .head _)⟩
          · exact absurd (l _ hk) (Nat.lt_irrefl _)
      · rcases List.mem_append.mp hp with hp | hp
        · exact N' _ (.tail _ (List.mem_append_left _ hp))
        · rcases List.mem_cons.mp hp with rfl | hp
          · exact N' _ (.head _)
          · exact N' _ (.tail _ (List.mem_append_right _ hp))
/-- the same of RX, where what stands ahead holds no tuples of four -/
theorem rx_gen {w : World} {n : Nat} {f : Addr} {pre rest : Led} {vs : List Value} {x : LX} (C : Ctr w n f (pre ++ rest) vs (RX w (pre ++ rest) x)) (hc : ∀ p ∈ pre ++ rest, p ∈ rest ∨ p.2.cls ≠ .type "tuple") : Ctr w n f (pre ++ rest) vs (RXg w pre rest x) :=
  fun p loose mean mg mb dp un gd cn cs ca ccd cl outer A₀ base h₀ L mm st Q E B F X N T hk h1 h2 hr => by
    refine C p loose mean mg mb dp un gd cn cs ca ccd cl outer A₀ base h₀ L mm st Q E B F X N T hk h1 h2 ⟨fun _ a h' tk' hT F' N' => ?_, fun _ D o h' tk' hT l F' N' => ?_⟩
    · exact hr a rest h' tk' (fun _ h => h) (fun _ _ _ h => h) (hT.back hc) F' N'
    · refine hr D ((D, o) :: rest) h' tk' (fun _ h => .tail _ h) (fun c oc hc h p hp => ?_) ?_ F' (fun p hp => ?_)
      · rcases List.mem_cons.mp hp with rfl | hp
        · exact Nat.ne_of_gt (l _ (List.mem_append_left _ hc))
        · exact h p hp
      · obtain ⟨t1, t2, t3, t4, c, hk | hk⟩ := hT
        · exact ⟨t1, t2, t3, t4, c, .inl hk⟩
        · rcases List.mem_cons.mp hk with e | hk
          · exact ⟨t1, t2, t3, t4, c, .inr (e ▸ .head _)⟩
          · exact absurd (l _ hk) (Nat.lt_irrefl _)
      · rcases List.mem_append.mp hp with hp | hp
        · exact N' _ (.tail _ (List.mem_append_left _ hp))
        · rcases List.mem_cons.mp hp with rfl | hp
          · exact N' _ (.head _)
          · exact N' _ (.tail _ (List.mem_append_right _ hp))
end Mine

namespace Mine
section
variable {prog : Program} {w : World} {A : Around} {s : Shared} {h₀ : Heap} {L : Addr} {m : Str → Option Value} {env : Env} {elt : Expr} {x : Str} {scope : Scope} {cl : List (Str × Addr)} {S : Led → Prop} {P : Nat → Value → Prop} {Fin : List Value → Led → Prop} {n : Nat}
/-- a comprehension's turns, by what stands between them -/
theorem comp_ind (Inv : Nat → List Value → Led → Prop)
    (turn : ∀ i ys news v I oI C oC D m₂ h tk (E' : Value → Shared → Prop), i < n → Inv i ys news → P i v → LCg.NsObj oC m₂ → m₂ x = some v → Fr h₀ L h m → News h₀ L h ((I, oI) :: (C, oC) :: (D, LCg.lst ys) :: news) → LCg.Off3 I C D news →
      wpAny (model prog w) A (eval elt (compEnvC scope cl C env)) (LCg.CompEnd h₀ L m { s with heap := h, toks := tk } I oI C oC D (LCg.lst ys) S (fun y news' => Inv (i + 1) (ys ++ [y]) news')) E' { s with heap := h, toks := tk })
    (done : ∀ ys news, Inv n ys news → Fin ys news) : ∀ k i ys news, i + k = n → Inv i ys news → LCg.CompRest prog w A h₀ L m env elt x scope cl s S P Fin k i ys news := by
  intro k
  induction k with
  | zero =>
    intro i ys news hi hI
    have : i = n := hi
    subst this
    exact LCg.CompRest.zero (done _ _ hI)
  | succ k ih =>
    intro i ys news hi hI
    refine LCg.CompRest.succ fun v I oI C oC D m₂ h tk E' hP hC hx F N off ne => ?_
    refine wpAny_mono (turn i ys news v I oI C oC D m₂ h tk E' (by omega) hI hP hC hx F N off) (fun y s₂ q => ?_) fun _ _ e => e
    obtain ⟨h', tk', news', e, F', N', off', hS, r⟩ := q
    exact ⟨h', tk', news', e, F', N', off', hS, ih _ _ _ (by omega) r⟩
end
theorem off_gen {I C D : Addr} {oI oC oD : Obj} {rest rest' : Led} (h : LCg.Off3 I C D rest) (hn : ∀ c o, (c, o) ∈ [(I, oI), (C, oC), (D, oD)] → (∀ p ∈ rest, p.1 ≠ c) → ∀ p ∈ rest', p.1 ≠ c) : LCg.Off3 I C D rest' :=
  LCg.Off3.of fun p hp => ⟨hn I oI (.head _) (fun q hq => (h.mem q hq).1) p hp, hn C oC (.tail _ (.head _)) (fun q hq => (h.mem q hq).2.1) p hp, hn D oD (.tail _ (.tail _ (.head _))) (fun q hq => (h.mem q hq).2.2) p hp⟩
theorem TXs.snoc {w : World} {nw nw' : Led} {ys : List Value} {xs : List LX} {i : Nat} {x : LX} {a : Addr} (h : TXs w nw ys (xs.take i)) (hs : ∀ p ∈ nw, p ∈ nw') (hx : xs[i]? = some x) (T : TupX w nw' a x) : TXs w nw' (ys ++ [.ref a]) (xs.take (i + 1)) := by
  have h' := h.mono hs
  rw [List.take_add_one, hx]
  refine ⟨by simp [h'.1], fun j v hv => ?_⟩
  by_cases hj : j < ys.length
  · rw [List.getElem?_append_left hj] at hv
    obtain ⟨x', a', h1, h2, h3⟩ := h'.2 j v hv
    refine ⟨x', a', ?_, h2, h3⟩
    rw [List.getElem?_append_left (by rw [← h'.1]; exact hj)]
    exact h1
  · rw [List.getElem?_append_right (by omega)] at hv
    have h0 : j - ys.length = 0 := by
      cases q : j - ys.length with
      | zero => rfl
      | succ r => rw [q] at hv; simp at hv
    rw [h0] at hv
    have hv' : Value.ref a = v := by simpa using hv
    refine ⟨x, a, ?_, hv'.symm, T⟩
    have e : j = (xs.take i).length := by rw [← h'.1]; omega
    rw [e]
    simp
/-- the data that an extended number of the law's is -/
def dataL : LX → PyData | .nan => .str (Str.ofString "nan") | .over => .str (Str.ofString "over") | .under => .str (Str.ofString "under") | .num n => .int n
theorem lv_reads {h : Heap} {v : Value} {x : LX} (hv : LV v x) : Reads h v (dataL x) [] := by
  rcases x with _ | _ | _ | n <;> obtain ⟨t, rfl⟩ := hv
  · exact .str _ _
  · exact .str _ _
  · exact .str _ _
  · exact .int _ _
theorem LVs.cons_inv {v : Value} {vs : List Value} {x : LX} {xs : List LX} (h : LVs (v :: vs) (x :: xs)) : LV v x ∧ LVs vs xs := by
  refine ⟨?_, Nat.succ.inj h.1, fun i v' hv => h.2 (i + 1) v' hv⟩
  obtain ⟨x', h1, h2⟩ := h.2 0 v rfl
  cases h1
  exact h2
theorem lvs_reads {h : Heap} : ∀ {vs : List Value} {xs : List LX}, LVs vs xs → ReadsAll h vs (xs.map dataL) []
  | [], [], _ => .nil
  | v :: vs, x :: xs, hv => readsAll_cons_val (lv_reads hv.cons_inv.1) (lvs_reads hv.cons_inv.2)
  | [], _ :: _, hv => absurd hv.1 (by simp)
  | _ :: _, [], hv => absurd hv.1 (by simp)
theorem lay_data : ∀ {xs : List LX}, PyData.canLayAll0 (xs.map dataL) = true
  | [] => by simp [PyData.canLayAll0]
  | x :: xs => by
    have ih := lay_data (xs := xs)
    have h1 : PyData.strOk (Str.ofString "nan") = true := by decide +kernel
    have h2 : PyData.strOk (Str.ofString "over") = true := by decide +kernel
    have h3 : PyData.strOk (Str.ofString "under") = true := by decide +kernel
    cases x <;> simp [PyData.canLayAll0, PyData.canLay0, dataL, ih, h1, h2, h3]
theorem any_nan : ∀ {xs : List LX}, ((xs.map dataL).any fun y => PyData.eqv y (.str (Str.ofString "nan"))) = hasNan xs
  | [] => rfl
  | x :: xs => by
    have ih := any_nan (xs := xs)
    unfold hasNan at *
    simp only [List.map_cons, List.any_cons, ih]
    congr 1
    cases x
    · simp [dataL, PyData.eqv, LX.isNan]
    · simp only [dataL, PyData.eqv, LX.isNan]; decide +kernel
    · simp only [dataL, PyData.eqv, LX.isNan]; decide +kernel
    · simp [dataL, PyData.eqv, LX.isNan]
section
variable {w : World} {A : Around} {E : Value → Shared → Prop} {st : Shared} {h₀ : Heap} {L : Addr} {mm : Str → Option Value} {news : Led} {K : Frag} {prog : Program}
theorem in_nan {l : Addr} {vs : List Value} {xs : List LX} {k : Nat} {t : Tok} {Q : Value → Shared → Prop} (hV : LVs vs xs) (N : News h₀ L st.heap news) (hm : (l, listOf vs.toArray k) ∈ news) (hu : A.units + 64 < cLine) (h : Q (.bool (hasNan xs)) st) :
    wpAny (model prog w) A (compareOp .In (.str (Str.ofString "nan") t) (.ref l)) Q E st := by
  refine SeqAt.in_list_reads (reads_list_at (N _ hm).1 rfl rfl (lvs_reads hV)) (.str _ _) lay_data ?_ ?_ ?_
  · have h1 : PyData.strOk (Str.ofString "nan") = true := by decide +kernel
    simp [PyData.canLay0, h1]
  · have : min (PyData.depthAll (xs.map dataL)) (PyData.str (Str.ofString "nan")).depth ≤ 10 := Nat.le_trans (Nat.min_le_right _ _) (by simp [PyData.depth])
    omega
  · rw [any_nan]; exact h
theorem eqTT {D D' a b a' b' : Addr} {x y : LX} {k k' : Nat} {Q : Value → Shared → Prop} (F : Fr h₀ L st.heap mm) (N : News h₀ L st.heap news) (X : (hd.heap_39 w.params).In h₀)
    (m1 : (D, ({ cls := .type "tuple", data := .seq #[.ref a, .ref b] k } : Obj)) ∈ news) (m2 : (D', ({ cls := .type "tuple", data := .seq #[.ref a', .ref b'] k' } : Obj)) ∈ news)
    (T1 : TupX w news a x) (T2 : TupX w news b y) (T3 : TupX w news a' x) (T4 : TupX w news b' y) (hu : A.units + 64 < cLine) (h : Q (.bool true) st) : wpAny (model prog w) A (compareOp .Eq (.ref D) (.ref D')) Q E st := by
  refine eq_dataH (reads_tuple_at (N _ m1).1 rfl rfl (.cons (T1.reads F X N) (.cons (T2.reads F X N) .nil))) (reads_tuple_at (N _ m2).1 rfl rfl (.cons (T3.reads F X N) (.cons (T4.reads F X N) .nil))) ?_ ?_ hu ?_
  · simp [PySem.SeqAt.shaped, PyData.canLay0, PyData.canLayAll0, PyData.depth, PyData.depthAll]
  · simp [PySem.SeqAt.shaped, PyData.canLay0, PyData.canLayAll0, PyData.depth, PyData.depthAll]
  · have e : ∀ z : LX, e4 (mS z) (mM z) (mE z) (mB z) (mS z) (mM z) (mE z) (mB z) = true := fun z => decide_eq_true ⟨rfl, rfl, rfl, rfl⟩
    have : PyData.eqv (.tuple [.tuple [.int (mS x), .int (mM x), .int (mE x), .int (mB x)], .tuple [.int (mS y), .int (mM y), .int (mE y), .int (mB y)]]) (.tuple [.tuple [.int (mS x), .int (mM x), .int (mE x), .int (mB x)], .tuple [.int (mS y), .int (mM y), .int (mE y), .int (mB y)]]) = true := by
      rw [PyData.eqv]
      simp only [PyData.eqvAll, eqv4, e, Bool.and_true]
    rw [this]; exact h
end
/-- what stands between two turns of the first loop of _law_rows_right -/
def JR1 (kk : Bool) (l : Addr) (r : Str) (xs : List LX) (i : Nat) (m : Str → Option Value) : Prop :=
  ∃ lk tv t5, m = (fun y => List.lookup y lk) ∧ (∀ p ∈ [(Str.ofString "total", tv), (Str.ofString "values", Value.ref l), (Str.ofString "way", Value.str r t5), (Str.ofString "is_whole", Value.bool kk)], List.lookup p.1 lk = some p.2) ∧ LV tv (totL kk (xs.take i))
theorem JR1.intro {kk : Bool} {l : Addr} {r : Str} {xs : List LX} {i : Nat} {lk : List (Str × Value)} {tv : Value} {t5 : Tok} (h1 : lk.lookup (Str.ofString "total") = some tv) (h2 : lk.lookup (Str.ofString "values") = some (.ref l)) (h3 : lk.lookup (Str.ofString "way") = some (.str r t5)) (h4 : lk.lookup (Str.ofString "is_whole") = some (.bool kk))
    (hv : LV tv (totL kk (xs.take i))) : JR1 kk l r xs i (fun y => lk.lookup y) :=
  ⟨lk, tv, t5, rfl, by simp only [List.forall_mem_cons]; exact ⟨h1, h2, h3, h4, fun _ h => nomatch h⟩, hv⟩
/-- and of the second -/
def JR2 (l d : Addr) (x0 : LX) (xs : List LX) (i : Nat) (m : Str → Option Value) : Prop :=
  ∃ lk lo hi, m = (fun y => List.lookup y lk) ∧ (∀ p ∈ [(Str.ofString "low", lo), (Str.ofString "high", hi), (Str.ofString "values", Value.ref l), (Str.ofString "numbers", Value.ref d)], List.lookup p.1 lk = some p.2) ∧ LV lo (loL x0 (xs.take i)) ∧ LV hi (hiL x0 (xs.take i))
theorem JR2.intro {l d : Addr} {x0 : LX} {xs : List LX} {i : Nat} {lk : List (Str × Value)} {lo hi : Value} (h1 : lk.lookup (Str.ofString "low") = some lo) (h2 : lk.lookup (Str.ofString "high") = some hi) (h3 : lk.lookup (Str.ofString "values") = some (.ref l)) (h4 : lk.lookup (Str.ofString "numbers") = some (.ref d))
    (hv : LV lo (loL x0 (xs.take i))) (hv' : LV hi (hiL x0 (xs.take i))) : JR2 l d x0 xs i (fun y => lk.lookup y) :=
  ⟨lk, lo, hi, rfl, by simp only [List.forall_mem_cons]; exact ⟨h1, h2, h3, h4, fun _ h => nomatch h⟩, hv, hv'⟩
theorem lo_self {x : LX} : loStep x x = x := by unfold loStep; split <;> rfl
theorem hi_self {x : LX} : hiStep x x = x := by unfold hiStep; split <;> rfl
theorem lo_all {x0 : LX} {xs : List LX} : loL x0 (x0 :: xs) = loL x0 xs := by
  unfold loL; rw [List.foldl_cons, lo_self]
theorem hi_all {x0 : LX} {xs : List LX} : hiL x0 (x0 :: xs) = hiL x0 xs := by
  unfold hiL; rw [List.foldl_cons, hi_self]
theorem nan_none {xs : List LX} (h : hasNan xs = false) : ∀ x ∈ xs, x.isNan = false := fun x hx => by
  have := List.any_eq_false.mp h x hx
  simpa using this
end Mine
namespace Mine
section
variable {k : Bool} {x : LX}
theorem own_a (h : x.isNan = true) : ownL k x = x := if_pos (.inl h)
theorem own_b (h : k = false) : ownL k x = x := if_pos (.inr (.inl h))
theorem own_c (h : 0 ≤ x.side) : ownL k x = x := if_pos (.inr (.inr h))
theorem own_d (h1 : x.isNan = false) (h2 : k = true) (h3 : ¬ 0 ≤ x.side) : ownL k x = negL x := if_neg (by rw [h1, h2]; rintro (q | q | q); cases q; cases q; exact h3 q)
end
end Mine
namespace Mine
theorem made_r {w : World} {p1 p2 p3 : Addr × Obj} {rest : Led} {v : Value} {x : LX} (C : Ctr w 6 223 (p1 :: p2 :: p3 :: rest) [v] (RX0 w (p1 :: p2 :: p3 :: rest) x)) : Ctr w 6 223 (p1 :: p2 :: p3 :: rest) [v] (RXg w [p1, p2, p3] rest x) := rx_gen0 (pre := [p1, p2, p3]) C
theorem made_r1 {w : World} {p1 : Addr × Obj} {rest : Led} {v : Value} {x : LX} (C : Ctr w 6 223 (p1 :: rest) [v] (RX0 w (p1 :: rest) x)) : Ctr w 6 223 (p1 :: rest) [v] (RXg w [p1] rest x) := rx_gen0 (pre := [p1]) C
theorem one_gen {w : World} {n : Nat} {f : Addr} {D : Addr} {o : Obj} {rest : Led} {vs : List Value} {x : LX} (C : Ctr w n f ((D, o) :: rest) vs (RX w ((D, o) :: rest) x)) (ho : o.cls ≠ .type "tuple") : Ctr w n f ((D, o) :: rest) vs (RXg w [(D, o)] rest x) :=
  rx_gen (pre := [(D, o)]) C fun p hp => by
    rcases List.mem_cons.mp hp with rfl | hp
    · exact .inr ho
    · exact .inl hp
theorem size_ok {vs : List Value} {xs : List LX} (h : LVs vs xs) (ht : AllOk xs) : vs.toArray.size ≤ sizeLine := by
  have h1 := h.1
  have h2 := ht.2
  rw [List.size_toArray, sizeLine_eq]
  omega
theorem size_okT {w : World} {news : Led} {vs : List Value} {xs : List LX} (h : TXs w news vs xs) (ht : AllOk xs) : vs.toArray.size ≤ sizeLine := by
  have h1 := h.1
  have h2 := ht.2
  rw [List.size_toArray, sizeLine_eq]
  omega
theorem okn_of {x0 : LX} {xs : List LX} (ht : AllOk (x0 :: xs)) (h : hasNan (x0 :: xs) = false) : ∀ x ∈ x0 :: xs, x.tiny ∧ x.isNan = false := fun x hx => ⟨ht.1 x hx, nan_none h x hx⟩
theorem okn_two {x0 : LX} {xs : List LX} (h : ∀ x ∈ x0 :: xs, x.tiny ∧ x.isNan = false) : ∀ x ∈ x0 :: x0 :: xs, x.tiny ∧ x.isNan = false := fun x hx => by
  rcases List.mem_cons.mp hx with rfl | hx
  · exact h _ (.head _)
  · exact h _ hx
end Mine
namespace Mine
def No4 (o : Obj) : Prop := ∀ s m e b t1 t2 t3 t4 c, o ≠ tup4 s m e b t1 t2 t3 t4 c
theorem no4_pair {a b : Value} {k : Nat} {c : Value} : No4 { cls := c, data := .seq #[a, b] k } := fun s m e b' t1 t2 t3 t4 c' h => by
  have := congrArg (fun o : Obj => match o.data with | .seq vs _ => vs.size | _ => 0) h
  simp [tup4] at this
theorem no4_list {its : Array Value} {k : Nat} : No4 (listOf its k) := fun s m e b t1 t2 t3 t4 c h => by
  have := congrArg (fun o : Obj => o.cls) h
  have h2 : Value.type "list" = Value.type "tuple" := this
  exact absurd h2 (by decide)
theorem TupA.stripN {K : Frag} {x a : Addr} {o : Obj} {r : Led} {s m e b : Int} (hn : No4 o) (T : TupA K ((x, o) :: r) a s m e b) : TupA K r a s m e b := by
  obtain ⟨t1, t2, t3, t4, c, hk | hk⟩ := T
  · exact ⟨t1, t2, t3, t4, c, .inl hk⟩
  · rcases List.mem_cons.mp hk with e | hk
    · exact absurd (congrArg (fun q : Addr × Obj => q.2) e).symm (hn _ _ _ _ _ _ _ _ _)
    · exact ⟨t1, t2, t3, t4, c, .inr hk⟩
end Mine

namespace Mine
theorem law_clean {M : Model} {A : Around} {nm : Str} {sc : Scope} {L f : Addr} {cd : Value} {body : List Stmt} (cl : List (Str × Addr)) {Q : Flow → Shared → Prop} {E : Value → Shared → Prop} {st : Shared} (hcl : cellsFrom (L + 1) sc.names [] = cl)
    (h : wpAny M (A.deeper (envX nm sc L f cd cl)) (execs body (envX nm sc L f cd cl)) Q E st) : wpAny M (A.deeper (envOfC nm sc L f cd)) (execs body (envOfC nm sc L f cd)) Q E st := by
  subst hcl
  exact h
theorem Fr.cast {h₀ h : Heap} {L : Addr} {m m' : Str → Option Value} (F : Fr h₀ L h m) (e : m = m') : Fr h₀ L h m' := e ▸ F
theorem drawL_tiny (n : Int) : (drawL n).tiny := by
  unfold drawL
  split
  · split
    · exact trivial
    · split <;> exact trivial
  · split
    · exact ⟨by decide, by decide⟩
    · have h := fmod_bound (n.fdiv 5) (k := 41) (by decide)
      exact ⟨by omega, by omega⟩
end Mine
namespace Mine
def StopAt (p : Prop) : Prop := p
theorem stopAt {p : Prop} (h : StopAt p) : p := h
theorem unstop {p : Prop} (h : p) : StopAt p := h
theorem cut_if {M : Model} {A : Around} {s1 : Stmt} {rest : List Stmt} {env : Env} {Q : Flow → Shared → Prop} {E : Value → Shared → Prop} {st : Shared} (Good : Shared → Prop)
    (first : wpAny M A (exec s1 env) (fun fl s' => fl = .next ∧ Good s') E st) (k : ∀ s', Good s' → wpAny M A (execs rest env) Q E s') : wpAny M A (execs (s1 :: rest) env) Q E st :=
  wpAny_execs_cons (wpAny_mono first (fun fl s' h => by obtain ⟨rfl, hg⟩ := h; exact k s' hg) fun _ _ e => e)
section
variable {prog : Program} {w : World} {A : Around} {s : Shared} {h₀ : Heap} {L : Addr} {m : Str → Option Value} {env : Env} {elt : Expr} {x : Str} {scope : Scope} {cl : List (Str × Addr)} {P : Nat → Value → Prop} {Fin : List Value → Led → Prop} {n : Nat} {news : Led}
/-- a comprehension whose turns leave the ledger as it stands -/
theorem comp_same (I : Nat → List Value → Prop)
    (turn : ∀ i ys v I' oI C oC D m₂ h tk (E' : Value → Shared → Prop), i < n → I i ys → P i v → LCg.NsObj oC m₂ → m₂ x = some v → Fr h₀ L h m → News h₀ L h ((I', oI) :: (C, oC) :: (D, LCg.lst ys) :: news) → LCg.Off3 I' C D news →
      wpAny (model prog w) A (eval elt (compEnvC scope cl C env)) (LCg.CompEnd h₀ L m { s with heap := h, toks := tk } I' oI C oC D (LCg.lst ys) (fun _ => True) (fun y news' => I (i + 1) (ys ++ [y]) ∧ news' = news)) E' { s with heap := h, toks := tk })
    (done : ∀ ys, I n ys → Fin ys news) (h0 : I 0 []) : LCg.CompRest prog w A h₀ L m env elt x scope cl s (fun _ => True) P Fin n 0 [] news := by
  refine comp_ind (n := n) (fun i ys nw => I i ys ∧ nw = news) ?_ ?_ n 0 [] news (Nat.zero_add _) ⟨h0, rfl⟩
  · rintro i ys nw v I' oI C oC D m₂ h tk E' hi ⟨hI, rfl⟩ hP hC hx F N off
    exact turn i ys v I' oI C oC D m₂ h tk E' hi hI hP hC hx F N off
  · rintro ys nw ⟨hI, rfl⟩
    exact done ys hI
end
theorem LVs.snoc {ys : List Value} {f : Nat → LX} {i : Nat} {v : Value} (h : LVs ys ((List.range i).map f)) (hv : LV v (f i)) : LVs (ys ++ [v]) ((List.range (i + 1)).map f) := by
  rw [List.range_succ, List.map_append]
  have hl : ys.length = i := by have := h.1; simpa using this
  refine ⟨by simp [hl], fun j w hw => ?_⟩
  by_cases hj : j < ys.length
  · rw [List.getElem?_append_left hj] at hw
    obtain ⟨x, h1, h2⟩ := h.2 j w hw
    refine ⟨x, ?_, h2⟩
    rw [List.getElem?_append_left (by simpa [hl] using hj)]
    exact h1
  · rw [List.getElem?_append_right (by omega)] at hw
    have h0 : j - ys.length = 0 := by
      cases q : j - ys.length with
      | zero => rfl
      | succ r => rw [q] at hw; simp at hw
    rw [h0] at hw
    have hw' : v = w := by simpa using hw
    subst hw'
    refine ⟨f i, ?_, hv⟩
    have e : j = ((List.range i).map f).length := by simp; omega
    rw [e]
    simp
theorem list_split {n : Nat} {f : Nat → LX} (hn : 0 < n) : ∃ x0 xs, (List.range n).map f = x0 :: xs := by
  cases n with
  | zero => exact absurd hn (Nat.lt_irrefl _)
  | succ n => exact ⟨f 0, _, by rw [List.range_succ_eq_map, List.map_cons]⟩
theorem vals_ok {n : Nat} {f : Nat → LX} (hf : ∀ j, (f j).tiny) (hn : n ≤ 5) : AllOk ((List.range n).map f) :=
  ⟨fun x hx => by obtain ⟨j, _, rfl⟩ := List.mem_map.mp hx; exact hf j, by simpa using hn⟩
end Mine

namespace Mine
theorem CtrG.use {w : World} {n : Nat} {f : Addr} {news : Led} {vs : List Value} {ok : Value → Led → Prop} (C : CtrG w n f news vs ok) {p : Program} {loose : List Str} {mean : ExcName → Option Value} {mg mb : Str → Option Value}
    {dp un : Nat} {gd : Option (List Code)} {cn : Str} {cs : Scope} {ca : Addr} {ccd : Value} {cl : List (Str × Addr)} {outer : List Env} {A₀ : Around} {base h₀ : Heap} {L : Addr} {mm : Str → Option Value} {st : Shared}
    {Q E : Value → Shared → Prop} (B : Below A₀ base outer h₀) (F : Fr h₀ L st.heap mm) (X : (hd.heap_39 w.params).In h₀) (N : News h₀ L st.heap news) (T : Top p loose mean mg mb h₀) (XB : (hd.heap_39 w.params).In base) (TB : Top p loose mean mg mb base) (D : KtsDicts (outer.filterMap (·.frame)) h₀)
    (hk : cs.kind = .function) (h1 : dp + n < recursionLimit) (h2 : un + (100 + 8 * n) < cLine)
    (h : ∀ v news' h₀' h' tk', ok v news' → Fr h₀' L h' mm → News h₀' L h' news' → Below A₀ base outer h₀' → (hd.heap_39 w.params).In h₀' → Top p loose mean mg mb h₀' → KtsDicts (outer.filterMap (·.frame)) h₀' → Q v { st with heap := h', toks := tk' }) :
    wpAny (model PySem.Challenge.rw_bw0031_01.row.prog w) (ktrTop dp un gd cn cs L ca ccd cl outer) (call (.ref f) vs) Q E st :=
  C p loose mean mg mb dp un gd cn cs ca ccd cl outer A₀ base h₀ L mm st Q E B F X N T XB TB D hk h1 h2 h
theorem CtrG.conv {w : World} {n : Nat} {f : Addr} {news : Led} {vs : List Value} {ok ok' : Value → Led → Prop} (C : CtrG w n f news vs ok)
    (h : ∀ v news' h₀ L h', ok v news' → News h₀ L h' news' → ∃ n2, ok' v n2 ∧ News h₀ L h' n2) : CtrG w n f news vs ok' :=
  fun p loose mean mg mb dp un gd cn cs ca ccd cl outer A₀ base h₀ L mm st Q E B F X N T XB TB D hk h1 h2 hr =>
    C p loose mean mg mb dp un gd cn cs ca ccd cl outer A₀ base h₀ L mm st Q E B F X N T XB TB D hk h1 h2 fun v news' h₀' h' tk' hok F' N' B' X' T' D' => by
      obtain ⟨n2, ho, N2⟩ := h v news' h₀' L h' hok N'
      exact hr v n2 h₀' h' tk' ho F' N2 B' X' T' D'
/-- what is left of the ledger when none of these addresses is to stand in it -/
theorem pairs_keep {q : Str} {ln co : Nat} {pre R rest' : Led} {ps' : Array Value} {Ps : List Addr} {h₀ h' : Heap} {L : Addr} (hPs : ∀ P ∈ Ps, (P, tabObj #[]) ∈ pre) (ht : TabOk q ln co rest' ps') (hs : ∀ p ∈ pre ++ R, p ∈ rest') (hne : ∀ p ∈ rest', p.1 ≠ 288) (N : News h₀ L h' ((288, tabObj ps') :: rest')) :
    ∃ R', (TabOk q ln co R' ps' ∧ (∀ p ∈ R', p.1 ≠ 288) ∧ ∀ P ∈ Ps, ∀ p ∈ R', p.1 ≠ P) ∧ News h₀ L h' ((288, tabObj ps') :: (pre ++ R')) := by
  refine ⟨rest'.filter fun p => Ps.all fun P => decide (p.1 ≠ P), ⟨?_, fun p hp => hne p (List.mem_filter.mp hp).1, fun P hP p hp => ?_⟩, fun p hp => ?_⟩
  · rcases ht with h | ⟨c', oc, vs, t, h, hm, d1, d2⟩
    · exact .inl h
    · refine .inr ⟨c', oc, vs, t, h, List.mem_filter.mpr ⟨hm, ?_⟩, d1, d2⟩
      refine List.all_eq_true.mpr fun P hP => decide_eq_true fun e => ?_
      have x1 := (N _ (.tail _ hm)).1
      have x2 := (N _ (.tail _ (hs _ (List.mem_append_left _ (hPs P hP))))).1
      dsimp only at x1 x2 e
      rw [e, x2] at x1
      have x3 := Option.some.inj x1
      rw [← x3] at d1
      have d1' : Data.fields #[] = Data.fields vs := d1
      have := Data.fields.inj d1'
      rw [← this] at d2
      cases d2
  · have := List.all_eq_true.mp (List.mem_filter.mp hp).2 P hP
    exact of_decide_eq_true this
  · rcases List.mem_cons.mp hp with rfl | hp
    · exact N _ (.head _)
    · rcases List.mem_append.mp hp with hp | hp
      · exact N _ (.tail _ (hs _ (List.mem_append_left _ hp)))
      · exact N _ (.tail _ (List.mem_filter.mp hp).1)
/-- what the law's frame is left with behind the if -/
def GoodS (w : World) (p : Program) (loose : List Str) (mean : ExcName → Option Value) (mg mb : Str → Option Value) (A₀ : Around) (base : Heap) (L : Addr) (mm : Str → Option Value) (q : Str) (pre : Led) (st s' : Shared) : Prop :=
  ∃ h₀' h' tk' ps R, s' = { st with heap := h', toks := tk' } ∧ Fr h₀' L h' mm ∧ News h₀' L h' ((288, tabObj ps) :: (pre ++ R)) ∧ Below A₀ base [] h₀' ∧ (hd.heap_39 w.params).In h₀' ∧ Top p loose mean mg mb h₀' ∧
    TabOk q 485 24 R ps ∧ (∀ p ∈ R, p.1 ≠ 288) ∧ (∀ P ∈ [295, 307], ∀ p ∈ R, p.1 ≠ P)
theorem cut_law {w : World} {p : Program} {loose : List Str} {mean : ExcName → Option Value} {mg mb : Str → Option Value} {A₀ : Around} {base h₀ : Heap} {L : Addr} {mm : Str → Option Value} (q : Str) {a1 a2 a3 a4 a5 a6 a7 a8 a9 a11 : Addr × Obj}
    {M : Model} {A : Around} {s1 : Stmt} {rest : List Stmt} {env : Env} {Q : Flow → Shared → Prop} {E : Value → Shared → Prop} {st : Shared}
    (N : News h₀ L st.heap [a1, a2, a3, a4, a5, a6, a7, a8, a9, (288, tabObj #[]), a11]) (F : Fr h₀ L st.heap mm) (B : Below A₀ base [] h₀) (X : (hd.heap_39 w.params).In h₀) (T : Top p loose mean mg mb h₀)
    (first : News h₀ L st.heap ((288, tabObj #[]) :: a1 :: a4 :: a5 :: a6 :: a7 :: a8 :: a9 :: a11 :: []) → wpAny M A (exec s1 env) (fun fl s' => fl = .next ∧ GoodS w p loose mean mg mb A₀ base L mm q [a1, a4, a5, a6, a7, a8, a9, a11] st s') E st)
    (k : ∀ s', GoodS w p loose mean mg mb A₀ base L mm q [a1, a4, a5, a6, a7, a8, a9, a11] st s' → wpAny M A (execs rest env) Q E s') : wpAny M A (execs (s1 :: rest) env) Q E st :=
  cut_if _ (first fun p hp => N p (by
    simp only [List.mem_cons, List.not_mem_nil, or_false] at hp ⊢
    rcases hp with h | h | h | h | h | h | h | h | h <;> simp [h])) k
end Mine
namespace Mine
theorem nan_spec {x : LX} (h : x.isNan = true) : x.spec = true := by cases x <;> first | rfl | cases h
theorem wide_spec {x : LX} (h : x.wide = true) : x.spec = true := by cases x <;> first | rfl | cases h
end Mine
namespace Mine
theorem CtrG.pre {w : World} {n : Nat} {f : Addr} {news news2 : Led} {vs : List Value} {ok : Value → Led → Prop} (C : CtrG w n f news2 vs ok) (hs : ∀ p ∈ news2, p ∈ news) : CtrG w n f news vs ok :=
  fun p loose mean mg mb dp un gd cn cs ca ccd cl outer A₀ base h₀ L mm st Q E B F X N T XB TB D hk h1 h2 hr =>
    C p loose mean mg mb dp un gd cn cs ca ccd cl outer A₀ base h₀ L mm st Q E B F X (fun q hq => N q (hs q hq)) T XB TB D hk h1 h2 hr
theorem kts_nil {h : Heap} : KtsDicts (List.filterMap (fun x : Env => x.frame) []) h := fun _ hb => nomatch hb
theorem GoodS.intro {w : World} {p : Program} {loose : List Str} {mean : ExcName → Option Value} {mg mb : Str → Option Value} {A₀ : Around} {base : Heap} {L : Addr} {mm : Str → Option Value} {q : Str} {pre : Led} {st : Shared} {h₀' h' : Heap} {tk' : Nat} {ps : Array Value} {R : Led}
    (F : Fr h₀' L h' mm) (N : News h₀' L h' ((288, tabObj ps) :: (pre ++ R))) (B : Below A₀ base [] h₀') (X : (hd.heap_39 w.params).In h₀') (T : Top p loose mean mg mb h₀') (ht : TabOk q 485 24 R ps) (hr : ∀ p ∈ R, p.1 ≠ 288) (hp : ∀ P ∈ [295, 307], ∀ p ∈ R, p.1 ≠ P) :
    GoodS w p loose mean mg mb A₀ base L mm q pre st { st with heap := h', toks := tk' } := ⟨h₀', h', tk', ps, R, rfl, F, N, B, X, T, ht, hr, hp⟩
section
variable {prog : Program} {w : World} {A : Around} {E : Value → Shared → Prop} {s : Shared}
theorem item3w {value slice : PySem.Expr} {l : Addr} {t1 t2 t3 : Tok} {k : Int} {u : Tok} {Q : Value → Shared → Prop}
    (hl : s.heap.IsList l #[.str (Str.ofString "nan") t1, .str (Str.ofString "over") t2, .str (Str.ofString "under") t3]) (h0 : 0 ≤ k) (h3 : k < 3) (h : ∀ v z, LV v z → z.spec = true → Q v s)
    (hs : subscripted slice false (.ref l) (.int k u) = operate [.ref l, .int k u] (getItem (.ref l) (.int k u)) := by with_unfolding_all rfl) :
    wpAny (model prog w) A (subscriptTail value slice (.ref l) (.int k u)) Q E s :=
  item3 hl h0 h3 ⟨fun _ => h _ .nan ⟨_, rfl⟩ rfl, fun _ => h _ .over ⟨_, rfl⟩ rfl, fun _ => h _ .under ⟨_, rfl⟩ rfl⟩ hs
end
end Mine
namespace Mine
theorem made_r12 {w : World} {p1 p2 p3 p4 p5 p6 p7 p8 p9 q1 q2 q3 : Addr × Obj} {rest : Led} {v : Value} {x : LX} (C : Ctr w 6 223 (p1 :: p2 :: p3 :: p4 :: p5 :: p6 :: p7 :: p8 :: p9 :: q1 :: q2 :: q3 :: rest) [v] (RX0 w (p1 :: p2 :: p3 :: p4 :: p5 :: p6 :: p7 :: p8 :: p9 :: q1 :: q2 :: q3 :: rest) x)) :
    Ctr w 6 223 (p1 :: p2 :: p3 :: p4 :: p5 :: p6 :: p7 :: p8 :: p9 :: q1 :: q2 :: q3 :: rest) [v] (RXg w [p1, p2, p3, p4, p5, p6, p7, p8, p9, q1, q2, q3] rest x) := rx_gen0 (pre := [p1, p2, p3, p4, p5, p6, p7, p8, p9, q1, q2, q3]) C
theorem fr_base {G g h : Heap} {L : Addr} {m : Str → Option Value} {A₀ : Around} {outer : List Env} (F : Fr g L h m) (B : Below A₀ G outer g) (ha : G.objs.size ≤ L) : Fr G L h m := ⟨F.ns, fun b o e => F.keep b o (B.stays b o e), ha⟩
end Mine
namespace Mine
theorem law_post (ns : List Int) : Challenge.rw_bw0031_01.row.claim.post [ofPy (PyData.list (List.map PyData.int ns))] (WData.bool true) [ofPy (PyData.list (List.map PyData.int ns))] = true := by
  wrow_post
end Mine

namespace Mine
/-- enter a contract's def -/
local macro_rules | `(tactic| walk_at "MINE enter") => `(tactic| (
  unfold Ctr
  intro p loose mean mg mb dp un gd cn cs ca ccd cl outer A₀ base h₀ L mm st Q E B F X N T hk hd hu hret
  refine wpAny_call ?_
  k_dflt (refine' code_def ?k1 ?k2 ?k3 ?k4 ?k5 ?kA ?kF ?kK ?k6 ?k7 ?k8 ?k9 ?kB ?_ ?c2 ?c3 ?c4 ?c5; (case kA => exact rfl); (case kF => exact rfl); (case kK => assumption); (case k1 => k_asm); (case k2 => k_asm); (case k3 => k_asm); (case k4 => k_asm); (case k5 => k_asm); (case k6 => k_is); (case k7 => k_is); (case k8 => ktr_room); (case k9 => first | exact BindsTo.of_eq rfl | exact binds_K (by k_in) rfl (by k_is) rfl rfl rfl | fail "no rule for these arguments"); (case c5 => decide); (case kB => exact locs rfl); (case c2 => exact rfl); (case c3 => exact rfl); (case c4 => exact rfl); k_whole; intro g' L' h' FG' F' N' B' X' T'; (try dsimp only); (try k_lift B'); (try k_fold))))
local macro_rules | `(tactic| walk_at "assign Tuple") => `(tactic| (k_here; (with_reducible show wpAny _ _ (assign (Expr.Tuple [_, _, _, _] _ _) _ (Value.ref _)) _ _ _); k_dflt (refine' unpack4 ?k1 ?k2 ?k3 ?k4 ?k5 ?k6 ?k7 ?_; (case k1 => k_asm); (case k2 => k_asm); (case k3 => k_asm); (case k4 => walk_at "MINE tup"); (case k5 => exact rfl); (case k6 => exact rfl); (case k7 => exact rfl); k_whole); intro t1 t2 t3 t4 h' F' N'; (try k_sweep)))
local macro_rules | `(tactic| walk_at "MINE sub") => `(tactic| first | exact fun _ h9 => h9 | exact fun _ h9 => .tail _ h9 | exact fun _ h9 => .tail _ (.tail _ h9) | exact fun _ h9 => .tail _ (.tail _ (.tail _ h9)) | exact fun _ h9 => .tail _ (.tail _ (.tail _ (.tail _ h9))) | exact fun _ h9 => .tail _ (.tail _ (.tail _ (.tail _ (.tail _ h9)))) | exact fun _ h9 => .tail _ (.tail _ (.tail _ (.tail _ (.tail _ (.tail _ h9))))) | exact fun _ h9 => .tail _ (.tail _ (.tail _ (.tail _ (.tail _ (.tail _ (.tail _ h9)))))) | exact fun _ h9 => .tail _ (.tail _ (.tail _ (.tail _ (.tail _ (.tail _ (.tail _ (.tail _ h9))))))) | exact fun _ h9 => .tail _ (.tail _ (.tail _ (.tail _ (.tail _ (.tail _ (.tail _ (.tail _ (.tail _ h9)))))))) | exact fun _ h9 => .tail _ (.tail _ (.tail _ (.tail _ (.tail _ (.tail _ (.tail _ (.tail _ (.tail _ (.tail _ h9))))))))) | exact fun _ h9 => .tail _ (.tail _ (.tail _ (.tail _ (.tail _ (.tail _ (.tail _ (.tail _ (.tail _ (.tail _ (.tail _ h9)))))))))) | exact fun _ h9 => .tail _ (.tail _ (.tail _ (.tail _ (.tail _ (.tail _ (.tail _ (.tail _ (.tail _ (.tail _ (.tail _ (.tail _ h9))))))))))))
local macro_rules | `(tactic| walk_at "MINE news") => `(tactic| first | with_reducible assumption | (refine' news_drop ?cbN ?cbS; (case cbN => with_reducible assumption); (case cbS => walk_at "MINE sub")))
local macro_rules | `(tactic| walk_at "MINE end") => `(tactic| first
  | (refine' RI.use ?mh ?me ?mF ?mN; (case mh => assumption); (case mF => k_asm); (case mN => walk_at "MINE news"))
  | (refine' RB.use ?mh ?me ?mF ?mN; (case mh => assumption); (case mF => k_asm); (case mN => walk_at "MINE news"))
  | (refine' RS.use ?mh ?me ?mF ?mN; (case mh => assumption); (case mF => k_asm); (case mN => walk_at "MINE news")))
local macro_rules | `(tactic| is_list) => `(tactic| exact News.isList (by k_asm) (by k_mem))
local macro_rules | `(tactic| walk_at "MINE endT") => `(tactic| first
  | (refine' RT.new2 ?mh ?mT ?ml ?mF ?mN ?mo ?me; (case mh => assumption); (case mT => assumption); (case ml => assumption); (case mF => k_asm); (case mN => assumption))
  | (refine' RT.new ?mh ?mF ?mN ?mm ?ms ?ml ?mo ?me; (case mh => assumption); (case mF => k_asm); (case mN => assumption); (case mm => k_mem); (case ms => walk_at "MINE sub"); (case ml => assumption))
  | (refine' RT.old ?mh ?mT ?mF ?mN ?mo ?me; (case mh => assumption); (case mF => k_asm); (case mN => walk_at "MINE news"); (case mT => first | assumption | exact TupA.top (by k_is))))
local macro_rules | `(tactic| walk_at "MINE endV") => `(tactic| (refine' RV.use ?mh ?mF ?mN ?mv ?me; (case mh => assumption); (case mF => k_asm); (case mN => walk_at "MINE news"); (case mv => first | assumption | exact lv_nan | exact lv_over | exact lv_under | exact lv_num)))
local macro_rules | `(tactic| walk_at "subscriptTail") => `(tactic| (k_here; (with_reducible show wpAny _ _ (subscriptTail _ _ (Value.ref _) (Value.int (Int.fmod _ _) _)) _ _ _); k_dflt (refine' item3 ?k1 ?k2 ?k3 ?_ ?k5; (case k1 => exact News.isList (by k_asm) (by k_mem)); (case k2 => exact (fmod_bound _ (by decide)).1); (case k3 => first | assumption | exact (fmod_bound _ (by decide)).2); (case k5 => with_unfolding_all rfl); k_whole); refine ⟨?_, ?_, ?_⟩ <;> intro hi9 <;> (try dsimp only)))
local macro_rules | `(tactic| walk_at "eval Call Name") => `(tactic| (k_here; (with_reducible show wpAny _ _ (eval (Expr.Call (Expr.Name _ _) _ [] _) _) _ _ _); (fail_if_success (with_reducible show wpAny _ _ (eval (Expr.Call (Expr.Name "range" _) _ _ _) _) _ _ _)); refine Call_ ?_))
local macro_rules | `(tactic| walk_at "MINE lv") => `(tactic| first | assumption | exact lv_num | exact lv_nan | exact lv_over | exact lv_under)
local macro_rules | `(tactic| walk_at "MINE bool") => `(tactic| first | assumption | rfl | (simpa using (by assumption)))
local macro_rules | `(tactic| walk_at "MINE tupc") => `(tactic| first | assumption | exact TupA.cons (by walk_at "MINE tupc"))
local macro_rules | `(tactic| walk_at "MINE tup") => `(tactic| first | assumption | (refine' TupA.topL ?tl ?th; (case tl => kernel_rfl!); (case th => k_is)) | exact TupA.cons (by walk_at "MINE tupc"))
local macro_rules | `(tactic| walk_at "callWith ref") => `(tactic| (k_here; (refine' cw_guard ?cl ?_; (case cl => kernel_rfl!)); k_dflt (refine' callWith_K ?k1 ?k2 ?_; (case k1 => k_asm); (case k2 => k_is); k_whole)))
local macro_rules | `(tactic| walk_at "MINE units") => `(tactic| ktr_units)
local macro_rules | `(tactic| walk_at "compareOp Eq ref ref") => `(tactic| (k_here; (with_reducible show wpAny _ _ (compareOp CmpOp.Eq (Value.ref _) (Value.ref _)) _ _ _); k_dflt (refine' eq4 ?k1 ?k2 ?k3 ?k4 ?k5 ?k6 ?_; (case k1 => k_asm); (case k2 => k_asm); (case k3 => k_asm); (case k4 => walk_at "MINE tup"); (case k5 => walk_at "MINE tup"); (case k6 => walk_at "MINE units"); k_whole)))
local macro_rules | `(tactic| walk_at "compareOp NotEq ref ref") => `(tactic| (k_here; (with_reducible show wpAny _ _ (compareOp CmpOp.NotEq (Value.ref _) (Value.ref _)) _ _ _); k_dflt (refine' ne4 ?k1 ?k2 ?k3 ?k4 ?k5 ?k6 ?_; (case k1 => k_asm); (case k2 => k_asm); (case k3 => k_asm); (case k4 => walk_at "MINE tup"); (case k5 => walk_at "MINE tup"); (case k6 => walk_at "MINE units"); k_whole)))
local macro_rules | `(tactic| walk_at "subscriptTail") => `(tactic| (k_here; (with_reducible show wpAny _ _ (subscriptTail _ _ (Value.ref _) (Value.int 0 _)) _ _ _); k_dflt (refine' sub4_0 ?k1 ?k2 ?k3 ?k4 ?_ ?k6; (case k1 => k_asm); (case k2 => k_asm); (case k3 => k_asm); (case k4 => walk_at "MINE tup"); (case k6 => with_unfolding_all rfl); k_whole); intro t9; (try dsimp only)))
local macro_rules | `(tactic| walk_at "subscriptTail") => `(tactic| (k_here; (with_reducible show wpAny _ _ (subscriptTail _ _ (Value.ref _) (Value.int 1 _)) _ _ _); k_dflt (refine' sub4_1 ?k1 ?k2 ?k3 ?k4 ?_ ?k6; (case k1 => k_asm); (case k2 => k_asm); (case k3 => k_asm); (case k4 => walk_at "MINE tup"); (case k6 => with_unfolding_all rfl); k_whole); intro t9; (try dsimp only)))
local macro_rules | `(tactic| walk_at "MINE endO") => `(tactic| (refine' RXo.use ?mh ?mT ?mF ?mN ?me; (case mh => assumption); (case mF => k_asm); (case mN => walk_at "MINE news"); (case mT => walk_at "MINE tup")))
local macro_rules | `(tactic| walk_at "eval Call Name") => `(tactic| (k_here; (with_reducible show wpAny _ _ (eval (Expr.Call (Expr.Name _ _) _ [] _) _) _ _ _); (fail_if_success (with_reducible show wpAny _ _ (eval (Expr.Call (Expr.Name "range" _) _ _ _) _) _ _ _)); k_dflt (refine Call_ ?_)))
local macro_rules | `(tactic| walk_at "call ref") => `(tactic| ((with_reducible show wpAny _ _ (call (Value.ref 51) _) _ _ _); exfalso; omega))
local macro_rules | `(tactic| walk_at "compareOp In ref ref") => `(tactic| (k_here; (with_reducible show wpAny _ _ (compareOp CmpOp.In (Value.ref _) (Value.ref _)) _ _ _); k_dflt (refine' in4 ?k1 ?k2 ?k3 ?k4 ?k5 ?k6 ?k7 ?k8 ?_; (case k1 => k_asm); (case k2 => k_asm); (case k3 => k_asm); (case k7 => k_mem); (case k4 => walk_at "MINE tup"); (case k5 => walk_at "MINE tup"); (case k6 => walk_at "MINE tup"); (case k8 => walk_at "MINE units"); k_whole)))
local macro_rules | `(tactic| walk_at "MINE allLt") => `(tactic| first | assumption | exact (by assumption : _ ∧ AllLt _ _).2 | exact (by assumption : _ ∧ _ ∧ AllLt _ _).2.2 | exact (by assumption : _ ∧ _ ∧ _ ∧ AllLt _ _).2.2.2 | exact (by assumption : _ ∧ _ ∧ _ ∧ _ ∧ AllLt _ _).2.2.2.2 | exact allLt_of (by assumption))
local macro_rules | `(tactic| k_all) => `(tactic| exact allLt_ne (by walk_at "MINE allLt"))
local macro_rules | `(tactic| walk_at "eval Dict") => `(tactic| (k_here; k_dflt (refine' kdn_eval (knd := PySem.intKind _ _) ?F ?N ?b ?a ?l ?e ?n ?_; (case F => k_asm); (case N => k_asm); (case b => exact Top.nolimit (by k_asm)); (case a => rfl); (case l => rfl); (case e => exact List.cons_ne_nil _ _); (case n => exact Nat.le_of_ble_eq_true rfl)); intro d' h' o' F' N' l1 lo' hd'; (try k_lt l1)))
local macro_rules | `(tactic| walk_at "subscriptTail") => `(tactic| (k_here; (with_reducible show wpAny _ _ (subscriptTail (PySem.Expr.Dict _ _ _) _ (Value.ref _) (Value.int _ _)) _ _ _); k_dflt (refine' dictItem ?k1 ?k2 ?k3 ?k4 ?_ ?k6; (case k1 => k_asm); (case k2 => k_mem); (case k3 => k_asm); (case k4 => walk_at "MINE pm"); (case k6 => with_unfolding_all rfl)); refine ⟨?_, ?_⟩ <;> intro hi9 <;> (try dsimp only)))
local macro_rules | `(tactic| walk_at "MINE no2") => `(tactic| (first | omega | (have q1 := kf_any (by assumption); fail "no2")))

local macro_rules | `(tactic| walk_at "MINE lk") => `(tactic| first | with_reducible exact lk0 | with_reducible exact lk1 (by kernel_rfl!) | with_reducible exact lk2 (by kernel_rfl!) | with_reducible exact lk3 (by kernel_rfl!) | with_reducible exact lk4 (by kernel_rfl!) | with_reducible exact lk5 (by kernel_rfl!) | with_reducible exact lk6 (by kernel_rfl!) | with_reducible exact lk7 (by kernel_rfl!) | with_reducible exact lk8 (by kernel_rfl!) | with_reducible exact lk9 (by kernel_rfl!) | with_reducible exact lk10 (by kernel_rfl!) | with_reducible exact lk11 (by kernel_rfl!) | with_reducible exact lk12 (by kernel_rfl!) | with_reducible exact lk13 (by kernel_rfl!) | with_reducible exact lk14 (by kernel_rfl!) | with_reducible exact lk15 (by kernel_rfl!) | with_reducible exact lk16 (by kernel_rfl!) | with_reducible exact lk17 (by kernel_rfl!) | with_reducible exact lk18 (by kernel_rfl!) | with_reducible exact lk19 (by kernel_rfl!) | with_reducible exact lk20 (by kernel_rfl!) | with_reducible exact lk21 (by kernel_rfl!) | with_reducible exact lk22 (by kernel_rfl!) | with_reducible exact lk23 (by kernel_rfl!) | with_reducible exact lk24 (by kernel_rfl!) | with_reducible exact lk25 (by kernel_rfl!))
local macro_rules | `(tactic| walk_at "eval Name") => `(tactic| (k_here; (with_reducible show wpAny _ _ (eval (Expr.Name _ _) (envOf _ _ _ _ _)) _ _ _); k_dflt (refine' nmK ?F ?X ?T ?e ?l ?k ?d ?_; (case l => kernel_rfl!); (case F => with_reducible assumption); (case X => k_asm); (case T => k_asm); (case k => kernel_rfl!); (case d => kernel_rfl!); (case e => k_is); k_whole)))
local macro_rules | `(tactic| walk_at "eval Name") => `(tactic| (k_here; (with_reducible refine' nmL ?F ?v ?l ?k ?d ?_); (case l => kernel_rfl!); (case F => with_reducible assumption); (case k => kernel_rfl!); (case d => kernel_rfl!); (case v => walk_at "MINE lk"); k_whole))
local macro_rules | `(tactic| walk_at "loadName") => `(tactic| (k_here; (with_reducible refine' nmN ?F ?v ?l ?k ?_); (case l => kernel_rfl!); (case F => with_reducible assumption); (case k => kernel_rfl!); (case v => walk_at "MINE lk"); k_whole))
local macro_rules | `(tactic| walk_at "storeName") => `(tactic| (k_here; (with_reducible refine' stL ?F ?N ?l ?k ?_); (case l => kernel_rfl!); (case F => with_reducible assumption); (case N => with_reducible assumption); (case k => kernel_rfl!); k_whole; intro h' F' N'; (try k_sweep)))
local macro_rules | `(tactic| walk_at "exec If") => `(tactic| (k_here; k_dflt (refine wpAny_If ?_)))
local macro_rules | `(tactic| walk_at "isTrue") => `(tactic| (k_here; k_dflt (refine isTrue_plain ?_)))
local macro_rules | `(tactic| walk_at "assignInOrder") => `(tactic| (k_here; k_dflt (first | refine assignInOrder_cons ?_ | refine assignInOrder_nil ?_)))
local macro_rules | `(tactic| walk_at "exec Assign") => `(tactic| (k_here; (with_reducible show wpAny _ _ (exec (Stmt.Assign [Expr.Name _ _] _ _) _) _ _ _); k_dflt (refine wpAny_Assign_Name ?_)))
local macro_rules | `(tactic| walk_at "exec Assign") => `(tactic| (k_here; (with_reducible show wpAny _ _ (exec (Stmt.Assign [Expr.Tuple _ _ _] (Expr.Name _ _) _) _) _ _ _); k_dflt (refine Assign_Tuple ?_)))
local macro_rules | `(tactic| walk_at "eval BinOp") => `(tactic| (k_here; k_dflt (refine wpAny_BinOp ?_)))
local macro_rules | `(tactic| walk_at "compareOp Eq ref ref") => `(tactic| (k_here; (with_reducible show wpAny _ _ (compareOp CmpOp.Eq (Value.ref _) (Value.ref _)) _ _ _); k_dflt (refine' eq4F ?k1 ?k2 ?k3 ?k4 ?k5 ?k6 ?k7 ?_; (case k1 => k_asm); (case k2 => k_asm); (case k3 => k_asm); (case k4 => walk_at "MINE tup"); (case k5 => walk_at "MINE tup"); (case k7 => with_reducible assumption); (case k6 => walk_at "MINE units"); k_whole)))
local macro_rules | `(tactic| walk_at "MINE endN") => `(tactic| first
  | (refine' RT.new2 (RN.rt ?mh) ?mT ?ml ?mF ?mN not_false ?me; (case mh => assumption); (case mT => assumption); (case ml => assumption); (case mF => k_asm); (case mN => with_reducible assumption))
  | (refine' RT.new (RN.rt ?mh) ?mF ?mN ?mm ?ms ?ml not_false ?me; (case mh => assumption); (case mF => k_asm); (case mN => with_reducible assumption); (case mm => k_mem); (case ms => walk_at "MINE sub"); (case ml => assumption)))
local macro_rules | `(tactic| walk_at "MINE endNs") => `(tactic| (refine' RNs.use ?mh ?mT ?ml ?mF ?mN ?me; (case mh => assumption); (case mT => assumption); (case ml => assumption); (case mF => k_asm); (case mN => with_reducible assumption)))
theorem allLt_ne1 {L : Addr} {k : Nat} {r : Led} (h : AllLt L r) : ∀ p ∈ r, p.1 ≠ L + k := fun p hp => Nat.ne_of_lt (Nat.lt_of_lt_of_le (ktn_ltOf h p hp) (Nat.le_add_right _ _))
local macro_rules | `(tactic| k_all) => `(tactic| exact allLt_ne1 (by walk_at "MINE allLt"))
local macro_rules | `(tactic| k_all) => `(tactic| with_reducible assumption)
local macro_rules | `(tactic| walk_at "MINE ns") => `(tactic| first | exact ns_cell (by assumption) | exact ns_tab)
local macro_rules | `(tactic| walk_at "eval Name") => `(tactic| (k_here; (with_reducible show wpAny _ _ (eval (Expr.Name _ _) (envX _ _ _ _ _ _)) _ _ _); with_reducible (refine' nmXF ?N ?c ?m ?d ?l ?k ?b ?n ?_; (case l => kernel_rfl!); (case N => assumption); (case k => kernel_rfl!); (case b => kernel_rfl!); (case n => kernel_rfl!); (case c => walk_at "MINE lkA"); (case m => k_mem); (case d => k_asm)); k_whole))
local macro_rules | `(tactic| walk_at "eval Name") => `(tactic| (k_here; (with_reducible show wpAny _ _ (eval (Expr.Name _ _) (envX _ _ _ _ _ _)) _ _ _); with_reducible (refine' nmXC ?N ?c ?m ?d ?l ?k ?b ?_; (case l => kernel_rfl!); (case N => assumption); (case k => kernel_rfl!); (case b => kernel_rfl!); (case c => walk_at "MINE lkA"); (case m => k_mem); (case d => k_asm)); k_whole))
local macro_rules | `(tactic| walk_at "eval Name") => `(tactic| (k_here; (with_reducible show wpAny _ _ (eval (Expr.Name _ _) (envX _ _ _ _ _ _)) _ _ _); k_dflt (refine' nmXK ?F ?X ?T ?e ?l ?k ?d ?_; (case l => kernel_rfl!); (case F => with_reducible assumption); (case X => k_asm); (case T => k_asm); (case k => kernel_rfl!); (case d => kernel_rfl!); (case e => k_is); k_whole)))
local macro_rules | `(tactic| walk_at "eval Name") => `(tactic| (k_here; (with_reducible show wpAny _ _ (eval (Expr.Name _ _) (envX _ _ _ _ _ _)) _ _ _); (with_reducible refine' nmXL ?F ?v ?l ?k ?d ?_); (case l => kernel_rfl!); (case F => with_reducible assumption); (case k => kernel_rfl!); (case d => kernel_rfl!); (case v => walk_at "MINE lk"); k_whole))
local macro_rules | `(tactic| walk_at "storeName") => `(tactic| (k_here; (with_reducible show wpAny _ _ (storeName (envX _ _ _ _ _ _) _ _) _ _ _); (with_reducible refine' stXL ?F ?N ?l ?k ?_); (case l => kernel_rfl!); (case F => with_reducible assumption); (case N => with_reducible assumption); (case k => kernel_rfl!); k_whole; intro h' F' N'; (try k_sweep)))
local macro_rules | `(tactic| walk_at "MINE lkA") => `(tactic| first | with_reducible exact alk0 | with_reducible exact alk1 (by kernel_rfl!) | with_reducible exact alk2 (by kernel_rfl!) | with_reducible exact alk3 (by kernel_rfl!))
local macro_rules | `(tactic| walk_at "leaving ref") => `(tactic| (k_here; (with_reducible show wpAny _ _ (leaving (envX _ _ _ _ _ _) _) _ _ _); (refine' leave_onNX ?k1 ?k2 ?k3 ?k4 ?_; (case k3 => assumption); (case k1 => assumption); (case k4 => assumption); (case k2 => assumption); k_whole; intro h' R' U'; (try dsimp only at R' U' ⊢))))
local macro_rules | `(tactic| walk_at "compareOp Eq ref ref") => `(tactic| (k_here; (with_reducible show wpAny _ _ (compareOp CmpOp.Eq (Value.ref _) (Value.ref _)) _ _ _); k_dflt (refine' eqS2 ?k1 ?k2 ?k3 ?k4 ?k5 ?k6 ?_; (case k1 => k_asm); (case k2 => k_mem); (case k3 => k_mem); (case k4 => walk_at "MINE units"); (case k5 => kernel_rfl!); (case k6 => exact rfl); k_whole)))
local macro_rules | `(tactic| walk_at "exec Raise some none") => `(tactic| (k_here; (with_reducible show wpAny _ _ (exec (Stmt.Raise (some (Expr.Name _ _)) none _) _) _ _ _); (with_reducible rename Fr _ _ _ _ => kF); k_dflt (refine' Raise_classB ?hh excClass_ZeroDivisionError ?hs ?hx ?_; (case hh => rfl); (case hs => rw [isSubtype_type]; kernel_rfl!); (case hx => (refine' name_B kF ?k1 ?k2 ?k3 ?k4 ?k5 ?_; (case k1 => k_asm); (case k2 => k_asm); (case k3 => k_is); (case k4 => boot_by_name); (case k5 => decide); exact ⟨rfl, rfl⟩)); k_whole); intro _ _ _))

/-! part C1 -/
section PartC1
local macro_rules | `(tactic| walk_at "MINE endT0") => `(tactic| first
  | (refine' RT0.new2 ?mh ?mT ?ml ?mF ?mN ?mo ?me; (case mh => assumption); (case mT => assumption); (case ml => assumption); (case mF => k_asm); (case mN => assumption))
  | (refine' RT0.new ?mh ?mF ?mN ?mm ?ms ?ml ?mo ?me; (case mh => assumption); (case mF => k_asm); (case mN => assumption); (case mm => k_mem); (case ms => walk_at "MINE sub"); (case ml => assumption))
  | (refine' RT0.old ?mh ?mT ?mF ?mN ?mo ?me; (case mh => assumption); (case mF => k_asm); (case mN => walk_at "MINE news"); (case mT => first | assumption | exact TupA.top (by k_is))))
set_option maxHeartbeats 8000000 in
theorem c_trailing {w : World} {news : Led} {n : Int} {t : Tok} (h0 : 0 < n) (h1 : n < 1000000) : Ctr w 2 21 news [.int n t] (RIf news (tz n) (0 ≤ tz n ∧ tz n ≤ 19)) := by
  (unfold Ctr; intro p loose mean mg mb dp un gd cn cs ca ccd cl outer A₀ base h₀ L mm st Q E B F X N T hk0 hd0 hu0 hret; refine wpAny_call ?_; k_dflt (refine' code_defZ [Str.ofString "n"] [] ?k1 ?k2 ?k3 ?k4 ?k5 ?kA ?kF ?kK ?k6 ?k7 ?k8 ?k9 ?kB ?_ ?c2 ?c3 ?c4 ?c5; (case kA => exact rfl); (case kF => exact rfl); (case kK => assumption); (case k1 => k_asm); (case k2 => k_asm); (case k3 => k_asm); (case k4 => k_asm); (case k5 => k_asm); (case k6 => k_is); (case k7 => k_is); (case k8 => first | exact Nat.le_of_ble_eq_true rfl | ktr_room); (case k9 => first | exact BindsTo.of_eq rfl | exact binds_K (by k_in) rfl (by k_is) rfl rfl rfl); (case c5 => decide); (case kB => decide +kernel); (case c2 => exact rfl); (case c3 => exact rfl); (case c4 => exact rfl); k_whole); intro g' L' h' FG' F' N' B' X' T'; (try k_lift B'); dsimp only [List.nil_append, List.cons_append, List.append_nil, List.zip, List.zipWith, List.reverse, List.reverseAux] at F'; (try dsimp only); (try k_fold))
  k_steps
  all_goals (refine RIf.use (by assumption) (tz_bound h0 h1) ?_ (by k_asm) (by k_asm); unfold tz)
  · rw [if_neg (by assumption)]
  · rw [if_pos (by assumption)]
local macro_rules | `(tactic| walk_at "call ref") => `(tactic| (k_here; (with_reducible show wpAny _ _ (call (Value.ref 21) _) _ _ _); k_dflt (refine' Ctr.use (c_trailing ?a0 ?a1) ?k1 ?k2 ?k3 ?k4 ?k5 ?kK ?kd ?ku ?_; (case k1 => k_asm); (case k2 => k_asm); (case k3 => k_asm); (case k4 => k_asm); (case k5 => k_asm); (case a0 => omega); (case a1 => omega); (case kK => first | exact rfl | assumption); (case kd => first | exact Nat.le_of_ble_eq_true rfl | ktr_room); (case ku => first | exact Nat.le_of_ble_eq_true rfl | ktr_units)); intro t9 h9 tk9 hx9 F9 N9; (try dsimp only); (try k_fold)))

set_option maxHeartbeats 8000000 in
theorem c_fme0 {w : World} {news : Led} {man exp : Int} {t t' : Tok} (h0 : -512 < man) (h1 : man < 512) (h2 : -1000 < exp) (h3 : exp < 1000) :
    Ctr w 4 59 news [.int man t, .int exp t'] (RT0 w news (man = 0) (qS man) (qM man) (qE man exp) (qB man)) := by
  (unfold Ctr; intro p loose mean mg mb dp un gd cn cs ca ccd cl outer A₀ base h₀ L mm st Q E B F X N T hk0 hd0 hu0 hret; refine wpAny_call ?_; k_dflt (refine' code_defZ [Str.ofString "man", Str.ofString "exp", Str.ofString "prec", Str.ofString "rnd"] [Value.int 0 284, Value.str (Str.ofString "d") 210] ?k1 ?k2 ?k3 ?k4 ?k5 ?kA ?kF ?kK ?k6 ?k7 ?k8 ?k9 ?kB ?_ ?c2 ?c3 ?c4 ?c5; (case kA => exact rfl); (case kF => exact rfl); (case kK => assumption); (case k1 => k_asm); (case k2 => k_asm); (case k3 => k_asm); (case k4 => k_asm); (case k5 => k_asm); (case k6 => k_is); (case k7 => k_is); (case k8 => first | exact Nat.le_of_ble_eq_true rfl | ktr_room); (case k9 => first | exact BindsTo.of_eq rfl | exact binds_K (by k_in) rfl (by k_is) rfl rfl rfl); (case c5 => decide); (case kB => decide +kernel); (case c2 => exact rfl); (case c3 => exact rfl); (case c4 => exact rfl); k_whole); intro g' L' h' FG' F' N' B' X' T'; (try k_lift B'); dsimp only [List.nil_append, List.cons_append, List.append_nil, List.zip, List.zipWith, List.reverse, List.reverseAux] at F'; (try dsimp only); (try k_fold))
  k_steps
  all_goals walk_at "MINE endT0"
  all_goals first
    | omega
    | exact ⟨by unfold qS; split <;> omega, q_odd (by unfold aI; split <;> omega) (by assumption) (by omega) (by assumption)⟩
    | exact ⟨by unfold qS; split <;> omega, q_two (by unfold aI; split <;> omega) (by assumption) (by omega) (by assumption) (by assumption)⟩
    | exact ⟨by unfold qS; split <;> omega, q_more (by unfold aI; split <;> omega) (by assumption)⟩
    | (have hz9 : man = 0 := by omega
       subst hz9
       exact ⟨q_zero.1.symm, q_zero.2.1.symm, (q_zero.2.2.1 _).symm, q_zero.2.2.2.symm⟩)
theorem c_fme {w : World} {news : Led} {man exp : Int} {t t' : Tok} (h0 : -512 < man) (h1 : man < 512) (h2 : -1000 < exp) (h3 : exp < 1000) :
    Ctr w 4 59 news [.int man t, .int exp t'] (RT w news (man = 0) (qS man) (qM man) (qE man exp) (qB man)) := (c_fme0 h0 h1 h2 h3).of0

end PartC1
/-! part C2 -/
section PartC2
local macro_rules | `(tactic| walk_at "call ref") => `(tactic| (k_here; (with_reducible show wpAny _ _ (call (Value.ref 21) _) _ _ _); k_dflt (refine' Ctr.use (c_trailing ?a0 ?a1) ?k1 ?k2 ?k3 ?k4 ?k5 ?kK ?kd ?ku ?_; (case k1 => k_asm); (case k2 => k_asm); (case k3 => k_asm); (case k4 => k_asm); (case k5 => k_asm); (case a0 => omega); (case a1 => omega); (case kK => first | exact rfl | assumption); (case kd => first | exact Nat.le_of_ble_eq_true rfl | ktr_room); (case ku => first | exact Nat.le_of_ble_eq_true rfl | ktr_units)); intro t9 h9 tk9 hx9 F9 N9; (try dsimp only); (try k_fold)))
local macro_rules | `(tactic| walk_at "call ref") => `(tactic| (k_here; (with_reducible show wpAny _ _ (call (Value.ref 59) _) _ _ _); k_dflt (refine' Ctr.use (c_fme0 ?a0 ?a1 ?a2 ?a3) ?k1 ?k2 ?k3 ?k4 ?k5 ?kK ?kd ?ku ?_; (case k1 => k_asm); (case k2 => k_asm); (case k3 => k_asm); (case k4 => k_asm); (case k5 => k_asm); (case a0 => omega); (case a1 => omega); (case a2 => omega); (case a3 => omega); (case kK => first | exact rfl | assumption); (case kd => first | exact Nat.le_of_ble_eq_true rfl | ktr_room); (case ku => first | exact Nat.le_of_ble_eq_true rfl | ktr_units)); (refine ⟨?_, ?_⟩) <;> (first | (intro ho9 D9 o9 h9 tk9 T9 l9 F9 N9; (try k_lt l9)) | intro ho9 a9 h9 tk9 T9 F9 N9) <;> (try dsimp only) <;> (try k_fold)))

local macro_rules | `(tactic| walk_at "PAD 1") => `(tactic| skip)
set_option maxHeartbeats 8000000 in
theorem c_number {w : World} {news : Led} {l : Addr} {vs : List Value} {ns : List Int} {a : Int} {t : Tok} (hm : (l, PySem.W.listOf vs.toArray 0) ∈ news) (hi : IntsAre vs ns) (hl : ns.length ≤ 63) (h0 : 0 ≤ a) (h1 : a < 1000) :
    Ctr w 4 209 news [.ref l, .int a t] (RI news (numAt ns a)) := by
  (unfold Ctr; intro p loose mean mg mb dp un gd cn cs ca ccd cl outer A₀ base h₀ L mm st Q E B F X N T hk0 hd0 hu0 hret; refine wpAny_call ?_; k_dflt (refine' code_defZ [Str.ofString "script", Str.ofString "at"] [] ?k1 ?k2 ?k3 ?k4 ?k5 ?kA ?kF ?kK ?k6 ?k7 ?k8 ?k9 ?kB ?_ ?c2 ?c3 ?c4 ?c5; (case kA => exact rfl); (case kF => exact rfl); (case kK => assumption); (case k1 => k_asm); (case k2 => k_asm); (case k3 => k_asm); (case k4 => k_asm); (case k5 => k_asm); (case k6 => k_is); (case k7 => k_is); (case k8 => first | exact Nat.le_of_ble_eq_true rfl | ktr_room); (case k9 => first | exact BindsTo.of_eq rfl | exact binds_K (by k_in) rfl (by k_is) rfl rfl rfl); (case c5 => decide); (case kB => decide +kernel); (case c2 => exact rfl); (case c3 => exact rfl); (case c4 => exact rfl); k_whole); intro g' L' h' FG' F' N' B' X' T'; (try k_lift B'); dsimp only [List.nil_append, List.cons_append, List.append_nil, List.zip, List.zipWith, List.reverse, List.reverseAux] at F'; (try dsimp only); (try k_fold))
  k_steps
  all_goals (walk_at "MINE end"; unfold numAt)
  all_goals first | rw [if_pos (by assumption)] | rw [if_neg (by assumption)]
local macro_rules | `(tactic| walk_at "call ref") => `(tactic| (k_here; (with_reducible show wpAny _ _ (call (Value.ref 209) _) _ _ _); k_dflt (refine' Ctr.use (c_number ?a0 ?a1 ?a2 ?a3 ?a4) ?k1 ?k2 ?k3 ?k4 ?k5 ?kK ?kd ?ku ?_; (case k1 => k_asm); (case k2 => k_asm); (case k3 => k_asm); (case k4 => k_asm); (case k5 => k_asm); (case a0 => k_mem); (case a1 => assumption); (case a2 => assumption); (case a3 => omega); (case a4 => omega); (case kK => first | exact rfl | assumption); (case kd => first | exact Nat.le_of_ble_eq_true rfl | ktr_room); (case ku => first | exact Nat.le_of_ble_eq_true rfl | ktr_units)); intro t9 h9 tk9 F9 N9; (try dsimp only); (try k_fold)))

set_option maxHeartbeats 8000000 in
theorem c_drawn {w : World} {news : Led} {l : Addr} {vs : List Value} {ns : List Int} {a : Int} {t : Tok} (hm : (l, PySem.W.listOf vs.toArray 0) ∈ news) (hi : IntsAre vs ns) (hl : ns.length ≤ 63) (h0 : 0 ≤ a) (h1 : a < 1000) :
    Ctr w 6 216 news [.ref l, .int a t] (RV news (drawL (numAt ns a))) := by
  (unfold Ctr; intro p loose mean mg mb dp un gd cn cs ca ccd cl outer A₀ base h₀ L mm st Q E B F X N T hk0 hd0 hu0 hret; refine wpAny_call ?_; k_dflt (refine' code_defZ [Str.ofString "script", Str.ofString "at"] [] ?k1 ?k2 ?k3 ?k4 ?k5 ?kA ?kF ?kK ?k6 ?k7 ?k8 ?k9 ?kB ?_ ?c2 ?c3 ?c4 ?c5; (case kA => exact rfl); (case kF => exact rfl); (case kK => assumption); (case k1 => k_asm); (case k2 => k_asm); (case k3 => k_asm); (case k4 => k_asm); (case k5 => k_asm); (case k6 => k_is); (case k7 => k_is); (case k8 => first | exact Nat.le_of_ble_eq_true rfl | ktr_room); (case k9 => first | exact BindsTo.of_eq rfl | exact binds_K (by k_in) rfl (by k_is) rfl rfl rfl); (case c5 => decide); (case kB => decide +kernel); (case c2 => exact rfl); (case c3 => exact rfl); (case c4 => exact rfl); k_whole); intro g' L' h' FG' F' N' B' X' T'; (try k_lift B'); dsimp only [List.nil_append, List.cons_append, List.append_nil, List.zip, List.zipWith, List.reverse, List.reverseAux] at F'; (try dsimp only); (try k_fold))
  k_steps
  all_goals first | walk_at "MINE endV"
  all_goals
    unfold drawL
    first
    | (rw [if_pos (by assumption), if_pos (by assumption)]; done)
    | (rw [if_pos (by assumption), if_neg (by omega), if_pos (by assumption)]; done)
    | (rw [if_pos (by assumption), if_neg (by omega), if_neg (by omega)]; done)
    | (rw [if_neg (by assumption), if_pos (by assumption)]; done)
    | (rw [if_neg (by assumption), if_neg (by assumption)]; first | done | (congr 1; omega))

local macro_rules | `(tactic| walk_at "MINE endT0") => `(tactic| first
  | (refine' RT0.new2 ?mh ?mT ?ml ?mF ?mN ?mo ?me; (case mh => assumption); (case mT => assumption); (case ml => assumption); (case mF => k_asm); (case mN => assumption))
  | (refine' RT0.old ?mh ?mT ?mF ?mN ?mo ?me; (case mh => assumption); (case mF => k_asm); (case mN => walk_at "MINE news"); (case mT => first | assumption | exact TupA.top (by k_is))))
set_option maxHeartbeats 8000000 in
theorem c_made0 {w : World} {news : Led} {v : Value} {x : LX} (hv : LV v x) (hs : x.small) : Ctr w 6 223 news [v] (RX0 w news x) := by
  rcases x with _ | _ | _ | n <;> obtain ⟨t, rfl⟩ := hv
  all_goals
    (try (have hs9 : -512 < n ∧ n < 512 := hs))
    (unfold Ctr; intro p loose mean mg mb dp un gd cn cs ca ccd cl outer A₀ base h₀ L mm st Q E B F X N T hk0 hd0 hu0 hret; refine wpAny_call ?_; k_dflt (refine' code_defZ [Str.ofString "value"] [] ?k1 ?k2 ?k3 ?k4 ?k5 ?kA ?kF ?kK ?k6 ?k7 ?k8 ?k9 ?kB ?_ ?c2 ?c3 ?c4 ?c5; (case kA => exact rfl); (case kF => exact rfl); (case kK => assumption); (case k1 => k_asm); (case k2 => k_asm); (case k3 => k_asm); (case k4 => k_asm); (case k5 => k_asm); (case k6 => k_is); (case k7 => k_is); (case k8 => first | exact Nat.le_of_ble_eq_true rfl | ktr_room); (case k9 => first | exact BindsTo.of_eq rfl | exact binds_K (by k_in) rfl (by k_is) rfl rfl rfl); (case c5 => decide); (case kB => decide +kernel); (case c2 => exact rfl); (case c3 => exact rfl); (case c4 => exact rfl); k_whole); intro g' L' h' FG' F' N' B' X' T'; (try k_lift B'); dsimp only [List.nil_append, List.cons_append, List.append_nil, List.zip, List.zipWith, List.reverse, List.reverseAux] at F'; (try dsimp only); (try k_fold))
    k_steps
  all_goals first | walk_at "MINE endT0"
  all_goals
    first
    | exact trivial
    | exact ⟨rfl, rfl, rfl, rfl⟩
    | assumption
theorem c_made {w : World} {news : Led} {v : Value} {x : LX} (hv : LV v x) (hs : x.small) : Ctr w 6 223 news [v] (RX w news x) := (c_made0 hv hs).of0

end PartC2
/-! part C3 -/
section PartC3
section
variable {prog : Program} {w : World} {A : Around} {E : Value → Shared → Prop} {st : Shared} {Q : Value → Shared → Prop} {x y : LX} {v v' : Value} {t : Tok}
set_option maxHeartbeats 4000000 in
theorem lv_eq_nan (hv : LV v x) (h : Q (.bool x.isNan) st) : wpAny (model prog w) A (compareOp .Eq v (.str (Str.ofString "nan") t)) Q E st := by
  rcases x with _ | _ | _ | n <;> obtain ⟨t', rfl⟩ := hv
  all_goals walk1
  all_goals first | exact h
set_option maxHeartbeats 4000000 in
theorem lv_eq_over (hv : LV v x) (h : Q (.bool x.isOver) st) : wpAny (model prog w) A (compareOp .Eq v (.str (Str.ofString "over") t)) Q E st := by
  rcases x with _ | _ | _ | n <;> obtain ⟨t', rfl⟩ := hv
  all_goals walk1
  all_goals first | exact h
set_option maxHeartbeats 4000000 in
theorem lv_eq_under (hv : LV v x) (h : Q (.bool x.isUnder) st) : wpAny (model prog w) A (compareOp .Eq v (.str (Str.ofString "under") t)) Q E st := by
  rcases x with _ | _ | _ | n <;> obtain ⟨t', rfl⟩ := hv
  all_goals walk1
  all_goals first | exact h
set_option maxHeartbeats 4000000 in
theorem lv_eq_zero (hv : LV v x) (h : Q (.bool x.isZero) st) : wpAny (model prog w) A (compareOp .Eq v (.int 0 t)) Q E st := by
  rcases x with _ | _ | _ | n <;> obtain ⟨t', rfl⟩ := hv
  all_goals walk1
  all_goals first | exact h
set_option maxHeartbeats 4000000 in
theorem lv_eq (hv : LV v x) (hv' : LV v' y) (h : Q (.bool (eqL x y)) st) : wpAny (model prog w) A (compareOp .Eq v v') Q E st := by
  rcases x with _ | _ | _ | n <;> obtain ⟨t', rfl⟩ := hv <;> rcases y with _ | _ | _ | n' <;> obtain ⟨t'', rfl⟩ := hv'
  all_goals walk1
  all_goals first | exact h
end
local macro_rules | `(tactic| walk_at "compareOp Eq str") => `(tactic| (k_here; (with_reducible show wpAny _ _ (compareOp CmpOp.Eq _ (Value.str (Str.ofString "nan") _)) _ _ _); (with_reducible refine lv_eq_nan (by assumption) ?_)))
local macro_rules | `(tactic| walk_at "compareOp Eq str") => `(tactic| (k_here; (with_reducible show wpAny _ _ (compareOp CmpOp.Eq _ (Value.str (Str.ofString "over") _)) _ _ _); (with_reducible refine lv_eq_over (by assumption) ?_)))
local macro_rules | `(tactic| walk_at "compareOp Eq str") => `(tactic| (k_here; (with_reducible show wpAny _ _ (compareOp CmpOp.Eq _ (Value.str (Str.ofString "under") _)) _ _ _); (with_reducible refine lv_eq_under (by assumption) ?_)))
local macro_rules | `(tactic| walk_at "compareOp Eq int") => `(tactic| (k_here; (with_reducible show wpAny _ _ (compareOp CmpOp.Eq _ (Value.int 0 _)) _ _ _); (with_reducible refine lv_eq_zero (by assumption) ?_)))
local macro_rules | `(tactic| walk_at "compareOp Eq") => `(tactic| (k_here; (with_reducible show wpAny _ _ (compareOp CmpOp.Eq _ _) _ _ _); (with_reducible refine lv_eq (by assumption) (by assumption) ?_)))
set_option maxHeartbeats 8000000 in
theorem c_side {w : World} {news : Led} {v : Value} {x : LX} (hv : LV v x) (hs : x.isNan = false) : Ctr w 3 230 news [v] (RIf news x.side (-1 ≤ x.side ∧ x.side ≤ 1)) := by
  rcases x with _ | _ | _ | n
  · cases hs
  all_goals
    obtain ⟨t, rfl⟩ := hv
    (unfold Ctr; intro p loose mean mg mb dp un gd cn cs ca ccd cl outer A₀ base h₀ L mm st Q E B F X N T hk0 hd0 hu0 hret; refine wpAny_call ?_; k_dflt (refine' code_defZ [Str.ofString "value"] [] ?k1 ?k2 ?k3 ?k4 ?k5 ?kA ?kF ?kK ?k6 ?k7 ?k8 ?k9 ?kB ?_ ?c2 ?c3 ?c4 ?c5; (case kA => exact rfl); (case kF => exact rfl); (case kK => assumption); (case k1 => k_asm); (case k2 => k_asm); (case k3 => k_asm); (case k4 => k_asm); (case k5 => k_asm); (case k6 => k_is); (case k7 => k_is); (case k8 => first | exact Nat.le_of_ble_eq_true rfl | ktr_room); (case k9 => first | exact BindsTo.of_eq rfl | exact binds_K (by k_in) rfl (by k_is) rfl rfl rfl); (case c5 => decide); (case kB => decide +kernel); (case c2 => exact rfl); (case c3 => exact rfl); (case c4 => exact rfl); k_whole); intro g' L' h' FG' F' N' B' X' T'; (try k_lift B'); dsimp only [List.nil_append, List.cons_append, List.append_nil, List.zip, List.zipWith, List.reverse, List.reverseAux] at F'; (try dsimp only); (try k_fold))
    k_steps
  all_goals first | refine RIf.use (by assumption) (side_bound _) ?_ (by k_asm) (by k_asm)
  all_goals first | rfl | (simp only [LX.side, sgnI]; split <;> first | omega | (split <;> omega))
local macro_rules | `(tactic| walk_at "call ref") => `(tactic| (k_here; (with_reducible show wpAny _ _ (call (Value.ref 230) _) _ _ _); k_dflt (refine' Ctr.use (c_side ?a0 ?a1) ?k1 ?k2 ?k3 ?k4 ?k5 ?kK ?kd ?ku ?_; (case k1 => k_asm); (case k2 => k_asm); (case k3 => k_asm); (case k4 => k_asm); (case k5 => k_asm); (case a0 => walk_at "MINE lv"); (case a1 => walk_at "MINE bool"); (case kK => first | exact rfl | assumption); (case kd => first | exact Nat.le_of_ble_eq_true rfl | ktr_room); (case ku => first | exact Nat.le_of_ble_eq_true rfl | ktr_units)); intro t9 h9 tk9 hx9 F9 N9; (try dsimp only); (try k_fold)))

set_option maxHeartbeats 8000000 in
theorem c_wide {w : World} {news : Led} {v : Value} {x : LX} (hv : LV v x) : Ctr w 3 237 news [v] (RB news x.wide) := by
  (unfold Ctr; intro p loose mean mg mb dp un gd cn cs ca ccd cl outer A₀ base h₀ L mm st Q E B F X N T hk0 hd0 hu0 hret; refine wpAny_call ?_; k_dflt (refine' code_defZ [Str.ofString "value"] [] ?k1 ?k2 ?k3 ?k4 ?k5 ?kA ?kF ?kK ?k6 ?k7 ?k8 ?k9 ?kB ?_ ?c2 ?c3 ?c4 ?c5; (case kA => exact rfl); (case kF => exact rfl); (case kK => assumption); (case k1 => k_asm); (case k2 => k_asm); (case k3 => k_asm); (case k4 => k_asm); (case k5 => k_asm); (case k6 => k_is); (case k7 => k_is); (case k8 => first | exact Nat.le_of_ble_eq_true rfl | ktr_room); (case k9 => first | exact BindsTo.of_eq rfl | exact binds_K (by k_in) rfl (by k_is) rfl rfl rfl); (case c5 => decide); (case kB => decide +kernel); (case c2 => exact rfl); (case c3 => exact rfl); (case c4 => exact rfl); k_whole); intro g' L' h' FG' F' N' B' X' T'; (try k_lift B'); dsimp only [List.nil_append, List.cons_append, List.append_nil, List.zip, List.zipWith, List.reverse, List.reverseAux] at F'; (try dsimp only); (try k_fold))
  k_steps
  all_goals first | walk_at "MINE end"
  all_goals first | (cases x <;> simp_all [LX.wide, LX.isOver, LX.isUnder]; done)
local macro_rules | `(tactic| walk_at "call ref") => `(tactic| (k_here; (with_reducible show wpAny _ _ (call (Value.ref 237) _) _ _ _); k_dflt (refine' Ctr.use (c_wide ?a0) ?k1 ?k2 ?k3 ?k4 ?k5 ?kK ?kd ?ku ?_; (case k1 => k_asm); (case k2 => k_asm); (case k3 => k_asm); (case k4 => k_asm); (case k5 => k_asm); (case a0 => walk_at "MINE lv"); (case kK => first | exact rfl | assumption); (case kd => first | exact Nat.le_of_ble_eq_true rfl | ktr_room); (case ku => first | exact Nat.le_of_ble_eq_true rfl | ktr_units)); intro h9 tk9 F9 N9; (try dsimp only); (try k_fold)))

set_option maxHeartbeats 8000000 in
theorem c_inf {w : World} {news : Led} {n : Int} {t : Tok} : Ctr w 3 244 news [.int n t] (RV news (infL n)) := by
  (unfold Ctr; intro p loose mean mg mb dp un gd cn cs ca ccd cl outer A₀ base h₀ L mm st Q E B F X N T hk0 hd0 hu0 hret; refine wpAny_call ?_; k_dflt (refine' code_defZ [Str.ofString "side"] [] ?k1 ?k2 ?k3 ?k4 ?k5 ?kA ?kF ?kK ?k6 ?k7 ?k8 ?k9 ?kB ?_ ?c2 ?c3 ?c4 ?c5; (case kA => exact rfl); (case kF => exact rfl); (case kK => assumption); (case k1 => k_asm); (case k2 => k_asm); (case k3 => k_asm); (case k4 => k_asm); (case k5 => k_asm); (case k6 => k_is); (case k7 => k_is); (case k8 => first | exact Nat.le_of_ble_eq_true rfl | ktr_room); (case k9 => first | exact BindsTo.of_eq rfl | exact binds_K (by k_in) rfl (by k_is) rfl rfl rfl); (case c5 => decide); (case kB => decide +kernel); (case c2 => exact rfl); (case c3 => exact rfl); (case c4 => exact rfl); k_whole); intro g' L' h' FG' F' N' B' X' T'; (try k_lift B'); dsimp only [List.nil_append, List.cons_append, List.append_nil, List.zip, List.zipWith, List.reverse, List.reverseAux] at F'; (try dsimp only); (try k_fold))
  k_steps
  all_goals first | walk_at "MINE endV"
  all_goals unfold infL; first | rw [if_pos (by assumption)] | rw [if_neg (by omega)]
local macro_rules | `(tactic| walk_at "call ref") => `(tactic| (k_here; (with_reducible show wpAny _ _ (call (Value.ref 244) _) _ _ _); k_dflt (refine' Ctr.use (c_inf ) ?k1 ?k2 ?k3 ?k4 ?k5 ?kK ?kd ?ku ?_; (case k1 => k_asm); (case k2 => k_asm); (case k3 => k_asm); (case k4 => k_asm); (case k5 => k_asm); (case kK => first | exact rfl | assumption); (case kd => first | exact Nat.le_of_ble_eq_true rfl | ktr_room); (case ku => first | exact Nat.le_of_ble_eq_true rfl | ktr_units)); intro v9 h9 tk9 hv9 F9 N9; (try dsimp only); (try k_fold)))

set_option maxHeartbeats 8000000 in
theorem c_neg {w : World} {news : Led} {v : Value} {x : LX} (hv : LV v x) : Ctr w 5 251 news [v] (RV news (negL x)) := by
  by_cases hn : x.isNan = true ∨ x.wide = true
  · (unfold Ctr; intro p loose mean mg mb dp un gd cn cs ca ccd cl outer A₀ base h₀ L mm st Q E B F X N T hk0 hd0 hu0 hret; refine wpAny_call ?_; k_dflt (refine' code_defZ [Str.ofString "value"] [] ?k1 ?k2 ?k3 ?k4 ?k5 ?kA ?kF ?kK ?k6 ?k7 ?k8 ?k9 ?kB ?_ ?c2 ?c3 ?c4 ?c5; (case kA => exact rfl); (case kF => exact rfl); (case kK => assumption); (case k1 => k_asm); (case k2 => k_asm); (case k3 => k_asm); (case k4 => k_asm); (case k5 => k_asm); (case k6 => k_is); (case k7 => k_is); (case k8 => first | exact Nat.le_of_ble_eq_true rfl | ktr_room); (case k9 => first | exact BindsTo.of_eq rfl | exact binds_K (by k_in) rfl (by k_is) rfl rfl rfl); (case c5 => decide); (case kB => decide +kernel); (case c2 => exact rfl); (case c3 => exact rfl); (case c4 => exact rfl); k_whole); intro g' L' h' FG' F' N' B' X' T'; (try k_lift B'); dsimp only [List.nil_append, List.cons_append, List.append_nil, List.zip, List.zipWith, List.reverse, List.reverseAux] at F'; (try dsimp only); (try k_fold))
    k_steps
    all_goals first | (exact absurd hn (by rw [(by assumption : x.isNan = false), (by assumption : x.wide = false)]; decide)) | walk_at "MINE endV"
    all_goals first | (cases x <;> simp_all [LX.isNan, LX.wide, negL, infL, LX.side]; done)
  · rcases x with _ | _ | _ | n
    · exact absurd (Or.inl rfl) hn
    · exact absurd (Or.inr rfl) hn
    · exact absurd (Or.inr rfl) hn
    obtain ⟨t, rfl⟩ := hv
    (unfold Ctr; intro p loose mean mg mb dp un gd cn cs ca ccd cl outer A₀ base h₀ L mm st Q E B F X N T hk0 hd0 hu0 hret; refine wpAny_call ?_; k_dflt (refine' code_defZ [Str.ofString "value"] [] ?k1 ?k2 ?k3 ?k4 ?k5 ?kA ?kF ?kK ?k6 ?k7 ?k8 ?k9 ?kB ?_ ?c2 ?c3 ?c4 ?c5; (case kA => exact rfl); (case kF => exact rfl); (case kK => assumption); (case k1 => k_asm); (case k2 => k_asm); (case k3 => k_asm); (case k4 => k_asm); (case k5 => k_asm); (case k6 => k_is); (case k7 => k_is); (case k8 => first | exact Nat.le_of_ble_eq_true rfl | ktr_room); (case k9 => first | exact BindsTo.of_eq rfl | exact binds_K (by k_in) rfl (by k_is) rfl rfl rfl); (case c5 => decide); (case kB => decide +kernel); (case c2 => exact rfl); (case c3 => exact rfl); (case c4 => exact rfl); k_whole); intro g' L' h' FG' F' N' B' X' T'; (try k_lift B'); dsimp only [List.nil_append, List.cons_append, List.append_nil, List.zip, List.zipWith, List.reverse, List.reverseAux] at F'; (try dsimp only); (try k_fold))
    k_steps
    all_goals first | walk_at "MINE endV"
    all_goals first | rfl | exact absurd (by assumption : (LX.num n).wide = true) (by simp [LX.wide])
local macro_rules | `(tactic| walk_at "call ref") => `(tactic| (k_here; (with_reducible show wpAny _ _ (call (Value.ref 251) _) _ _ _); k_dflt (refine' Ctr.use (c_neg ?a0) ?k1 ?k2 ?k3 ?k4 ?k5 ?kK ?kd ?ku ?_; (case k1 => k_asm); (case k2 => k_asm); (case k3 => k_asm); (case k4 => k_asm); (case k5 => k_asm); (case a0 => walk_at "MINE lv"); (case kK => first | exact rfl | assumption); (case kd => first | exact Nat.le_of_ble_eq_true rfl | ktr_room); (case ku => first | exact Nat.le_of_ble_eq_true rfl | ktr_units)); intro v9 h9 tk9 hv9 F9 N9; (try dsimp only); (try k_fold)))

set_option maxHeartbeats 8000000 in
theorem c_sum {w : World} {news : Led} {v v' : Value} {x y : LX} (hv : LV v x) (hv' : LV v' y) : Ctr w 5 258 news [v, v'] (RV news (sumL x y)) := by
  by_cases hn : (∃ n, x = .num n) ∧ (∃ n, y = .num n)
  · obtain ⟨⟨n, rfl⟩, ⟨n', rfl⟩⟩ := hn
    obtain ⟨t, rfl⟩ := hv
    obtain ⟨t', rfl⟩ := hv'
    (unfold Ctr; intro p loose mean mg mb dp un gd cn cs ca ccd cl outer A₀ base h₀ L mm st Q E B F X N T hk0 hd0 hu0 hret; refine wpAny_call ?_; k_dflt (refine' code_defZ [Str.ofString "one", Str.ofString "two"] [] ?k1 ?k2 ?k3 ?k4 ?k5 ?kA ?kF ?kK ?k6 ?k7 ?k8 ?k9 ?kB ?_ ?c2 ?c3 ?c4 ?c5; (case kA => exact rfl); (case kF => exact rfl); (case kK => assumption); (case k1 => k_asm); (case k2 => k_asm); (case k3 => k_asm); (case k4 => k_asm); (case k5 => k_asm); (case k6 => k_is); (case k7 => k_is); (case k8 => first | exact Nat.le_of_ble_eq_true rfl | ktr_room); (case k9 => first | exact BindsTo.of_eq rfl | exact binds_K (by k_in) rfl (by k_is) rfl rfl rfl); (case c5 => decide); (case kB => decide +kernel); (case c2 => exact rfl); (case c3 => exact rfl); (case c4 => exact rfl); k_whole); intro g' L' h' FG' F' N' B' X' T'; (try k_lift B'); dsimp only [List.nil_append, List.cons_append, List.append_nil, List.zip, List.zipWith, List.reverse, List.reverseAux] at F'; (try dsimp only); (try k_fold))
    k_steps
    all_goals first | walk_at "MINE endV"
    all_goals first | rfl | exact absurd (by assumption : (LX.num n).wide = true) (by simp [LX.wide]) | exact absurd (by assumption : (LX.num n').wide = true) (by simp [LX.wide])
  · (unfold Ctr; intro p loose mean mg mb dp un gd cn cs ca ccd cl outer A₀ base h₀ L mm st Q E B F X N T hk0 hd0 hu0 hret; refine wpAny_call ?_; k_dflt (refine' code_defZ [Str.ofString "one", Str.ofString "two"] [] ?k1 ?k2 ?k3 ?k4 ?k5 ?kA ?kF ?kK ?k6 ?k7 ?k8 ?k9 ?kB ?_ ?c2 ?c3 ?c4 ?c5; (case kA => exact rfl); (case kF => exact rfl); (case kK => assumption); (case k1 => k_asm); (case k2 => k_asm); (case k3 => k_asm); (case k4 => k_asm); (case k5 => k_asm); (case k6 => k_is); (case k7 => k_is); (case k8 => first | exact Nat.le_of_ble_eq_true rfl | ktr_room); (case k9 => first | exact BindsTo.of_eq rfl | exact binds_K (by k_in) rfl (by k_is) rfl rfl rfl); (case c5 => decide); (case kB => decide +kernel); (case c2 => exact rfl); (case c3 => exact rfl); (case c4 => exact rfl); k_whole); intro g' L' h' FG' F' N' B' X' T'; (try k_lift B'); dsimp only [List.nil_append, List.cons_append, List.append_nil, List.zip, List.zipWith, List.reverse, List.reverseAux] at F'; (try dsimp only); (try k_fold))
    k_steps
    all_goals first | exact (two_nums (by assumption) (by assumption) (by assumption) (by assumption) hn).elim | walk_at "MINE endV"
    all_goals first | exact sum_nanL (by assumption) | exact sum_nanR (by assumption) | exact sum_same (by assumption) (by assumption) (by assumption) | exact sum_diff (by assumption) (by assumption) (by assumption) | exact sum_left (by assumption) (by assumption) (by assumption) | exact sum_right (by assumption) (by assumption) (by assumption)
local macro_rules | `(tactic| walk_at "call ref") => `(tactic| (k_here; (with_reducible show wpAny _ _ (call (Value.ref 258) _) _ _ _); k_dflt (refine' Ctr.use (c_sum ?a0 ?a1) ?k1 ?k2 ?k3 ?k4 ?k5 ?kK ?kd ?ku ?_; (case k1 => k_asm); (case k2 => k_asm); (case k3 => k_asm); (case k4 => k_asm); (case k5 => k_asm); (case a0 => walk_at "MINE lv"); (case a1 => walk_at "MINE lv"); (case kK => first | exact rfl | assumption); (case kd => first | exact Nat.le_of_ble_eq_true rfl | ktr_room); (case ku => first | exact Nat.le_of_ble_eq_true rfl | ktr_units)); intro v9 h9 tk9 hv9 F9 N9; (try dsimp only); (try k_fold)))

set_option maxHeartbeats 8000000 in
theorem c_prod {w : World} {news : Led} {v v' : Value} {x y : LX} (hv : LV v x) (hv' : LV v' y) : Ctr w 5 265 news [v, v'] (RV news (prodL x y)) := by
  (unfold Ctr; intro p loose mean mg mb dp un gd cn cs ca ccd cl outer A₀ base h₀ L mm st Q E B F X N T hk0 hd0 hu0 hret; refine wpAny_call ?_; k_dflt (refine' code_defZ [Str.ofString "one", Str.ofString "two"] [] ?k1 ?k2 ?k3 ?k4 ?k5 ?kA ?kF ?kK ?k6 ?k7 ?k8 ?k9 ?kB ?_ ?c2 ?c3 ?c4 ?c5; (case kA => exact rfl); (case kF => exact rfl); (case kK => assumption); (case k1 => k_asm); (case k2 => k_asm); (case k3 => k_asm); (case k4 => k_asm); (case k5 => k_asm); (case k6 => k_is); (case k7 => k_is); (case k8 => first | exact Nat.le_of_ble_eq_true rfl | ktr_room); (case k9 => first | exact BindsTo.of_eq rfl | exact binds_K (by k_in) rfl (by k_is) rfl rfl rfl); (case c5 => decide); (case kB => decide +kernel); (case c2 => exact rfl); (case c3 => exact rfl); (case c4 => exact rfl); k_whole); intro g' L' h' FG' F' N' B' X' T'; (try k_lift B'); dsimp only [List.nil_append, List.cons_append, List.append_nil, List.zip, List.zipWith, List.reverse, List.reverseAux] at F'; (try dsimp only); (try k_fold))
  k_steps
  all_goals first | walk_at "MINE endV"
  all_goals first | exact prod_nan (.inl (by assumption)) | exact prod_nan (.inr (.inl (by assumption))) | exact prod_nan (.inr (.inr (by assumption))) | exact prod_inf (by assumption) (by assumption) (by assumption)
local macro_rules | `(tactic| walk_at "call ref") => `(tactic| (k_here; (with_reducible show wpAny _ _ (call (Value.ref 265) _) _ _ _); k_dflt (refine' Ctr.use (c_prod ?a0 ?a1) ?k1 ?k2 ?k3 ?k4 ?k5 ?kK ?kd ?ku ?_; (case k1 => k_asm); (case k2 => k_asm); (case k3 => k_asm); (case k4 => k_asm); (case k5 => k_asm); (case a0 => walk_at "MINE lv"); (case a1 => walk_at "MINE lv"); (case kK => first | exact rfl | assumption); (case kd => first | exact Nat.le_of_ble_eq_true rfl | ktr_room); (case ku => first | exact Nat.le_of_ble_eq_true rfl | ktr_units)); intro v9 h9 tk9 hv9 F9 N9; (try dsimp only); (try k_fold)))

set_option maxHeartbeats 8000000 in
theorem c_quot {w : World} {news : Led} {v v' : Value} {x y : LX} (hv : LV v x) (hv' : LV v' y) : Ctr w 5 272 news [v, v'] (RV news (quotL x y)) := by
  (unfold Ctr; intro p loose mean mg mb dp un gd cn cs ca ccd cl outer A₀ base h₀ L mm st Q E B F X N T hk0 hd0 hu0 hret; refine wpAny_call ?_; k_dflt (refine' code_defZ [Str.ofString "one", Str.ofString "two"] [] ?k1 ?k2 ?k3 ?k4 ?k5 ?kA ?kF ?kK ?k6 ?k7 ?k8 ?k9 ?kB ?_ ?c2 ?c3 ?c4 ?c5; (case kA => exact rfl); (case kF => exact rfl); (case kK => assumption); (case k1 => k_asm); (case k2 => k_asm); (case k3 => k_asm); (case k4 => k_asm); (case k5 => k_asm); (case k6 => k_is); (case k7 => k_is); (case k8 => first | exact Nat.le_of_ble_eq_true rfl | ktr_room); (case k9 => first | exact BindsTo.of_eq rfl | exact binds_K (by k_in) rfl (by k_is) rfl rfl rfl); (case c5 => decide); (case kB => decide +kernel); (case c2 => exact rfl); (case c3 => exact rfl); (case c4 => exact rfl); k_whole); intro g' L' h' FG' F' N' B' X' T'; (try k_lift B'); dsimp only [List.nil_append, List.cons_append, List.append_nil, List.zip, List.zipWith, List.reverse, List.reverseAux] at F'; (try dsimp only); (try k_fold))
  k_steps
  all_goals first | walk_at "MINE endV"
  all_goals first | exact quot_nan (.inl (by assumption)) | exact quot_nan (.inr (.inl (by assumption))) | exact quot_nan (.inr (.inr ⟨by assumption, by assumption⟩)) | exact quot_inf (by assumption) (by assumption) (by assumption) (by assumption) | exact quot_zero (by assumption) (by assumption) (by assumption)
local macro_rules | `(tactic| walk_at "call ref") => `(tactic| (k_here; (with_reducible show wpAny _ _ (call (Value.ref 272) _) _ _ _); k_dflt (refine' Ctr.use (c_quot ?a0 ?a1) ?k1 ?k2 ?k3 ?k4 ?k5 ?kK ?kd ?ku ?_; (case k1 => k_asm); (case k2 => k_asm); (case k3 => k_asm); (case k4 => k_asm); (case k5 => k_asm); (case a0 => walk_at "MINE lv"); (case a1 => walk_at "MINE lv"); (case kK => first | exact rfl | assumption); (case kd => first | exact Nat.le_of_ble_eq_true rfl | ktr_room); (case ku => first | exact Nat.le_of_ble_eq_true rfl | ktr_units)); intro v9 h9 tk9 hv9 F9 N9; (try dsimp only); (try k_fold)))

set_option maxHeartbeats 8000000 in
theorem c_ord {w : World} {news : Led} {v v' : Value} {x y : LX} (hv : LV v x) (hv' : LV v' y) (hx : x.isNan = false) (hy : y.isNan = false) : Ctr w 5 279 news [v, v'] (RI news (ordL x y)) := by
  by_cases hn : (∃ n, x = .num n) ∧ (∃ n, y = .num n)
  · obtain ⟨⟨n, rfl⟩, ⟨n', rfl⟩⟩ := hn
    obtain ⟨t, rfl⟩ := hv
    obtain ⟨t', rfl⟩ := hv'
    (unfold Ctr; intro p loose mean mg mb dp un gd cn cs ca ccd cl outer A₀ base h₀ L mm st Q E B F X N T hk0 hd0 hu0 hret; refine wpAny_call ?_; k_dflt (refine' code_defZ [Str.ofString "one", Str.ofString "two"] [] ?k1 ?k2 ?k3 ?k4 ?k5 ?kA ?kF ?kK ?k6 ?k7 ?k8 ?k9 ?kB ?_ ?c2 ?c3 ?c4 ?c5; (case kA => exact rfl); (case kF => exact rfl); (case kK => assumption); (case k1 => k_asm); (case k2 => k_asm); (case k3 => k_asm); (case k4 => k_asm); (case k5 => k_asm); (case k6 => k_is); (case k7 => k_is); (case k8 => first | exact Nat.le_of_ble_eq_true rfl | ktr_room); (case k9 => first | exact BindsTo.of_eq rfl | exact binds_K (by k_in) rfl (by k_is) rfl rfl rfl); (case c5 => decide); (case kB => decide +kernel); (case c2 => exact rfl); (case c3 => exact rfl); (case c4 => exact rfl); k_whole); intro g' L' h' FG' F' N' B' X' T'; (try k_lift B'); dsimp only [List.nil_append, List.cons_append, List.append_nil, List.zip, List.zipWith, List.reverse, List.reverseAux] at F'; (try dsimp only); (try k_fold))
    k_steps
    all_goals first | exact absurd (by assumption : (LX.num n).wide = true) (by simp [LX.wide]) | exact absurd (by assumption : (LX.num n').wide = true) (by simp [LX.wide]) | walk_at "MINE end"
    all_goals rw [ord_num]; first | rw [if_pos (by assumption)] | rw [if_neg (by assumption), if_pos (by assumption)] | rw [if_neg (by assumption), if_neg (by assumption)]
  · (unfold Ctr; intro p loose mean mg mb dp un gd cn cs ca ccd cl outer A₀ base h₀ L mm st Q E B F X N T hk0 hd0 hu0 hret; refine wpAny_call ?_; k_dflt (refine' code_defZ [Str.ofString "one", Str.ofString "two"] [] ?k1 ?k2 ?k3 ?k4 ?k5 ?kA ?kF ?kK ?k6 ?k7 ?k8 ?k9 ?kB ?_ ?c2 ?c3 ?c4 ?c5; (case kA => exact rfl); (case kF => exact rfl); (case kK => assumption); (case k1 => k_asm); (case k2 => k_asm); (case k3 => k_asm); (case k4 => k_asm); (case k5 => k_asm); (case k6 => k_is); (case k7 => k_is); (case k8 => first | exact Nat.le_of_ble_eq_true rfl | ktr_room); (case k9 => first | exact BindsTo.of_eq rfl | exact binds_K (by k_in) rfl (by k_is) rfl rfl rfl); (case c5 => decide); (case kB => decide +kernel); (case c2 => exact rfl); (case c3 => exact rfl); (case c4 => exact rfl); k_whole); intro g' L' h' FG' F' N' B' X' T'; (try k_lift B'); dsimp only [List.nil_append, List.cons_append, List.append_nil, List.zip, List.zipWith, List.reverse, List.reverseAux] at F'; (try dsimp only); (try k_fold))
    k_steps
    all_goals first | exact (two_nums (by assumption) (by assumption) (by assumption) (by assumption) hn).elim | walk_at "MINE end"
    all_goals first | exact ord_eq (by assumption) | exact ord_left (by assumption) (by assumption) | exact ord_right (by assumption) (by assumption) (by assumption)
local macro_rules | `(tactic| walk_at "call ref") => `(tactic| (k_here; (with_reducible show wpAny _ _ (call (Value.ref 279) _) _ _ _); k_dflt (refine' Ctr.use (c_ord ?a0 ?a1 ?a2 ?a3) ?k1 ?k2 ?k3 ?k4 ?k5 ?kK ?kd ?ku ?_; (case k1 => k_asm); (case k2 => k_asm); (case k3 => k_asm); (case k4 => k_asm); (case k5 => k_asm); (case a0 => walk_at "MINE lv"); (case a1 => walk_at "MINE lv"); (case a2 => walk_at "MINE bool"); (case a3 => walk_at "MINE bool"); (case kK => first | exact rfl | assumption); (case kd => first | exact Nat.le_of_ble_eq_true rfl | ktr_room); (case ku => first | exact Nat.le_of_ble_eq_true rfl | ktr_units)); intro t9 h9 tk9 F9 N9; (try dsimp only); (try k_fold)))

end PartC3
/-! part S3 -/
section PartS3
set_option maxHeartbeats 2000000 in
theorem c_sign {w : World} {news : Led} {a : Addr} {x : LX} (hx : TupX w news a x) (hs : x.small) : Ctr w 3 155 news [.ref a] (RIf news x.side (-1 ≤ x.side ∧ x.side ≤ 1)) := by
  obtain ⟨s, m, e, b, hx, hk, hk', -⟩ := hx.opn hs
  (unfold Ctr; intro p loose mean mg mb dp un gd cn cs ca ccd cl outer A₀ base h₀ L mm st Q E B F X N T hk0 hd0 hu0 hret; refine wpAny_call ?_; k_dflt (refine' code_defZ [Str.ofString "s"] [] ?k1 ?k2 ?k3 ?k4 ?k5 ?kA ?kF ?kK ?k6 ?k7 ?k8 ?k9 ?kB ?_ ?c2 ?c3 ?c4 ?c5; (case kA => exact rfl); (case kF => exact rfl); (case kK => assumption); (case k1 => k_asm); (case k2 => k_asm); (case k3 => k_asm); (case k4 => k_asm); (case k5 => k_asm); (case k6 => k_is); (case k7 => k_is); (case k8 => first | exact Nat.le_of_ble_eq_true rfl | ktr_room); (case k9 => first | exact BindsTo.of_eq rfl | exact binds_K (by k_in) rfl (by k_is) rfl rfl rfl); (case c5 => decide); (case kB => decide +kernel); (case c2 => exact rfl); (case c3 => exact rfl); (case c4 => exact rfl); k_whole); intro g' L' h' FG' F' N' B' X' T'; (try k_lift B'); dsimp only [List.nil_append, List.cons_append, List.append_nil, List.zip, List.zipWith, List.reverse, List.reverseAux] at F'; (try dsimp only); (try k_fold))
  k_steps
  all_goals first | refine RIf.use (by assumption) (side_bound _) ?_ (by k_asm) (by k_asm)
  all_goals first | exact sd_m hk (by assumption) | exact sd_o hk (of_e4 (by assumption)) | exact sd_u hk (of_e4 (by assumption)) | exact sd_z hk (by assumption) (not_e4 (by assumption)) (not_e4 (by assumption))
local macro_rules | `(tactic| walk_at "call ref") => `(tactic| (k_here; (with_reducible show wpAny _ _ (call (Value.ref 155) _) _ _ _); k_dflt (refine' Ctr.use (c_sign ?a0 ?a1) ?k1 ?k2 ?k3 ?k4 ?k5 ?kK ?kd ?ku ?_; (case k1 => k_asm); (case k2 => k_asm); (case k3 => k_asm); (case k4 => k_asm); (case k5 => k_asm); (case a0 => walk_at "MINE tup"); (case a1 => assumption); (case kK => first | exact rfl | assumption); (case kd => first | exact Nat.le_of_ble_eq_true rfl | ktr_room); (case ku => first | exact Nat.le_of_ble_eq_true rfl | ktr_units)); intro t9 h9 tk9 hx9 F9 N9; (try dsimp only); (try k_fold)))

set_option maxHeartbeats 2000000 in
theorem c_eq {w : World} {news : Led} {a a' : Addr} {x y : LX} (hx : TupX w news a x) (hs : x.small) (hy : TupX w news a' y) (hs' : y.small) (hp : x.spec = true ∨ y.spec = true) :
    Ctr w 3 82 news [.ref a, .ref a'] (RB news (eqM x y)) := by
  obtain ⟨s, m, e, b, hx, hk, hk', -⟩ := hx.opn hs
  obtain ⟨s', m', e', b', hy, hl, hl', -⟩ := hy.opn hs'
  (unfold Ctr; intro p loose mean mg mb dp un gd cn cs ca ccd cl outer A₀ base h₀ L mm st Q E B F X N T hk0 hd0 hu0 hret; refine wpAny_call ?_; k_dflt (refine' code_defZ [Str.ofString "s", Str.ofString "t"] [] ?k1 ?k2 ?k3 ?k4 ?k5 ?kA ?kF ?kK ?k6 ?k7 ?k8 ?k9 ?kB ?_ ?c2 ?c3 ?c4 ?c5; (case kA => exact rfl); (case kF => exact rfl); (case kK => assumption); (case k1 => k_asm); (case k2 => k_asm); (case k3 => k_asm); (case k4 => k_asm); (case k5 => k_asm); (case k6 => k_is); (case k7 => k_is); (case k8 => first | exact Nat.le_of_ble_eq_true rfl | ktr_room); (case k9 => first | exact BindsTo.of_eq rfl | exact binds_K (by k_in) rfl (by k_is) rfl rfl rfl); (case c5 => decide); (case kB => decide +kernel); (case c2 => exact rfl); (case c3 => exact rfl); (case c4 => exact rfl); k_whole); intro g' L' h' FG' F' N' B' X' T'; (try k_lift B'); dsimp only [List.nil_append, List.cons_append, List.append_nil, List.zip, List.zipWith, List.reverse, List.reverseAux] at F'; (try dsimp only); (try k_fold))
  k_steps
  all_goals first | walk_at "MINE end"
  all_goals first | exact eq_nanL hk (of_e4 (by assumption)) | exact eq_nanR hl (of_e4 (by assumption)) | exact eq_rest hk hl hp (.inl (by assumption)) (.inl (by assumption)) | exact eq_rest hk hl hp (.inl (by assumption)) (.inr (not_e4 (by assumption))) | exact eq_rest hk hl hp (.inr (not_e4 (by assumption))) (.inl (by assumption)) | exact eq_rest hk hl hp (.inr (not_e4 (by assumption))) (.inr (not_e4 (by assumption)))
local macro_rules | `(tactic| walk_at "call ref") => `(tactic| (k_here; (with_reducible show wpAny _ _ (call (Value.ref 82) _) _ _ _); k_dflt (refine' Ctr.use (c_eq ?a0 ?a1 ?a2 ?a3 ?a4) ?k1 ?k2 ?k3 ?k4 ?k5 ?kK ?kd ?ku ?_; (case k1 => k_asm); (case k2 => k_asm); (case k3 => k_asm); (case k4 => k_asm); (case k5 => k_asm); (case a0 => walk_at "MINE tup"); (case a1 => assumption); (case a2 => walk_at "MINE tup"); (case a3 => assumption); (case a4 => assumption); (case kK => first | exact rfl | assumption); (case kd => first | exact Nat.le_of_ble_eq_true rfl | ktr_room); (case ku => first | exact Nat.le_of_ble_eq_true rfl | ktr_units)); intro h9 tk9 F9 N9; (try dsimp only); (try k_fold)))

set_option maxHeartbeats 2000000 in
theorem c_neg1 {w : World} {news : Led} {a : Addr} {x : LX} (hx : TupX w news a x) (hs : x.small) : Ctr w 3 140 news [.ref a] (RX w news (negL x)) := by
  obtain ⟨s, m, e, b, hx, hk, hk', hq⟩ := hx.opn hs
  (unfold Ctr; intro p loose mean mg mb dp un gd cn cs ca ccd cl outer A₀ base h₀ L mm st Q E B F X N T hk0 hd0 hu0 hret; refine wpAny_call ?_; k_dflt (refine' code_defZ [Str.ofString "s", Str.ofString "prec", Str.ofString "rnd"] [Value.int 0 405, Value.str (Str.ofString "d") 210] ?k1 ?k2 ?k3 ?k4 ?k5 ?kA ?kF ?kK ?k6 ?k7 ?k8 ?k9 ?kB ?_ ?c2 ?c3 ?c4 ?c5; (case kA => exact rfl); (case kF => exact rfl); (case kK => assumption); (case k1 => k_asm); (case k2 => k_asm); (case k3 => k_asm); (case k4 => k_asm); (case k5 => k_asm); (case k6 => k_is); (case k7 => k_is); (case k8 => first | exact Nat.le_of_ble_eq_true rfl | ktr_room); (case k9 => first | exact BindsTo.of_eq rfl | exact binds_K (by k_in) rfl (by k_is) rfl rfl rfl); (case c5 => decide); (case kB => decide +kernel); (case c2 => exact rfl); (case c3 => exact rfl); (case c4 => exact rfl); k_whole); intro g' L' h' FG' F' N' B' X' T'; (try k_lift B'); dsimp only [List.nil_append, List.cons_append, List.append_nil, List.zip, List.zipWith, List.reverse, List.reverseAux] at F'; (try dsimp only); (try k_fold))
  k_steps
  all_goals first | walk_at "MINE endT"
  all_goals first
    | exact fin_negold hk (by assumption)
    | exact fin_neg hk hq (by assumption)
    | (rw [is_over hk (of_e4 (by assumption))]; exact trivial)
    | (rw [is_under hk (of_e4 (by assumption))]; exact trivial)
    | (rw [is_nan' hk (by assumption) (by assumption) (not_e4 (by assumption)) (not_e4 (by assumption))]; exact trivial)
    | (rw [is_zero hk (by assumption) (by assumption)]; exact rfl)
    | exact k_under (by rw [is_over hk (of_e4 (by assumption))]; rfl)
    | exact k_over (by rw [is_under hk (of_e4 (by assumption))]; rfl)
    | exact kf_eq hq (by rw [is_nan' hk (by assumption) (by assumption) (not_e4 (by assumption)) (not_e4 (by assumption))]; rfl)
    | exact kf_eq hq (by rw [is_zero hk (by assumption) (by assumption)]; rfl)
local macro_rules | `(tactic| walk_at "call ref") => `(tactic| (k_here; (with_reducible show wpAny _ _ (call (Value.ref 140) _) _ _ _); k_dflt (refine' Ctr.use (c_neg1 ?a0 ?a1) ?k1 ?k2 ?k3 ?k4 ?k5 ?kK ?kd ?ku ?_; (case k1 => k_asm); (case k2 => k_asm); (case k3 => k_asm); (case k4 => k_asm); (case k5 => k_asm); (case a0 => walk_at "MINE tup"); (case a1 => assumption); (case kK => first | exact rfl | assumption); (case kd => first | exact Nat.le_of_ble_eq_true rfl | ktr_room); (case ku => first | exact Nat.le_of_ble_eq_true rfl | ktr_units)); (refine ⟨?_, ?_⟩) <;> (first | (intro ho9 D9 o9 h9 tk9 T9 l9 F9 N9; (try k_lt l9)) | intro ho9 a9 h9 tk9 T9 F9 N9) <;> (try dsimp only) <;> (try k_fold)))

set_option maxHeartbeats 2000000 in
theorem c_neg3 {w : World} {news : Led} {a : Addr} {x : LX} {n : Int} {t t' : Tok} {r : Str} (hx : TupX w news a x) (hs : x.small) (hp : x.spec = true) : Ctr w 3 140 news [.ref a, .int n t, .str r t'] (RXo w news (negL x)) := by
  obtain ⟨s, m, e, b, hx, hk, -, hq⟩ := hx.opn hs
  have hk' := sp_m hk hp
  (unfold Ctr; intro p loose mean mg mb dp un gd cn cs ca ccd cl outer A₀ base h₀ L mm st Q E B F X N T hk0 hd0 hu0 hret; refine wpAny_call ?_; k_dflt (refine' code_defZ [Str.ofString "s", Str.ofString "prec", Str.ofString "rnd"] [] ?k1 ?k2 ?k3 ?k4 ?k5 ?kA ?kF ?kK ?k6 ?k7 ?k8 ?k9 ?kB ?_ ?c2 ?c3 ?c4 ?c5; (case kA => exact rfl); (case kF => exact rfl); (case kK => assumption); (case k1 => k_asm); (case k2 => k_asm); (case k3 => k_asm); (case k4 => k_asm); (case k5 => k_asm); (case k6 => k_is); (case k7 => k_is); (case k8 => first | exact Nat.le_of_ble_eq_true rfl | ktr_room); (case k9 => first | exact BindsTo.of_eq rfl | exact binds_K (by k_in) rfl (by k_is) rfl rfl rfl); (case c5 => decide); (case kB => decide +kernel); (case c2 => exact rfl); (case c3 => exact rfl); (case c4 => exact rfl); k_whole); intro g' L' h' FG' F' N' B' X' T'; (try k_lift B'); dsimp only [List.nil_append, List.cons_append, List.append_nil, List.zip, List.zipWith, List.reverse, List.reverseAux] at F'; (try dsimp only); (try k_fold))
  k_steps
  all_goals first | (exfalso; omega) | walk_at "MINE endO"
  all_goals first
    | exact k_under (by rw [is_over hk (of_e4 (by assumption))]; rfl)
    | exact k_over (by rw [is_under hk (of_e4 (by assumption))]; rfl)
    | exact kf_eq hq (by rw [is_nan' hk (by omega) (by omega) (not_e4 (by assumption)) (not_e4 (by assumption))]; rfl)
local macro_rules | `(tactic| walk_at "call ref") => `(tactic| (k_here; (with_reducible show wpAny _ _ (call (Value.ref 140) _) _ _ _); k_dflt (refine' Ctr.use (c_neg3 ?a0 ?a1 ?a2) ?k1 ?k2 ?k3 ?k4 ?k5 ?kK ?kd ?ku ?_; (case k1 => k_asm); (case k2 => k_asm); (case k3 => k_asm); (case k4 => k_asm); (case k5 => k_asm); (case a0 => walk_at "MINE tup"); (case a1 => assumption); (case a2 => assumption); (case kK => first | exact rfl | assumption); (case kd => first | exact Nat.le_of_ble_eq_true rfl | ktr_room); (case ku => first | exact Nat.le_of_ble_eq_true rfl | ktr_units)); intro a9 h9 tk9 T9 F9 N9; (try dsimp only); (try k_fold)))

set_option maxHeartbeats 2000000 in
theorem c_abs1 {w : World} {news : Led} {a : Addr} {x : LX} (hx : TupX w news a x) (hs : x.small) (hp : x.spec = true) : Ctr w 3 148 news [.ref a] (RXo w news (absL x)) := by
  obtain ⟨s, m, e, b, hx, hk, -, hq⟩ := hx.opn hs
  have hk' := sp_m hk hp
  (unfold Ctr; intro p loose mean mg mb dp un gd cn cs ca ccd cl outer A₀ base h₀ L mm st Q E B F X N T hk0 hd0 hu0 hret; refine wpAny_call ?_; k_dflt (refine' code_defZ [Str.ofString "s", Str.ofString "prec", Str.ofString "rnd"] [Value.int 0 419, Value.str (Str.ofString "d") 210] ?k1 ?k2 ?k3 ?k4 ?k5 ?kA ?kF ?kK ?k6 ?k7 ?k8 ?k9 ?kB ?_ ?c2 ?c3 ?c4 ?c5; (case kA => exact rfl); (case kF => exact rfl); (case kK => assumption); (case k1 => k_asm); (case k2 => k_asm); (case k3 => k_asm); (case k4 => k_asm); (case k5 => k_asm); (case k6 => k_is); (case k7 => k_is); (case k8 => first | exact Nat.le_of_ble_eq_true rfl | ktr_room); (case k9 => first | exact BindsTo.of_eq rfl | exact binds_K (by k_in) rfl (by k_is) rfl rfl rfl); (case c5 => decide); (case kB => decide +kernel); (case c2 => exact rfl); (case c3 => exact rfl); (case c4 => exact rfl); k_whole); intro g' L' h' FG' F' N' B' X' T'; (try k_lift B'); dsimp only [List.nil_append, List.cons_append, List.append_nil, List.zip, List.zipWith, List.reverse, List.reverseAux] at F'; (try dsimp only); (try k_fold))
  k_steps
  all_goals first | (exfalso; omega) | walk_at "MINE endO"
  all_goals first
    | exact k_over (by rw [is_under hk (of_e4 (by assumption))]; rfl)
    | exact kf_eq hq (abs_end hk hp (not_e4 (by assumption)))
local macro_rules | `(tactic| walk_at "call ref") => `(tactic| (k_here; (with_reducible show wpAny _ _ (call (Value.ref 148) _) _ _ _); k_dflt (refine' Ctr.use (c_abs1 ?a0 ?a1 ?a2) ?k1 ?k2 ?k3 ?k4 ?k5 ?kK ?kd ?ku ?_; (case k1 => k_asm); (case k2 => k_asm); (case k3 => k_asm); (case k4 => k_asm); (case k5 => k_asm); (case a0 => walk_at "MINE tup"); (case a1 => assumption); (case a2 => assumption); (case kK => first | exact rfl | assumption); (case kd => first | exact Nat.le_of_ble_eq_true rfl | ktr_room); (case ku => first | exact Nat.le_of_ble_eq_true rfl | ktr_units)); intro a9 h9 tk9 T9 F9 N9; (try dsimp only); (try k_fold)))

set_option maxHeartbeats 2000000 in
theorem c_abs3 {w : World} {news : Led} {a : Addr} {x : LX} {n : Int} {t t' : Tok} {r : Str} (hx : TupX w news a x) (hs : x.small) (hp : x.spec = true) : Ctr w 3 148 news [.ref a, .int n t, .str r t'] (RXo w news (absL x)) := by
  obtain ⟨s, m, e, b, hx, hk, -, hq⟩ := hx.opn hs
  have hk' := sp_m hk hp
  (unfold Ctr; intro p loose mean mg mb dp un gd cn cs ca ccd cl outer A₀ base h₀ L mm st Q E B F X N T hk0 hd0 hu0 hret; refine wpAny_call ?_; k_dflt (refine' code_defZ [Str.ofString "s", Str.ofString "prec", Str.ofString "rnd"] [] ?k1 ?k2 ?k3 ?k4 ?k5 ?kA ?kF ?kK ?k6 ?k7 ?k8 ?k9 ?kB ?_ ?c2 ?c3 ?c4 ?c5; (case kA => exact rfl); (case kF => exact rfl); (case kK => assumption); (case k1 => k_asm); (case k2 => k_asm); (case k3 => k_asm); (case k4 => k_asm); (case k5 => k_asm); (case k6 => k_is); (case k7 => k_is); (case k8 => first | exact Nat.le_of_ble_eq_true rfl | ktr_room); (case k9 => first | exact BindsTo.of_eq rfl | exact binds_K (by k_in) rfl (by k_is) rfl rfl rfl); (case c5 => decide); (case kB => decide +kernel); (case c2 => exact rfl); (case c3 => exact rfl); (case c4 => exact rfl); k_whole); intro g' L' h' FG' F' N' B' X' T'; (try k_lift B'); dsimp only [List.nil_append, List.cons_append, List.append_nil, List.zip, List.zipWith, List.reverse, List.reverseAux] at F'; (try dsimp only); (try k_fold))
  k_steps
  all_goals first | (exfalso; omega) | walk_at "MINE endO"
  all_goals first
    | exact k_over (by rw [is_under hk (of_e4 (by assumption))]; rfl)
    | exact kf_eq hq (abs_end hk hp (not_e4 (by assumption)))
local macro_rules | `(tactic| walk_at "call ref") => `(tactic| (k_here; (with_reducible show wpAny _ _ (call (Value.ref 148) _) _ _ _); k_dflt (refine' Ctr.use (c_abs3 ?a0 ?a1 ?a2) ?k1 ?k2 ?k3 ?k4 ?k5 ?kK ?kd ?ku ?_; (case k1 => k_asm); (case k2 => k_asm); (case k3 => k_asm); (case k4 => k_asm); (case k5 => k_asm); (case a0 => walk_at "MINE tup"); (case a1 => assumption); (case a2 => assumption); (case kK => first | exact rfl | assumption); (case kd => first | exact Nat.le_of_ble_eq_true rfl | ktr_room); (case ku => first | exact Nat.le_of_ble_eq_true rfl | ktr_units)); intro a9 h9 tk9 T9 F9 N9; (try dsimp only); (try k_fold)))

set_option maxHeartbeats 2000000 in
theorem c_pos {w : World} {news : Led} {a : Addr} {x : LX} {n : Int} {t t' : Tok} {r : Str} (hx : TupX w news a x) (hs : x.small) (hp : x.spec = true) : Ctr w 3 132 news [.ref a, .int n t, .str r t'] (RXo w news x) := by
  obtain ⟨s, m, e, b, hx, hk, -, hq⟩ := hx.opn hs
  have hk' := sp_m hk hp
  (unfold Ctr; intro p loose mean mg mb dp un gd cn cs ca ccd cl outer A₀ base h₀ L mm st Q E B F X N T hk0 hd0 hu0 hret; refine wpAny_call ?_; k_dflt (refine' code_defZ [Str.ofString "s", Str.ofString "prec", Str.ofString "rnd"] [] ?k1 ?k2 ?k3 ?k4 ?k5 ?kA ?kF ?kK ?k6 ?k7 ?k8 ?k9 ?kB ?_ ?c2 ?c3 ?c4 ?c5; (case kA => exact rfl); (case kF => exact rfl); (case kK => assumption); (case k1 => k_asm); (case k2 => k_asm); (case k3 => k_asm); (case k4 => k_asm); (case k5 => k_asm); (case k6 => k_is); (case k7 => k_is); (case k8 => first | exact Nat.le_of_ble_eq_true rfl | ktr_room); (case k9 => first | exact BindsTo.of_eq rfl | exact binds_K (by k_in) rfl (by k_is) rfl rfl rfl); (case c5 => decide); (case kB => decide +kernel); (case c2 => exact rfl); (case c3 => exact rfl); (case c4 => exact rfl); k_whole); intro g' L' h' FG' F' N' B' X' T'; (try k_lift B'); dsimp only [List.nil_append, List.cons_append, List.append_nil, List.zip, List.zipWith, List.reverse, List.reverseAux] at F'; (try dsimp only); (try k_fold))
  k_steps
  all_goals first | (exfalso; omega) | walk_at "MINE endO"
  all_goals first | exact hq
local macro_rules | `(tactic| walk_at "call ref") => `(tactic| (k_here; (with_reducible show wpAny _ _ (call (Value.ref 132) _) _ _ _); k_dflt (refine' Ctr.use (c_pos ?a0 ?a1 ?a2) ?k1 ?k2 ?k3 ?k4 ?k5 ?kK ?kd ?ku ?_; (case k1 => k_asm); (case k2 => k_asm); (case k3 => k_asm); (case k4 => k_asm); (case k5 => k_asm); (case a0 => walk_at "MINE tup"); (case a1 => assumption); (case a2 => assumption); (case kK => first | exact rfl | assumption); (case kd => first | exact Nat.le_of_ble_eq_true rfl | ktr_room); (case ku => first | exact Nat.le_of_ble_eq_true rfl | ktr_units)); intro a9 h9 tk9 T9 F9 N9; (try dsimp only); (try k_fold)))

set_option maxHeartbeats 2000000 in
theorem c_shift {w : World} {news : Led} {a : Addr} {x : LX} {n : Int} {t : Tok} (hx : TupX w news a x) (hs : x.small) (hp : x.spec = true) : Ctr w 3 194 news [.ref a, .int n t] (RXo w news x) := by
  obtain ⟨s, m, e, b, hx, hk, -, hq⟩ := hx.opn hs
  have hk' := sp_m hk hp
  (unfold Ctr; intro p loose mean mg mb dp un gd cn cs ca ccd cl outer A₀ base h₀ L mm st Q E B F X N T hk0 hd0 hu0 hret; refine wpAny_call ?_; k_dflt (refine' code_defZ [Str.ofString "s", Str.ofString "n"] [] ?k1 ?k2 ?k3 ?k4 ?k5 ?kA ?kF ?kK ?k6 ?k7 ?k8 ?k9 ?kB ?_ ?c2 ?c3 ?c4 ?c5; (case kA => exact rfl); (case kF => exact rfl); (case kK => assumption); (case k1 => k_asm); (case k2 => k_asm); (case k3 => k_asm); (case k4 => k_asm); (case k5 => k_asm); (case k6 => k_is); (case k7 => k_is); (case k8 => first | exact Nat.le_of_ble_eq_true rfl | ktr_room); (case k9 => first | exact BindsTo.of_eq rfl | exact binds_K (by k_in) rfl (by k_is) rfl rfl rfl); (case c5 => decide); (case kB => decide +kernel); (case c2 => exact rfl); (case c3 => exact rfl); (case c4 => exact rfl); k_whole); intro g' L' h' FG' F' N' B' X' T'; (try k_lift B'); dsimp only [List.nil_append, List.cons_append, List.append_nil, List.zip, List.zipWith, List.reverse, List.reverseAux] at F'; (try dsimp only); (try k_fold))
  k_steps
  all_goals first | (exfalso; omega) | walk_at "MINE endO"
  all_goals first | exact hq
local macro_rules | `(tactic| walk_at "call ref") => `(tactic| (k_here; (with_reducible show wpAny _ _ (call (Value.ref 194) _) _ _ _); k_dflt (refine' Ctr.use (c_shift ?a0 ?a1 ?a2) ?k1 ?k2 ?k3 ?k4 ?k5 ?kK ?kd ?ku ?_; (case k1 => k_asm); (case k2 => k_asm); (case k3 => k_asm); (case k4 => k_asm); (case k5 => k_asm); (case a0 => walk_at "MINE tup"); (case a1 => assumption); (case a2 => assumption); (case kK => first | exact rfl | assumption); (case kd => first | exact Nat.le_of_ble_eq_true rfl | ktr_room); (case ku => first | exact Nat.le_of_ble_eq_true rfl | ktr_units)); intro a9 h9 tk9 T9 F9 N9; (try dsimp only); (try k_fold)))

set_option maxHeartbeats 2000000 in
theorem c_add4 {w : World} {news : Led} {a a' : Addr} {x y : LX} {n : Int} {t t' : Tok} {r : Str} (hx : TupX w news a x) (hs : x.small) (hy : TupX w news a' y) (hs' : y.small) (hp : x.spec = true ∨ y.spec = true) :
    Ctr w 5 163 news [.ref a, .ref a', .int n t, .str r t'] (RXo w news (sumL x y)) := by
  obtain ⟨s, m, e, b, hx, hk, hk', hq⟩ := hx.opn hs
  obtain ⟨s', m', e', b', hy, hl, hl', hq'⟩ := hy.opn hs'
  have hsp := sp_or hk hl hp
  (unfold Ctr; intro p loose mean mg mb dp un gd cn cs ca ccd cl outer A₀ base h₀ L mm st Q E B F X N T hk0 hd0 hu0 hret; refine wpAny_call ?_; k_dflt (refine' code_defZ [Str.ofString "s", Str.ofString "t", Str.ofString "prec", Str.ofString "rnd", Str.ofString "_sub"] [Value.int 0 445] ?k1 ?k2 ?k3 ?k4 ?k5 ?kA ?kF ?kK ?k6 ?k7 ?k8 ?k9 ?kB ?_ ?c2 ?c3 ?c4 ?c5; (case kA => exact rfl); (case kF => exact rfl); (case kK => assumption); (case k1 => k_asm); (case k2 => k_asm); (case k3 => k_asm); (case k4 => k_asm); (case k5 => k_asm); (case k6 => k_is); (case k7 => k_is); (case k8 => first | exact Nat.le_of_ble_eq_true rfl | ktr_room); (case k9 => first | exact BindsTo.of_eq rfl | exact binds_K (by k_in) rfl (by k_is) rfl rfl rfl); (case c5 => decide); (case kB => decide +kernel); (case c2 => exact rfl); (case c3 => exact rfl); (case c4 => exact rfl); k_whole); intro g' L' h' FG' F' N' B' X' T'; (try k_lift B'); dsimp only [List.nil_append, List.cons_append, List.append_nil, List.zip, List.zipWith, List.reverse, List.reverseAux] at F'; (try dsimp only); (try k_fold))
  k_steps
  all_goals first | walk_at "MINE endO" | (exfalso; walk_at "MINE no2")
  all_goals first
    | exact kf_eq hq' (a1 hk (by assumption) (is_sp hl (by assumption) (by assumption)))
    | exact kf_eq hq (a2 (is_sp hk (by assumption) (by assumption)) hk hl (of_e4 (by assumption)))
    | exact kf_eq hq (a3 (is_sp hk (by assumption) (by assumption)) (nsp_fin hl (by assumption)))
    | exact k_nan (a4 (is_sp hk (by assumption) (by assumption)) (is_sp hl (by assumption) (by assumption)) hk hl (not_e4 (by assumption)))
    | exact kf_eq hq (a3 (is_sp hk (by assumption) (by assumption)) (nsp_zero hl (by assumption) (by assumption)))
    | exact kf_eq hq' (a6' hk hl hp (by assumption) (by assumption))
    | (exfalso; walk_at "MINE no2")
local macro_rules | `(tactic| walk_at "call ref") => `(tactic| (k_here; (with_reducible show wpAny _ _ (call (Value.ref 163) _) _ _ _); k_dflt (refine' Ctr.use (c_add4 ?a0 ?a1 ?a2 ?a3 ?a4) ?k1 ?k2 ?k3 ?k4 ?k5 ?kK ?kd ?ku ?_; (case k1 => k_asm); (case k2 => k_asm); (case k3 => k_asm); (case k4 => k_asm); (case k5 => k_asm); (case a0 => walk_at "MINE tup"); (case a1 => assumption); (case a2 => walk_at "MINE tup"); (case a3 => assumption); (case a4 => assumption); (case kK => first | exact rfl | assumption); (case kd => first | exact Nat.le_of_ble_eq_true rfl | ktr_room); (case ku => first | exact Nat.le_of_ble_eq_true rfl | ktr_units)); intro a9 h9 tk9 T9 F9 N9; (try dsimp only); (try k_fold)))

set_option maxHeartbeats 2000000 in
theorem c_add5 {w : World} {news : Led} {a a' : Addr} {x y : LX} {n : Int} {t t' t'' : Tok} {r : Str} (hx : TupX w news a x) (hs : x.small) (hy : TupX w news a' y) (hs' : y.small) (hp : x.spec = true ∨ y.spec = true) :
    Ctr w 5 163 news [.ref a, .ref a', .int n t, .str r t', .int 1 t''] (RXo w news (sumL x (negL y))) := by
  have hz := kf_of (negL y) (neg_small hs')
  have hz' : mS (negL y) = mS (negL y) ∧ mM (negL y) = mM (negL y) ∧ mE (negL y) = mE (negL y) ∧ mB (negL y) = mB (negL y) := ⟨rfl, rfl, rfl, rfl⟩
  obtain ⟨s, m, e, b, hx, hk, hk', hq⟩ := hx.opn hs
  obtain ⟨s', m', e', b', hy, hl, hl', hq'⟩ := hy.opn hs'
  have hsp := sp_or hk hl hp
  (unfold Ctr; intro p loose mean mg mb dp un gd cn cs ca ccd cl outer A₀ base h₀ L mm st Q E B F X N T hk0 hd0 hu0 hret; refine wpAny_call ?_; k_dflt (refine' code_defZ [Str.ofString "s", Str.ofString "t", Str.ofString "prec", Str.ofString "rnd", Str.ofString "_sub"] [] ?k1 ?k2 ?k3 ?k4 ?k5 ?kA ?kF ?kK ?k6 ?k7 ?k8 ?k9 ?kB ?_ ?c2 ?c3 ?c4 ?c5; (case kA => exact rfl); (case kF => exact rfl); (case kK => assumption); (case k1 => k_asm); (case k2 => k_asm); (case k3 => k_asm); (case k4 => k_asm); (case k5 => k_asm); (case k6 => k_is); (case k7 => k_is); (case k8 => first | exact Nat.le_of_ble_eq_true rfl | ktr_room); (case k9 => first | exact BindsTo.of_eq rfl | exact binds_K (by k_in) rfl (by k_is) rfl rfl rfl); (case c5 => decide); (case kB => decide +kernel); (case c2 => exact rfl); (case c3 => exact rfl); (case c4 => exact rfl); k_whole); intro g' L' h' FG' F' N' B' X' T'; (try k_lift B'); dsimp only [List.nil_append, List.cons_append, List.append_nil, List.zip, List.zipWith, List.reverse, List.reverseAux] at F'; (try dsimp only); (try k_fold))
  k_steps
  all_goals first | walk_at "MINE endO" | exact absurd (spec_old (neg_spec.trans (is_sp hl (by assumption) (by assumption)))) (by assumption) | exact absurd (spec_old (neg_spec.trans (a6s hk hl hp (by assumption) (by assumption)))) (by assumption) | (exfalso; walk_at "MINE no2")
  all_goals first
    | exact kf_eq hz' (a1 hk (by assumption) (neg_spec.trans (is_sp hl (by assumption) (by assumption))))
    | exact kf_eq hq (a2 (is_sp hk (by assumption) (by assumption)) hk hz (of_e4 (by assumption)))
    | exact kf_eq hq (a3 (is_sp hk (by assumption) (by assumption)) (neg_spec.trans (nsp_fin hl (by assumption))))
    | exact k_nan (a4 (is_sp hk (by assumption) (by assumption)) (neg_spec.trans (is_sp hl (by assumption) (by assumption))) hk hz (not_e4 (by assumption)))
    | exact kf_eq hq (a3 (is_sp hk (by assumption) (by assumption)) (neg_spec.trans (nsp_zero hl (by assumption) (by assumption))))
    | exact kf_eq hz' (a6 hk (by assumption) (by assumption) (neg_spec.trans (a6s hk hl hp (by assumption) (by assumption))))
    | (exfalso; walk_at "MINE no2")
local macro_rules | `(tactic| walk_at "call ref") => `(tactic| (k_here; (with_reducible show wpAny _ _ (call (Value.ref 163) _) _ _ _); k_dflt (refine' Ctr.use (c_add5 ?a0 ?a1 ?a2 ?a3 ?a4) ?k1 ?k2 ?k3 ?k4 ?k5 ?kK ?kd ?ku ?_; (case k1 => k_asm); (case k2 => k_asm); (case k3 => k_asm); (case k4 => k_asm); (case k5 => k_asm); (case a0 => walk_at "MINE tup"); (case a1 => assumption); (case a2 => walk_at "MINE tup"); (case a3 => assumption); (case a4 => assumption); (case kK => first | exact rfl | assumption); (case kd => first | exact Nat.le_of_ble_eq_true rfl | ktr_room); (case ku => first | exact Nat.le_of_ble_eq_true rfl | ktr_units)); intro a9 h9 tk9 T9 F9 N9; (try dsimp only); (try k_fold)))


end PartS3
/-! part S4 -/
section PartS4
local macro_rules | `(tactic| walk_at "call ref") => `(tactic| (k_here; (with_reducible show wpAny _ _ (call (Value.ref 155) _) _ _ _); k_dflt (refine' Ctr.use (c_sign ?a0 ?a1) ?k1 ?k2 ?k3 ?k4 ?k5 ?kK ?kd ?ku ?_; (case k1 => k_asm); (case k2 => k_asm); (case k3 => k_asm); (case k4 => k_asm); (case k5 => k_asm); (case a0 => walk_at "MINE tup"); (case a1 => assumption); (case kK => first | exact rfl | assumption); (case kd => first | exact Nat.le_of_ble_eq_true rfl | ktr_room); (case ku => first | exact Nat.le_of_ble_eq_true rfl | ktr_units)); intro t9 h9 tk9 hx9 F9 N9; (try dsimp only); (try k_fold)))
section
local macro_rules | `(tactic| walk_at "MINE nz") => `(tactic| first | exact .inl (by assumption) | exact .inr (by assumption) | exact nz_e4 (by assumption) (by assumption))
local macro_rules | `(tactic| walk_at "MINE pm") => `(tactic| first | exact (prod_pm (by assumption) (by assumption) (not_or_dec (by assumption)) (by walk_at "MINE nz") (by walk_at "MINE nz")).1 | exact (prod_pm (by assumption) (by assumption) (not_or_dec (by assumption)) (by walk_at "MINE nz") (by walk_at "MINE nz")).2)
set_option maxHeartbeats 2000000 in
theorem c_mul {w : World} {news : Led} {a a' : Addr} {x y : LX} {n : Int} {t t' : Tok} {r : Str} (hx : TupX w news a x) (hs : x.small) (hy : TupX w news a' y) (hs' : y.small) (hp : x.spec = true ∨ y.spec = true) :
    Ctr w 5 187 news [.ref a, .ref a', .int n t, .str r t'] (RXo w news (prodL x y)) := by
  have hx0 := hx
  have hy0 := hy
  obtain ⟨s, m, e, b, hx, hk, hk', hq⟩ := hx.opn hs
  obtain ⟨s', m', e', b', hy, hl, hl', hq'⟩ := hy.opn hs'
  have hsp := sp_or hk hl hp
  have hmm := mm_zero hsp
  (unfold Ctr; intro p loose mean mg mb dp un gd cn cs ca ccd cl outer A₀ base h₀ L mm st Q E B F X N T hk0 hd0 hu0 hret; refine wpAny_call ?_; k_dflt (refine' code_defZ [Str.ofString "s", Str.ofString "t", Str.ofString "prec", Str.ofString "rnd"] [] ?k1 ?k2 ?k3 ?k4 ?k5 ?kA ?kF ?kK ?k6 ?k7 ?k8 ?k9 ?kB ?_ ?c2 ?c3 ?c4 ?c5; (case kA => exact rfl); (case kF => exact rfl); (case kK => assumption); (case k1 => k_asm); (case k2 => k_asm); (case k3 => k_asm); (case k4 => k_asm); (case k5 => k_asm); (case k6 => k_is); (case k7 => k_is); (case k8 => first | exact Nat.le_of_ble_eq_true rfl | ktr_room); (case k9 => first | exact BindsTo.of_eq rfl | exact binds_K (by k_in) rfl (by k_is) rfl rfl rfl); (case c5 => decide); (case kB => decide +kernel); (case c2 => exact rfl); (case c3 => exact rfl); (case c4 => exact rfl); k_whole); intro g' L' h' FG' F' N' B' X' T'; (try k_lift B'); dsimp only [List.nil_append, List.cons_append, List.append_nil, List.zip, List.zipWith, List.reverse, List.reverseAux] at F'; (try dsimp only); (try k_fold))
  k_steps
  all_goals first | (exfalso; omega) | walk_at "MINE endO"
  all_goals first
    | exact k_nan (p_nan hk hl (by assumption))
    | exact k_nan (p_zero hk hl (.inl ⟨(of_e4 (by assumption)).2.1, (of_e4 (by assumption)).2.2.1⟩))
    | exact k_nan (p_zero hk hl (.inr ⟨(of_e4 (by assumption)).2.1, (of_e4 (by assumption)).2.2.1⟩))
    | exact k_over (p_pos hk hl (not_or_dec (by assumption)) (.inl (by assumption)))
    | exact k_over (p_pos hk hl (not_or_dec (by assumption)) (.inr (by assumption)))
    | exact k_under (p_neg hk hl (not_or_dec (by assumption)) (.inl (by assumption)))
    | exact k_under (p_neg hk hl (not_or_dec (by assumption)) (.inr (by assumption)))
end
local macro_rules | `(tactic| walk_at "call ref") => `(tactic| (k_here; (with_reducible show wpAny _ _ (call (Value.ref 187) _) _ _ _); k_dflt (refine' Ctr.use (c_mul ?a0 ?a1 ?a2 ?a3 ?a4) ?k1 ?k2 ?k3 ?k4 ?k5 ?kK ?kd ?ku ?_; (case k1 => k_asm); (case k2 => k_asm); (case k3 => k_asm); (case k4 => k_asm); (case k5 => k_asm); (case a0 => walk_at "MINE tup"); (case a1 => assumption); (case a2 => walk_at "MINE tup"); (case a3 => assumption); (case a4 => assumption); (case kK => first | exact rfl | assumption); (case kd => first | exact Nat.le_of_ble_eq_true rfl | ktr_room); (case ku => first | exact Nat.le_of_ble_eq_true rfl | ktr_units)); intro a9 h9 tk9 T9 F9 N9; (try dsimp only); (try k_fold)))
section
local macro_rules | `(tactic| walk_at "MINE nz") => `(tactic| first | exact .inl (by assumption) | exact .inr (by assumption) | exact nz_e4 (by assumption) (by assumption))
local macro_rules | `(tactic| walk_at "MINE nn") => `(tactic| first | exact not_e4 (by assumption) | exact nn_e4 (by assumption) (by assumption))
local macro_rules | `(tactic| walk_at "MINE pm") => `(tactic| exact (prod_pm (by assumption) (by assumption) ⟨by walk_at "MINE nn", by walk_at "MINE nn"⟩ (by walk_at "MINE nz") (by walk_at "MINE nz")).1)
set_option maxHeartbeats 2000000 in
theorem c_div {w : World} {news : Led} {a a' : Addr} {x y : LX} {n : Int} {t t' : Tok} {r : Str} (hx : TupX w news a x) (hs : x.small) (hy : TupX w news a' y) (hs' : y.small) (hp : x.spec = true ∨ y.spec = true) (hz : y.isZero = false) :
    Ctr w 5 202 news [.ref a, .ref a', .int n t, .str r t'] (RXo w news (quotL x y)) := by
  have hx0 := hx
  have hy0 := hy
  obtain ⟨s, m, e, b, hx, hk, hk', hq⟩ := hx.opn hs
  obtain ⟨s', m', e', b', hy, hl, hl', hq'⟩ := hy.opn hs'
  have hsp := sp_or hk hl hp
  have hnz := nz_of hl hz
  have hzf := nzf hl hz
  (unfold Ctr; intro p loose mean mg mb dp un gd cn cs ca ccd cl outer A₀ base h₀ L mm st Q E B F X N T hk0 hd0 hu0 hret; refine wpAny_call ?_; k_dflt (refine' code_defZ [Str.ofString "s", Str.ofString "t", Str.ofString "prec", Str.ofString "rnd"] [] ?k1 ?k2 ?k3 ?k4 ?k5 ?kA ?kF ?kK ?k6 ?k7 ?k8 ?k9 ?kB ?_ ?c2 ?c3 ?c4 ?c5; (case kA => exact rfl); (case kF => exact rfl); (case kK => assumption); (case k1 => k_asm); (case k2 => k_asm); (case k3 => k_asm); (case k4 => k_asm); (case k5 => k_asm); (case k6 => k_is); (case k7 => k_is); (case k8 => first | exact Nat.le_of_ble_eq_true rfl | ktr_room); (case k9 => first | exact BindsTo.of_eq rfl | exact binds_K (by k_in) rfl (by k_is) rfl rfl rfl); (case c5 => decide); (case kB => decide +kernel); (case c2 => exact rfl); (case c3 => exact rfl); (case c4 => exact rfl); k_whole); intro g' L' h' FG' F' N' B' X' T'; (try k_lift B'); dsimp only [List.nil_append, List.cons_append, List.append_nil, List.zip, List.zipWith, List.reverse, List.reverseAux] at F'; (try dsimp only); (try k_fold))
  k_steps
  all_goals first | (exfalso; omega) | walk_at "MINE endO"
  all_goals first
    | exact k_nan (d_nan hk hl (.inl (of_e4 (by assumption))))
    | exact k_nan (d_nan hk hl (.inr (of_e4 (by assumption))))
    | exact k_nan (d_both (is_sp hk (by assumption) (by assumption)) (is_sp hl (by assumption) (by assumption)))
    | exact k_over (d_pos hk hl (is_sp hk (by assumption) (by assumption)) (nsp_fin hl (by assumption)) (not_e4 (by assumption)) (by assumption))
    | exact k_under (d_neg hk hl (is_sp hk (by assumption) (by assumption)) (nsp_fin hl (by assumption)) (not_e4 (by assumption)) (by assumption))
    | exact k_zero (d_zero (nsp_fin hk (by assumption)) hl (not_e4 (by assumption)))
    | exact k_zero (d_zero (nsp_zero hk (by assumption) (by assumption)) hl (not_e4 (by assumption)))
    | exact k_zero (d_zero (nsp_zero hk (of_e4 (by assumption)).2.1 (of_e4 (by assumption)).2.2.1) hl (not_e4 (by assumption)))
    | (exfalso; have q9 := of_e4 (by assumption : e4 s m e b 0 0 0 0 = true); omega)
    | (exfalso; have q9 := of_e4 (by assumption : e4 s' m' e' b' 0 0 (-123) (-1) = true); omega)
end
local macro_rules | `(tactic| walk_at "call ref") => `(tactic| (k_here; (with_reducible show wpAny _ _ (call (Value.ref 202) _) _ _ _); k_dflt (refine' Ctr.use (c_div ?a0 ?a1 ?a2 ?a3 ?a4 ?a5) ?k1 ?k2 ?k3 ?k4 ?k5 ?kK ?kd ?ku ?_; (case k1 => k_asm); (case k2 => k_asm); (case k3 => k_asm); (case k4 => k_asm); (case k5 => k_asm); (case a0 => walk_at "MINE tup"); (case a1 => assumption); (case a2 => walk_at "MINE tup"); (case a3 => assumption); (case a4 => assumption); (case a5 => assumption); (case kK => first | exact rfl | assumption); (case kd => first | exact Nat.le_of_ble_eq_true rfl | ktr_room); (case ku => first | exact Nat.le_of_ble_eq_true rfl | ktr_units)); intro a9 h9 tk9 T9 F9 N9; (try dsimp only); (try k_fold)))

end PartS4
/-! part S5 -/
section PartS5
local macro_rules | `(tactic| walk_at "call ref") => `(tactic| (k_here; (with_reducible show wpAny _ _ (call (Value.ref 155) _) _ _ _); k_dflt (refine' Ctr.use (c_sign ?a0 ?a1) ?k1 ?k2 ?k3 ?k4 ?k5 ?kK ?kd ?ku ?_; (case k1 => k_asm); (case k2 => k_asm); (case k3 => k_asm); (case k4 => k_asm); (case k5 => k_asm); (case a0 => walk_at "MINE tup"); (case a1 => assumption); (case kK => first | exact rfl | assumption); (case kd => first | exact Nat.le_of_ble_eq_true rfl | ktr_room); (case ku => first | exact Nat.le_of_ble_eq_true rfl | ktr_units)); intro t9 h9 tk9 hx9 F9 N9; (try dsimp only); (try k_fold)))
set_option maxHeartbeats 2000000 in
theorem c_cmp_sp {w : World} {news : Led} {a a' : Addr} {x y : LX} (hx : TupX w news a x) (hs : x.small) (hy : TupX w news a' y) (hs' : y.small) (hp : x.spec = true ∨ y.spec = true) (hxn : x.isNan = false) (hyn : y.isNan = false) :
    Ctr w 5 89 news [.ref a, .ref a'] (RI news (ordL x y)) := by
  have hx0 := hx
  have hy0 := hy
  obtain ⟨s, m, e, b, hx, hk, hk', -⟩ := hx.opn hs
  obtain ⟨s', m', e', b', hy, hl, hl', -⟩ := hy.opn hs'
  have hsp := sp_or0 hk hl hp
  have hnf := nn_f hk hxn
  have hnf' := nn_f hl hyn
  (unfold Ctr; intro p loose mean mg mb dp un gd cn cs ca ccd cl outer A₀ base h₀ L mm st Q E B F X N T hk0 hd0 hu0 hret; refine wpAny_call ?_; k_dflt (refine' code_defZ [Str.ofString "s", Str.ofString "t"] [] ?k1 ?k2 ?k3 ?k4 ?k5 ?kA ?kF ?kK ?k6 ?k7 ?k8 ?k9 ?kB ?_ ?c2 ?c3 ?c4 ?c5; (case kA => exact rfl); (case kF => exact rfl); (case kK => assumption); (case k1 => k_asm); (case k2 => k_asm); (case k3 => k_asm); (case k4 => k_asm); (case k5 => k_asm); (case k6 => k_is); (case k7 => k_is); (case k8 => first | exact Nat.le_of_ble_eq_true rfl | ktr_room); (case k9 => first | exact BindsTo.of_eq rfl | exact binds_K (by k_in) rfl (by k_is) rfl rfl rfl); (case c5 => decide); (case kB => decide +kernel); (case c2 => exact rfl); (case c3 => exact rfl); (case c4 => exact rfl); k_whole); intro g' L' h' FG' F' N' B' X' T'; (try k_lift B'); dsimp only [List.nil_append, List.cons_append, List.append_nil, List.zip, List.zipWith, List.reverse, List.reverseAux] at F'; (try dsimp only); (try k_fold))
  k_steps
  all_goals first | walk_at "MINE end" | (exfalso; omega)
  all_goals first
    | exact o_sz hk (by assumption) (hp.resolve_left (by rw [sp_not0 hk (by assumption)]; decide)) hyn
    | exact o_tz hl (by assumption) (hp.resolve_right (by rw [sp_not0 hl (by assumption)]; decide)) hxn
    | exact o_eq hk hl (by assumption) hp
    | exact o_over hk hl (by assumption) (by assumption)
    | exact o_under hk hl (by assumption) (by assumption) (by assumption) hxn
    | exact o_rest hk hl (by assumption) (by assumption) (by assumption) hxn hyn hp
    | (exfalso; omega)

end PartS5
/-! part S6 -/
section PartS6
set_option maxHeartbeats 2000000 in
theorem c_unorm {w : World} {news : Led} {sg man exp bc prec : Int} {t1 t2 t3 t4 t5 t6 : Tok} {r : Str} (hm : 0 < man) (ho : Builtin.bitAnd man 1 ≠ 0) (hb : bc ≤ prec) (hbc : bc = ((Builtin.Int.intBits man : Nat) : Int)) :
    Ctr w 3 44 news [.int sg t1, .int man t2, .int exp t3, .int bc t4, .int prec t5, .str r t6] (RN w news sg man exp bc) := by
  (unfold Ctr; intro p loose mean mg mb dp un gd cn cs ca ccd cl outer A₀ base h₀ L mm st Q E B F X N T hk0 hd0 hu0 hret; refine wpAny_call ?_; k_dflt (refine' code_defZ [Str.ofString "sign", Str.ofString "man", Str.ofString "exp", Str.ofString "bc", Str.ofString "prec", Str.ofString "rnd"] [] ?k1 ?k2 ?k3 ?k4 ?k5 ?kA ?kF ?kK ?k6 ?k7 ?k8 ?k9 ?kB ?_ ?c2 ?c3 ?c4 ?c5; (case kA => exact rfl); (case kF => exact rfl); (case kK => assumption); (case k1 => k_asm); (case k2 => k_asm); (case k3 => k_asm); (case k4 => k_asm); (case k5 => k_asm); (case k6 => k_is); (case k7 => k_is); (case k8 => first | exact Nat.le_of_ble_eq_true rfl | ktr_room); (case k9 => first | exact BindsTo.of_eq rfl | exact binds_K (by k_in) rfl (by k_is) rfl rfl rfl); (case c5 => decide); (case kB => decide +kernel); (case c2 => exact rfl); (case c3 => exact rfl); (case c4 => exact rfl); k_whole); intro g' L' h' FG' F' N' B' X' T'; (try k_lift B'); dsimp only [List.nil_append, List.cons_append, List.append_nil, List.zip, List.zipWith, List.reverse, List.reverseAux] at F'; (try dsimp only); (try k_fold))
  k_steps
  all_goals first | walk_at "MINE endN" | (exfalso; omega)
  all_goals first | exact ⟨rfl, rfl, rfl, rfl⟩ | exact ⟨rfl, rfl, rfl, (bits_one (by assumption)).trans hbc.symm⟩
local macro_rules | `(tactic| walk_at "call ref") => `(tactic| (k_here; (with_reducible show wpAny _ _ (call (Value.ref 44) _) _ _ _); k_dflt (refine' Ctr.use (c_unorm ?a0 ?a1 ?a2 ?a3) ?k1 ?k2 ?k3 ?k4 ?k5 ?kK ?kd ?ku ?_; (case k1 => k_asm); (case k2 => k_asm); (case k3 => k_asm); (case k4 => k_asm); (case k5 => k_asm); (case a0 => omega); (case a1 => assumption); (case a2 => omega); (case a3 => assumption); (case kK => first | exact rfl | assumption); (case kd => first | exact Nat.le_of_ble_eq_true rfl | ktr_room); (case ku => first | exact Nat.le_of_ble_eq_true rfl | ktr_units)); intro D9 o9 h9 tk9 T9 l9 F9 N9; (try k_lt l9); (try dsimp only); (try k_fold)))
set_option maxHeartbeats 2000000 in
theorem c_norm {w : World} {news : Led} {sg man exp bc prec : Int} {t1 t2 t3 t4 t5 t6 : Tok} {r : Str} (hm : 0 < man) (ho : Builtin.bitAnd man 1 ≠ 0) (hb : bc ≤ prec) (hbc : bc = ((Builtin.Int.intBits man : Nat) : Int)) :
    Ctr w 5 51 news [.int sg t1, .int man t2, .int exp t3, .int bc t4, .int prec t5, .str r t6] (RN w news sg man exp bc) := by
  (unfold Ctr; intro p loose mean mg mb dp un gd cn cs ca ccd cl outer A₀ base h₀ L mm st Q E B F X N T hk0 hd0 hu0 hret; refine wpAny_call ?_; k_dflt (refine' code_defZ [Str.ofString "sign", Str.ofString "man", Str.ofString "exp", Str.ofString "bc", Str.ofString "prec", Str.ofString "rnd"] [] ?k1 ?k2 ?k3 ?k4 ?k5 ?kA ?kF ?kK ?k6 ?k7 ?k8 ?k9 ?kB ?_ ?c2 ?c3 ?c4 ?c5; (case kA => exact rfl); (case kF => exact rfl); (case kK => assumption); (case k1 => k_asm); (case k2 => k_asm); (case k3 => k_asm); (case k4 => k_asm); (case k5 => k_asm); (case k6 => k_is); (case k7 => k_is); (case k8 => first | exact Nat.le_of_ble_eq_true rfl | ktr_room); (case k9 => first | exact BindsTo.of_eq rfl | exact binds_K (by k_in) rfl (by k_is) rfl rfl rfl); (case c5 => decide); (case kB => decide +kernel); (case c2 => exact rfl); (case c3 => exact rfl); (case c4 => exact rfl); k_whole); intro g' L' h' FG' F' N' B' X' T'; (try k_lift B'); dsimp only [List.nil_append, List.cons_append, List.append_nil, List.zip, List.zipWith, List.reverse, List.reverseAux] at F'; (try dsimp only); (try k_fold))
  k_steps
  all_goals first | walk_at "MINE endN" | (exfalso; omega)
  all_goals first | exact ⟨rfl, rfl, rfl, rfl⟩
section
local macro_rules | `(tactic| walk_at "MINE pn") => `(tactic| first | (refine pn1 ?_ ?_ <;> assumption) | (refine pn2 ?_ ?_ <;> assumption))
local macro_rules | `(tactic| walk_at "call ref") => `(tactic| (k_here; (with_reducible show wpAny _ _ (call (Value.ref 51) _) _ _ _); k_dflt (refine' Ctr.use (c_norm ?a0 ?a1 ?a2 ?a3) ?k1 ?k2 ?k3 ?k4 ?k5 ?kK ?kd ?ku ?_; (case k1 => k_asm); (case k2 => k_asm); (case k3 => k_asm); (case k4 => k_asm); (case k5 => k_asm); (case a0 => exact PN.pos (by walk_at "MINE pn")); (case a1 => exact PN.odd (by walk_at "MINE pn")); (case a2 => exact PN.bits (by walk_at "MINE pn")); (case a3 => rfl); (case kK => first | exact rfl | assumption); (case kd => first | exact Nat.le_of_ble_eq_true rfl | ktr_room); (case ku => first | exact Nat.le_of_ble_eq_true rfl | ktr_units)); intro D9 o9 h9 tk9 T9 l9 F9 N9; (try k_lt l9); (try dsimp only); (try k_fold)))
set_option maxHeartbeats 2000000 in
theorem c_addd {w : World} {news : Led} {a a' : Addr} {s m e b m' e' b' : Int} {t t' t'' : Tok} {r : Str} (hs : s = 0 ∨ s = 1) (hx : TupA (hd.heap_39 w.params) news a s m e b) (hy : TupA (hd.heap_39 w.params) news a' s m' e' b')
    (hm : 0 < m) (hm' : 0 < m') (hM : m < 512) (hM' : m' < 512) (he : e' < e) (he' : e ≤ e' + 4) (hb0 : m * 2 ^ (e - e').toNat - m' ≠ 0) (hp : (0 ≤ m * 2 ^ (e - e').toNat - m' → PN (m * 2 ^ (e - e').toNat - m')) ∧ (¬0 ≤ m * 2 ^ (e - e').toNat - m' → PN (-(m * 2 ^ (e - e').toNat - m')))) :
    Ctr w 7 163 news [.ref a, .ref a', .int 5 t, .str r t', .int 1 t''] (RNs w news (if (s = 0 ↔ 0 ≤ m * 2 ^ (e - e').toNat - m') then 0 else 1)) := by
  obtain ⟨p1, p2⟩ := id hp
  obtain ⟨p3, p4⟩ := pn_neg (w := m' - m * 2 ^ (e - e').toNat) (by omega) hp hb0
  rcases hs with rfl | rfl
  · (unfold Ctr; intro p loose mean mg mb dp un gd cn cs ca ccd cl outer A₀ base h₀ L mm st Q E B F X N T hk0 hd0 hu0 hret; refine wpAny_call ?_; k_dflt (refine' code_defZ [Str.ofString "s", Str.ofString "t", Str.ofString "prec", Str.ofString "rnd", Str.ofString "_sub"] [] ?k1 ?k2 ?k3 ?k4 ?k5 ?kA ?kF ?kK ?k6 ?k7 ?k8 ?k9 ?kB ?_ ?c2 ?c3 ?c4 ?c5; (case kA => exact rfl); (case kF => exact rfl); (case kK => assumption); (case k1 => k_asm); (case k2 => k_asm); (case k3 => k_asm); (case k4 => k_asm); (case k5 => k_asm); (case k6 => k_is); (case k7 => k_is); (case k8 => first | exact Nat.le_of_ble_eq_true rfl | ktr_room); (case k9 => first | exact BindsTo.of_eq rfl | exact binds_K (by k_in) rfl (by k_is) rfl rfl rfl); (case c5 => decide); (case kB => decide +kernel); (case c2 => exact rfl); (case c3 => exact rfl); (case c4 => exact rfl); k_whole); intro g' L' h' FG' F' N' B' X' T'; (try k_lift B'); dsimp only [List.nil_append, List.cons_append, List.append_nil, List.zip, List.zipWith, List.reverse, List.reverseAux] at F'; (try dsimp only); (try k_fold))
    k_steps
    all_goals first | walk_at "MINE endNs" | (exfalso; omega)
    all_goals first | (rw [if_pos ⟨fun _ => by assumption, fun _ => rfl⟩]; done) | (rw [if_neg (fun q => absurd (q.1 rfl) (by assumption))]; done)
  · (unfold Ctr; intro p loose mean mg mb dp un gd cn cs ca ccd cl outer A₀ base h₀ L mm st Q E B F X N T hk0 hd0 hu0 hret; refine wpAny_call ?_; k_dflt (refine' code_defZ [Str.ofString "s", Str.ofString "t", Str.ofString "prec", Str.ofString "rnd", Str.ofString "_sub"] [] ?k1 ?k2 ?k3 ?k4 ?k5 ?kA ?kF ?kK ?k6 ?k7 ?k8 ?k9 ?kB ?_ ?c2 ?c3 ?c4 ?c5; (case kA => exact rfl); (case kF => exact rfl); (case kK => assumption); (case k1 => k_asm); (case k2 => k_asm); (case k3 => k_asm); (case k4 => k_asm); (case k5 => k_asm); (case k6 => k_is); (case k7 => k_is); (case k8 => first | exact Nat.le_of_ble_eq_true rfl | ktr_room); (case k9 => first | exact BindsTo.of_eq rfl | exact binds_K (by k_in) rfl (by k_is) rfl rfl rfl); (case c5 => decide); (case kB => decide +kernel); (case c2 => exact rfl); (case c3 => exact rfl); (case c4 => exact rfl); k_whole); intro g' L' h' FG' F' N' B' X' T'; (try k_lift B'); dsimp only [List.nil_append, List.cons_append, List.append_nil, List.zip, List.zipWith, List.reverse, List.reverseAux] at F'; (try dsimp only); (try k_fold))
    k_steps
    all_goals first | walk_at "MINE endNs" | (exfalso; omega)
    all_goals first | (rw [if_pos (by constructor <;> omega)]; done) | (rw [if_neg (by intro q; have := q.2; omega)]; done)
set_option maxHeartbeats 2000000 in
theorem c_addu {w : World} {news : Led} {a a' : Addr} {s m e b m' e' b' : Int} {t t' t'' : Tok} {r : Str} (hs : s = 0 ∨ s = 1) (hx : TupA (hd.heap_39 w.params) news a s m e b) (hy : TupA (hd.heap_39 w.params) news a' s m' e' b')
    (hm : 0 < m) (hm' : 0 < m') (hM : m < 512) (hM' : m' < 512) (he : e < e') (he' : e' ≤ e + 4) (hb0 : m' * 2 ^ (-(e - e')).toNat - m ≠ 0) (hp : (0 ≤ m' * 2 ^ (-(e - e')).toNat - m → PN (m' * 2 ^ (-(e - e')).toNat - m)) ∧ (¬0 ≤ m' * 2 ^ (-(e - e')).toNat - m → PN (-(m' * 2 ^ (-(e - e')).toNat - m)))) :
    Ctr w 7 163 news [.ref a, .ref a', .int 5 t, .str r t', .int 1 t''] (RNs w news (if (s = 1 ↔ 0 ≤ m' * 2 ^ (-(e - e')).toNat - m) then 0 else 1)) := by
  obtain ⟨p1, p2⟩ := id hp
  obtain ⟨p3, p4⟩ := pn_neg (w := m - m' * 2 ^ (-(e - e')).toNat) (by omega) hp hb0
  rcases hs with rfl | rfl
  · (unfold Ctr; intro p loose mean mg mb dp un gd cn cs ca ccd cl outer A₀ base h₀ L mm st Q E B F X N T hk0 hd0 hu0 hret; refine wpAny_call ?_; k_dflt (refine' code_defZ [Str.ofString "s", Str.ofString "t", Str.ofString "prec", Str.ofString "rnd", Str.ofString "_sub"] [] ?k1 ?k2 ?k3 ?k4 ?k5 ?kA ?kF ?kK ?k6 ?k7 ?k8 ?k9 ?kB ?_ ?c2 ?c3 ?c4 ?c5; (case kA => exact rfl); (case kF => exact rfl); (case kK => assumption); (case k1 => k_asm); (case k2 => k_asm); (case k3 => k_asm); (case k4 => k_asm); (case k5 => k_asm); (case k6 => k_is); (case k7 => k_is); (case k8 => first | exact Nat.le_of_ble_eq_true rfl | ktr_room); (case k9 => first | exact BindsTo.of_eq rfl | exact binds_K (by k_in) rfl (by k_is) rfl rfl rfl); (case c5 => decide); (case kB => decide +kernel); (case c2 => exact rfl); (case c3 => exact rfl); (case c4 => exact rfl); k_whole); intro g' L' h' FG' F' N' B' X' T'; (try k_lift B'); dsimp only [List.nil_append, List.cons_append, List.append_nil, List.zip, List.zipWith, List.reverse, List.reverseAux] at F'; (try dsimp only); (try k_fold))
    k_steps
    all_goals first | walk_at "MINE endNs" | (exfalso; omega)
    all_goals first | (rw [if_pos (by constructor <;> omega)]; done) | (rw [if_neg (by intro q; have := q.2; omega)]; done)
  · (unfold Ctr; intro p loose mean mg mb dp un gd cn cs ca ccd cl outer A₀ base h₀ L mm st Q E B F X N T hk0 hd0 hu0 hret; refine wpAny_call ?_; k_dflt (refine' code_defZ [Str.ofString "s", Str.ofString "t", Str.ofString "prec", Str.ofString "rnd", Str.ofString "_sub"] [] ?k1 ?k2 ?k3 ?k4 ?k5 ?kA ?kF ?kK ?k6 ?k7 ?k8 ?k9 ?kB ?_ ?c2 ?c3 ?c4 ?c5; (case kA => exact rfl); (case kF => exact rfl); (case kK => assumption); (case k1 => k_asm); (case k2 => k_asm); (case k3 => k_asm); (case k4 => k_asm); (case k5 => k_asm); (case k6 => k_is); (case k7 => k_is); (case k8 => first | exact Nat.le_of_ble_eq_true rfl | ktr_room); (case k9 => first | exact BindsTo.of_eq rfl | exact binds_K (by k_in) rfl (by k_is) rfl rfl rfl); (case c5 => decide); (case kB => decide +kernel); (case c2 => exact rfl); (case c3 => exact rfl); (case c4 => exact rfl); k_whole); intro g' L' h' FG' F' N' B' X' T'; (try k_lift B'); dsimp only [List.nil_append, List.cons_append, List.append_nil, List.zip, List.zipWith, List.reverse, List.reverseAux] at F'; (try dsimp only); (try k_fold))
    k_steps
    all_goals first | walk_at "MINE endNs" | (exfalso; omega)
    all_goals first | (rw [if_pos ⟨fun _ => by assumption, fun _ => rfl⟩]; done) | (rw [if_neg (fun q => absurd (q.1 rfl) (by assumption))]; done)
end

end PartS6
/-! part S7 -/
section PartS7
local macro_rules | `(tactic| walk_at "call ref") => `(tactic| (k_here; (with_reducible show wpAny _ _ (call (Value.ref 155) _) _ _ _); k_dflt (refine' Ctr.use (c_sign ?a0 ?a1) ?k1 ?k2 ?k3 ?k4 ?k5 ?kK ?kd ?ku ?_; (case k1 => k_asm); (case k2 => k_asm); (case k3 => k_asm); (case k4 => k_asm); (case k5 => k_asm); (case a0 => walk_at "MINE tup"); (case a1 => assumption); (case kK => first | exact rfl | assumption); (case kd => first | exact Nat.le_of_ble_eq_true rfl | ktr_room); (case ku => first | exact Nat.le_of_ble_eq_true rfl | ktr_units)); intro t9 h9 tk9 hx9 F9 N9; (try dsimp only); (try k_fold)))
section
local macro_rules | `(tactic| walk_at "call ref") => `(tactic| (k_here; (with_reducible show wpAny _ _ (call (Value.ref 163) _) _ _ _); k_dflt (refine' Ctr.use (c_addd ?a0 ?a1 ?a2 ?a3 ?a4 ?a5 ?a6 ?a7 ?a8 ?a9 ?a10) ?k1 ?k2 ?k3 ?k4 ?k5 ?kK ?kd ?ku ?_; (case k1 => k_asm); (case k2 => k_asm); (case k3 => k_asm); (case k4 => k_asm); (case k5 => k_asm); (case a0 => assumption); (case a1 => assumption); (case a2 => assumption); (case a3 => assumption); (case a4 => assumption); (case a5 => assumption); (case a6 => assumption); (case a7 => assumption); (case a8 => assumption); (case a9 => assumption); (case a10 => assumption); (case kK => first | exact rfl | assumption); (case kd => first | exact Nat.le_of_ble_eq_true rfl | ktr_room); (case ku => first | exact Nat.le_of_ble_eq_true rfl | ktr_units)); intro m9 e9 b9 D9 o9 h9 tk9 T9 l9 F9 N9; (try dsimp only); (try k_fold)))
local macro_rules | `(tactic| walk_at "call ref") => `(tactic| (k_here; (with_reducible show wpAny _ _ (call (Value.ref 163) _) _ _ _); k_dflt (refine' Ctr.use (c_addu ?a0 ?a1 ?a2 ?a3 ?a4 ?a5 ?a6 ?a7 ?a8 ?a9 ?a10) ?k1 ?k2 ?k3 ?k4 ?k5 ?kK ?kd ?ku ?_; (case k1 => k_asm); (case k2 => k_asm); (case k3 => k_asm); (case k4 => k_asm); (case k5 => k_asm); (case a0 => assumption); (case a1 => assumption); (case a2 => assumption); (case a3 => assumption); (case a4 => assumption); (case a5 => assumption); (case a6 => assumption); (case a7 => assumption); (case a8 => assumption); (case a9 => assumption); (case a10 => assumption); (case kK => first | exact rfl | assumption); (case kd => first | exact Nat.le_of_ble_eq_true rfl | ktr_room); (case ku => first | exact Nat.le_of_ble_eq_true rfl | ktr_units)); intro m9 e9 b9 D9 o9 h9 tk9 T9 l9 F9 N9; (try dsimp only); (try k_fold)))
local macro_rules | `(tactic| walk_at "PAD 2") => `(tactic| skip)
set_option maxHeartbeats 2000000 in
theorem c_subn {w : World} {news : Led} {a a' : Addr} {n s m e b n' s' m' e' b' : Int} {t t' : Tok} {r : Str} (h : Nz n s m e b) (h' : Nz n' s' m' e' b') (hx : TupA (hd.heap_39 w.params) news a s m e b) (hy : TupA (hd.heap_39 w.params) news a' s' m' e' b')
    (hss : s = s') (he : e ≠ e') (hb : b + e = b' + e') : Ctr w 9 171 news [.ref a, .ref a', .int 5 t, .str r t'] (RNs w news (if n < n' then 1 else 0)) := by
  obtain ⟨hm, hM⟩ := h.mlt
  obtain ⟨hm', hM'⟩ := h'.mlt
  have h01 : s = 0 ∨ s = 1 := h.sg.imp And.left And.left
  by_cases hl : e' < e
  · have hsg := sg_down h h' hss hl hb
    obtain ⟨f1, f2, f3, -⟩ := f_down h h' hl hb
    subst hss
    (unfold Ctr; intro p loose mean mg mb dp un gd cn cs ca ccd cl outer A₀ base h₀ L mm st Q E B F X N T hk0 hd0 hu0 hret; refine wpAny_call ?_; k_dflt (refine' code_defZ [Str.ofString "s", Str.ofString "t", Str.ofString "prec", Str.ofString "rnd"] [] ?k1 ?k2 ?k3 ?k4 ?k5 ?kA ?kF ?kK ?k6 ?k7 ?k8 ?k9 ?kB ?_ ?c2 ?c3 ?c4 ?c5; (case kA => exact rfl); (case kF => exact rfl); (case kK => assumption); (case k1 => k_asm); (case k2 => k_asm); (case k3 => k_asm); (case k4 => k_asm); (case k5 => k_asm); (case k6 => k_is); (case k7 => k_is); (case k8 => first | exact Nat.le_of_ble_eq_true rfl | ktr_room); (case k9 => first | exact BindsTo.of_eq rfl | exact binds_K (by k_in) rfl (by k_is) rfl rfl rfl); (case c5 => decide); (case kB => decide +kernel); (case c2 => exact rfl); (case c3 => exact rfl); (case c4 => exact rfl); k_whole); intro g' L' h' FG' F' N' B' X' T'; (try k_lift B'); dsimp only [List.nil_append, List.cons_append, List.append_nil, List.zip, List.zipWith, List.reverse, List.reverseAux] at F'; (try dsimp only); (try k_fold))
    k_steps
    all_goals first | walk_at "MINE endNs"
    all_goals first | exact hsg
  · have hl' : e < e' := by omega
    have hsg := sg_up h h' hss hl' hb
    obtain ⟨f1, f2, f3, -⟩ := f_up h h' hl' hb
    subst hss
    (unfold Ctr; intro p loose mean mg mb dp un gd cn cs ca ccd cl outer A₀ base h₀ L mm st Q E B F X N T hk0 hd0 hu0 hret; refine wpAny_call ?_; k_dflt (refine' code_defZ [Str.ofString "s", Str.ofString "t", Str.ofString "prec", Str.ofString "rnd"] [] ?k1 ?k2 ?k3 ?k4 ?k5 ?kA ?kF ?kK ?k6 ?k7 ?k8 ?k9 ?kB ?_ ?c2 ?c3 ?c4 ?c5; (case kA => exact rfl); (case kF => exact rfl); (case kK => assumption); (case k1 => k_asm); (case k2 => k_asm); (case k3 => k_asm); (case k4 => k_asm); (case k5 => k_asm); (case k6 => k_is); (case k7 => k_is); (case k8 => first | exact Nat.le_of_ble_eq_true rfl | ktr_room); (case k9 => first | exact BindsTo.of_eq rfl | exact binds_K (by k_in) rfl (by k_is) rfl rfl rfl); (case c5 => decide); (case kB => decide +kernel); (case c2 => exact rfl); (case c3 => exact rfl); (case c4 => exact rfl); k_whole); intro g' L' h' FG' F' N' B' X' T'; (try k_lift B'); dsimp only [List.nil_append, List.cons_append, List.append_nil, List.zip, List.zipWith, List.reverse, List.reverseAux] at F'; (try dsimp only); (try k_fold))
    k_steps
    all_goals first | walk_at "MINE endNs"
    all_goals first | exact hsg
end
section
local macro_rules | `(tactic| walk_at "call ref") => `(tactic| (k_here; (with_reducible show wpAny _ _ (call (Value.ref 171) _) _ _ _); k_dflt (refine' Ctr.use (c_subn ?a0 ?a1 ?a2 ?a3 ?a4 ?a5 ?a6) ?k1 ?k2 ?k3 ?k4 ?k5 ?kK ?kd ?ku ?_; (case k1 => k_asm); (case k2 => k_asm); (case k3 => k_asm); (case k4 => k_asm); (case k5 => k_asm); (case a2 => assumption); (case a3 => assumption); (case a0 => assumption); (case a1 => assumption); (case a4 => assumption); (case a5 => assumption); (case a6 => omega); (case kK => first | exact rfl | assumption); (case kd => first | exact Nat.le_of_ble_eq_true rfl | ktr_room); (case ku => first | exact Nat.le_of_ble_eq_true rfl | ktr_units)); intro m9 e9 b9 D9 o9 h9 tk9 T9 l9 F9 N9; (try dsimp only); (try k_fold)))
set_option maxHeartbeats 2000000 in
theorem c_cmp_nz {w : World} {news : Led} {a a' : Addr} {n s m e b n' s' m' e' b' : Int} (hn : Nz n s m e b) (hn' : Nz n' s' m' e' b') (hx : TupA (hd.heap_39 w.params) news a s m e b) (hy : TupA (hd.heap_39 w.params) news a' s' m' e' b') :
    Ctr w 11 89 news [.ref a, .ref a'] (RI news (ordL (.num n) (.num n'))) := by
  obtain ⟨hm, hM⟩ := hn.mlt
  obtain ⟨hm', hM'⟩ := hn'.mlt
  (unfold Ctr; intro p loose mean mg mb dp un gd cn cs ca ccd cl outer A₀ base h₀ L mm st Q E B F X N T hk0 hd0 hu0 hret; refine wpAny_call ?_; k_dflt (refine' code_defZ [Str.ofString "s", Str.ofString "t"] [] ?k1 ?k2 ?k3 ?k4 ?k5 ?kA ?kF ?kK ?k6 ?k7 ?k8 ?k9 ?kB ?_ ?c2 ?c3 ?c4 ?c5; (case kA => exact rfl); (case kF => exact rfl); (case kK => assumption); (case k1 => k_asm); (case k2 => k_asm); (case k3 => k_asm); (case k4 => k_asm); (case k5 => k_asm); (case k6 => k_is); (case k7 => k_is); (case k8 => first | exact Nat.le_of_ble_eq_true rfl | ktr_room); (case k9 => first | exact BindsTo.of_eq rfl | exact binds_K (by k_in) rfl (by k_is) rfl rfl rfl); (case c5 => decide); (case kB => decide +kernel); (case c2 => exact rfl); (case c3 => exact rfl); (case c4 => exact rfl); k_whole); intro g' L' h' FG' F' N' B' X' T'; (try k_lift B'); dsimp only [List.nil_append, List.cons_append, List.append_nil, List.zip, List.zipWith, List.reverse, List.reverseAux] at F'; (try dsimp only); (try k_fold))
  k_steps
  all_goals first | walk_at "MINE end" | (exfalso; omega)
  all_goals first
    | exact (f_sign hn hn' (by assumption)).1 (by assumption)
    | exact (f_sign hn hn' (by assumption)).2 (by assumption)
    | exact (f_lt hn hn' (by assumption) (by assumption)).1 (by assumption)
    | exact (f_lt hn hn' (by assumption) (by assumption)).2 (by assumption)
    | exact (f_gt hn hn' (by assumption) (by assumption)).1 (by assumption)
    | exact (f_gt hn hn' (by assumption) (by assumption)).2 (by assumption)
    | exact (f_d hn hn' (by assumption)).1 (by assumption)
    | exact (f_d hn hn' (by assumption)).2 (by assumption)
    | exact (f_e hn hn' (by assumption) (by assumption)).1 (by assumption)
    | exact (f_e hn hn' (by assumption) (by assumption)).2.1 (by assumption) (by assumption)
    | exact (f_e hn hn' (by assumption) (by assumption)).2.2.1 (by assumption) (by assumption)
    | exact (f_e hn hn' (by assumption) (by assumption)).2.2.2.1 (by assumption) (by assumption) (by assumption)
    | exact (f_e hn hn' (by assumption) (by assumption)).2.2.2.2 (by assumption) (by assumption) (by assumption)
end
local macro_rules | `(tactic| walk_at "call ref") => `(tactic| (k_here; (with_reducible show wpAny _ _ (call (Value.ref 155) _) _ _ _); k_dflt (refine' Ctr.use (c_sign ?a0 ?a1) ?k1 ?k2 ?k3 ?k4 ?k5 ?kK ?kd ?ku ?_; (case k1 => k_asm); (case k2 => k_asm); (case k3 => k_asm); (case k4 => k_asm); (case k5 => k_asm); (case a0 => walk_at "MINE tup"); (case a1 => assumption); (case kK => first | exact rfl | assumption); (case kd => first | exact Nat.le_of_ble_eq_true rfl | ktr_room); (case ku => first | exact Nat.le_of_ble_eq_true rfl | ktr_units)); intro t9 h9 tk9 hx9 F9 N9; (try dsimp only); (try k_fold)))
local macro_rules | `(tactic| walk_at "PAD 3") => `(tactic| skip)
set_option maxHeartbeats 2000000 in
theorem c_cmp_z {w : World} {news : Led} {a a' : Addr} {n n' : Int} (hx : TupX w news a (.num n)) (hs : (LX.num n).small) (hy : TupX w news a' (.num n')) (hs' : (LX.num n').small) (hz : n = 0 ∨ n' = 0) :
    Ctr w 5 89 news [.ref a, .ref a'] (RI news (ordL (.num n) (.num n'))) := by
  have hx0 := hx
  have hy0 := hy
  obtain ⟨s, m, e, b, hx, hk, hk', -⟩ := hx.opn hs
  obtain ⟨s', m', e', b', hy, hl, hl', -⟩ := hy.opn hs'
  have hsp : m = 0 ∨ m' = 0 := z_or hk hl hz
  have hzz : e4 s m e b 0 0 0 0 = false → e4 s' m' e' b' 0 0 0 0 = true := z_imp hk hl hz
  (unfold Ctr; intro p loose mean mg mb dp un gd cn cs ca ccd cl outer A₀ base h₀ L mm st Q E B F X N T hk0 hd0 hu0 hret; refine wpAny_call ?_; k_dflt (refine' code_defZ [Str.ofString "s", Str.ofString "t"] [] ?k1 ?k2 ?k3 ?k4 ?k5 ?kA ?kF ?kK ?k6 ?k7 ?k8 ?k9 ?kB ?_ ?c2 ?c3 ?c4 ?c5; (case kA => exact rfl); (case kF => exact rfl); (case kK => assumption); (case k1 => k_asm); (case k2 => k_asm); (case k3 => k_asm); (case k4 => k_asm); (case k5 => k_asm); (case k6 => k_is); (case k7 => k_is); (case k8 => first | exact Nat.le_of_ble_eq_true rfl | ktr_room); (case k9 => first | exact BindsTo.of_eq rfl | exact binds_K (by k_in) rfl (by k_is) rfl rfl rfl); (case c5 => decide); (case kB => decide +kernel); (case c2 => exact rfl); (case c3 => exact rfl); (case c4 => exact rfl); k_whole); intro g' L' h' FG' F' N' B' X' T'; (try k_lift B'); dsimp only [List.nil_append, List.cons_append, List.append_nil, List.zip, List.zipWith, List.reverse, List.reverseAux] at F'; (try dsimp only); (try k_fold))
  k_steps
  all_goals first | walk_at "MINE end" | (exfalso; omega)
  all_goals first
    | exact z_l hk (by assumption)
    | exact z_r hl (by assumption)
    | (exfalso; omega)
    | exact absurd (hzz (by assumption)) (by rw [(by assumption : e4 s' m' e' b' 0 0 0 0 = false)]; decide)
theorem c_cmp {w : World} {news : Led} {a a' : Addr} {x y : LX} (hx : TupX w news a x) (hs : x.tiny) (hy : TupX w news a' y) (hs' : y.tiny) (hxn : x.isNan = false) (hyn : y.isNan = false) :
    Ctr w 11 89 news [.ref a, .ref a'] (RI news (ordL x y)) := by
  by_cases hp : x.spec = true ∨ y.spec = true
  · exact (c_cmp_sp hx hs.small hy hs'.small hp hxn hyn).mono (by omega)
  · obtain ⟨n, rfl⟩ := not_spec (x := x) (by simpa using fun q => hp (.inl q))
    obtain ⟨n', rfl⟩ := not_spec (x := y) (by simpa using fun q => hp (.inr q))
    by_cases hz : n = 0 ∨ n' = 0
    · exact (c_cmp_z hx hs.small hy hs'.small hz).mono (by omega)
    · have h1 : -20 ≤ n ∧ n ≤ 20 := hs
      have h2 : -20 ≤ n' ∧ n' ≤ 20 := hs'
      exact c_cmp_nz ⟨h1.1, h1.2, by omega, rfl, rfl, rfl, rfl⟩ ⟨h2.1, h2.2, by omega, rfl, rfl, rfl, rfl⟩ hx hy


end PartS7
/-! part S8 -/
section PartS8
section
local macro_rules | `(tactic| walk_at "MINE nn") => `(tactic| first | exact nn_of (by assumption) (not_e4 (by assumption)))
local macro_rules | `(tactic| walk_at "call ref") => `(tactic| (k_here; (with_reducible show wpAny _ _ (call (Value.ref 89) _) _ _ _); k_dflt (refine' Ctr.use (c_cmp ?a0 ?a1 ?a2 ?a3 ?a4 ?a5) ?k1 ?k2 ?k3 ?k4 ?k5 ?kK ?kd ?ku ?_; (case k1 => k_asm); (case k2 => k_asm); (case k3 => k_asm); (case k4 => k_asm); (case k5 => k_asm); (case a0 => walk_at "MINE tup"); (case a1 => assumption); (case a2 => walk_at "MINE tup"); (case a3 => assumption); (case a4 => walk_at "MINE nn"); (case a5 => walk_at "MINE nn"); (case kK => first | exact rfl | assumption); (case kd => first | exact Nat.le_of_ble_eq_true rfl | ktr_room); (case ku => first | exact Nat.le_of_ble_eq_true rfl | ktr_units)); intro t9 h9 tk9 F9 N9; (try dsimp only); (try k_fold)))
set_option maxHeartbeats 2000000 in
theorem c_lt {w : World} {news : Led} {a a' : Addr} {x y : LX} (hx : TupX w news a x) (hs : x.tiny) (hy : TupX w news a' y) (hs' : y.tiny) :
    Ctr w 13 96 news [.ref a, .ref a'] (RB news (if x.isNan = true ∨ y.isNan = true then false else decide (ordL x y < 0))) := by
  have hx0 := hx
  have hy0 := hy
  obtain ⟨s, m, e, b, hx, hk, -, -⟩ := hx.opn hs.small
  obtain ⟨s', m', e', b', hy, hl, -, -⟩ := hy.opn hs'.small
  (unfold Ctr; intro p loose mean mg mb dp un gd cn cs ca ccd cl outer A₀ base h₀ L mm st Q E B F X N T hk0 hd0 hu0 hret; refine wpAny_call ?_; k_dflt (refine' code_defZ [Str.ofString "s", Str.ofString "t"] [] ?k1 ?k2 ?k3 ?k4 ?k5 ?kA ?kF ?kK ?k6 ?k7 ?k8 ?k9 ?kB ?_ ?c2 ?c3 ?c4 ?c5; (case kA => exact rfl); (case kF => exact rfl); (case kK => assumption); (case k1 => k_asm); (case k2 => k_asm); (case k3 => k_asm); (case k4 => k_asm); (case k5 => k_asm); (case k6 => k_is); (case k7 => k_is); (case k8 => first | exact Nat.le_of_ble_eq_true rfl | ktr_room); (case k9 => first | exact BindsTo.of_eq rfl | exact binds_K (by k_in) rfl (by k_is) rfl rfl rfl); (case c5 => decide); (case kB => decide +kernel); (case c2 => exact rfl); (case c3 => exact rfl); (case c4 => exact rfl); k_whole); intro g' L' h' FG' F' N' B' X' T'; (try k_lift B'); dsimp only [List.nil_append, List.cons_append, List.append_nil, List.zip, List.zipWith, List.reverse, List.reverseAux] at F'; (try dsimp only); (try k_fold))
  k_steps
  all_goals first | walk_at "MINE end"
  all_goals first
    | (rw [if_pos (.inl (by rw [is_nan hk (of_e4 (by assumption))]; rfl))]; done)
    | (rw [if_pos (.inr (by rw [is_nan hl (of_e4 (by assumption))]; rfl))]; done)
    | (rw [if_neg (by rw [nn_of hk (not_e4 (by assumption)), nn_of hl (not_e4 (by assumption))]; decide)]; done)
set_option maxHeartbeats 2000000 in
theorem c_le {w : World} {news : Led} {a a' : Addr} {x y : LX} (hx : TupX w news a x) (hs : x.tiny) (hy : TupX w news a' y) (hs' : y.tiny) :
    Ctr w 13 103 news [.ref a, .ref a'] (RB news (if x.isNan = true ∨ y.isNan = true then false else decide (ordL x y ≤ 0))) := by
  have hx0 := hx
  have hy0 := hy
  obtain ⟨s, m, e, b, hx, hk, -, -⟩ := hx.opn hs.small
  obtain ⟨s', m', e', b', hy, hl, -, -⟩ := hy.opn hs'.small
  (unfold Ctr; intro p loose mean mg mb dp un gd cn cs ca ccd cl outer A₀ base h₀ L mm st Q E B F X N T hk0 hd0 hu0 hret; refine wpAny_call ?_; k_dflt (refine' code_defZ [Str.ofString "s", Str.ofString "t"] [] ?k1 ?k2 ?k3 ?k4 ?k5 ?kA ?kF ?kK ?k6 ?k7 ?k8 ?k9 ?kB ?_ ?c2 ?c3 ?c4 ?c5; (case kA => exact rfl); (case kF => exact rfl); (case kK => assumption); (case k1 => k_asm); (case k2 => k_asm); (case k3 => k_asm); (case k4 => k_asm); (case k5 => k_asm); (case k6 => k_is); (case k7 => k_is); (case k8 => first | exact Nat.le_of_ble_eq_true rfl | ktr_room); (case k9 => first | exact BindsTo.of_eq rfl | exact binds_K (by k_in) rfl (by k_is) rfl rfl rfl); (case c5 => decide); (case kB => decide +kernel); (case c2 => exact rfl); (case c3 => exact rfl); (case c4 => exact rfl); k_whole); intro g' L' h' FG' F' N' B' X' T'; (try k_lift B'); dsimp only [List.nil_append, List.cons_append, List.append_nil, List.zip, List.zipWith, List.reverse, List.reverseAux] at F'; (try dsimp only); (try k_fold))
  k_steps
  all_goals first | walk_at "MINE end"
  all_goals first
    | (rw [if_pos (.inl (by rw [is_nan hk (of_e4 (by assumption))]; rfl))]; done)
    | (rw [if_pos (.inr (by rw [is_nan hl (of_e4 (by assumption))]; rfl))]; done)
    | (rw [if_neg (by rw [nn_of hk (not_e4 (by assumption)), nn_of hl (not_e4 (by assumption))]; decide)]; done)
set_option maxHeartbeats 2000000 in
theorem c_gt {w : World} {news : Led} {a a' : Addr} {x y : LX} (hx : TupX w news a x) (hs : x.tiny) (hy : TupX w news a' y) (hs' : y.tiny) :
    Ctr w 13 110 news [.ref a, .ref a'] (RB news (if x.isNan = true ∨ y.isNan = true then false else decide (ordL x y > 0))) := by
  have hx0 := hx
  have hy0 := hy
  obtain ⟨s, m, e, b, hx, hk, -, -⟩ := hx.opn hs.small
  obtain ⟨s', m', e', b', hy, hl, -, -⟩ := hy.opn hs'.small
  (unfold Ctr; intro p loose mean mg mb dp un gd cn cs ca ccd cl outer A₀ base h₀ L mm st Q E B F X N T hk0 hd0 hu0 hret; refine wpAny_call ?_; k_dflt (refine' code_defZ [Str.ofString "s", Str.ofString "t"] [] ?k1 ?k2 ?k3 ?k4 ?k5 ?kA ?kF ?kK ?k6 ?k7 ?k8 ?k9 ?kB ?_ ?c2 ?c3 ?c4 ?c5; (case kA => exact rfl); (case kF => exact rfl); (case kK => assumption); (case k1 => k_asm); (case k2 => k_asm); (case k3 => k_asm); (case k4 => k_asm); (case k5 => k_asm); (case k6 => k_is); (case k7 => k_is); (case k8 => first | exact Nat.le_of_ble_eq_true rfl | ktr_room); (case k9 => first | exact BindsTo.of_eq rfl | exact binds_K (by k_in) rfl (by k_is) rfl rfl rfl); (case c5 => decide); (case kB => decide +kernel); (case c2 => exact rfl); (case c3 => exact rfl); (case c4 => exact rfl); k_whole); intro g' L' h' FG' F' N' B' X' T'; (try k_lift B'); dsimp only [List.nil_append, List.cons_append, List.append_nil, List.zip, List.zipWith, List.reverse, List.reverseAux] at F'; (try dsimp only); (try k_fold))
  k_steps
  all_goals first | walk_at "MINE end"
  all_goals first
    | (rw [if_pos (.inl (by rw [is_nan hk (of_e4 (by assumption))]; rfl))]; done)
    | (rw [if_pos (.inr (by rw [is_nan hl (of_e4 (by assumption))]; rfl))]; done)
    | (rw [if_neg (by rw [nn_of hk (not_e4 (by assumption)), nn_of hl (not_e4 (by assumption))]; decide)]; done)
set_option maxHeartbeats 2000000 in
theorem c_ge {w : World} {news : Led} {a a' : Addr} {x y : LX} (hx : TupX w news a x) (hs : x.tiny) (hy : TupX w news a' y) (hs' : y.tiny) :
    Ctr w 13 117 news [.ref a, .ref a'] (RB news (if x.isNan = true ∨ y.isNan = true then false else decide (ordL x y ≥ 0))) := by
  have hx0 := hx
  have hy0 := hy
  obtain ⟨s, m, e, b, hx, hk, -, -⟩ := hx.opn hs.small
  obtain ⟨s', m', e', b', hy, hl, -, -⟩ := hy.opn hs'.small
  (unfold Ctr; intro p loose mean mg mb dp un gd cn cs ca ccd cl outer A₀ base h₀ L mm st Q E B F X N T hk0 hd0 hu0 hret; refine wpAny_call ?_; k_dflt (refine' code_defZ [Str.ofString "s", Str.ofString "t"] [] ?k1 ?k2 ?k3 ?k4 ?k5 ?kA ?kF ?kK ?k6 ?k7 ?k8 ?k9 ?kB ?_ ?c2 ?c3 ?c4 ?c5; (case kA => exact rfl); (case kF => exact rfl); (case kK => assumption); (case k1 => k_asm); (case k2 => k_asm); (case k3 => k_asm); (case k4 => k_asm); (case k5 => k_asm); (case k6 => k_is); (case k7 => k_is); (case k8 => first | exact Nat.le_of_ble_eq_true rfl | ktr_room); (case k9 => first | exact BindsTo.of_eq rfl | exact binds_K (by k_in) rfl (by k_is) rfl rfl rfl); (case c5 => decide); (case kB => decide +kernel); (case c2 => exact rfl); (case c3 => exact rfl); (case c4 => exact rfl); k_whole); intro g' L' h' FG' F' N' B' X' T'; (try k_lift B'); dsimp only [List.nil_append, List.cons_append, List.append_nil, List.zip, List.zipWith, List.reverse, List.reverseAux] at F'; (try dsimp only); (try k_fold))
  k_steps
  all_goals first | walk_at "MINE end"
  all_goals first
    | (rw [if_pos (.inl (by rw [is_nan hk (of_e4 (by assumption))]; rfl))]; done)
    | (rw [if_pos (.inr (by rw [is_nan hl (of_e4 (by assumption))]; rfl))]; done)
    | (rw [if_neg (by rw [nn_of hk (not_e4 (by assumption)), nn_of hl (not_e4 (by assumption))]; decide)]; done)
end

end PartS8
/-! part S9 -/
section PartS9
section
local macro_rules | `(tactic| walk_at "call ref") => `(tactic| (k_here; (with_reducible show wpAny _ _ (call (Value.ref 163) _) _ _ _); k_dflt (refine' Ctr.use (c_add5 ?a0 ?a1 ?a2 ?a3 ?a4) ?k1 ?k2 ?k3 ?k4 ?k5 ?kK ?kd ?ku ?_; (case k1 => k_asm); (case k2 => k_asm); (case k3 => k_asm); (case k4 => k_asm); (case k5 => k_asm); (case a0 => walk_at "MINE tup"); (case a1 => assumption); (case a2 => walk_at "MINE tup"); (case a3 => assumption); (case a4 => assumption); (case kK => first | exact rfl | assumption); (case kd => first | exact Nat.le_of_ble_eq_true rfl | ktr_room); (case ku => first | exact Nat.le_of_ble_eq_true rfl | ktr_units)); intro a9 h9 tk9 T9 F9 N9; (try dsimp only); (try k_fold)))
set_option maxHeartbeats 2000000 in
theorem c_sub4 {w : World} {news : Led} {a a' : Addr} {x y : LX} {n : Int} {t t' : Tok} {r : Str} (hx : TupX w news a x) (hs : x.small) (hy : TupX w news a' y) (hs' : y.small) (hp : x.spec = true ∨ y.spec = true) :
    Ctr w 7 171 news [.ref a, .ref a', .int n t, .str r t'] (RXo w news (sumL x (negL y))) := by
  (unfold Ctr; intro p loose mean mg mb dp un gd cn cs ca ccd cl outer A₀ base h₀ L mm st Q E B F X N T hk0 hd0 hu0 hret; refine wpAny_call ?_; k_dflt (refine' code_defZ [Str.ofString "s", Str.ofString "t", Str.ofString "prec", Str.ofString "rnd"] [] ?k1 ?k2 ?k3 ?k4 ?k5 ?kA ?kF ?kK ?k6 ?k7 ?k8 ?k9 ?kB ?_ ?c2 ?c3 ?c4 ?c5; (case kA => exact rfl); (case kF => exact rfl); (case kK => assumption); (case k1 => k_asm); (case k2 => k_asm); (case k3 => k_asm); (case k4 => k_asm); (case k5 => k_asm); (case k6 => k_is); (case k7 => k_is); (case k8 => first | exact Nat.le_of_ble_eq_true rfl | ktr_room); (case k9 => first | exact BindsTo.of_eq rfl | exact binds_K (by k_in) rfl (by k_is) rfl rfl rfl); (case c5 => decide); (case kB => decide +kernel); (case c2 => exact rfl); (case c3 => exact rfl); (case c4 => exact rfl); k_whole); intro g' L' h' FG' F' N' B' X' T'; (try k_lift B'); dsimp only [List.nil_append, List.cons_append, List.append_nil, List.zip, List.zipWith, List.reverse, List.reverseAux] at F'; (try dsimp only); (try k_fold))
  k_steps
  all_goals first | walk_at "MINE endO"
  all_goals first | exact ⟨rfl, rfl, rfl, rfl⟩
end
set_option maxHeartbeats 2000000 in
theorem c_add3 {w : World} {news : Led} {a a' : Addr} {x y : LX} {n : Int} {t : Tok} (hx : TupX w news a x) (hs : x.small) (hy : TupX w news a' y) (hs' : y.small) (hp : x.spec = true ∨ y.spec = true) :
    Ctr w 5 163 news [.ref a, .ref a', .int n t] (RXo w news (sumL x y)) := by
  obtain ⟨s, m, e, b, hx, hk, hk', hq⟩ := hx.opn hs
  obtain ⟨s', m', e', b', hy, hl, hl', hq'⟩ := hy.opn hs'
  have hsp := sp_or hk hl hp
  (unfold Ctr; intro p loose mean mg mb dp un gd cn cs ca ccd cl outer A₀ base h₀ L mm st Q E B F X N T hk0 hd0 hu0 hret; refine wpAny_call ?_; k_dflt (refine' code_defZ [Str.ofString "s", Str.ofString "t", Str.ofString "prec", Str.ofString "rnd", Str.ofString "_sub"] [Value.str (Str.ofString "d") 210, Value.int 0 445] ?k1 ?k2 ?k3 ?k4 ?k5 ?kA ?kF ?kK ?k6 ?k7 ?k8 ?k9 ?kB ?_ ?c2 ?c3 ?c4 ?c5; (case kA => exact rfl); (case kF => exact rfl); (case kK => assumption); (case k1 => k_asm); (case k2 => k_asm); (case k3 => k_asm); (case k4 => k_asm); (case k5 => k_asm); (case k6 => k_is); (case k7 => k_is); (case k8 => first | exact Nat.le_of_ble_eq_true rfl | ktr_room); (case k9 => first | exact BindsTo.of_eq rfl | exact binds_K (by k_in) rfl (by k_is) rfl rfl rfl); (case c5 => decide); (case kB => decide +kernel); (case c2 => exact rfl); (case c3 => exact rfl); (case c4 => exact rfl); k_whole); intro g' L' h' FG' F' N' B' X' T'; (try k_lift B'); dsimp only [List.nil_append, List.cons_append, List.append_nil, List.zip, List.zipWith, List.reverse, List.reverseAux] at F'; (try dsimp only); (try k_fold))
  k_steps
  all_goals first | walk_at "MINE endO" | (exfalso; walk_at "MINE no2")
  all_goals first
    | exact kf_eq hq' (a1 hk (by assumption) (is_sp hl (by assumption) (by assumption)))
    | exact kf_eq hq (a2 (is_sp hk (by assumption) (by assumption)) hk hl (of_e4 (by assumption)))
    | exact kf_eq hq (a3 (is_sp hk (by assumption) (by assumption)) (nsp_fin hl (by assumption)))
    | exact k_nan (a4 (is_sp hk (by assumption) (by assumption)) (is_sp hl (by assumption) (by assumption)) hk hl (not_e4 (by assumption)))
    | exact kf_eq hq (a3 (is_sp hk (by assumption) (by assumption)) (nsp_zero hl (by assumption) (by assumption)))
    | exact kf_eq hq' (a6' hk hl hp (by assumption) (by assumption))
    | (exfalso; walk_at "MINE no2")

section
local macro_rules | `(tactic| walk_at "call ref") => `(tactic| (k_here; (with_reducible show wpAny _ _ (call (Value.ref 21) _) _ _ _); k_dflt (refine' Ctr.use (c_trailing ?a0 ?a1) ?k1 ?k2 ?k3 ?k4 ?k5 ?kK ?kd ?ku ?_; (case k1 => k_asm); (case k2 => k_asm); (case k3 => k_asm); (case k4 => k_asm); (case k5 => k_asm); (case a0 => omega); (case a1 => omega); (case kK => first | exact rfl | assumption); (case kd => first | exact Nat.le_of_ble_eq_true rfl | ktr_room); (case ku => first | exact Nat.le_of_ble_eq_true rfl | ktr_units)); intro t9 h9 tk9 hx9 F9 N9; (try dsimp only); (try k_fold)))

set_option maxHeartbeats 8000000 in
theorem c_fme4 {w : World} {news : Led} {man exp : Int} {t t' t'' t3 : Tok} {r : Str} (h0 : -512 < man) (h1 : man < 512) (h2 : -1000 < exp) (h3 : exp < 1000) :
    Ctr w 4 59 news [.int man t, .int exp t', .int 0 t'', .str r t3] (RT w news (man = 0) (qS man) (qM man) (qE man exp) (qB man)) := by
  (unfold Ctr; intro p loose mean mg mb dp un gd cn cs ca ccd cl outer A₀ base h₀ L mm st Q E B F X N T hk0 hd0 hu0 hret; refine wpAny_call ?_; k_dflt (refine' code_defZ [Str.ofString "man", Str.ofString "exp", Str.ofString "prec", Str.ofString "rnd"] [] ?k1 ?k2 ?k3 ?k4 ?k5 ?kA ?kF ?kK ?k6 ?k7 ?k8 ?k9 ?kB ?_ ?c2 ?c3 ?c4 ?c5; (case kA => exact rfl); (case kF => exact rfl); (case kK => assumption); (case k1 => k_asm); (case k2 => k_asm); (case k3 => k_asm); (case k4 => k_asm); (case k5 => k_asm); (case k6 => k_is); (case k7 => k_is); (case k8 => first | exact Nat.le_of_ble_eq_true rfl | ktr_room); (case k9 => first | exact BindsTo.of_eq rfl | exact binds_K (by k_in) rfl (by k_is) rfl rfl rfl); (case c5 => decide); (case kB => decide +kernel); (case c2 => exact rfl); (case c3 => exact rfl); (case c4 => exact rfl); k_whole); intro g' L' h' FG' F' N' B' X' T'; (try k_lift B'); dsimp only [List.nil_append, List.cons_append, List.append_nil, List.zip, List.zipWith, List.reverse, List.reverseAux] at F'; (try dsimp only); (try k_fold))
  k_steps
  all_goals walk_at "MINE endT"
  all_goals first
    | omega
    | exact ⟨by unfold qS; split <;> omega, q_odd (by unfold aI; split <;> omega) (by assumption) (by omega) (by assumption)⟩
    | exact ⟨by unfold qS; split <;> omega, q_two (by unfold aI; split <;> omega) (by assumption) (by omega) (by assumption) (by assumption)⟩
    | exact ⟨by unfold qS; split <;> omega, q_more (by unfold aI; split <;> omega) (by assumption)⟩
    | (have hz9 : man = 0 := by omega
       subst hz9
       exact ⟨q_zero.1.symm, q_zero.2.1.symm, (q_zero.2.2.1 _).symm, q_zero.2.2.2.symm⟩)

end

end PartS9
/-! part S10 -/
section PartS10
theorem e4_refl {s m e b : Int} : e4 s m e b s m e b = true := decide_eq_true ⟨rfl, rfl, rfl, rfl⟩
section
variable {w : World} {A : Around} {E : Value → Shared → Prop} {st : Shared} {env : Env} {h₀ : Heap} {L : Addr} {mm : Str → Option Value} {news : Led} {K : Frag} {prog : Program}
theorem ne4T {a a' : Addr} {s m e b s' m' e' b' : Int} {Q : Value → Shared → Prop}
    (F : Fr h₀ L st.heap mm) (N : News h₀ L st.heap news) (X : K.In h₀) (T : TupA K news a s m e b) (T' : TupA K news a' s' m' e' b') (hu : A.units + 64 < cLine) (hf : e4 s m e b s' m' e' b' = true)
    (h : Q (.bool false) st) : wpAny (model prog w) A (compareOp .NotEq (.ref a) (.ref a')) Q E st := ne4 F N X T T' hu (by rw [hf]; exact h)
end
theorem c_made_o {w : World} {news : Led} {v : Value} {x : LX} (hv : LV v x) (hs : x.small) (ho : x.old) : Ctr w 6 223 news [v] (RXo w news x) :=
  fun p loose mean mg mb dp un gd cn cs ca ccd cl outer A₀ base h₀ L mm st Q E B F X N T hk h1 h2 hr => c_made hv hs p loose mean mg mb dp un gd cn cs ca ccd cl outer A₀ base h₀ L mm st Q E B F X N T hk h1 h2 ⟨fun _ => hr, fun q => absurd ho q⟩
local macro_rules | `(tactic| walk_at "compareOp NotEq ref ref") => `(tactic| (k_here; (with_reducible show wpAny _ _ (compareOp CmpOp.NotEq (Value.ref _) (Value.ref _)) _ _ _); k_dflt (refine' ne4T ?k1 ?k2 ?k3 ?k4 ?k5 ?k6 ?k7 ?_; (case k1 => k_asm); (case k2 => k_asm); (case k3 => k_asm); (case k4 => walk_at "MINE tup"); (case k5 => walk_at "MINE tup"); (case k7 => first | exact e4_refl | decide); (case k6 => walk_at "MINE units"); k_whole)))
local macro_rules | `(tactic| walk_at "call ref") => `(tactic| (k_here; (with_reducible show wpAny _ _ (call (Value.ref 223) _) _ _ _); k_dflt (refine' Ctr.use (c_made_o ?a0 ?a1 ?a2) ?k1 ?k2 ?k3 ?k4 ?k5 ?kK ?kd ?ku ?_; (case k1 => k_asm); (case k2 => k_asm); (case k3 => k_asm); (case k4 => k_asm); (case k5 => k_asm); (case a0 => walk_at "MINE lv"); (case a1 => exact trivial); (case a2 => exact trivial); (case kK => first | exact rfl | assumption); (case kd => first | exact Nat.le_of_ble_eq_true rfl | ktr_room); (case ku => first | exact Nat.le_of_ble_eq_true rfl | ktr_units)); intro a9 h9 tk9 T9 F9 N9; (repeat (replace T9 := TupA.strip (by walk_at "MINE ns") T9)); (try first | have T8 := tx_nan T9 | have T8 := tx_over T9 | have T8 := tx_under T9); (try dsimp only); (try k_fold)))
local macro_rules | `(tactic| walk_at "call ref") => `(tactic| (k_here; (with_reducible show wpAny _ _ (call (Value.ref 251) _) _ _ _); k_dflt (refine' Ctr.use (c_neg ?a0) ?k1 ?k2 ?k3 ?k4 ?k5 ?kK ?kd ?ku ?_; (case k1 => k_asm); (case k2 => k_asm); (case k3 => k_asm); (case k4 => k_asm); (case k5 => k_asm); (case a0 => walk_at "MINE lv"); (case kK => first | exact rfl | assumption); (case kd => first | exact Nat.le_of_ble_eq_true rfl | ktr_room); (case ku => first | exact Nat.le_of_ble_eq_true rfl | ktr_units)); intro v9 h9 tk9 hv9 F9 N9; (try dsimp only); (try k_fold)))
local macro_rules | `(tactic| walk_at "call ref") => `(tactic| (k_here; (with_reducible show wpAny _ _ (call (Value.ref 230) _) _ _ _); k_dflt (refine' Ctr.use (c_side ?a0 ?a1) ?k1 ?k2 ?k3 ?k4 ?k5 ?kK ?kd ?ku ?_; (case k1 => k_asm); (case k2 => k_asm); (case k3 => k_asm); (case k4 => k_asm); (case k5 => k_asm); (case a0 => walk_at "MINE lv"); (case a1 => rfl); (case kK => first | exact rfl | assumption); (case kd => first | exact Nat.le_of_ble_eq_true rfl | ktr_room); (case ku => first | exact Nat.le_of_ble_eq_true rfl | ktr_units)); intro t9 h9 tk9 hx9 F9 N9; (try dsimp only); (try k_fold)))
local macro_rules | `(tactic| walk_at "call ref") => `(tactic| (k_here; (with_reducible show wpAny _ _ (call (Value.ref 155) _) _ _ _); k_dflt (refine' Ctr.use (c_sign ?a0 ?a1) ?k1 ?k2 ?k3 ?k4 ?k5 ?kK ?kd ?ku ?_; (case k1 => k_asm); (case k2 => k_asm); (case k3 => k_asm); (case k4 => k_asm); (case k5 => k_asm); (case a0 => walk_at "MINE tup"); (case a1 => exact trivial); (case kK => first | exact rfl | assumption); (case kd => first | exact Nat.le_of_ble_eq_true rfl | ktr_room); (case ku => first | exact Nat.le_of_ble_eq_true rfl | ktr_units)); intro t9 h9 tk9 hx9 F9 N9; (try dsimp only); (try k_fold)))
local macro_rules | `(tactic| walk_at "call ref") => `(tactic| (k_here; (with_reducible show wpAny _ _ (call (Value.ref 140) _) _ _ _); k_dflt (refine' Ctr.use (c_neg3 ?a0 ?a1 ?a2) ?k1 ?k2 ?k3 ?k4 ?k5 ?kK ?kd ?ku ?_; (case k1 => k_asm); (case k2 => k_asm); (case k3 => k_asm); (case k4 => k_asm); (case k5 => k_asm); (case a0 => walk_at "MINE tup"); (case a1 => exact trivial); (case a2 => rfl); (case kK => first | exact rfl | assumption); (case kd => first | exact Nat.le_of_ble_eq_true rfl | ktr_room); (case ku => first | exact Nat.le_of_ble_eq_true rfl | ktr_units)); intro a9 h9 tk9 T9 F9 N9; (repeat (replace T9 := TupA.strip (by walk_at "MINE ns") T9)); (try first | have T8 := tx_nan T9 | have T8 := tx_over T9 | have T8 := tx_under T9); (try dsimp only); (try k_fold)))
local macro_rules | `(tactic| walk_at "call ref") => `(tactic| (k_here; (with_reducible show wpAny _ _ (call (Value.ref 148) _) _ _ _); k_dflt (refine' Ctr.use (c_abs3 ?a0 ?a1 ?a2) ?k1 ?k2 ?k3 ?k4 ?k5 ?kK ?kd ?ku ?_; (case k1 => k_asm); (case k2 => k_asm); (case k3 => k_asm); (case k4 => k_asm); (case k5 => k_asm); (case a0 => walk_at "MINE tup"); (case a1 => exact trivial); (case a2 => rfl); (case kK => first | exact rfl | assumption); (case kd => first | exact Nat.le_of_ble_eq_true rfl | ktr_room); (case ku => first | exact Nat.le_of_ble_eq_true rfl | ktr_units)); intro a9 h9 tk9 T9 F9 N9; (repeat (replace T9 := TupA.strip (by walk_at "MINE ns") T9)); (try first | have T8 := tx_nan T9 | have T8 := tx_over T9 | have T8 := tx_under T9); (try dsimp only); (try k_fold)))
local macro_rules | `(tactic| walk_at "call ref") => `(tactic| (k_here; (with_reducible show wpAny _ _ (call (Value.ref 132) _) _ _ _); k_dflt (refine' Ctr.use (c_pos ?a0 ?a1 ?a2) ?k1 ?k2 ?k3 ?k4 ?k5 ?kK ?kd ?ku ?_; (case k1 => k_asm); (case k2 => k_asm); (case k3 => k_asm); (case k4 => k_asm); (case k5 => k_asm); (case a0 => walk_at "MINE tup"); (case a1 => exact trivial); (case a2 => rfl); (case kK => first | exact rfl | assumption); (case kd => first | exact Nat.le_of_ble_eq_true rfl | ktr_room); (case ku => first | exact Nat.le_of_ble_eq_true rfl | ktr_units)); intro a9 h9 tk9 T9 F9 N9; (repeat (replace T9 := TupA.strip (by walk_at "MINE ns") T9)); (try first | have T8 := tx_nan T9 | have T8 := tx_over T9 | have T8 := tx_under T9); (try dsimp only); (try k_fold)))
local macro_rules | `(tactic| walk_at "call ref") => `(tactic| (k_here; (with_reducible show wpAny _ _ (call (Value.ref 194) _) _ _ _); k_dflt (refine' Ctr.use (c_shift ?a0 ?a1 ?a2) ?k1 ?k2 ?k3 ?k4 ?k5 ?kK ?kd ?ku ?_; (case k1 => k_asm); (case k2 => k_asm); (case k3 => k_asm); (case k4 => k_asm); (case k5 => k_asm); (case a0 => walk_at "MINE tup"); (case a1 => exact trivial); (case a2 => rfl); (case kK => first | exact rfl | assumption); (case kd => first | exact Nat.le_of_ble_eq_true rfl | ktr_room); (case ku => first | exact Nat.le_of_ble_eq_true rfl | ktr_units)); intro a9 h9 tk9 T9 F9 N9; (repeat (replace T9 := TupA.strip (by walk_at "MINE ns") T9)); (try first | have T8 := tx_nan T9 | have T8 := tx_over T9 | have T8 := tx_under T9); (try dsimp only); (try k_fold)))
local macro_rules | `(tactic| walk_at "call ref") => `(tactic| (k_here; kn_here; refine wpAny_call ?_; k_dflt (refine' kla_code ?k1 ?k2 ?k3 ?k4 ?k5 ?kA ?kF ?kK ?k6 ?k7 ?k8 ?k9 ?kB ?_ ?c2 ?c3 ?c4 ?c5; (case kA => exact rfl); (case kF => exact rfl); (case kK => exact rfl); (case k1 => k_asm); (case k2 => k_asm); (case k3 => k_asm); (case k4 => k_asm); (case k5 => k_asm); (case k6 => k_mem); (case k7 => exact codeRec_news (by k_asm) (by k_mem) (by assumption) (by assumption)); (case k8 => first | exact Nat.le_of_ble_eq_true rfl | ktr_room); (case k9 => exact rfl); (case c5 => decide); (case kB => exact locs rfl); (case c2 => exact rfl); (case c3 => exact rfl); (case c4 => exact rfl); k_whole); intro g' L' h' FG' F' N' B' X' T'; (try dsimp only); (try k_lift B'); (try k_fold)))
local macro_rules | `(tactic| walk_at "call ref") => `(tactic| (k_here; (with_reducible show wpAny _ _ (call (Value.ref 286) _) _ _ _); refine wpAny_call ?_; k_dflt (refine' code_defXS [Str.ofString "call"] [] ?k1 ?k2 ?k3 ?k4 ?k5 ?XB ?TB ?D ?kA ?kF ?kK ?k6 ?k7 ?k8 ?k9 ?kB ?_ ?c2 ?c3 ?c4 ?c5; (case k1 => k_asm); (case k2 => k_asm); (case k3 => k_asm); (case k4 => k_asm); (case k5 => k_asm); (case XB => assumption); (case TB => assumption); (case D => assumption); (case kA => exact rfl); (case kF => exact rfl); (case kK => first | exact rfl | assumption);  (case k6 => k_is); (case k7 => k_is); (case k8 => first | exact Nat.le_of_ble_eq_true rfl | ktr_room); (case k9 => first | exact BindsTo.of_eq rfl | exact binds_K (by k_in) rfl (by k_is) rfl rfl rfl); (case c5 => decide); (case kB => decide +kernel); (case c2 => exact rfl); (case c3 => exact rfl); (case c4 => exact rfl); k_whole); intro g' L' h' FG' F' N' B' X' T' D'; (try k_lift B'); dsimp only [List.nil_append, List.cons_append, List.append_nil, List.zip, List.zipWith, List.reverse, List.reverseAux] at F'; (try dsimp only); (try k_fold)))
local macro_rules | `(tactic| walk_at "noteFrame ref") => `(tactic| (k_here; k_dflt (first | (refine' caught_SN0 (X := "ZeroDivisionError") (T' := "ZeroDivisionError") ?R ?F ?K ?U ?XB ?TB ?D ?T0 ?ex PyProof.Rows.Boot.«ZeroDivisionError» ?hn PySem.F.isExc_ZeroDivisionError PySem.F.notTuple_ZeroDivisionError ?hs ?_ ?hk ?hx ?hd ?hE; (case R => assumption); (case F => assumption); (case K => assumption); (case U => assumption); (case XB => assumption); (case TB => assumption); (case D => assumption); (case T0 => first | assumption | exact KtsTurn.refl); (case hs => rw [isSubtype_type]; kernel_rfl!); (case ex => k_is); (case hn => decide); (case hk => rfl); (case hx => rfl); (case hd => decide); (case hE => passes_own); k_whole) | (refine' caught_1 (X := "OverflowError") (T1 := "ZeroDivisionError") (T' := "OverflowError") ?R ?F ?K ?U ?XB ?TB ?D ?T0 ?ex1 PyProof.Rows.Boot.«ZeroDivisionError» ?hn1 PySem.F.isExc_ZeroDivisionError PySem.F.notTuple_ZeroDivisionError ?hs1 ?ex PyProof.Rows.Boot.«OverflowError» ?hn PySem.F.isExc_OverflowError PySem.F.notTuple_OverflowError ?hs ?_ ?hk ?hx1 ?hd1 ?hx ?hd ?hE; (case R => assumption); (case F => assumption); (case K => assumption); (case U => assumption); (case XB => assumption); (case TB => assumption); (case D => assumption); (case T0 => first | assumption | exact KtsTurn.refl); (case hs1 => rw [isSubtype_type]; kernel_rfl!); (case ex1 => k_is); (case hn1 => decide); (case hs => rw [isSubtype_type]; kernel_rfl!); (case ex => k_is); (case hn => decide); (case hk => rfl); (case hx1 => rfl); (case hd1 => decide); (case hx => rfl); (case hd => decide); (case hE => passes_own); k_whole) | (refine' caught_2 (X := "ValueError") (T1 := "ZeroDivisionError") (T2 := "OverflowError") (T' := "ValueError") ?R ?F ?K ?U ?XB ?TB ?D ?T0 ?ex1 PyProof.Rows.Boot.«ZeroDivisionError» ?hn1 PySem.F.isExc_ZeroDivisionError PySem.F.notTuple_ZeroDivisionError ?hs1 ?ex2 PyProof.Rows.Boot.«OverflowError» ?hn2 PySem.F.isExc_OverflowError PySem.F.notTuple_OverflowError ?hs2 ?ex PyProof.Rows.Boot.«ValueError» ?hn PySem.F.isExc_ValueError PySem.F.notTuple_ValueError ?hs ?_ ?hk ?hx1 ?hd1 ?hx2 ?hd2 ?hx ?hd ?hE; (case R => assumption); (case F => assumption); (case K => assumption); (case U => assumption); (case XB => assumption); (case TB => assumption); (case D => assumption); (case T0 => first | assumption | exact KtsTurn.refl); (case hs1 => rw [isSubtype_type]; kernel_rfl!); (case ex1 => k_is); (case hn1 => decide); (case hs2 => rw [isSubtype_type]; kernel_rfl!); (case ex2 => k_is); (case hn2 => decide); (case hs => rw [isSubtype_type]; kernel_rfl!); (case ex => k_is); (case hn => decide); (case hk => rfl); (case hx1 => rfl); (case hd1 => decide); (case hx2 => rfl); (case hd2 => decide); (case hx => rfl); (case hd => decide); (case hE => passes_own); k_whole)); intro h' g' T' F' N' B' X' P' D'; (try k_lift B'); (try k_sweep)))
local macro_rules | `(tactic| walk_at "leaving ref") => `(tactic| (k_here; (with_reducible show wpAny _ _ (leaving (envX _ _ _ _ _ _) _) _ _ _); (refine' leave_onSNX ?k1 ?k2 ?k3 ?k4 ?_; (case k3 => assumption); (case k1 => assumption); (case k4 => assumption); (case k2 => assumption); k_whole; intro h' S' R' U'; (try dsimp only at S' R' U' ⊢))))
local macro_rules | `(tactic| walk_at "LeaveS") => `(tactic| (k_dflt (refine' leaveS_r ?F ?N ?T ?_; (case F => k_asm); (case N => k_asm); (case T => first | assumption | exact KtsTurn.refl | exact KtsTurn.trans (by assumption) (by assumption) | exact KtsTurn.trans (by assumption) (KtsTurn.trans (by assumption) (by assumption))); k_whole); intro kg kT kF kN kB kX₀ kP kD; (have kX := kFor kF kX₀); (try k_lift kB); kts_tail))
local macro_rules | `(tactic| walk_at "call ref") => `(tactic| (k_here; (with_reducible show wpAny _ _ (call (Value.ref 75) _) _ _ _); refine wpAny_call ?_; k_dflt (refine' code_defZ [Str.ofString "s", Str.ofString "rnd"] [Value.str (Str.ofString "d") 210] ?k1 ?k2 ?k3 ?k4 ?k5 ?kA ?kF ?kK ?k6 ?k7 ?k8 ?k9 ?kB ?_ ?c2 ?c3 ?c4 ?c5; (case kA => exact rfl); (case kF => exact rfl); (case kK => first | exact rfl | assumption); (case k1 => k_asm); (case k2 => k_asm); (case k3 => k_asm); (case k4 => k_asm); (case k5 => k_asm); (case k6 => k_is); (case k7 => k_is); (case k8 => first | exact Nat.le_of_ble_eq_true rfl | ktr_room); (case k9 => first | exact BindsTo.of_eq rfl | exact binds_K (by k_in) rfl (by k_is) rfl rfl rfl); (case c5 => decide); (case kB => decide +kernel); (case c2 => exact rfl); (case c3 => exact rfl); (case c4 => exact rfl); k_whole); intro g' L' h' FG' F' N' B' X' T'; (try k_lift B'); dsimp only [List.nil_append, List.cons_append, List.append_nil, List.zip, List.zipWith, List.reverse, List.reverseAux] at F'; (try dsimp only); (try k_fold)))
local macro_rules | `(tactic| walk_at "call ref") => `(tactic| (k_here; (with_reducible show wpAny _ _ (call (Value.ref 67) _) _ _ _); refine wpAny_call ?_; k_dflt (refine' code_defZ [Str.ofString "s", Str.ofString "signed"] [Value.none] ?k1 ?k2 ?k3 ?k4 ?k5 ?kA ?kF ?kK ?k6 ?k7 ?k8 ?k9 ?kB ?_ ?c2 ?c3 ?c4 ?c5; (case kA => exact rfl); (case kF => exact rfl); (case kK => first | exact rfl | assumption); (case k1 => k_asm); (case k2 => k_asm); (case k3 => k_asm); (case k4 => k_asm); (case k5 => k_asm); (case k6 => k_is); (case k7 => k_is); (case k8 => first | exact Nat.le_of_ble_eq_true rfl | ktr_room); (case k9 => first | exact BindsTo.of_eq rfl | exact binds_K (by k_in) rfl (by k_is) rfl rfl rfl); (case c5 => decide); (case kB => decide +kernel); (case c2 => exact rfl); (case c3 => exact rfl); (case c4 => exact rfl); k_whole); intro g' L' h' FG' F' N' B' X' T'; (try k_lift B'); dsimp only [List.nil_append, List.cons_append, List.append_nil, List.zip, List.zipWith, List.reverse, List.reverseAux] at F'; (try dsimp only); (try k_fold)))
set_option maxHeartbeats 4000000 in
theorem c_single {w : World} {rest : Led} {v : Value} {x : LX} {n k : Int} {t t' t'' : Tok} {r : Str} (hv : LV v x) (hp : x.spec = true) (hr : ∀ p ∈ rest, p.1 ≠ 295) :
    CtrG w 12 300 ((295, tabObj #[]) :: rest) [v, .int n t, .str r t', .int k t''] (fun v news => v = .bool true ∧ ∃ ps, news = (295, tabObj ps) :: rest) := by
  rcases x with _ | _ | _ | z
  · obtain ⟨tv, rfl⟩ := hv
    (unfold CtrG; intro p loose mean mg mb dp un gd cn cs ca ccd cl outer A₀ base h₀ L mm st Q E B F X N T XB TB D hk0 hd0 hu0 hret; refine wpAny_call ?_; k_dflt (refine' code_defCXS [Str.ofString "value", Str.ofString "most", Str.ofString "way", Str.ofString "times"] [true, true, true, true] (fun L' => [(Str.ofString "number", L' + 1)]) ?k1 ?k2 ?k3 ?k4 ?k5 ?XB ?TB ?D ?kA ?kF ?kK ?k6 ?k7 ?k8 ?k9 ?kl ?kf ?kB ?kD ?kc ?_ ?c2 ?c3 ?c4; (case k1 => k_asm); (case k2 => k_asm); (case k3 => k_asm); (case k4 => k_asm); (case k5 => k_asm); (case XB => assumption); (case TB => assumption); (case D => assumption); (case kA => exact rfl); (case kF => exact rfl); (case kK => assumption);  (case k6 => k_is); (case k7 => k_is); (case k8 => first | exact Nat.le_of_ble_eq_true rfl | ktr_room); (case k9 => first | exact BindsTo.of_eq rfl | exact binds_K (by k_in) rfl (by k_is) rfl rfl rfl); (case kl => exact rfl); (case kf => decide +kernel); (case kB => decide +kernel); (case kD => decide +kernel); (case kc => exact fun _ => rfl); (case c2 => exact rfl); (case c3 => exact rfl); (case c4 => exact rfl); k_whole); intro g' L' h' tk' cells' FG' F' N' Y' B' X' T' D' l1; (try k_lt l1); obtain ⟨oc1', hE', dc1'⟩ := CellsAre.one Y'; subst hE'; clear Y'; (try simp only [List.cons_append, List.nil_append] at N'); dsimp only [selT, List.nil_append, List.cons_append, List.append_nil, List.zip, List.zipWith, List.reverse, List.reverseAux] at F'; (try dsimp only [selF, List.nil_append, List.cons_append, List.append_nil, List.zip, List.zipWith, List.reverse, List.reverseAux] at dc1'); (try dsimp only); (try k_lift B'); (try k_fold))
    have cHd := codeHd_of_K (c := 299) (P := 295) XB (by kernel_rfl)
    k_steps
    all_goals first | exact hret _ ((295, tabObj _) :: rest) _ _ _ ⟨rfl, _, rfl⟩ (by assumption) (news_drop (by assumption) (by walk_at "MINE sub")) (by assumption) (by assumption) (by assumption) (by assumption)
  · obtain ⟨tv, rfl⟩ := hv
    (unfold CtrG; intro p loose mean mg mb dp un gd cn cs ca ccd cl outer A₀ base h₀ L mm st Q E B F X N T XB TB D hk0 hd0 hu0 hret; refine wpAny_call ?_; k_dflt (refine' code_defCXS [Str.ofString "value", Str.ofString "most", Str.ofString "way", Str.ofString "times"] [true, true, true, true] (fun L' => [(Str.ofString "number", L' + 1)]) ?k1 ?k2 ?k3 ?k4 ?k5 ?XB ?TB ?D ?kA ?kF ?kK ?k6 ?k7 ?k8 ?k9 ?kl ?kf ?kB ?kD ?kc ?_ ?c2 ?c3 ?c4; (case k1 => k_asm); (case k2 => k_asm); (case k3 => k_asm); (case k4 => k_asm); (case k5 => k_asm); (case XB => assumption); (case TB => assumption); (case D => assumption); (case kA => exact rfl); (case kF => exact rfl); (case kK => assumption);  (case k6 => k_is); (case k7 => k_is); (case k8 => first | exact Nat.le_of_ble_eq_true rfl | ktr_room); (case k9 => first | exact BindsTo.of_eq rfl | exact binds_K (by k_in) rfl (by k_is) rfl rfl rfl); (case kl => exact rfl); (case kf => decide +kernel); (case kB => decide +kernel); (case kD => decide +kernel); (case kc => exact fun _ => rfl); (case c2 => exact rfl); (case c3 => exact rfl); (case c4 => exact rfl); k_whole); intro g' L' h' tk' cells' FG' F' N' Y' B' X' T' D' l1; (try k_lt l1); obtain ⟨oc1', hE', dc1'⟩ := CellsAre.one Y'; subst hE'; clear Y'; (try simp only [List.cons_append, List.nil_append] at N'); dsimp only [selT, List.nil_append, List.cons_append, List.append_nil, List.zip, List.zipWith, List.reverse, List.reverseAux] at F'; (try dsimp only [selF, List.nil_append, List.cons_append, List.append_nil, List.zip, List.zipWith, List.reverse, List.reverseAux] at dc1'); (try dsimp only); (try k_lift B'); (try k_fold))
    have cHd := codeHd_of_K (c := 299) (P := 295) XB (by kernel_rfl)
    k_steps
    all_goals first | exact hret _ ((295, tabObj _) :: rest) _ _ _ ⟨rfl, _, rfl⟩ (by assumption) (news_drop (by assumption) (by walk_at "MINE sub")) (by assumption) (by assumption) (by assumption) (by assumption)
  · obtain ⟨tv, rfl⟩ := hv
    (unfold CtrG; intro p loose mean mg mb dp un gd cn cs ca ccd cl outer A₀ base h₀ L mm st Q E B F X N T XB TB D hk0 hd0 hu0 hret; refine wpAny_call ?_; k_dflt (refine' code_defCXS [Str.ofString "value", Str.ofString "most", Str.ofString "way", Str.ofString "times"] [true, true, true, true] (fun L' => [(Str.ofString "number", L' + 1)]) ?k1 ?k2 ?k3 ?k4 ?k5 ?XB ?TB ?D ?kA ?kF ?kK ?k6 ?k7 ?k8 ?k9 ?kl ?kf ?kB ?kD ?kc ?_ ?c2 ?c3 ?c4; (case k1 => k_asm); (case k2 => k_asm); (case k3 => k_asm); (case k4 => k_asm); (case k5 => k_asm); (case XB => assumption); (case TB => assumption); (case D => assumption); (case kA => exact rfl); (case kF => exact rfl); (case kK => assumption);  (case k6 => k_is); (case k7 => k_is); (case k8 => first | exact Nat.le_of_ble_eq_true rfl | ktr_room); (case k9 => first | exact BindsTo.of_eq rfl | exact binds_K (by k_in) rfl (by k_is) rfl rfl rfl); (case kl => exact rfl); (case kf => decide +kernel); (case kB => decide +kernel); (case kD => decide +kernel); (case kc => exact fun _ => rfl); (case c2 => exact rfl); (case c3 => exact rfl); (case c4 => exact rfl); k_whole); intro g' L' h' tk' cells' FG' F' N' Y' B' X' T' D' l1; (try k_lt l1); obtain ⟨oc1', hE', dc1'⟩ := CellsAre.one Y'; subst hE'; clear Y'; (try simp only [List.cons_append, List.nil_append] at N'); dsimp only [selT, List.nil_append, List.cons_append, List.append_nil, List.zip, List.zipWith, List.reverse, List.reverseAux] at F'; (try dsimp only [selF, List.nil_append, List.cons_append, List.append_nil, List.zip, List.zipWith, List.reverse, List.reverseAux] at dc1'); (try dsimp only); (try k_lift B'); (try k_fold))
    have cHd := codeHd_of_K (c := 299) (P := 295) XB (by kernel_rfl)
    k_steps
    all_goals first | exact hret _ ((295, tabObj _) :: rest) _ _ _ ⟨rfl, _, rfl⟩ (by assumption) (news_drop (by assumption) (by walk_at "MINE sub")) (by assumption) (by assumption) (by assumption) (by assumption)
  · cases hp

end PartS10
/-! part S11 -/
section PartS11
section
variable {prog : Program} {w : World} {A : Around} {E : Value → Shared → Prop} {st : Shared} {Q : Value → Shared → Prop} {x y : LX} {v v' : Value} {t : Tok}
end
local macro_rules | `(tactic| walk_at "compareOp Eq str") => `(tactic| (k_here; (with_reducible show wpAny _ _ (compareOp CmpOp.Eq _ (Value.str (Str.ofString "nan") _)) _ _ _); (with_reducible refine lv_eq_nan (by assumption) ?_)))
local macro_rules | `(tactic| walk_at "compareOp Eq int") => `(tactic| (k_here; (with_reducible show wpAny _ _ (compareOp CmpOp.Eq _ (Value.int 0 _)) _ _ _); (with_reducible refine lv_eq_zero (by assumption) ?_)))
theorem c_made_g {w : World} {p1 p2 p3 p4 p5 : Addr × Obj} {rest : Led} {v : Value} {x : LX} (hv : LV v x) (hs : x.small) (h1 : ∀ vs c, p1.2.data ≠ .seq vs c) (h2 : ∀ vs c, p2.2.data ≠ .seq vs c) (h3 : ∀ vs c, p3.2.data ≠ .seq vs c) (h4 : ∀ vs c, p4.2.data ≠ .seq vs c) (h5 : ∀ vs c, p5.2.data ≠ .seq vs c) :
    Ctr w 6 223 (p1 :: p2 :: p3 :: p4 :: p5 :: rest) [v] (RXg w [p1, p2, p3, p4, p5] rest x) :=
  made_gen (pre := [p1, p2, p3, p4, p5]) (c_made hv hs) fun p hp => by
    simp only [List.mem_cons, List.not_mem_nil, or_false] at hp
    rcases hp with rfl | rfl | rfl | rfl | rfl <;> assumption
local macro_rules | `(tactic| walk_at "compareOp NotEq ref ref") => `(tactic| (k_here; (with_reducible show wpAny _ _ (compareOp CmpOp.NotEq (Value.ref _) (Value.ref _)) _ _ _); k_dflt (refine' ne4T ?k1 ?k2 ?k3 ?k4 ?k5 ?k6 ?k7 ?_; (case k1 => k_asm); (case k2 => k_asm); (case k3 => k_asm); (case k4 => walk_at "MINE tup"); (case k5 => walk_at "MINE tup"); (case k7 => exact e4_refl); (case k6 => walk_at "MINE units"); k_whole)))
local macro_rules | `(tactic| walk_at "MINE small") => `(tactic| first | assumption | exact LX.tiny.small (by assumption) | exact spec_small (by assumption) | exact quot_small)
local macro_rules | `(tactic| walk_at "MINE old") => `(tactic| first | assumption | exact spec_old (by assumption) | exact quot_old)
local macro_rules | `(tactic| walk_at "call ref") => `(tactic| (k_here; (with_reducible show wpAny _ _ (call (Value.ref 223) _) _ _ _); k_dflt (refine' Ctr.use (c_made_g ?a0 ?a1 ?a2 ?a3 ?a4 ?a5 ?a6) ?k1 ?k2 ?k3 ?k4 ?k5 ?kK ?kd ?ku ?_; (case k1 => k_asm); (case k2 => k_asm); (case k3 => k_asm); (case k4 => k_asm); (case k5 => k_asm); (case a0 => walk_at "MINE lv"); (case a1 => walk_at "MINE small"); (case a2 => walk_at "MINE ns"); (case a3 => walk_at "MINE ns"); (case a4 => walk_at "MINE ns"); (case a5 => walk_at "MINE ns"); (case a6 => walk_at "MINE ns"); (case kK => first | exact rfl | assumption); (case kd => first | exact Nat.le_of_ble_eq_true rfl | ktr_room); (case ku => first | exact Nat.le_of_ble_eq_true rfl | ktr_units)); intro a9 r9 h9 tk9 hs9 hn9 T9 F9 N9; dsimp only [List.cons_append, List.nil_append] at N9; (try have T8 := TupA.sub (by assumption) hs9); (try have hc9 := sub_trans (by assumption) hs9); (have q09 := hn9 _ _ (List.Mem.head _) (by k_all)); (have q19 := hn9 _ _ (List.Mem.tail _ (List.Mem.head _)) (by k_all)); (have q29 := hn9 _ _ (List.Mem.tail _ (List.Mem.tail _ (List.Mem.head _))) (by k_all)); (have q39 := hn9 _ _ (List.Mem.tail _ (List.Mem.tail _ (List.Mem.tail _ (List.Mem.head _)))) (by k_all)); (have q49 := hn9 _ _ (List.Mem.tail _ (List.Mem.tail _ (List.Mem.tail _ (List.Mem.tail _ (List.Mem.head _))))) (by k_all)); clear hn9; (try dsimp only); (try k_fold)))
local macro_rules | `(tactic| walk_at "call ref") => `(tactic| (k_here; (with_reducible show wpAny _ _ (call (Value.ref 223) _) _ _ _); k_dflt (refine' Ctr.use (c_made_o ?a0 ?a1 ?a2) ?k1 ?k2 ?k3 ?k4 ?k5 ?kK ?kd ?ku ?_; (case k1 => k_asm); (case k2 => k_asm); (case k3 => k_asm); (case k4 => k_asm); (case k5 => k_asm); (case a0 => walk_at "MINE lv"); (case a1 => walk_at "MINE small"); (case a2 => walk_at "MINE old"); (case kK => first | exact rfl | assumption); (case kd => first | exact Nat.le_of_ble_eq_true rfl | ktr_room); (case ku => first | exact Nat.le_of_ble_eq_true rfl | ktr_units)); intro a9 h9 tk9 T9 F9 N9; (repeat (replace T9 := TupA.strip (by walk_at "MINE ns") T9)); (try first | have T8 := tx_zero T9 | have T8 := tx_sp (by assumption) T9); (try dsimp only); (try k_fold)))
local macro_rules | `(tactic| walk_at "call ref") => `(tactic| (k_here; (with_reducible show wpAny _ _ (call (Value.ref 251) _) _ _ _); k_dflt (refine' Ctr.use (c_neg ?a0) ?k1 ?k2 ?k3 ?k4 ?k5 ?kK ?kd ?ku ?_; (case k1 => k_asm); (case k2 => k_asm); (case k3 => k_asm); (case k4 => k_asm); (case k5 => k_asm); (case a0 => walk_at "MINE lv"); (case kK => first | exact rfl | assumption); (case kd => first | exact Nat.le_of_ble_eq_true rfl | ktr_room); (case ku => first | exact Nat.le_of_ble_eq_true rfl | ktr_units)); intro v9 h9 tk9 hv9 F9 N9; (try dsimp only); (try k_fold)))
local macro_rules | `(tactic| walk_at "call ref") => `(tactic| (k_here; (with_reducible show wpAny _ _ (call (Value.ref 258) _) _ _ _); k_dflt (refine' Ctr.use (c_sum ?a0 ?a1) ?k1 ?k2 ?k3 ?k4 ?k5 ?kK ?kd ?ku ?_; (case k1 => k_asm); (case k2 => k_asm); (case k3 => k_asm); (case k4 => k_asm); (case k5 => k_asm); (case a0 => walk_at "MINE lv"); (case a1 => walk_at "MINE lv"); (case kK => first | exact rfl | assumption); (case kd => first | exact Nat.le_of_ble_eq_true rfl | ktr_room); (case ku => first | exact Nat.le_of_ble_eq_true rfl | ktr_units)); intro v9 h9 tk9 hv9 F9 N9; (try dsimp only); (try k_fold)))
local macro_rules | `(tactic| walk_at "call ref") => `(tactic| (k_here; (with_reducible show wpAny _ _ (call (Value.ref 265) _) _ _ _); k_dflt (refine' Ctr.use (c_prod ?a0 ?a1) ?k1 ?k2 ?k3 ?k4 ?k5 ?kK ?kd ?ku ?_; (case k1 => k_asm); (case k2 => k_asm); (case k3 => k_asm); (case k4 => k_asm); (case k5 => k_asm); (case a0 => walk_at "MINE lv"); (case a1 => walk_at "MINE lv"); (case kK => first | exact rfl | assumption); (case kd => first | exact Nat.le_of_ble_eq_true rfl | ktr_room); (case ku => first | exact Nat.le_of_ble_eq_true rfl | ktr_units)); intro v9 h9 tk9 hv9 F9 N9; (try dsimp only); (try k_fold)))
local macro_rules | `(tactic| walk_at "call ref") => `(tactic| (k_here; (with_reducible show wpAny _ _ (call (Value.ref 272) _) _ _ _); k_dflt (refine' Ctr.use (c_quot ?a0 ?a1) ?k1 ?k2 ?k3 ?k4 ?k5 ?kK ?kd ?ku ?_; (case k1 => k_asm); (case k2 => k_asm); (case k3 => k_asm); (case k4 => k_asm); (case k5 => k_asm); (case a0 => walk_at "MINE lv"); (case a1 => walk_at "MINE lv"); (case kK => first | exact rfl | assumption); (case kd => first | exact Nat.le_of_ble_eq_true rfl | ktr_room); (case ku => first | exact Nat.le_of_ble_eq_true rfl | ktr_units)); intro v9 h9 tk9 hv9 F9 N9; (try dsimp only); (try k_fold)))
local macro_rules | `(tactic| walk_at "call ref") => `(tactic| (k_here; (with_reducible show wpAny _ _ (call (Value.ref 279) _) _ _ _); k_dflt (refine' Ctr.use (c_ord ?a0 ?a1 ?a2 ?a3) ?k1 ?k2 ?k3 ?k4 ?k5 ?kK ?kd ?ku ?_; (case k1 => k_asm); (case k2 => k_asm); (case k3 => k_asm); (case k4 => k_asm); (case k5 => k_asm); (case a0 => walk_at "MINE lv"); (case a1 => walk_at "MINE lv"); (case a2 => first | assumption | rfl); (case a3 => first | assumption | rfl); (case kK => first | exact rfl | assumption); (case kd => first | exact Nat.le_of_ble_eq_true rfl | ktr_room); (case ku => first | exact Nat.le_of_ble_eq_true rfl | ktr_units)); intro t9 h9 tk9 F9 N9; (try dsimp only); (try k_fold)))
local macro_rules | `(tactic| walk_at "call ref") => `(tactic| (k_here; (with_reducible show wpAny _ _ (call (Value.ref 82) _) _ _ _); k_dflt (refine' Ctr.use (c_eq ?a0 ?a1 ?a2 ?a3 ?a4) ?k1 ?k2 ?k3 ?k4 ?k5 ?kK ?kd ?ku ?_; (case k1 => k_asm); (case k2 => k_asm); (case k3 => k_asm); (case k4 => k_asm); (case k5 => k_asm); (case a0 => walk_at "MINE tup"); (case a1 => walk_at "MINE small"); (case a2 => walk_at "MINE tup"); (case a3 => walk_at "MINE small"); (case a4 => assumption); (case kK => first | exact rfl | assumption); (case kd => first | exact Nat.le_of_ble_eq_true rfl | ktr_room); (case ku => first | exact Nat.le_of_ble_eq_true rfl | ktr_units)); intro h9 tk9 F9 N9; (try dsimp only); (try k_fold)))
local macro_rules | `(tactic| walk_at "call ref") => `(tactic| (k_here; (with_reducible show wpAny _ _ (call (Value.ref 163) _) _ _ _); k_dflt (refine' Ctr.use (c_add4 ?a0 ?a1 ?a2 ?a3 ?a4) ?k1 ?k2 ?k3 ?k4 ?k5 ?kK ?kd ?ku ?_; (case k1 => k_asm); (case k2 => k_asm); (case k3 => k_asm); (case k4 => k_asm); (case k5 => k_asm); (case a0 => walk_at "MINE tup"); (case a1 => walk_at "MINE small"); (case a2 => walk_at "MINE tup"); (case a3 => walk_at "MINE small"); (case a4 => assumption); (case kK => first | exact rfl | assumption); (case kd => first | exact Nat.le_of_ble_eq_true rfl | ktr_room); (case ku => first | exact Nat.le_of_ble_eq_true rfl | ktr_units)); intro a9 h9 tk9 T9 F9 N9; (try dsimp only); (try k_fold)))
local macro_rules | `(tactic| walk_at "call ref") => `(tactic| (k_here; (with_reducible show wpAny _ _ (call (Value.ref 171) _) _ _ _); k_dflt (refine' Ctr.use (c_sub4 ?a0 ?a1 ?a2 ?a3 ?a4) ?k1 ?k2 ?k3 ?k4 ?k5 ?kK ?kd ?ku ?_; (case k1 => k_asm); (case k2 => k_asm); (case k3 => k_asm); (case k4 => k_asm); (case k5 => k_asm); (case a0 => walk_at "MINE tup"); (case a1 => walk_at "MINE small"); (case a2 => walk_at "MINE tup"); (case a3 => walk_at "MINE small"); (case a4 => assumption); (case kK => first | exact rfl | assumption); (case kd => first | exact Nat.le_of_ble_eq_true rfl | ktr_room); (case ku => first | exact Nat.le_of_ble_eq_true rfl | ktr_units)); intro a9 h9 tk9 T9 F9 N9; (try dsimp only); (try k_fold)))
local macro_rules | `(tactic| walk_at "call ref") => `(tactic| (k_here; (with_reducible show wpAny _ _ (call (Value.ref 187) _) _ _ _); k_dflt (refine' Ctr.use (c_mul ?a0 ?a1 ?a2 ?a3 ?a4) ?k1 ?k2 ?k3 ?k4 ?k5 ?kK ?kd ?ku ?_; (case k1 => k_asm); (case k2 => k_asm); (case k3 => k_asm); (case k4 => k_asm); (case k5 => k_asm); (case a0 => walk_at "MINE tup"); (case a1 => walk_at "MINE small"); (case a2 => walk_at "MINE tup"); (case a3 => walk_at "MINE small"); (case a4 => assumption); (case kK => first | exact rfl | assumption); (case kd => first | exact Nat.le_of_ble_eq_true rfl | ktr_room); (case ku => first | exact Nat.le_of_ble_eq_true rfl | ktr_units)); intro a9 h9 tk9 T9 F9 N9; (try dsimp only); (try k_fold)))
local macro_rules | `(tactic| walk_at "call ref") => `(tactic| (k_here; (with_reducible show wpAny _ _ (call (Value.ref 202) _) _ _ _); k_dflt (refine' Ctr.use (c_div ?a0 ?a1 ?a2 ?a3 ?a4 ?a5) ?k1 ?k2 ?k3 ?k4 ?k5 ?kK ?kd ?ku ?_; (case k1 => k_asm); (case k2 => k_asm); (case k3 => k_asm); (case k4 => k_asm); (case k5 => k_asm); (case a0 => walk_at "MINE tup"); (case a1 => walk_at "MINE small"); (case a2 => walk_at "MINE tup"); (case a3 => walk_at "MINE small"); (case a4 => assumption); (case a5 => assumption); (case kK => first | exact rfl | assumption); (case kd => first | exact Nat.le_of_ble_eq_true rfl | ktr_room); (case ku => first | exact Nat.le_of_ble_eq_true rfl | ktr_units)); intro a9 h9 tk9 T9 F9 N9; (try dsimp only); (try k_fold)))
local macro_rules | `(tactic| walk_at "call ref") => `(tactic| (k_here; (with_reducible show wpAny _ _ (call (Value.ref 89) _) _ _ _); k_dflt (refine' Ctr.use (c_cmp ?a0 ?a1 ?a2 ?a3 ?a4 ?a5) ?k1 ?k2 ?k3 ?k4 ?k5 ?kK ?kd ?ku ?_; (case k1 => k_asm); (case k2 => k_asm); (case k3 => k_asm); (case k4 => k_asm); (case k5 => k_asm); (case a0 => walk_at "MINE tup"); (case a1 => assumption); (case a2 => walk_at "MINE tup"); (case a3 => assumption); (case a4 => first | assumption | rfl); (case a5 => first | assumption | rfl); (case kK => first | exact rfl | assumption); (case kd => first | exact Nat.le_of_ble_eq_true rfl | ktr_room); (case ku => first | exact Nat.le_of_ble_eq_true rfl | ktr_units)); intro t9 h9 tk9 F9 N9; (try dsimp only); (try k_fold)))
local macro_rules | `(tactic| walk_at "call ref") => `(tactic| (k_here; (with_reducible show wpAny _ _ (call (Value.ref 96) _) _ _ _); k_dflt (refine' Ctr.use (c_lt ?a0 ?a1 ?a2 ?a3) ?k1 ?k2 ?k3 ?k4 ?k5 ?kK ?kd ?ku ?_; (case k1 => k_asm); (case k2 => k_asm); (case k3 => k_asm); (case k4 => k_asm); (case k5 => k_asm); (case a0 => walk_at "MINE tup"); (case a1 => assumption); (case a2 => walk_at "MINE tup"); (case a3 => assumption); (case kK => first | exact rfl | assumption); (case kd => first | exact Nat.le_of_ble_eq_true rfl | ktr_room); (case ku => first | exact Nat.le_of_ble_eq_true rfl | ktr_units)); intro h9 tk9 F9 N9; (try dsimp only); (try k_fold)))
local macro_rules | `(tactic| walk_at "call ref") => `(tactic| (k_here; (with_reducible show wpAny _ _ (call (Value.ref 103) _) _ _ _); k_dflt (refine' Ctr.use (c_le ?a0 ?a1 ?a2 ?a3) ?k1 ?k2 ?k3 ?k4 ?k5 ?kK ?kd ?ku ?_; (case k1 => k_asm); (case k2 => k_asm); (case k3 => k_asm); (case k4 => k_asm); (case k5 => k_asm); (case a0 => walk_at "MINE tup"); (case a1 => assumption); (case a2 => walk_at "MINE tup"); (case a3 => assumption); (case kK => first | exact rfl | assumption); (case kd => first | exact Nat.le_of_ble_eq_true rfl | ktr_room); (case ku => first | exact Nat.le_of_ble_eq_true rfl | ktr_units)); intro h9 tk9 F9 N9; (try dsimp only); (try k_fold)))
local macro_rules | `(tactic| walk_at "call ref") => `(tactic| (k_here; (with_reducible show wpAny _ _ (call (Value.ref 110) _) _ _ _); k_dflt (refine' Ctr.use (c_gt ?a0 ?a1 ?a2 ?a3) ?k1 ?k2 ?k3 ?k4 ?k5 ?kK ?kd ?ku ?_; (case k1 => k_asm); (case k2 => k_asm); (case k3 => k_asm); (case k4 => k_asm); (case k5 => k_asm); (case a0 => walk_at "MINE tup"); (case a1 => assumption); (case a2 => walk_at "MINE tup"); (case a3 => assumption); (case kK => first | exact rfl | assumption); (case kd => first | exact Nat.le_of_ble_eq_true rfl | ktr_room); (case ku => first | exact Nat.le_of_ble_eq_true rfl | ktr_units)); intro h9 tk9 F9 N9; (try dsimp only); (try k_fold)))
local macro_rules | `(tactic| walk_at "call ref") => `(tactic| (k_here; (with_reducible show wpAny _ _ (call (Value.ref 117) _) _ _ _); k_dflt (refine' Ctr.use (c_ge ?a0 ?a1 ?a2 ?a3) ?k1 ?k2 ?k3 ?k4 ?k5 ?kK ?kd ?ku ?_; (case k1 => k_asm); (case k2 => k_asm); (case k3 => k_asm); (case k4 => k_asm); (case k5 => k_asm); (case a0 => walk_at "MINE tup"); (case a1 => assumption); (case a2 => walk_at "MINE tup"); (case a3 => assumption); (case kK => first | exact rfl | assumption); (case kd => first | exact Nat.le_of_ble_eq_true rfl | ktr_room); (case ku => first | exact Nat.le_of_ble_eq_true rfl | ktr_units)); intro h9 tk9 F9 N9; (try dsimp only); (try k_fold)))
local macro_rules | `(tactic| walk_at "binaryOp Mult ref int") => `(tactic| (k_here; k_dflt (refine' mulF5 ?k1 ?k2 ?k3 ?_; (case k1 => k_asm); (case k2 => k_asm); (case k3 => k_mem); k_whole); intro D' h' F' N' l1; (try k_lt l1)))
local macro_rules | `(tactic| walk_at "MINE told") => `(tactic| first | exact told_nan (.inl (by assumption)) | exact told_nan (.inr (by assumption)) | exact told_ord (by first | assumption | rfl) (by first | assumption | rfl))
local macro_rules | `(tactic| walk_at "compareOp Eq ref ref") => `(tactic| (k_here; (with_reducible show wpAny _ _ (compareOp CmpOp.Eq (Value.ref _) (Value.ref _)) _ _ _); k_dflt (refine' eqB5 ?k1 ?k2 ?k3 ?k4 ?k5 ?_; (case k1 => k_asm); (case k2 => k_mem); (case k3 => k_mem); (case k4 => walk_at "MINE units"); (case k5 => walk_at "MINE told"); k_whole)))
local macro_rules | `(tactic| walk_at "eval Lambda") => `(tactic| (k_here; k_dflt (refine' kla_eval ?d0 ?_; (case d0 => exact rfl)); k_dflt (refine' kla_both ?F ?N ?T ?C ?cd ?U ?t ?cl ?_; (case F => k_asm); (case N => k_asm); (case T => k_asm); (case cd => exact rfl); (case C => kn_code); (case U => k_updF); (case t => first | assumption | exact TabOk.mono (by assumption) (by walk_at "MINE sub")); (case cl => exact rfl); k_whole); intro f' c' oc' vs' t' ct' h' tk' F' N' d1' d2' l1 l2 l3; (try dsimp only at N'); (try k_lt l1); (try k_lt2 l2)))
local macro_rules | `(tactic| walk_at "call ref") => `(tactic| (k_here; kn_here; refine wpAny_call ?_; k_dflt (refine' kla_code ?k1 ?k2 ?k3 ?k4 ?k5 ?kA ?kF ?kK ?k6 ?k7 ?k8 ?k9 ?kB ?_ ?c2 ?c3 ?c4 ?c5; (case kA => exact rfl); (case kF => exact rfl); (case kK => exact rfl); (case k1 => k_asm); (case k2 => k_asm); (case k3 => k_asm); (case k4 => k_asm); (case k5 => k_asm); (case k6 => k_mem); (case k7 => exact codeRec_news (by k_asm) (by k_mem) (by assumption) (by assumption)); (case k8 => first | exact Nat.le_of_ble_eq_true rfl | ktr_room); (case k9 => exact rfl); (case c5 => decide); (case kB => exact locs rfl); (case c2 => exact rfl); (case c3 => exact rfl); (case c4 => exact rfl); k_whole); intro g' L' h' FG' F' N' B' X' T'; (try dsimp only); (try k_lift B'); (try k_fold)))
local macro_rules | `(tactic| walk_at "call ref") => `(tactic| (k_here; (with_reducible show wpAny _ _ (call (Value.ref 286) _) _ _ _); refine wpAny_call ?_; k_dflt (refine' code_defXS [Str.ofString "call"] [] ?k1 ?k2 ?k3 ?k4 ?k5 ?XB ?TB ?D ?kA ?kF ?kK ?k6 ?k7 ?k8 ?k9 ?kB ?_ ?c2 ?c3 ?c4 ?c5; (case k1 => k_asm); (case k2 => k_asm); (case k3 => k_asm); (case k4 => k_asm); (case k5 => k_asm); (case XB => assumption); (case TB => assumption); (case D => assumption); (case kA => exact rfl); (case kF => exact rfl); (case kK => first | exact rfl | assumption);  (case k6 => k_is); (case k7 => k_is); (case k8 => first | exact Nat.le_of_ble_eq_true rfl | ktr_room); (case k9 => first | exact BindsTo.of_eq rfl | exact binds_K (by k_in) rfl (by k_is) rfl rfl rfl); (case c5 => decide); (case kB => decide +kernel); (case c2 => exact rfl); (case c3 => exact rfl); (case c4 => exact rfl); k_whole); intro g' L' h' FG' F' N' B' X' T' D'; (try k_lift B'); dsimp only [List.nil_append, List.cons_append, List.append_nil, List.zip, List.zipWith, List.reverse, List.reverseAux] at F'; (try dsimp only); (try k_fold)))
local macro_rules | `(tactic| walk_at "noteFrame ref") => `(tactic| (k_here; k_dflt (first | (refine' caught_SN0 (X := "ZeroDivisionError") (T' := "ZeroDivisionError") ?R ?F ?K ?U ?XB ?TB ?D ?T0 ?ex PyProof.Rows.Boot.«ZeroDivisionError» ?hn PySem.F.isExc_ZeroDivisionError PySem.F.notTuple_ZeroDivisionError ?hs ?_ ?hk ?hx ?hd ?hE; (case R => assumption); (case F => assumption); (case K => assumption); (case U => assumption); (case XB => assumption); (case TB => assumption); (case D => assumption); (case T0 => first | assumption | exact KtsTurn.refl); (case hs => rw [isSubtype_type]; kernel_rfl!); (case ex => k_is); (case hn => decide); (case hk => rfl); (case hx => rfl); (case hd => decide); (case hE => passes_own); k_whole) | (refine' caught_1 (X := "OverflowError") (T1 := "ZeroDivisionError") (T' := "OverflowError") ?R ?F ?K ?U ?XB ?TB ?D ?T0 ?ex1 PyProof.Rows.Boot.«ZeroDivisionError» ?hn1 PySem.F.isExc_ZeroDivisionError PySem.F.notTuple_ZeroDivisionError ?hs1 ?ex PyProof.Rows.Boot.«OverflowError» ?hn PySem.F.isExc_OverflowError PySem.F.notTuple_OverflowError ?hs ?_ ?hk ?hx1 ?hd1 ?hx ?hd ?hE; (case R => assumption); (case F => assumption); (case K => assumption); (case U => assumption); (case XB => assumption); (case TB => assumption); (case D => assumption); (case T0 => first | assumption | exact KtsTurn.refl); (case hs1 => rw [isSubtype_type]; kernel_rfl!); (case ex1 => k_is); (case hn1 => decide); (case hs => rw [isSubtype_type]; kernel_rfl!); (case ex => k_is); (case hn => decide); (case hk => rfl); (case hx1 => rfl); (case hd1 => decide); (case hx => rfl); (case hd => decide); (case hE => passes_own); k_whole) | (refine' caught_2 (X := "ValueError") (T1 := "ZeroDivisionError") (T2 := "OverflowError") (T' := "ValueError") ?R ?F ?K ?U ?XB ?TB ?D ?T0 ?ex1 PyProof.Rows.Boot.«ZeroDivisionError» ?hn1 PySem.F.isExc_ZeroDivisionError PySem.F.notTuple_ZeroDivisionError ?hs1 ?ex2 PyProof.Rows.Boot.«OverflowError» ?hn2 PySem.F.isExc_OverflowError PySem.F.notTuple_OverflowError ?hs2 ?ex PyProof.Rows.Boot.«ValueError» ?hn PySem.F.isExc_ValueError PySem.F.notTuple_ValueError ?hs ?_ ?hk ?hx1 ?hd1 ?hx2 ?hd2 ?hx ?hd ?hE; (case R => assumption); (case F => assumption); (case K => assumption); (case U => assumption); (case XB => assumption); (case TB => assumption); (case D => assumption); (case T0 => first | assumption | exact KtsTurn.refl); (case hs1 => rw [isSubtype_type]; kernel_rfl!); (case ex1 => k_is); (case hn1 => decide); (case hs2 => rw [isSubtype_type]; kernel_rfl!); (case ex2 => k_is); (case hn2 => decide); (case hs => rw [isSubtype_type]; kernel_rfl!); (case ex => k_is); (case hn => decide); (case hk => rfl); (case hx1 => rfl); (case hd1 => decide); (case hx2 => rfl); (case hd2 => decide); (case hx => rfl); (case hd => decide); (case hE => passes_own); k_whole)); intro h' g' T' F' N' B' X' P' D'; (try k_lift B'); (try k_sweep)))
local macro_rules | `(tactic| walk_at "leaving ref") => `(tactic| (k_here; (with_reducible show wpAny _ _ (leaving (envX _ _ _ _ _ _) _) _ _ _); (refine' leave_onSNX ?k1 ?k2 ?k3 ?k4 ?_; (case k3 => assumption); (case k1 => assumption); (case k4 => assumption); (case k2 => assumption); k_whole; intro h' S' R' U'; (try dsimp only at S' R' U' ⊢))))
local macro_rules | `(tactic| walk_at "LeaveS") => `(tactic| (k_dflt (refine' leaveS_r ?F ?N ?T ?_; (case F => k_asm); (case N => k_asm); (case T => first | assumption | exact KtsTurn.refl | exact KtsTurn.trans (by assumption) (by assumption) | exact KtsTurn.trans (by assumption) (KtsTurn.trans (by assumption) (by assumption))); k_whole); intro kg kT kF kN kB kX₀ kP kD; (have kX := kFor kF kX₀); (try k_lift kB); kts_tail))
set_option maxHeartbeats 4000000 in
theorem c_pairs_b {w : World} {rest : Led} {ps : Array Value} {v v' : Value} {x y : LX} {n : Int} {t t' : Tok} {r : Str} (hv : LV v x) (hv' : LV v' y) (hx : x.tiny) (hy : y.tiny) (hp : x.spec = true ∨ y.spec = true) (hz : y.isZero = false)
    (hr : ∀ p ∈ rest, p.1 ≠ 288) (ht : TabOk (Str.ofString "_law_pairs_right.<locals>.<lambda>") 485 24 rest ps) :
    CtrG w 16 293 ((288, tabObj ps) :: rest) [v, v', .int n t, .str r t'] (fun v news' => v = .bool true ∧ ∃ ps' rest', news' = (288, tabObj ps') :: rest' ∧ TabOk (Str.ofString "_law_pairs_right.<locals>.<lambda>") 485 24 rest' ps' ∧ (∀ p ∈ rest, p ∈ rest') ∧ ∀ p ∈ rest', p.1 ≠ 288) := by
  have hS1 := sum_spec hp
  have hS2 := sumneg_spec hp
  have hS3 : (prodL x y).spec = true := prod_spec
  (unfold CtrG; intro p loose mean mg mb dp un gd cn cs ca ccd cl outer A₀ base h₀ L mm st Q E B F X N T XB TB D hk0 hd0 hu0 hret; refine wpAny_call ?_; k_dflt (refine' code_defCXS [Str.ofString "one", Str.ofString "two", Str.ofString "most", Str.ofString "way"] [true, true, false, false] (fun L' => [(Str.ofString "right", L' + 4), (Str.ofString "left", L' + 3), (Str.ofString "way", L' + 2), (Str.ofString "most", L' + 1)]) ?k1 ?k2 ?k3 ?k4 ?k5 ?XB ?TB ?D ?kA ?kF ?kK ?k6 ?k7 ?k8 ?k9 ?kl ?kf ?kB ?kD ?kc ?_ ?c2 ?c3 ?c4; (case k1 => k_asm); (case k2 => k_asm); (case k3 => k_asm); (case k4 => k_asm); (case k5 => k_asm); (case XB => assumption); (case TB => assumption); (case D => assumption); (case kA => exact rfl); (case kF => exact rfl); (case kK => assumption);  (case k6 => k_is); (case k7 => k_is); (case k8 => first | exact Nat.le_of_ble_eq_true rfl | ktr_room); (case k9 => first | exact BindsTo.of_eq rfl | exact binds_K (by k_in) rfl (by k_is) rfl rfl rfl); (case kl => exact rfl); (case kf => decide +kernel); (case kB => decide +kernel); (case kD => decide +kernel); (case kc => exact fun _ => rfl); (case c2 => exact rfl); (case c3 => exact rfl); (case c4 => exact rfl); k_whole); intro g' L' h' tk' cells' FG' F' N' Y' B' X' T' D' l1; (try k_lt l1); obtain ⟨oc1', oc2', oc3', oc4', hE', dc1', dc2', dc3', dc4'⟩ := CellsAre.four Y'; subst hE'; clear Y'; (try simp only [List.cons_append, List.nil_append] at N'); dsimp only [selT, List.nil_append, List.cons_append, List.append_nil, List.zip, List.zipWith, List.reverse, List.reverseAux] at F'; (try dsimp only [selF, List.nil_append, List.cons_append, List.append_nil, List.zip, List.zipWith, List.reverse, List.reverseAux] at dc1'  dc2'  dc3'  dc4'); (try dsimp only); (try k_lift B'); (try k_fold))
  have cHd := codeHd_of_K (c := 292) (P := 288) XB (by kernel_rfl)
  k_steps
  all_goals first | (refine hret _ _ _ _ _ ⟨?v, _, _, rfl, ?tab, ?sub, ?ne⟩ (by assumption) (news_drop (by assumption) (by walk_at "MINE sub")) (by assumption) (by assumption) (by assumption) (by assumption); (case v => first | rfl | exact congrArg Value.bool (beq_self_eq_true _)); (case sub => assumption); (case ne => assumption); (case tab => exact TabOk.mono ht (by assumption)))
local macro_rules | `(tactic| walk_at "call ref") => `(tactic| (k_here; (with_reducible show wpAny _ _ (call (Value.ref 202) _) _ _ _); refine wpAny_call ?_; k_dflt (refine' code_defZ [Str.ofString "s", Str.ofString "t", Str.ofString "prec", Str.ofString "rnd"] [] ?k1 ?k2 ?k3 ?k4 ?k5 ?kA ?kF ?kK ?k6 ?k7 ?k8 ?k9 ?kB ?_ ?c2 ?c3 ?c4 ?c5; (case kA => exact rfl); (case kF => exact rfl); (case kK => first | exact rfl | assumption); (case k1 => k_asm); (case k2 => k_asm); (case k3 => k_asm); (case k4 => k_asm); (case k5 => k_asm); (case k6 => k_is); (case k7 => k_is); (case k8 => first | exact Nat.le_of_ble_eq_true rfl | ktr_room); (case k9 => first | exact BindsTo.of_eq rfl | exact binds_K (by k_in) rfl (by k_is) rfl rfl rfl); (case c5 => decide); (case kB => decide +kernel); (case c2 => exact rfl); (case c3 => exact rfl); (case c4 => exact rfl); k_whole); intro g' L' h' FG' F' N' B' X' T'; (try k_lift B'); dsimp only [List.nil_append, List.cons_append, List.append_nil, List.zip, List.zipWith, List.reverse, List.reverseAux] at F'; (try dsimp only); (try k_fold)))
set_option maxHeartbeats 4000000 in
theorem c_pairs_a {w : World} {rest : Led} {ps : Array Value} {v v' : Value} {x : LX} {n : Int} {t t' : Tok} {r : Str} (hv : LV v x) (hv' : LV v' (.num 0)) (hxs : x.spec = true)
    (hr : ∀ p ∈ rest, p.1 ≠ 288) (ht : TabOk (Str.ofString "_law_pairs_right.<locals>.<lambda>") 485 24 rest ps) :
    CtrG w 16 293 ((288, tabObj ps) :: rest) [v, v', .int n t, .str r t'] (fun v news' => v = .bool true ∧ ∃ ps' rest', news' = (288, tabObj ps') :: rest' ∧ TabOk (Str.ofString "_law_pairs_right.<locals>.<lambda>") 485 24 rest' ps' ∧ (∀ p ∈ rest, p ∈ rest') ∧ ∀ p ∈ rest', p.1 ≠ 288) := by
  have hx : x.tiny := spec_tiny hxs
  have hy : (LX.num 0).tiny := ⟨by decide, by decide⟩
  have hyo : (LX.num 0).old := rfl
  have hp : x.spec = true ∨ (LX.num 0).spec = true := .inl hxs
  have hS1 := sum_spec hp
  have hS2 := sumneg_spec hp
  have hS3 : (prodL x (.num 0)).spec = true := prod_spec
  have hz : (LX.num 0).isZero = true := rfl
  have hk := kf_of x hx.small
  have hm := sp_m hk hxs
  have hm1 := hm.1
  have hm2 := hm.2
  have hnz : e4 (mS x) 0 (mE x) (mB x) 0 0 0 0 = false := nz_f hm.2
  clear hk hm
  (unfold CtrG; intro p loose mean mg mb dp un gd cn cs ca ccd cl outer A₀ base h₀ L mm st Q E B F X N T XB TB D hk0 hd0 hu0 hret; refine wpAny_call ?_; k_dflt (refine' code_defCXS [Str.ofString "one", Str.ofString "two", Str.ofString "most", Str.ofString "way"] [true, true, false, false] (fun L' => [(Str.ofString "right", L' + 4), (Str.ofString "left", L' + 3), (Str.ofString "way", L' + 2), (Str.ofString "most", L' + 1)]) ?k1 ?k2 ?k3 ?k4 ?k5 ?XB ?TB ?D ?kA ?kF ?kK ?k6 ?k7 ?k8 ?k9 ?kl ?kf ?kB ?kD ?kc ?_ ?c2 ?c3 ?c4; (case k1 => k_asm); (case k2 => k_asm); (case k3 => k_asm); (case k4 => k_asm); (case k5 => k_asm); (case XB => assumption); (case TB => assumption); (case D => assumption); (case kA => exact rfl); (case kF => exact rfl); (case kK => assumption);  (case k6 => k_is); (case k7 => k_is); (case k8 => first | exact Nat.le_of_ble_eq_true rfl | ktr_room); (case k9 => first | exact BindsTo.of_eq rfl | exact binds_K (by k_in) rfl (by k_is) rfl rfl rfl); (case kl => exact rfl); (case kf => decide +kernel); (case kB => decide +kernel); (case kD => decide +kernel); (case kc => exact fun _ => rfl); (case c2 => exact rfl); (case c3 => exact rfl); (case c4 => exact rfl); k_whole); intro g' L' h' tk' cells' FG' F' N' Y' B' X' T' D' l1; (try k_lt l1); obtain ⟨oc1', oc2', oc3', oc4', hE', dc1', dc2', dc3', dc4'⟩ := CellsAre.four Y'; subst hE'; clear Y'; (try simp only [List.cons_append, List.nil_append] at N'); dsimp only [selT, List.nil_append, List.cons_append, List.append_nil, List.zip, List.zipWith, List.reverse, List.reverseAux] at F'; (try dsimp only [selF, List.nil_append, List.cons_append, List.append_nil, List.zip, List.zipWith, List.reverse, List.reverseAux] at dc1'  dc2'  dc3'  dc4'); (try dsimp only); (try k_lift B'); (try k_fold))
  have cHd := codeHd_of_K (c := 292) (P := 288) XB (by kernel_rfl)
  k_steps
  all_goals first | (refine' pair_end' (L := L) (rest := rest) (P := 288) (ln := 485) (co := 24) (q := Str.ofString "_law_pairs_right.<locals>.<lambda>") ?pe1 ?pe2 ?pe3 ?pe4 ?pe5 ?pe6 ?pe7 ?pe8 ?_; (case pe1 => assumption); (case pe2 => assumption); (case pe3 => assumption); (case pe4 => assumption); (case pe5 => k_mem); (case pe6 => k_mem); (case pe7 => walk_at "MINE sub"); (case pe8 => exact hr); intro n9 ok9 N9; refine' hret _ n9 _ _ _ ⟨?pf0, ok9⟩ ?pf1 N9 ?pf2 ?pf3 ?pf4 ?pf5; (case pf1 => assumption); (case pf2 => assumption); (case pf3 => assumption); (case pf4 => assumption); (case pf5 => assumption); (case pf0 => first | rfl | exact congrArg Value.bool (beq_self_eq_true _)))
theorem c_pairs {w : World} {rest : Led} {ps : Array Value} {v v' : Value} {x y : LX} {n : Int} {t t' : Tok} {r : Str} (hv : LV v x) (hv' : LV v' y) (hx : x.tiny) (hy : y.tiny) (hp : x.spec = true ∨ y.spec = true)
    (hr : ∀ p ∈ rest, p.1 ≠ 288) (ht : TabOk (Str.ofString "_law_pairs_right.<locals>.<lambda>") 485 24 rest ps) :
    CtrG w 16 293 ((288, tabObj ps) :: rest) [v, v', .int n t, .str r t'] (fun v news' => v = .bool true ∧ ∃ ps' rest', news' = (288, tabObj ps') :: rest' ∧ TabOk (Str.ofString "_law_pairs_right.<locals>.<lambda>") 485 24 rest' ps' ∧ (∀ p ∈ rest, p ∈ rest') ∧ ∀ p ∈ rest', p.1 ≠ 288) := by
  by_cases hz : y.isZero = true
  · obtain ⟨m, rfl⟩ : ∃ m, y = .num m := by cases y <;> first | exact ⟨_, rfl⟩ | (simp [LX.isZero] at hz)
    have : m = 0 := by simpa [LX.isZero] using hz
    subst this
    exact c_pairs_a hv hv' (hp.resolve_right (by decide)) hr ht
  · exact c_pairs_b hv hv' hx hy hp (by simpa using hz) hr ht

end PartS11
/-! part S12 -/
section PartS12
theorem c_lt' {w : World} {news : Led} {a a' : Addr} {x y : LX} (hx : TupX w news a x) (hs : x.tiny ∧ x.isNan = false) (hy : TupX w news a' y) (hs' : y.tiny ∧ y.isNan = false) :
    Ctr w 13 96 news [.ref a, .ref a'] (RB news (decide (ordL x y < 0))) := by
  have h := c_lt hx hs.1 hy hs'.1
  rw [if_neg (by rw [hs.2, hs'.2]; decide)] at h
  exact h
theorem c_gt' {w : World} {news : Led} {a a' : Addr} {x y : LX} (hx : TupX w news a x) (hs : x.tiny ∧ x.isNan = false) (hy : TupX w news a' y) (hs' : y.tiny ∧ y.isNan = false) :
    Ctr w 13 110 news [.ref a, .ref a'] (RB news (decide (ordL x y > 0))) := by
  have h := c_gt hx hs.1 hy hs'.1
  rw [if_neg (by rw [hs.2, hs'.2]; decide)] at h
  exact h
section
local macro_rules | `(tactic| walk_at "call ref") => `(tactic| (k_here; (with_reducible show wpAny _ _ (call (Value.ref 96) _) _ _ _); k_dflt (refine' Ctr.use (c_lt' ?a0 ?a1 ?a2 ?a3) ?k1 ?k2 ?k3 ?k4 ?k5 ?kK ?kd ?ku ?_; (case k1 => k_asm); (case k2 => k_asm); (case k3 => k_asm); (case k4 => k_asm); (case k5 => k_asm); (case a0 => walk_at "MINE tup"); (case a1 => assumption); (case a2 => walk_at "MINE tup"); (case a3 => assumption); (case kK => first | exact rfl | assumption); (case kd => first | exact Nat.le_of_ble_eq_true rfl | ktr_room); (case ku => first | exact Nat.le_of_ble_eq_true rfl | ktr_units)); intro h9 tk9 F9 N9; (try dsimp only); (try k_fold)))
local macro_rules | `(tactic| walk_at "call ref") => `(tactic| (k_here; (with_reducible show wpAny _ _ (call (Value.ref 110) _) _ _ _); k_dflt (refine' Ctr.use (c_gt' ?a0 ?a1 ?a2 ?a3) ?k1 ?k2 ?k3 ?k4 ?k5 ?kK ?kd ?ku ?_; (case k1 => k_asm); (case k2 => k_asm); (case k3 => k_asm); (case k4 => k_asm); (case k5 => k_asm); (case a0 => walk_at "MINE tup"); (case a1 => assumption); (case a2 => walk_at "MINE tup"); (case a3 => assumption); (case kK => first | exact rfl | assumption); (case kd => first | exact Nat.le_of_ble_eq_true rfl | ktr_room); (case ku => first | exact Nat.le_of_ble_eq_true rfl | ktr_units)); intro h9 tk9 F9 N9; (try dsimp only); (try k_fold)))
local macro_rules | `(tactic| walk_at "subscriptTail") => `(tactic| (k_here; (with_reducible show wpAny _ _ (subscriptTail _ _ (Value.ref _) (Value.int 0 _)) _ _ _); k_dflt (refine' itemL ?k1 ?k2 ?k3 ?k4 ?_ ?k6; (case k1 => exact News.isList (by k_asm) (by k_mem)); (case k2 => decide); (case k3 => decide); (case k4 => exact rfl); (case k6 => with_unfolding_all rfl); k_whole)))
local macro_rules | `(tactic| walk_at "subscriptTail Name Slice ref ref") => `(tactic| (k_here; (with_reducible show wpAny _ _ (subscriptTail _ (PySem.Expr.Slice _ _ none _) (Value.ref _) (Value.ref _)) _ _ _); k_dflt (refine' kms_slice_lit ?F ?N ?l ?p ?q ?e ?_ ?s ?t ?z; (case F => k_asm); (case N => k_asm); (case l => exact News.isList (by k_asm) (by k_mem)); (case p => exact IsPart.int _ _); (case q => exact IsPart.none); (case e => exact pick_one); (case s => with_unfolding_all rfl); (case t => (intro _; with_unfolding_all rfl)); (case z => assumption)); intro D' h' F' N' l1; (try k_lt l1); (try k_sweep)))
local macro_rules | `(tactic| walk_at "exec For") => `(tactic| (k_here; (with_reducible show wpAny _ _ (exec (Stmt.For (Expr.Name _ _) _ _ [] _) _) _ _ _); (rename Fr _ _ _ _ => lF'); (with_unfolding_all refine' For_invVF lF' ?k1 ?k2 ?_; (case k1 => exact rfl); (case k2 => exact rfl); k_whole)))
local macro_rules | `(tactic| walk_at "MINE j0") => `(tactic| exact JMM.intro (by walk_at "MINE lk") (by walk_at "MINE lk") (by assumption) (by assumption))
set_option maxHeartbeats 2000000 in
theorem c_minmax {w : World} {news : Led} {l : Addr} {v0 : Value} {vs : List Value} {x0 : LX} {xs : List LX} {k : Nat} (hm : (l, PySem.W.listOf (v0 :: vs).toArray k) ∈ news) (hT : TXs w news (v0 :: vs) (x0 :: xs)) (ht : ∀ x ∈ x0 :: xs, x.tiny ∧ x.isNan = false) (hsz : (v0 :: vs).toArray.size ≤ sizeLine) :
    Ctr w 15 124 news [.ref l] (RMM w news (loL x0 xs) (hiL x0 xs)) := by
  obtain ⟨x1, a0, e1, rfl, T0⟩ := hT.2 0 v0 rfl
  cases e1
  have T0' : TupX w news a0 (loL x0 (xs.take 0)) := T0
  have T0'' : TupX w news a0 (hiL x0 (xs.take 0)) := T0
  have hT' : TXs w news vs xs := hT.tail
  clear hT
  have hJ := useJ (JMM w news x0 xs)
  (unfold Ctr; intro p loose mean mg mb dp un gd cn cs ca ccd cl outer A₀ base h₀ L mm st Q E B F X N T hk0 hd0 hu0 hret; refine wpAny_call ?_; k_dflt (refine' code_defZ [Str.ofString "seq"] [] ?k1 ?k2 ?k3 ?k4 ?k5 ?kA ?kF ?kK ?k6 ?k7 ?k8 ?k9 ?kB ?_ ?c2 ?c3 ?c4 ?c5; (case kA => exact rfl); (case kF => exact rfl); (case kK => assumption); (case k1 => k_asm); (case k2 => k_asm); (case k3 => k_asm); (case k4 => k_asm); (case k5 => k_asm); (case k6 => k_is); (case k7 => k_is); (case k8 => first | exact Nat.le_of_ble_eq_true rfl | ktr_room); (case k9 => first | exact BindsTo.of_eq rfl | exact binds_K (by k_in) rfl (by k_is) rfl rfl rfl); (case c5 => decide); (case kB => decide +kernel); (case c2 => exact rfl); (case c3 => exact rfl); (case c4 => exact rfl); k_whole); intro g' L' h' FG' F' N' B' X' T'; (try k_lift B'); dsimp only [List.nil_append, List.cons_append, List.append_nil, List.zip, List.zipWith, List.reverse, List.reverseAux] at F'; (try dsimp only); (try k_fold))
  k_steps
  rename UseJ _ => hJ9
  refine' iter_U hJ9 ?ju0 ?ju1 ?ju2 ?ju3 ?ju4 ?ju5 ?_ ?_
  case ju1 => rfl
  case ju3 => k_asm
  case ju4 => k_asm
  case ju0 => rfl
  case ju2 => k_mem
  case ju5 => walk_at "MINE j0"
  clear hJ9
  · intro i9 v9 m9 h9 tk9 need9 hv9 hj9 F9 hs9 hb9 N9
    obtain ⟨lk9, a9, b9, rfl, hp9, T1, T2⟩ := hj9
    (have e9 := front hp9)
    (rw [e9] at F9)
    (rw [lk_store] at F9)
    dsimp only [List.cons_append, List.nil_append] at F9
    clear e9 hp9
    (obtain ⟨x9, c9, hx9, hc9, T3⟩ := (by assumption : TXs _ _ _ _).2 _ _ hv9)
    subst hc9
    (have o1 := lo_ok (by assumption) i9)
    (have o2 := hi_ok (by assumption) i9)
    (have o3 := (by assumption : ∀ x ∈ _ :: _, LX.tiny x ∧ LX.isNan x = false) _ (.tail _ (mem_of_at hx9)))
    (have N8 := N9)
    (have U1 := TupA.sub T1 (sub_trans (by walk_at "MINE sub") hs9))
    (have U2 := TupA.sub T2 (sub_trans (by walk_at "MINE sub") hs9))
    (have U3 := TupA.sub T3 (sub_trans (by walk_at "MINE sub") hs9))
    clear N8
    k_steps
    all_goals
      refine' TurnEnd.next ?te1 ?te2 (fun _ h => h) ?te3
      case te1 => k_asm
      case te2 => k_asm
      case te3 =>
        refine JMM.intro (by walk_at "MINE lk") (by walk_at "MINE lk") ?_ ?_
        · first | (rw [lo_take hx9, lo_y (by assumption)]; assumption) | (rw [lo_take hx9, lo_n (by assumption)]; assumption)
        · first | (rw [hi_take hx9, hi_y (by assumption)]; assumption) | (rw [hi_take hx9, hi_n (by assumption)]; assumption)
  · intro m9 h9 tk9 hj9 F9 N9
    obtain ⟨lk9, a9, b9, rfl, hp9, T1, T2⟩ := hj9
    (have e9 := front hp9)
    (rw [e9] at F9)
    dsimp only [List.cons_append, List.nil_append] at F9
    clear e9 hp9
    have ht9 : xs.take vs.length = xs := List.take_of_length_le (by rw [hT'.1]; exact Nat.le_refl _)
    rw [ht9] at T1 T2
    (try dsimp only)
    k_steps
    all_goals first | exact hret _ _ _ _ _ T1 T2 (lt_of2 (by assumption)) (by k_asm) (news_hd (by assumption))
end

end PartS12
/-! part S13 -/
section PartS13
section
local macro_rules | `(tactic| walk_at "exec For") => `(tactic| (k_here; (with_reducible show wpAny _ _ (exec (Stmt.For (Expr.Name _ _) _ _ [] _) _) _ _ _); (rename Fr _ _ _ _ => lF'); (with_unfolding_all refine' For_invVF lF' ?k1 ?k2 ?_; (case k1 => exact rfl); (case k2 => exact rfl); k_whole)))
local macro_rules | `(tactic| walk_at "MINE small") => `(tactic| first | assumption | exact LX.tiny.small (by assumption) | exact spec_small (by assumption) | exact spec_small (abs_spec (by assumption)) | exact ⟨by decide, by decide⟩)
local macro_rules | `(tactic| walk_at "MINE spor") => `(tactic| first | exact .inl (by assumption) | exact .inr (by assumption) | exact .inr (abs_spec (by assumption)))
local macro_rules | `(tactic| walk_at "MINE tup") => `(tactic| (refine' tup_zero ?tz1 ?tz2; (case tz1 => kernel_rfl!); (case tz2 => k_is)))
local macro_rules | `(tactic| walk_at "truthy ref") => `(tactic| (k_here; (with_reducible show wpAny _ _ (truthy (Value.ref _)) _ _ _); k_dflt (refine' truthy4 ?k1 ?k2 ?k3 ?k4 ?_; (case k1 => k_asm); (case k2 => k_asm); (case k3 => k_asm); (case k4 => assumption); k_whole)))
local macro_rules | `(tactic| walk_at "MINE js") => `(tactic| (refine' TurnEnd.next ?te1 ?te2 (fun _ h => h) ?te3; (case te1 => k_asm); (case te2 => k_asm); (case' te3 => (refine' JS.intro ?js1 ?js2 ?js3 ?js4 ?js5 ?js6 ?js7 ?js8 ?js9 ?js10 ?js11; (case js1 => walk_at "MINE lk"); (case js2 => walk_at "MINE lk"); (case js3 => walk_at "MINE lk"); (case js4 => walk_at "MINE lk"); (case js5 => walk_at "MINE lk"); (case js6 => walk_at "MINE lk"); (case js7 => walk_at "MINE lk")))))
local macro_rules | `(tactic| walk_at "call ref") => `(tactic| (k_here; (with_reducible show wpAny _ _ (call (Value.ref 148) _) _ _ _); k_dflt (refine' Ctr.use (c_abs1 ?a0 ?a1 ?a2) ?k1 ?k2 ?k3 ?k4 ?k5 ?kK ?kd ?ku ?_; (case k1 => k_asm); (case k2 => k_asm); (case k3 => k_asm); (case k4 => k_asm); (case k5 => k_asm); (case a0 => walk_at "MINE tup"); (case a1 => walk_at "MINE small"); (case a2 => assumption); (case kK => first | exact rfl | assumption); (case kd => first | exact Nat.le_of_ble_eq_true rfl | ktr_room); (case ku => first | exact Nat.le_of_ble_eq_true rfl | ktr_units)); intro a9 h9 tk9 T9 F9 N9; (try dsimp only); (try k_fold)))
local macro_rules | `(tactic| walk_at "call ref") => `(tactic| (k_here; (with_reducible show wpAny _ _ (call (Value.ref 163) _) _ _ _); k_dflt (refine' Ctr.use (c_add3 ?a0 ?a1 ?a2 ?a3 ?a4) ?k1 ?k2 ?k3 ?k4 ?k5 ?kK ?kd ?ku ?_; (case k1 => k_asm); (case k2 => k_asm); (case k3 => k_asm); (case k4 => k_asm); (case k5 => k_asm); (case a0 => walk_at "MINE tup"); (case a1 => walk_at "MINE small"); (case a2 => walk_at "MINE tup"); (case a3 => walk_at "MINE small"); (case a4 => walk_at "MINE spor"); (case kK => first | exact rfl | assumption); (case kd => first | exact Nat.le_of_ble_eq_true rfl | ktr_room); (case ku => first | exact Nat.le_of_ble_eq_true rfl | ktr_units)); intro a9 h9 tk9 T9 F9 N9; (try dsimp only); (try k_fold)))
local macro_rules | `(tactic| walk_at "call ref") => `(tactic| (k_here; (with_reducible show wpAny _ _ (call (Value.ref 59) _) _ _ _); k_dflt (refine' Ctr.use (c_fme4 ?a0 ?a1 ?a2 ?a3) ?k1 ?k2 ?k3 ?k4 ?k5 ?kK ?kd ?ku ?_; (case k1 => k_asm); (case k2 => k_asm); (case k3 => k_asm); (case k4 => k_asm); (case k5 => k_asm); (case a0 => omega); (case a1 => omega); (case a2 => omega); (case a3 => omega); (case kK => first | exact rfl | assumption); (case kd => first | exact Nat.le_of_ble_eq_true rfl | ktr_room); (case ku => first | exact Nat.le_of_ble_eq_true rfl | ktr_units)); (refine ⟨?_, ?_⟩) <;> (first | (intro ho9 D9 o9 h9 tk9 T9 l9 F9 N9; (try k_lt l9)) | intro ho9 a9 h9 tk9 T9 F9 N9) <;> (try dsimp only) <;> (try k_fold)))
set_option maxHeartbeats 4000000 in
theorem c_msum {w : World} {news : Led} {l : Addr} {vs : List Value} {xs : List LX} {k : Nat} {kk : Bool} {t t' : Tok} {r : Str} (hm : (l, PySem.W.listOf vs.toArray k) ∈ news) (hT : TXs w news vs xs) (ht : AllOk xs) :
    Ctr w 9 179 news [.ref l, .int 0 t, .str r t', .bool kk] (RX w news (totL kk xs)) := by
  (unfold Ctr; intro p loose mean mg mb dp un gd cn cs ca ccd cl outer A₀ base h₀ L mm st Q E B F X N T hk0 hd0 hu0 hret; refine wpAny_call ?_; k_dflt (refine' code_defZ [Str.ofString "xs", Str.ofString "prec", Str.ofString "rnd", Str.ofString "absolute"] [] ?k1 ?k2 ?k3 ?k4 ?k5 ?kA ?kF ?kK ?k6 ?k7 ?k8 ?k9 ?kB ?_ ?c2 ?c3 ?c4 ?c5; (case kA => exact rfl); (case kF => exact rfl); (case kK => assumption); (case k1 => k_asm); (case k2 => k_asm); (case k3 => k_asm); (case k4 => k_asm); (case k5 => k_asm); (case k6 => k_is); (case k7 => k_is); (case k8 => first | exact Nat.le_of_ble_eq_true rfl | ktr_room); (case k9 => first | exact BindsTo.of_eq rfl | exact binds_K (by k_in) rfl (by k_is) rfl rfl rfl); (case c5 => decide); (case kB => decide +kernel); (case c2 => exact rfl); (case c3 => exact rfl); (case c4 => exact rfl); k_whole); intro g' L' h' FG' F' N' B' X' T'; (try k_lift B'); dsimp only [List.nil_append, List.cons_append, List.append_nil, List.zip, List.zipWith, List.reverse, List.reverseAux] at F'; (try dsimp only); (try k_fold))
  k_steps
  refine' iter_U (useJ (JS w news kk xs r)) ?ju0 ?ju1 ?ju2 ?ju3 ?ju4 ?ju5 ?_ ?_
  case ju1 => rfl
  case ju3 => k_asm
  case ju4 => k_asm
  case ju0 => rfl
  case ju2 => k_mem
  case ju5 =>
    refine' JS.intro (d := 2) ?a1 ?a2 ?a3 ?a4 ?a5 ?a6 ?a7 ?a8 ?a9 ?a10 ?a11
    case a1 => walk_at "MINE lk"
    case a2 => walk_at "MINE lk"
    case a3 => walk_at "MINE lk"
    case a4 => walk_at "MINE lk"
    case a5 => walk_at "MINE lk"
    case a6 => walk_at "MINE lk"
    case a7 => walk_at "MINE lk"
    case a8 => decide
    case a9 => rfl
    case a10 => rfl
    case a11 => exact .inl ⟨rfl, rfl⟩
  · intro i9 v9 m9 h9 tk9 need9 hv9 hj9 F9 hs9 hb9 N9
    obtain ⟨lk9, man9, ex9, d9, sp9, u1, u2, u3, u4, u5, rfl, hp9, hd9, he9, hm9, hc9⟩ := hj9
    have e9 := front hp9
    rw [e9] at F9
    rw [lk_store] at F9
    unfold sumNames at F9
    dsimp only [List.cons_append, List.nil_append] at F9
    clear e9 hp9
    obtain ⟨x9, c9, hx9, rfl, T3⟩ := hT.2 _ _ hv9
    have U3 := TupA.sub T3 hs9
    have hf9 := fin_ok (k := kk) ht i9
    have hc8 := man_le hm9 hf9 hd9
    have ho9 := ht.1 _ (mem_of_at hx9)
    by_cases hsp : x9.spec = true
    · have hk9 := sp_m (kf_of x9 ho9.small) hsp
      have hk8 := hk9.1
      have hk7 := hk9.2
      have U2 := tx_sp hk8 U3
      have ow9 := own_spec (k := kk) hsp
      have of9 := own_fin0 (k := kk) hsp
      have hcc := hc9
      rcases hcc with ⟨rfl, hd8⟩ | ⟨a9, rfl, T4, hd8⟩
      · k_steps
        all_goals first | (exfalso; omega) | skip
        all_goals
          walk_at "MINE js"
          case js8 => exact hd9
          case js9 => exact he9
          (rw [fin_take hx9, of9, Int.add_zero]; exact hm9)
          first | exact js_a hx9 hd8 hb9 (by rw [ow9, if_pos (by assumption)]) (abs_spec hsp) (by assumption) | exact js_a hx9 hd8 hb9 (by rw [ow9, if_neg (by rw [(by assumption : kk = false)]; decide)]) hsp (by assumption)
      · have U4 := TupA.sub T4 hs9
        k_steps
        all_goals first | (exfalso; omega) | skip
        all_goals
          walk_at "MINE js"
          case js8 => exact hd9
          case js9 => exact he9
          (rw [fin_take hx9, of9, Int.add_zero]; exact hm9)
          first | exact js_b hx9 hd8 hb9 (by rw [ow9, if_pos (by assumption)]) (by assumption) | exact js_b hx9 hd8 hb9 (by rw [ow9, if_neg (by rw [(by assumption : kk = false)]; decide)]) (by assumption)
    · obtain ⟨n9, rfl⟩ := not_spec (by simpa using hsp)
      have hc7 := js_num hx9 hc9
      by_cases hn9 : n9 = 0
      · subst hn9
        have U2 := tx_zero U3
        clear U3
        k_steps
        all_goals
          walk_at "MINE js"
          case js8 => exact hd9
          case js9 => exact he9
          (rw [fin_take hx9, own_num]; simpa [aI] using hm9)
          exact hc7
      · obtain ⟨e9, h49, hE9, hM9⟩ := num_parts ho9 hn9
        have hz9 := tz_more (aI_pos hn9) (aI_lt (n := n9) (by have := ho9.1; omega) (by have := ho9.2; omega))
        have hB9 : 0 < mB (.num n9) ∧ mB (.num n9) ≤ 9 := hz9.2.2.2.2
        obtain ⟨s9, m9, x9, b9, U2, hK9, hl9, hq1, hq2, hq3, hq4⟩ := TupX.opn (x := .num n9) U3 ho9.small
        have hmm : mM (.num n9) ≠ 0 := Int.ne_of_gt hz9.1
        rw [← hq2] at hmm hM9
        have hxm := xm_val (kk := kk) hq1 hM9
        rw [← hq4] at hB9
        rw [← hq3] at hE9
        clear U3
        k_steps
        all_goals try exact absurd (by assumption) hmm
        all_goals
         walk_at "MINE js"
         first
          | (case js9 => exact he9
             case js8 => exact hd9
             case js11 => exact hc7
             rw [fin_take hx9]
             first
             | exact ar_up hE9 he9 (by assumption) hm9 (hxm.1 (by assumption) (by assumption))
             | exact ar_up hE9 he9 (by assumption) hm9 (hxm.2 (.inr (by assumption)))
             | exact ar_up hE9 he9 (by assumption) hm9 (hxm.2 (.inl (by omega))))
          | (case js9 => exact hE9
             case js8 => omega
             case js11 => exact hc7
             rw [fin_take hx9]
             first
             | exact ar_dn hE9 he9 (by assumption) hm9 (hxm.1 (by assumption) (by assumption))
             | exact ar_dn hE9 he9 (by assumption) hm9 (hxm.2 (.inr (by assumption)))
             | exact ar_dn hE9 he9 (by assumption) hm9 (hxm.2 (.inl (by omega))))
  · intro m9 h9 tk9 hj9 F9 N9
    obtain ⟨lk9, man9, ex9, d9, sp9, u1, u2, u3, u4, u5, rfl, hp9, hd9, he9, hm9, hc9⟩ := hj9
    have e9 := front hp9
    rw [e9] at F9
    unfold sumNames at F9
    dsimp only [List.cons_append, List.nil_append] at F9
    clear e9 hp9
    have ht9 : xs.take vs.length = xs := List.take_of_length_le (by rw [hT.1]; exact Nat.le_refl _)
    have hf9 := fin_ok (k := kk) ht xs.length
    rw [List.take_length] at hf9
    unfold SpOk at hc9
    rw [ht9] at hm9 hc9
    have hc8 := man_le hm9 hf9 hd9
    have hall := q_all hm9 hf9 hd9 he9
    (try dsimp only)
    rcases hc9 with ⟨rfl, hc9⟩ | ⟨a9, rfl, T4, hc9⟩
    · rw [hc9] at hret
      k_steps
      all_goals first
        | exact RT.old hret (by assumption) (by k_asm) (by k_asm) (hm9.symm.trans (man_zero.mpr (by assumption))) hall
        | exact RT.new2 hret (by assumption) (by assumption) (by k_asm) (by k_asm) (fun q => absurd (man_zero.mp (hm9.trans q)) (by assumption)) hall
    · k_steps
      all_goals first | exact hret.1 (spec_old hc9) _ _ _ T4 (by k_asm) (by k_asm)
end

end PartS13
/-! part S14 -/
section PartS14
section
variable {prog : Program} {w : World} {A : Around} {E : Value → Shared → Prop} {st : Shared} {Q : Value → Shared → Prop} {x y : LX} {v v' : Value} {t : Tok}
end
local macro_rules | `(tactic| walk_at "compareOp Eq str") => `(tactic| (k_here; (with_reducible show wpAny _ _ (compareOp CmpOp.Eq _ (Value.str (Str.ofString "nan") _)) _ _ _); (with_reducible refine lv_eq_nan (by assumption) ?_)))
theorem c_made_r {w : World} {p1 p2 p3 : Addr × Obj} {rest : Led} {v : Value} {x : LX} (hv : LV v x) (hs : x.small) : Ctr w 6 223 (p1 :: p2 :: p3 :: rest) [v] (RXg w [p1, p2, p3] rest x) := made_r (c_made0 hv hs)
theorem c_made_r1 {w : World} {p1 : Addr × Obj} {rest : Led} {v : Value} {x : LX} (hv : LV v x) (hs : x.small) : Ctr w 6 223 (p1 :: rest) [v] (RXg w [p1] rest x) := made_r1 (c_made0 hv hs)
theorem c_msum_r {w : World} {rest : Led} {D : Addr} {vs : List Value} {xs : List LX} {k : Nat} {kk : Bool} {t t' : Tok} {r : Str} (hT : TXs w rest vs xs) (ht : AllOk xs) :
    Ctr w 9 179 ((D, PySem.W.listOf vs.toArray k) :: rest) [.ref D, .int 0 t, .str r t', .bool kk] (RXg w [(D, PySem.W.listOf vs.toArray k)] rest (totL kk xs)) :=
  one_gen (c_msum (.head _) (hT.mono fun _ h => .tail _ h) ht) (by show Value.type "list" ≠ Value.type "tuple"; decide)
section
local macro_rules | `(tactic| walk_at "exec For") => `(tactic| (k_here; (with_reducible show wpAny _ _ (exec (Stmt.For (Expr.Name _ _) _ _ [] _) _) _ _ _); (rename Fr _ _ _ _ => lF'); (with_unfolding_all refine' For_invVF lF' ?k1 ?k2 ?_; (case k1 => exact rfl); (case k2 => exact rfl); k_whole)))
local macro_rules | `(tactic| walk_at "exec Assign cons ListComp") => `(tactic| (k_here; k_dflt (refine LCg.Assign_ListComp_U (F₀ := by k_asm) (by rfl) (by with_unfolding_all rfl) (by rfl) (by decide) (by rfl) (by decide) (by rfl) (by rfl) (by rfl) ?_)))
local macro_rules | `(tactic| walk_at "MINE small") => `(tactic| first | assumption | exact LX.tiny.small (by assumption))
local macro_rules | `(tactic| walk_at "compareOp NotEq ref ref") => `(tactic| (k_here; (with_reducible show wpAny _ _ (compareOp CmpOp.NotEq (Value.ref _) (Value.ref _)) _ _ _); k_dflt (refine' ne4T ?k1 ?k2 ?k3 ?k4 ?k5 ?k6 ?k7 ?_; (case k1 => k_asm); (case k2 => k_asm); (case k3 => k_asm); (case k4 => walk_at "MINE tup"); (case k5 => walk_at "MINE tup"); (case k7 => exact e4_refl); (case k6 => walk_at "MINE units"); k_whole)))
local macro_rules | `(tactic| walk_at "compareOp In str ref") => `(tactic| (k_here; k_dflt (refine' in_nan ?k1 ?k2 ?k3 ?k4 ?_; (case k1 => assumption); (case k2 => k_asm); (case k3 => walk_at "MINE lmem"); (case k4 => walk_at "MINE units"); k_whole)))
local macro_rules | `(tactic| walk_at "MINE lmem") => `(tactic| first | k_mem | exact .tail _ ((by assumption : ∀ p ∈ _, p ∈ _) _ (by assumption)))
local macro_rules | `(tactic| walk_at "MINE lmem") => `(tactic| first | exact .tail _ (.tail _ ((by assumption : ∀ p ∈ _, p ∈ _) _ (by assumption))) | exact .tail _ (.tail _ (.tail _ ((by assumption : ∀ p ∈ _, p ∈ _) _ (by assumption)))) | k_mem | exact .tail _ ((by assumption : ∀ p ∈ _, p ∈ _) _ (by assumption)))
local macro_rules | `(tactic| walk_at "subscriptTail") => `(tactic| (k_here; (with_reducible show wpAny _ _ (subscriptTail _ _ (Value.ref _) (Value.int 0 _)) _ _ _); k_dflt (refine' itemL ?k1 ?k2 ?k3 ?k4 ?_ ?k6; (case k1 => exact News.isList (by k_asm) (by walk_at "MINE lmem")); (case k2 => decide); (case k3 => decide); (case k4 => exact rfl); (case k6 => with_unfolding_all rfl); k_whole)))
local macro_rules | `(tactic| walk_at "call ref") => `(tactic| (k_here; (with_reducible show wpAny _ _ (call (Value.ref 279) _) _ _ _); k_dflt (refine' Ctr.use (c_ord ?a0 ?a1 ?a2 ?a3) ?k1 ?k2 ?k3 ?k4 ?k5 ?kK ?kd ?ku ?_; (case k1 => k_asm); (case k2 => k_asm); (case k3 => k_asm); (case k4 => k_asm); (case k5 => k_asm); (case a0 => walk_at "MINE lv"); (case a1 => walk_at "MINE lv"); (case a2 => assumption); (case a3 => assumption); (case kK => first | exact rfl | assumption); (case kd => first | exact Nat.le_of_ble_eq_true rfl | ktr_room); (case ku => first | exact Nat.le_of_ble_eq_true rfl | ktr_units)); intro t9 h9 tk9 F9 N9; (try dsimp only); (try k_fold)))
local macro_rules | `(tactic| walk_at "call ref") => `(tactic| (k_here; (with_reducible show wpAny _ _ (call (Value.ref 124) _) _ _ _); k_dflt (refine' Ctr.use (c_minmax ?a0 ?a1 ?a2 ?a3) ?k1 ?k2 ?k3 ?k4 ?k5 ?kK ?kd ?ku ?_; (case k1 => k_asm); (case k2 => k_asm); (case k3 => k_asm); (case k4 => k_asm); (case k5 => k_asm); (case a0 => k_mem); (case a1 => exact TXs.mono (by assumption) (by walk_at "MINE sub")); (case a2 => assumption); (case a3 => assumption); (case kK => first | exact rfl | assumption); (case kd => first | exact Nat.le_of_ble_eq_true rfl | ktr_room); (case ku => first | exact Nat.le_of_ble_eq_true rfl | ktr_units)); intro D9 a9 b9 h9 tk9 T9 U9 l9 F9 N9; (repeat (replace T9 := TupA.stripN (by first | exact no4_pair | exact no4_list) T9)); (repeat (replace U9 := TupA.stripN (by first | exact no4_pair | exact no4_list) U9)); (try k_lt l9); (try dsimp only); (try k_fold)))
local macro_rules | `(tactic| walk_at "MINE subX") => `(tactic| first | exact sub_trans (fun _ h => h) (by walk_at "MINE sub") | exact sub_trans (by assumption) (by walk_at "MINE sub") | exact sub_trans (sub_trans (by assumption) (by assumption)) (by walk_at "MINE sub"))
local macro_rules | `(tactic| walk_at "compareOp Eq ref ref") => `(tactic| (k_here; (with_reducible show wpAny _ _ (compareOp CmpOp.Eq (Value.ref _) (Value.ref _)) _ _ _); k_dflt (refine' eqTT ?k1 ?k2 ?k3 ?k4 ?k5 ?k6 ?k7 ?k8 ?k9 ?k10 ?_; (case k1 => k_asm); (case k2 => k_asm); (case k3 => k_asm); (case k4 => k_mem); (case k5 => k_mem); (case k6 => exact TupA.sub (by assumption) (by walk_at "MINE subX")); (case k7 => exact TupA.sub (by assumption) (by walk_at "MINE subX")); (case k8 => exact TupA.sub (by assumption) (by walk_at "MINE subX")); (case k9 => exact TupA.sub (by assumption) (by walk_at "MINE subX")); (case k10 => walk_at "MINE units"); k_whole)))
local macro_rules | `(tactic| walk_at "call ref") => `(tactic| (k_here; (with_reducible show wpAny _ _ (call (Value.ref 223) _) _ _ _); k_dflt (refine' Ctr.use (c_made_r1 ?a0 ?a1) ?k1 ?k2 ?k3 ?k4 ?k5 ?kK ?kd ?ku ?_; (case k1 => k_asm); (case k2 => k_asm); (case k3 => k_asm); (case k4 => k_asm); (case k5 => k_asm); (case a0 => walk_at "MINE lv"); (case a1 => walk_at "MINE small"); (case kK => first | exact rfl | assumption); (case kd => first | exact Nat.le_of_ble_eq_true rfl | ktr_room); (case ku => first | exact Nat.le_of_ble_eq_true rfl | ktr_units)); intro a9 r9 h9 tk9 hs9 hn9 T9 F9 N9; (try dsimp only [List.cons_append, List.nil_append] at N9); (try have T8 := TupA.sub (by assumption) hs9); (try have X8 := TXs.mono (by assumption) hs9); (try have hc9 := sub_trans (by assumption) hs9); (try dsimp only); (try k_fold)))
local macro_rules | `(tactic| walk_at "call ref") => `(tactic| (k_here; (with_reducible show wpAny _ _ (call (Value.ref 223) _) _ _ _); k_dflt (refine' Ctr.use (c_made_r ?a0 ?a1) ?k1 ?k2 ?k3 ?k4 ?k5 ?kK ?kd ?ku ?_; (case k1 => k_asm); (case k2 => k_asm); (case k3 => k_asm); (case k4 => k_asm); (case k5 => k_asm); (case a0 => walk_at "MINE lv"); (case a1 => walk_at "MINE small"); (case kK => first | exact rfl | assumption); (case kd => first | exact Nat.le_of_ble_eq_true rfl | ktr_room); (case ku => first | exact Nat.le_of_ble_eq_true rfl | ktr_units)); intro a9 r9 h9 tk9 hs9 hn9 T9 F9 N9; (try dsimp only [List.cons_append, List.nil_append] at N9); (try have T8 := TupA.sub (by assumption) hs9); (try have X8 := TXs.mono (by assumption) hs9); (try have hc9 := sub_trans (by assumption) hs9); (try dsimp only); (try k_fold)))
local macro_rules | `(tactic| walk_at "call ref") => `(tactic| (k_here; (with_reducible show wpAny _ _ (call (Value.ref 179) _) _ _ _); k_dflt (refine' Ctr.use (c_msum_r ?a0 ?a1) ?k1 ?k2 ?k3 ?k4 ?k5 ?kK ?kd ?ku ?_; (case k1 => k_asm); (case k2 => k_asm); (case k3 => k_asm); (case k4 => k_asm); (case k5 => k_asm); (case a0 => assumption); (case a1 => assumption); (case kK => first | exact rfl | assumption); (case kd => first | exact Nat.le_of_ble_eq_true rfl | ktr_room); (case ku => first | exact Nat.le_of_ble_eq_true rfl | ktr_units)); intro a9 r9 h9 tk9 hs9 hn9 T9 F9 N9; (try dsimp only [List.cons_append, List.nil_append] at N9); (try have T8 := TupA.sub (by assumption) hs9); (try have X8 := TXs.mono (by assumption) hs9); (try have hc9 := sub_trans (by assumption) hs9); (try dsimp only); (try k_fold)))
local macro_rules | `(tactic| walk_at "call ref") => `(tactic| (k_here; (with_reducible show wpAny _ _ (call (Value.ref 230) _) _ _ _); k_dflt (refine' Ctr.use (c_side ?a0 ?a1) ?k1 ?k2 ?k3 ?k4 ?k5 ?kK ?kd ?ku ?_; (case k1 => k_asm); (case k2 => k_asm); (case k3 => k_asm); (case k4 => k_asm); (case k5 => k_asm); (case a0 => walk_at "MINE lv"); (case a1 => first | assumption | rfl); (case kK => first | exact rfl | assumption); (case kd => first | exact Nat.le_of_ble_eq_true rfl | ktr_room); (case ku => first | exact Nat.le_of_ble_eq_true rfl | ktr_units)); intro t9 h9 tk9 hx9 F9 N9; (try dsimp only); (try k_fold)))
local macro_rules | `(tactic| walk_at "call ref") => `(tactic| (k_here; (with_reducible show wpAny _ _ (call (Value.ref 251) _) _ _ _); k_dflt (refine' Ctr.use (c_neg ?a0) ?k1 ?k2 ?k3 ?k4 ?k5 ?kK ?kd ?ku ?_; (case k1 => k_asm); (case k2 => k_asm); (case k3 => k_asm); (case k4 => k_asm); (case k5 => k_asm); (case a0 => walk_at "MINE lv"); (case kK => first | exact rfl | assumption); (case kd => first | exact Nat.le_of_ble_eq_true rfl | ktr_room); (case ku => first | exact Nat.le_of_ble_eq_true rfl | ktr_units)); intro v9 h9 tk9 hv9 F9 N9; (try dsimp only); (try k_fold)))
local macro_rules | `(tactic| walk_at "call ref") => `(tactic| (k_here; (with_reducible show wpAny _ _ (call (Value.ref 258) _) _ _ _); k_dflt (refine' Ctr.use (c_sum ?a0 ?a1) ?k1 ?k2 ?k3 ?k4 ?k5 ?kK ?kd ?ku ?_; (case k1 => k_asm); (case k2 => k_asm); (case k3 => k_asm); (case k4 => k_asm); (case k5 => k_asm); (case a0 => walk_at "MINE lv"); (case a1 => walk_at "MINE lv"); (case kK => first | exact rfl | assumption); (case kd => first | exact Nat.le_of_ble_eq_true rfl | ktr_room); (case ku => first | exact Nat.le_of_ble_eq_true rfl | ktr_units)); intro v9 h9 tk9 hv9 F9 N9; (try dsimp only); (try k_fold)))
set_option maxHeartbeats 4000000 in
theorem c_rows {w : World} {news : Led} {l : Addr} {v0 : Value} {vs : List Value} {x0 : LX} {xs : List LX} {k : Nat} {kk : Bool} {n : Int} {t t' : Tok} {r : Str} (hm : (l, PySem.W.listOf (v0 :: vs).toArray k) ∈ news) (hV : LVs (v0 :: vs) (x0 :: xs)) (ht : AllOk (x0 :: xs)) :
    Ctr w 20 305 news [.ref l, .int n t, .str r t', .bool kk] (RB news true) := by
  (unfold Ctr; intro p loose mean mg mb dp un gd cn cs ca ccd cl outer A₀ base h₀ L mm st Q E B F X N T hk0 hd0 hu0 hret; refine wpAny_call ?_; k_dflt (refine' code_defZ [Str.ofString "values", Str.ofString "most", Str.ofString "way", Str.ofString "is_whole"] [] ?k1 ?k2 ?k3 ?k4 ?k5 ?kA ?kF ?kK ?k6 ?k7 ?k8 ?k9 ?kB ?_ ?c2 ?c3 ?c4 ?c5; (case kA => exact rfl); (case kF => exact rfl); (case kK => assumption); (case k1 => k_asm); (case k2 => k_asm); (case k3 => k_asm); (case k4 => k_asm); (case k5 => k_asm); (case k6 => k_is); (case k7 => k_is); (case k8 => first | exact Nat.le_of_ble_eq_true rfl | ktr_room); (case k9 => first | exact BindsTo.of_eq rfl | exact binds_K (by k_in) rfl (by k_is) rfl rfl rfl); (case c5 => decide); (case kB => decide +kernel); (case c2 => exact rfl); (case c3 => exact rfl); (case c4 => exact rfl); k_whole); intro g' L' h' FG' F' N' B' X' T'; (try k_lift B'); dsimp only [List.nil_append, List.cons_append, List.append_nil, List.zip, List.zipWith, List.reverse, List.reverseAux] at F'; (try dsimp only); (try k_fold))
  k_steps
  refine' iter_U (useJ (JR1 kk l r (x0 :: xs))) ?ju0 ?ju1 ?ju2 ?ju3 ?ju4 ?ju5 ?_ ?_
  case ju1 => rfl
  case ju3 => k_asm
  case ju4 => k_asm
  case ju0 => rfl
  case ju2 => k_mem
  case ju5 =>
    refine' JR1.intro ?a1 ?a2 ?a3 ?a4 ?a5
    case a1 => walk_at "MINE lk"
    case a2 => walk_at "MINE lk"
    case a3 => walk_at "MINE lk"
    case a4 => walk_at "MINE lk"
    case a5 => exact lv_num
  · intro i9 v9 m9 h9 tk9 need9 hv9 hj9 F9 hs9 hb9 N9
    obtain ⟨lk9, tv9, t59, rfl, hp9, htv⟩ := hj9
    have e9 := front hp9
    rw [e9] at F9
    rw [lk_store] at F9
    dsimp only [List.cons_append, List.nil_append] at F9
    clear e9 hp9
    obtain ⟨x9, hx8, hvx⟩ := hV.2 _ _ hv9
    k_steps
    all_goals
      refine' TurnEnd.next ?te1 ?te2 (fun _ h => h) ?te3
      case te1 => k_asm
      case te2 => k_asm
      case te3 =>
        refine' JR1.intro ?a1 ?a2 ?a3 ?a4 ?a5
        case a1 => walk_at "MINE lk"
        case a2 => walk_at "MINE lk"
        case a3 => walk_at "MINE lk"
        case a4 => walk_at "MINE lk"
        case a5 => rw [tot_take hx8]; first | (rw [own_a (by assumption)]; assumption) | (rw [own_b (by assumption)]; assumption) | (rw [own_c (by assumption)]; assumption) | (rw [own_d (by assumption) (by assumption) (by assumption)]; assumption)
  · intro m9 h9 tk9 hj9 F9 N9
    obtain ⟨lk9, tv9, t59, rfl, hp9, htv⟩ := hj9
    have e9 := front hp9
    rw [e9] at F9
    dsimp only [List.cons_append, List.nil_append] at F9
    clear e9 hp9
    have ht9 : (x0 :: xs).take (v0 :: vs).length = x0 :: xs := List.take_of_length_le (by rw [hV.1]; exact Nat.le_refl _)
    rw [ht9] at htv
    (try dsimp only)
    k_steps
    refine LCg.CompSrc.ledger (by rfl) (by k_asm) (by k_asm) (by k_mem) (size_ok hV ht) fun g9 => ?_
    refine comp_ind (n := (v0 :: vs).toArray.size) (fun i ys nw => TXs w nw ys ((x0 :: xs).take i) ∧ (∀ p ∈ news, p ∈ nw) ∧ ys.length = i) ?_ ?_ _ 0 [] _ (Nat.zero_add _) ⟨⟨rfl, fun i v hv => by simp at hv⟩, fun _ h => h, rfl⟩
    · intro i9 ys nw v9 I oI C oC D9 m₂ h9 tk9 E9 hi9 hI9 hP9 hC9 hx9 F9 N9 off9
      obtain ⟨hI1, hI2, hI3⟩ := hI9
      have hv9 : (v0 :: vs)[i9]? = some v9 := by simpa using hP9
      obtain ⟨x9, hx8, hvx⟩ := hV.2 _ _ hv9
      have htn := ht.1 _ (mem_of_at hx8)
      k_steps
      all_goals
        refine' LCg.CompEnd.intro ?ce1 ?ce2 _ (fun _ h => h) ?ce3 ?ce4 ?ce5
        case ce1 => k_asm
        case ce2 => with_reducible assumption
        case ce3 => exact off_gen off9 (by assumption)
        case ce4 => exact .inr ⟨_, (by assumption : ∀ p ∈ nw, p ∈ _) _ (hI2 _ hm), rfl, _, rfl⟩
        case ce5 => exact ⟨hI1.snoc (by assumption) hx8 (by assumption), sub_trans hI2 (by assumption), by simp [hI3]⟩
    · rintro ys nw ⟨hT9, hsub9, hlen9⟩
      intro D9 h9 tk9 F9 N9 o19
      have ht8 : (x0 :: xs).take (v0 :: vs).toArray.size = x0 :: xs := List.take_of_length_le (by rw [List.size_toArray, hV.1]; exact Nat.le_refl _)
      rw [ht8] at hT9
      rcases ys with _ | ⟨w0, ws⟩
      · exact absurd hT9.1 (by simp)
      rw [lk_store] at F9
      change News _ _ _ ((_, PySem.W.listOf (w0 :: ws).toArray (w0 :: ws).length) :: _) at N9
      have htot := tot_small (k := kk) ht
      k_steps
      all_goals first | exact hret _ _ (by k_asm) (news_drop (by assumption) (fun _ h => .tail _ ((by assumption : ∀ p ∈ news, p ∈ _) _ h))) | skip
      rename hasNan _ = false => hnn
      have hok := okn_of ht hnn
      have hok2 := okn_two hok
      have hz9 := size_okT hT9 ht
      refine' iter_U (useJ (JR2 l D9 x0 (x0 :: xs))) ?jv0 ?jv1 ?jv2 ?jv3 ?jv4 ?jv5 ?_ ?_
      case jv1 => rfl
      case jv3 => k_asm
      case jv4 => k_asm
      case jv0 => rfl
      case jv2 => walk_at "MINE lmem"
      case jv5 =>
        refine' JR2.intro ?b1 ?b2 ?b3 ?b4 ?b5 ?b6
        case b1 => walk_at "MINE lk"
        case b2 => walk_at "MINE lk"
        case b3 => walk_at "MINE lk"
        case b4 => walk_at "MINE lk"
        case b5 => exact hV.cons_inv.1
        case b6 => exact hV.cons_inv.1
      · intro i8 v8 m8 h8 tk8 need8 hv8 hj8 F8 hs8 hb8 N8
        obtain ⟨lk8, lo8, hi8, rfl, hp8, hlo8, hhi8⟩ := hj8
        have e8 := front hp8
        rw [e8] at F8
        rw [lk_store] at F8
        dsimp only [List.cons_append, List.nil_append] at F8
        clear e8 hp8
        obtain ⟨x8, hx8, hvx⟩ := hV.2 _ _ hv8
        have o1 := (lo_ok hok2 i8).2
        have o2 := (hi_ok hok2 i8).2
        have o3 := (hok _ (mem_of_at hx8)).2
        k_steps
        all_goals
          refine' TurnEnd.next ?tf1 ?tf2 ?tf4 ?tf3
          case tf1 => k_asm
          case tf2 => with_reducible assumption
          case tf4 => walk_at "MINE sub"
          case tf3 =>
            refine' JR2.intro ?c1 ?c2 ?c3 ?c4 ?c5 ?c6
            case c1 => walk_at "MINE lk"
            case c2 => walk_at "MINE lk"
            case c3 => walk_at "MINE lk"
            case c4 => walk_at "MINE lk"
            case c5 => first | (rw [lo_take hx8, lo_y (by assumption)]; assumption) | (rw [lo_take hx8, lo_n (by assumption)]; assumption)
            case c6 => first | (rw [hi_take hx8, hi_y (by assumption)]; assumption) | (rw [hi_take hx8, hi_n (by assumption)]; assumption)
      · intro m8 h8 tk8 hj8 F8 N8
        obtain ⟨lk8, lo8, hi8, rfl, hp8, hlo8, hhi8⟩ := hj8
        have e8 := front hp8
        rw [e8] at F8
        dsimp only [List.cons_append, List.nil_append] at F8
        clear e8 hp8
        rw [ht9, lo_all] at hlo8
        rw [ht9, hi_all] at hhi8
        have hl1 := (lo_ok hok xs.length).1
        have hl2 := (hi_ok hok xs.length).1
        rw [List.take_length] at hl1 hl2
        (try dsimp only)
        k_steps
        all_goals first | exact hret _ _ (by k_asm) (news_drop (by assumption) (fun _ h => .tail _ (.tail _ (.tail _ (.tail _ ((by assumption : ∀ p ∈ news, p ∈ _) _ h)))))) | exact hret _ _ (by k_asm) (news_drop (by assumption) (fun _ h => .tail _ (.tail _ (.tail _ (.tail _ ((by assumption : ∀ p ∈ _, p ∈ _) _ ((by assumption : ∀ p ∈ news, p ∈ _) _ h)))))))
end

end PartS14
/-! part S15 -/
section PartS15
section
variable {prog : Program} {w : World} {A : Around} {E : Value → Shared → Prop} {st : Shared} {Q : Value → Shared → Prop} {x y : LX} {v v' : Value} {t : Tok}
end
local macro_rules | `(tactic| walk_at "compareOp Eq str") => `(tactic| (k_here; (with_reducible show wpAny _ _ (compareOp CmpOp.Eq _ (Value.str (Str.ofString "nan") _)) _ _ _); (with_reducible refine lv_eq_nan (by assumption) ?_)))
theorem c_pairsP {w : World} {pre R : Led} {ps : Array Value} {v v' : Value} {x y : LX} {n : Int} {t t' : Tok} {r : Str} (Ps : List Addr) (hv : LV v x) (hv' : LV v' y) (hx : x.tiny) (hy : y.tiny) (hp : x.spec = true ∨ y.spec = true)
    (hPs : ∀ P ∈ Ps, (P, tabObj #[]) ∈ pre) (hpre : ∀ p ∈ pre, p.1 ≠ 288) (hR : ∀ p ∈ R, p.1 ≠ 288) (ht : TabOk (Str.ofString "_law_pairs_right.<locals>.<lambda>") 485 24 R ps) :
    CtrG w 16 293 ((288, tabObj ps) :: (pre ++ R)) [v, v', .int n t, .str r t'] (fun v news' => v = .bool true ∧ ∃ ps' R', news' = (288, tabObj ps') :: (pre ++ R') ∧ TabOk (Str.ofString "_law_pairs_right.<locals>.<lambda>") 485 24 R' ps' ∧ (∀ p ∈ R', p.1 ≠ 288) ∧ ∀ P ∈ Ps, ∀ p ∈ R', p.1 ≠ P) :=
  (c_pairs hv hv' hx hy hp (fun p hp => by rcases List.mem_append.mp hp with h | h; exact hpre _ h; exact hR _ h) (ht.mono fun _ h => List.mem_append_right _ h)).conv fun v news' h₀ L h' hok N => by
    obtain ⟨hv9, ps', rest', rfl, ht', hs, hne⟩ := hok
    obtain ⟨R', ⟨b1, b2, b3⟩, b4⟩ := pairs_keep hPs ht' hs hne N
    exact ⟨_, ⟨hv9, ps', R', rfl, b1, b2, b3⟩, b4⟩
theorem c_pairs8 {w : World} {a1 a2 a3 a4 a5 a6 a7 a8 : Addr × Obj} {R : Led} {ps : Array Value} {v v' : Value} {x y : LX} {n : Int} {t t' : Tok} {r : Str} (Ps : List Addr) (hv : LV v x) (hv' : LV v' y) (hx : x.tiny) (hy : y.tiny) (hp : x.spec = true ∨ y.spec = true)
    (ht : TabOk (Str.ofString "_law_pairs_right.<locals>.<lambda>") 485 24 R ps) (hR : ∀ p ∈ R, p.1 ≠ 288) (hpre : ∀ p ∈ [a1, a2, a3, a4, a5, a6, a7, a8], p.1 ≠ 288) (hPs : ∀ P ∈ Ps, (P, tabObj #[]) ∈ [a1, a2, a3, a4, a5, a6, a7, a8]) :
    CtrG w 16 293 ((288, tabObj ps) :: a1 :: a2 :: a3 :: a4 :: a5 :: a6 :: a7 :: a8 :: R) [v, v', .int n t, .str r t'] (fun v news' => v = .bool true ∧ ∃ ps' R', news' = (288, tabObj ps') :: ([a1, a2, a3, a4, a5, a6, a7, a8] ++ R') ∧ TabOk (Str.ofString "_law_pairs_right.<locals>.<lambda>") 485 24 R' ps' ∧ (∀ p ∈ R', p.1 ≠ 288) ∧ ∀ P ∈ Ps, ∀ p ∈ R', p.1 ≠ P) :=
  c_pairsP (pre := [a1, a2, a3, a4, a5, a6, a7, a8]) Ps hv hv' hx hy hp hPs hpre hR ht
theorem c_made_12 {w : World} {p1 p2 p3 p4 p5 p6 p7 p8 p9 q1 q2 q3 : Addr × Obj} {rest : Led} {v : Value} {x : LX} (hv : LV v x) (hs : x.small) : Ctr w 6 223 (p1 :: p2 :: p3 :: p4 :: p5 :: p6 :: p7 :: p8 :: p9 :: q1 :: q2 :: q3 :: rest) [v] (RXg w [p1, p2, p3, p4, p5, p6, p7, p8, p9, q1, q2, q3] rest x) := made_r12 (c_made0 hv hs)
theorem c_single_L {w : World} {w1 p1 b1 b2 b3 b4 b5 b6 b8 : Addr × Obj} {R : Led} {v : Value} {x : LX} {n k : Int} {t t' t'' : Tok} {r : Str} (hv : LV v x) (hp : x.spec = true) (hr : ∀ p ∈ [w1, p1, b1, b2, b3, b4, b5, b6, b8], p.1 ≠ 295) (hR : ∀ p ∈ R, p.1 ≠ 295) :
    CtrG w 12 300 (w1 :: p1 :: b1 :: b2 :: b3 :: b4 :: b5 :: b6 :: (295, tabObj #[]) :: b8 :: R) [v, .int n t, .str r t', .int k t''] (fun v news => v = .bool true ∧ ∃ ps, news = (295, tabObj ps) :: w1 :: p1 :: b1 :: b2 :: b3 :: b4 :: b5 :: b6 :: b8 :: R) :=
  CtrG.pre (c_single (rest := w1 :: p1 :: b1 :: b2 :: b3 :: b4 :: b5 :: b6 :: b8 :: R) hv hp fun p h => by
    rcases List.mem_append.mp (show p ∈ [w1, p1, b1, b2, b3, b4, b5, b6, b8] ++ R from h) with h | h
    · exact hr p h
    · exact hR p h) fun p h => by
    simp only [List.mem_cons] at h ⊢
    rcases h with h | h | h | h | h | h | h | h | h | h | h <;> simp [h]
theorem c_pairs_M {w : World} {t1 w1 b1 b2 b3 b4 b5 b6 : Addr × Obj} {R : Led} {ps : Array Value} {v v' : Value} {x y : LX} {n : Int} {t t' : Tok} {r : Str} (hv : LV v x) (hv' : LV v' y) (hx : x.tiny) (hy : y.tiny) (hp : x.spec = true ∨ y.spec = true)
    (ht : TabOk (Str.ofString "_law_pairs_right.<locals>.<lambda>") 485 24 R ps) (hR : ∀ p ∈ R, p.1 ≠ 288) (hpre : ∀ p ∈ [t1, w1, b1, b2, b3, b4, b5, b6, (307, tabObj #[])], p.1 ≠ 288) :
    CtrG w 16 293 (t1 :: w1 :: (288, tabObj ps) :: b1 :: b2 :: b3 :: b4 :: b5 :: b6 :: (307, tabObj #[]) :: R) [v, v', .int n t, .str r t'] (fun v news' => v = .bool true ∧ ∃ ps' R', news' = (288, tabObj ps') :: ([t1, w1, b1, b2, b3, b4, b5, b6, (307, tabObj #[])] ++ R') ∧ TabOk (Str.ofString "_law_pairs_right.<locals>.<lambda>") 485 24 R' ps' ∧ (∀ p ∈ R', p.1 ≠ 288) ∧ ∀ P ∈ [307], ∀ p ∈ R', p.1 ≠ P) :=
  CtrG.pre (c_pairsP (pre := [t1, w1, b1, b2, b3, b4, b5, b6, (307, tabObj #[])]) [307] hv hv' hx hy hp (fun P hP => by cases List.mem_singleton.mp hP; simp) hpre hR ht) fun p h => by
    rcases List.mem_cons.mp h with rfl | h
    · simp
    · rcases List.mem_append.mp h with h | h
      · simp only [List.mem_cons, List.not_mem_nil, or_false] at h ⊢
        rcases h with h | h | h | h | h | h | h | h | h <;> simp [h]
      · simp [h]
section
local macro_rules | `(tactic| walk_at "call ref") => `(tactic| (k_here; (with_reducible show wpAny _ _ (call (Value.ref 209) _) _ _ _); k_dflt (refine' Ctr.use (c_number ?a0 ?a1 ?a2 ?a3 ?a4) ?k1 ?k2 ?k3 ?k4 ?k5 ?kK ?kd ?ku ?_; (case k1 => k_asm); (case k2 => k_asm); (case k3 => k_asm); (case k4 => k_asm); (case k5 => k_asm); (case a0 => k_mem); (case a1 => assumption); (case a2 => assumption); (case a3 => omega); (case a4 => omega); (case kK => first | exact rfl | assumption); (case kd => first | exact Nat.le_of_ble_eq_true rfl | ktr_room); (case ku => first | exact Nat.le_of_ble_eq_true rfl | ktr_units)); intro t9 h9 tk9 F9 N9; (try dsimp only); (try k_fold)))
local macro_rules | `(tactic| walk_at "call ref") => `(tactic| (k_here; (with_reducible show wpAny _ _ (call (Value.ref 216) _) _ _ _); k_dflt (refine' Ctr.use (c_drawn ?a0 ?a1 ?a2 ?a3 ?a4) ?k1 ?k2 ?k3 ?k4 ?k5 ?kK ?kd ?ku ?_; (case k1 => k_asm); (case k2 => k_asm); (case k3 => k_asm); (case k4 => k_asm); (case k5 => k_asm); (case a0 => k_mem); (case a1 => assumption); (case a2 => assumption); (case a3 => omega); (case a4 => omega); (case kK => first | exact rfl | assumption); (case kd => first | exact Nat.le_of_ble_eq_true rfl | ktr_room); (case ku => first | exact Nat.le_of_ble_eq_true rfl | ktr_units)); intro v9 h9 tk9 hv9 F9 N9; (try dsimp only); (try k_fold)))
local macro_rules | `(tactic| walk_at "exec Assign cons ListComp") => `(tactic| (k_here; k_dflt (refine LCg.Assign_ListComp_U (F₀ := by k_asm) (by rfl) (by with_unfolding_all rfl) (by rfl) (by decide) (by rfl) (by decide) (by rfl) (by rfl) (by rfl) ?_)))
local macro_rules | `(tactic| walk_at "MINE tiny") => `(tactic| first | exact drawL_tiny _ | exact spec_tiny (by assumption))
local macro_rules | `(tactic| walk_at "MINE spor") => `(tactic| first | exact .inl (by assumption) | exact .inr (by assumption) | exact .inl (nan_spec (by assumption)) | exact .inr (nan_spec (by assumption)) | exact .inl (wide_spec (by assumption)) | exact .inr (wide_spec (by assumption)))
local macro_rules | `(tactic| walk_at "MINE gnews") => `(tactic| with_reducible assumption)
local macro_rules | `(tactic| walk_at "MINE ne8") => `(tactic| (simp only [List.forall_mem_cons]; refine ⟨?_, ?_, ?_, ?_, ?_, ?_, ?_, ?_, fun _ h => nomatch h⟩ <;> (try dsimp only) <;> first | exact Ne.symm (by assumption) | omega | k_ne))
local macro_rules | `(tactic| walk_at "MINE ps2") => `(tactic| first | (simp; done) | (intro P hP; simp only [List.mem_cons, List.not_mem_nil, or_false] at hP; rcases hP with rfl | rfl <;> simp))
local macro_rules | `(tactic| walk_at "call ref") => `(tactic| (k_here; (first | (with_reducible show wpAny _ _ (call (Value.ref 293) _) _ _ _) | (with_reducible show wpAny _ _ (call (Value.ref 300) _) _ _ _) | (with_reducible show wpAny _ _ (call (Value.ref 305) _) _ _ _)); refine stopAt ?_))
local macro_rules | `(tactic| walk_at "MINE ne9") => `(tactic| (simp only [List.forall_mem_cons]; refine ⟨?_, ?_, ?_, ?_, ?_, ?_, ?_, ?_, ?_, fun _ h => nomatch h⟩ <;> (try dsimp only) <;> first | exact Ne.symm (by assumption) | omega | k_ne))
local macro_rules | `(tactic| walk_at "call ref") => `(tactic| (k_here; (with_reducible show wpAny _ _ (call (Value.ref 293) _) _ _ _); k_dflt (refine' CtrG.use (c_pairs_M ?ga0 ?ga1 ?ga2 ?ga3 ?ga4 ?ga5 ?ga6 ?ga7) ?k1 ?k2 ?k3 ?k4 ?k5 ?k6 ?k7 ?k8 ?kK ?kd ?ku ?_; (case k2 => k_asm); (case k3 => k_asm); (case k5 => k_asm); (case k1 => k_asm); (case k6 => assumption); (case k7 => assumption); (case k8 => first | assumption | exact fun _ h => nomatch h); (case k4 => walk_at "MINE gnews"); (case ga0 => walk_at "MINE lv"); (case ga1 => walk_at "MINE lv"); (case ga2 => walk_at "MINE tiny"); (case ga3 => walk_at "MINE tiny"); (case ga4 => walk_at "MINE spor"); (case ga5 => assumption); (case ga6 => assumption); (case ga7 => walk_at "MINE ne9"); (case kK => first | exact rfl | assumption); (case kd => first | exact Nat.le_of_ble_eq_true rfl | ktr_room); (case ku => first | exact Nat.le_of_ble_eq_true rfl | ktr_units)); intro v9 n9 g9 h9 tk9 ok9 F9 N9 B9 X9 T9 D9; (obtain ⟨hv9, ps9, R9, hn9, ht9, hr9, hp9⟩ := ok9); subst hv9; subst hn9; (have hq9 := hp9 307 (List.Mem.head _)); (try dsimp only [List.cons_append, List.nil_append] at N9); (try dsimp only)))
local macro_rules | `(tactic| walk_at "call ref") => `(tactic| (k_here; (with_reducible show wpAny _ _ (call (Value.ref 300) _) _ _ _); k_dflt (refine' CtrG.use (c_single_L ?ga0 ?ga1 ?ga2 ?ga3) ?k1 ?k2 ?k3 ?k4 ?k5 ?k6 ?k7 ?k8 ?kK ?kd ?ku ?_; (case k2 => k_asm); (case k3 => k_asm); (case k5 => k_asm); (case k1 => k_asm); (case k6 => assumption); (case k7 => assumption); (case k8 => first | assumption | exact fun _ h => nomatch h); (case k4 => walk_at "MINE gnews"); (case ga0 => walk_at "MINE lv"); (case ga1 => assumption); (case ga2 => walk_at "MINE ne9"); (case ga3 => assumption); (case kK => first | exact rfl | assumption); (case kd => first | exact Nat.le_of_ble_eq_true rfl | ktr_room); (case ku => first | exact Nat.le_of_ble_eq_true rfl | ktr_units)); intro v9 n9 g9 h9 tk9 ok9 F9 N9 B9 X9 T9 D9; (obtain ⟨hv9, ps9, hn9⟩ := ok9); subst hv9; subst hn9; (try dsimp only [List.cons_append, List.nil_append] at N9); (try dsimp only)))
local macro_rules | `(tactic| walk_at "call ref") => `(tactic| (k_here; (with_reducible show wpAny _ _ (call (Value.ref 293) _) _ _ _); k_dflt (refine' CtrG.use (c_pairs8 [295, 307] ?ga0 ?ga1 ?ga2 ?ga3 ?ga4 ?ga5 ?ga6 ?ga7 ?ga8) ?k1 ?k2 ?k3 ?k4 ?k5 ?k6 ?k7 ?k8 ?kK ?kd ?ku ?_; (case k2 => k_asm); (case k3 => k_asm); (case k5 => k_asm); (case k1 => k_asm); (case k6 => assumption); (case k7 => assumption); (case k8 => first | assumption | exact fun _ h => nomatch h); (case k4 => walk_at "MINE gnews"); (case ga0 => walk_at "MINE lv"); (case ga1 => walk_at "MINE lv"); (case ga2 => walk_at "MINE tiny"); (case ga3 => walk_at "MINE tiny"); (case ga4 => walk_at "MINE spor"); (case ga5 => assumption); (case ga6 => assumption); (case ga7 => walk_at "MINE ne8"); (case ga8 => walk_at "MINE ps2"); (case kK => first | exact rfl | assumption); (case kd => first | exact Nat.le_of_ble_eq_true rfl | ktr_room); (case ku => first | exact Nat.le_of_ble_eq_true rfl | ktr_units)); intro v9 n9 g9 h9 tk9 ok9 F9 N9 B9 X9 T9 D9; (obtain ⟨hv9, ps9, R9, hn9, ht9, hr9, hp9⟩ := ok9); subst hv9; subst hn9; (try dsimp only [List.cons_append, List.nil_append] at N9); (try dsimp only)))
local macro_rules | `(tactic| walk_at "call ref") => `(tactic| (k_here; (with_reducible show wpAny _ _ (call (Value.ref 305) _) _ _ _); k_dflt (refine' Ctr.use (c_rows ?a0 ?a1 ?a2) ?k1 ?k2 ?k3 ?k4 ?k5 ?kK ?kd ?ku ?_; (case k1 => k_asm); (case k2 => k_asm); (case k3 => k_asm); (case k4 => k_asm); (case k5 => k_asm); (case a0 => k_mem); (case a1 => assumption); (case a2 => assumption); (case kK => first | exact rfl | assumption); (case kd => first | exact Nat.le_of_ble_eq_true rfl | ktr_room); (case ku => first | exact Nat.le_of_ble_eq_true rfl | ktr_units)); intro h9 tk9 F9 N9; (try dsimp only); (try k_fold)))
local macro_rules | `(tactic| walk_at "call ref") => `(tactic| (k_here; (with_reducible show wpAny _ _ (call (Value.ref 223) _) _ _ _); k_dflt (refine' Ctr.use (c_made_12 ?a0 ?a1) ?k1 ?k2 ?k3 ?k4 ?k5 ?kK ?kd ?ku ?_; (case k1 => k_asm); (case k2 => k_asm); (case k3 => k_asm); (case k4 => k_asm); (case k5 => k_asm); (case a0 => walk_at "MINE lv"); (case a1 => exact LX.tiny.small (drawL_tiny _)); (case kK => first | exact rfl | assumption); (case kd => first | exact Nat.le_of_ble_eq_true rfl | ktr_room); (case ku => first | exact Nat.le_of_ble_eq_true rfl | ktr_units)); intro a9 r9 h9 tk9 hs9 hn9 T9 F9 N9; (try dsimp only [List.cons_append, List.nil_append] at N9); (try have T8 := TupA.sub (by assumption) hs9); (try have X8 := TXs.mono (by assumption) hs9); (try have hc9 := sub_trans (by assumption) hs9); (try dsimp only); (try k_fold)))
local macro_rules | `(tactic| walk_at "call ref") => `(tactic| (k_here; kn_here; refine wpAny_call ?_; k_dflt (refine' kla_code ?k1 ?k2 ?k3 ?k4 ?k5 ?kA ?kF ?kK ?k6 ?k7 ?k8 ?k9 ?kB ?_ ?c2 ?c3 ?c4 ?c5; (case kA => exact rfl); (case kF => exact rfl); (case kK => exact rfl); (case k1 => k_asm); (case k2 => k_asm); (case k3 => k_asm); (case k4 => k_asm); (case k5 => k_asm); (case k6 => k_mem); (case k7 => exact codeRec_news (by k_asm) (by k_mem) (by assumption) (by assumption)); (case k8 => first | exact Nat.le_of_ble_eq_true rfl | ktr_room); (case k9 => exact rfl); (case c5 => decide); (case kB => exact locs rfl); (case c2 => exact rfl); (case c3 => exact rfl); (case c4 => exact rfl); k_whole); intro g' L' h' FG' F' N' B' X' T'; (try dsimp only); (try k_lift B'); (try k_fold)))
local macro_rules | `(tactic| walk_at "call ref") => `(tactic| (k_here; (with_reducible show wpAny _ _ (call (Value.ref 286) _) _ _ _); refine wpAny_call ?_; k_dflt (refine' code_defXS [Str.ofString "call"] [] ?k1 ?k2 ?k3 ?k4 ?k5 ?XB ?TB ?D ?kA ?kF ?kK ?k6 ?k7 ?k8 ?k9 ?kB ?_ ?c2 ?c3 ?c4 ?c5; (case k1 => k_asm); (case k2 => k_asm); (case k3 => k_asm); (case k4 => k_asm); (case k5 => k_asm); (case XB => assumption); (case TB => assumption); (case D => assumption); (case kA => exact rfl); (case kF => exact rfl); (case kK => first | exact rfl | assumption);  (case k6 => k_is); (case k7 => k_is); (case k8 => first | exact Nat.le_of_ble_eq_true rfl | ktr_room); (case k9 => first | exact BindsTo.of_eq rfl | exact binds_K (by k_in) rfl (by k_is) rfl rfl rfl); (case c5 => decide); (case kB => decide +kernel); (case c2 => exact rfl); (case c3 => exact rfl); (case c4 => exact rfl); k_whole); intro g' L' h' FG' F' N' B' X' T' D'; (try k_lift B'); dsimp only [List.nil_append, List.cons_append, List.append_nil, List.zip, List.zipWith, List.reverse, List.reverseAux] at F'; (try dsimp only); (try k_fold)))
local macro_rules | `(tactic| walk_at "noteFrame ref") => `(tactic| (k_here; k_dflt (first | (refine' caught_SN0 (X := "ZeroDivisionError") (T' := "ZeroDivisionError") ?R ?F ?K ?U ?XB ?TB ?D ?T0 ?ex PyProof.Rows.Boot.«ZeroDivisionError» ?hn PySem.F.isExc_ZeroDivisionError PySem.F.notTuple_ZeroDivisionError ?hs ?_ ?hk ?hx ?hd ?hE; (case R => assumption); (case F => assumption); (case K => assumption); (case U => assumption); (case XB => assumption); (case TB => assumption); (case D => assumption); (case T0 => first | assumption | exact KtsTurn.refl); (case hs => rw [isSubtype_type]; kernel_rfl!); (case ex => k_is); (case hn => decide); (case hk => rfl); (case hx => rfl); (case hd => decide); (case hE => passes_own); k_whole) | (refine' caught_1 (X := "OverflowError") (T1 := "ZeroDivisionError") (T' := "OverflowError") ?R ?F ?K ?U ?XB ?TB ?D ?T0 ?ex1 PyProof.Rows.Boot.«ZeroDivisionError» ?hn1 PySem.F.isExc_ZeroDivisionError PySem.F.notTuple_ZeroDivisionError ?hs1 ?ex PyProof.Rows.Boot.«OverflowError» ?hn PySem.F.isExc_OverflowError PySem.F.notTuple_OverflowError ?hs ?_ ?hk ?hx1 ?hd1 ?hx ?hd ?hE; (case R => assumption); (case F => assumption); (case K => assumption); (case U => assumption); (case XB => assumption); (case TB => assumption); (case D => assumption); (case T0 => first | assumption | exact KtsTurn.refl); (case hs1 => rw [isSubtype_type]; kernel_rfl!); (case ex1 => k_is); (case hn1 => decide); (case hs => rw [isSubtype_type]; kernel_rfl!); (case ex => k_is); (case hn => decide); (case hk => rfl); (case hx1 => rfl); (case hd1 => decide); (case hx => rfl); (case hd => decide); (case hE => passes_own); k_whole) | (refine' caught_2 (X := "ValueError") (T1 := "ZeroDivisionError") (T2 := "OverflowError") (T' := "ValueError") ?R ?F ?K ?U ?XB ?TB ?D ?T0 ?ex1 PyProof.Rows.Boot.«ZeroDivisionError» ?hn1 PySem.F.isExc_ZeroDivisionError PySem.F.notTuple_ZeroDivisionError ?hs1 ?ex2 PyProof.Rows.Boot.«OverflowError» ?hn2 PySem.F.isExc_OverflowError PySem.F.notTuple_OverflowError ?hs2 ?ex PyProof.Rows.Boot.«ValueError» ?hn PySem.F.isExc_ValueError PySem.F.notTuple_ValueError ?hs ?_ ?hk ?hx1 ?hd1 ?hx2 ?hd2 ?hx ?hd ?hE; (case R => assumption); (case F => assumption); (case K => assumption); (case U => assumption); (case XB => assumption); (case TB => assumption); (case D => assumption); (case T0 => first | assumption | exact KtsTurn.refl); (case hs1 => rw [isSubtype_type]; kernel_rfl!); (case ex1 => k_is); (case hn1 => decide); (case hs2 => rw [isSubtype_type]; kernel_rfl!); (case ex2 => k_is); (case hn2 => decide); (case hs => rw [isSubtype_type]; kernel_rfl!); (case ex => k_is); (case hn => decide); (case hk => rfl); (case hx1 => rfl); (case hd1 => decide); (case hx2 => rfl); (case hd2 => decide); (case hx => rfl); (case hd => decide); (case hE => passes_own); k_whole)); intro h' g' T' F' N' B' X' P' D'; (try k_lift B'); (try k_sweep)))
local macro_rules | `(tactic| walk_at "leaving ref") => `(tactic| (k_here; (with_reducible show wpAny _ _ (leaving (envX _ _ _ _ _ _) _) _ _ _); (refine' leave_onSNX ?k1 ?k2 ?k3 ?k4 ?_; (case k3 => assumption); (case k1 => assumption); (case k4 => assumption); (case k2 => assumption); k_whole; intro h' S' R' U'; (try dsimp only at S' R' U' ⊢))))
local macro_rules | `(tactic| walk_at "LeaveS") => `(tactic| (k_dflt (refine' leaveS_r ?F ?N ?T ?_; (case F => k_asm); (case N => k_asm); (case T => first | assumption | exact KtsTurn.refl | exact KtsTurn.trans (by assumption) (by assumption) | exact KtsTurn.trans (by assumption) (KtsTurn.trans (by assumption) (by assumption))); k_whole); intro kg kT kF kN kB kX₀ kP kD; (have kX := kFor kF kX₀); (try k_lift kB); kts_tail))
local macro_rules | `(tactic| walk_at "call ref") => `(tactic| (k_here; (with_reducible show wpAny _ _ (call (Value.ref 202) _) _ _ _); refine wpAny_call ?_; k_dflt (refine' code_defZ [Str.ofString "s", Str.ofString "t", Str.ofString "prec", Str.ofString "rnd"] [] ?k1 ?k2 ?k3 ?k4 ?k5 ?kA ?kF ?kK ?k6 ?k7 ?k8 ?k9 ?kB ?_ ?c2 ?c3 ?c4 ?c5; (case kA => exact rfl); (case kF => exact rfl); (case kK => first | exact rfl | assumption); (case k1 => k_asm); (case k2 => k_asm); (case k3 => k_asm); (case k4 => k_asm); (case k5 => k_asm); (case k6 => k_is); (case k7 => k_is); (case k8 => first | exact Nat.le_of_ble_eq_true rfl | ktr_room); (case k9 => first | exact BindsTo.of_eq rfl | exact binds_K (by k_in) rfl (by k_is) rfl rfl rfl); (case c5 => decide); (case kB => decide +kernel); (case c2 => exact rfl); (case c3 => exact rfl); (case c4 => exact rfl); k_whole); intro g' L' h' FG' F' N' B' X' T'; (try k_lift B'); dsimp only [List.nil_append, List.cons_append, List.append_nil, List.zip, List.zipWith, List.reverse, List.reverseAux] at F'; (try dsimp only); (try k_fold)))
local macro_rules | `(tactic| walk_at "call ref") => `(tactic| (k_here; (with_reducible show wpAny _ _ (call (Value.ref 237) _) _ _ _); k_dflt (refine' Ctr.use (c_wide ?a0) ?k1 ?k2 ?k3 ?k4 ?k5 ?kK ?kd ?ku ?_; (case k1 => k_asm); (case k2 => k_asm); (case k3 => k_asm); (case k4 => k_asm); (case k5 => k_asm); (case a0 => walk_at "MINE lv"); (case kK => first | exact rfl | assumption); (case kd => first | exact Nat.le_of_ble_eq_true rfl | ktr_room); (case ku => first | exact Nat.le_of_ble_eq_true rfl | ktr_units)); intro h9 tk9 F9 N9; (try dsimp only); (try k_fold)))
local macro_rules | `(tactic| walk_at "subscriptTail") => `(tactic| (k_here; (with_reducible show wpAny _ _ (subscriptTail _ _ (Value.ref _) (Value.int (Int.fmod _ _) _)) _ _ _); k_dflt (refine' item3w ?k1 ?k2 ?k3 ?_ ?k5; (case k1 => exact News.isList (by k_asm) (by k_mem)); (case k2 => exact (fmod_bound _ (by decide)).1); (case k3 => exact (fmod_bound _ (by decide)).2); (case k5 => with_unfolding_all rfl); k_whole); intro v9 z9 hz9 hs9; (try dsimp only)))
local macro_rules | `(tactic| walk_at "CompSrc") => `(tactic| refine stopAt ?_)
set_option maxHeartbeats 8000000 in
theorem fin : PySem.Challenge.rw_bw0031_01.Holds := hd (by
  k_go0
  rename_i w9 s0 s1 mg mb G9 Y9 fa o9 pm9 doc9 ho9 hg9 X9 V9 T9 B9 TE9 TW9 hcd9 ns hs0 hlay hL1 hr1 hl2 as8 as7 ls vs as4 hLs ra w1 r0 hI hr0 hc63 hcT hD h1 tk1 o4 o3 o2 o1 d4 d3 d2 d1 X0 X T B F cH1 cH2 N l0
  refine law_clean [(Str.ofString "way", _), (Str.ofString "one", _), (Str.ofString "most", _), (Str.ofString "script", _)] rfl ?_
  have e4' := d4.trans (congrArg Data.cell (show _ = none from by kernel_rfl))
  have e3' := d3.trans (congrArg Data.cell (show _ = none from by kernel_rfl))
  have e2' := d2.trans (congrArg Data.cell (show _ = none from by kernel_rfl))
  have e1' := d1.trans (congrArg Data.cell (show _ = some (Value.ref ls) from by kernel_rfl))
  have F' := Fr.cast F (show _ = (fun y => List.lookup y []) from by kernel_rfl)
  clear d4 d3 d2 d1 F X0 hD hr0 w1 r0 ra hLs hs0 hlay hL1 hr1 hl2
  have hn63 : ns.length ≤ 63 := by omega
  clear hc63 hcT
  clear G9 Y9 ho9 X9 V9 T9 B9 TE9 TW9 hcd9 hT8 hT9
  have cJ1 : CodeHd _ 299 295 := cH1
  have cJ2 : CodeHd _ 292 288 := cH2
  have cJ3 : CodeHd _ 309 307 := codeHd
  clear cH1 cH2 codeHd
  generalize ghostOf s1.heap [(299, 295), (292, 288), (309, 307)] = GG at *
  generalize s1.heap.objs.size = LL at *
  have hab := F'.above
  have hn24 : (ns.take 24).length ≤ 63 := Nat.le_trans (List.length_take_le _ _) (by omega)
  dsimp only
  k_steps
  refine unstop ?_
  have hmd := fmod_bound (numAt (ns.take 24) 5) (k := 5) (by decide)
  refine LCg.CompSrc.range (by rfl) (by k_asm) (by k_asm) (by assumption) (small_one (by decide) (by decide) (by omega) (by omega)) (rangeSize_nat _ _) (by rw [sizeLine_eq]; omega) fun g9 => ?_
  generalize hnn : (7 + (numAt (ns.take 24) 5).fmod 5 - 6).toNat = nn
  have hn1 : 0 < nn ∧ nn ≤ 5 := by omega
  refine comp_same (fun i ys => LVs ys ((List.range i).map fun (j : Nat) => drawL (numAt (ns.take 24) (6 + (j : Int))))) ?_ ?_ ⟨rfl, fun i v hv => by simp at hv⟩
  · intro i9 ys v9 I oI C oC D9 m₂ h9 tk9 E9 hi9 hI9 hP9 hC9 hx9 F9 N9 off9
    obtain ⟨t9, rfl⟩ := hP9
    k_steps
    all_goals
      refine' LCg.CompEnd.intro ?ce1 ?ce2 _ (fun _ h => h) ?ce3 ?ce4 ?ce5
      case ce1 => k_asm
      case ce2 => with_reducible assumption
      case ce3 => exact off9
      case ce4 => trivial
      case ce5 => exact ⟨hI9.snoc (by assumption), rfl⟩
  · intro ys hV
    intro D9 h9 tk9 F9 N9 o19
    simp only [LCg.Off1, and_true] at o19
    obtain ⟨-, -, q1, q2, q3, q4, q5, q295, q288, q307⟩ := o19
    obtain ⟨x0, xs, hsp⟩ := list_split (f := fun (j : Nat) => drawL (numAt (ns.take 24) (6 + (j : Int)))) hn1.1
    have hok := vals_ok (f := fun (j : Nat) => drawL (numAt (ns.take 24) (6 + (j : Int)))) (fun (j : Nat) => drawL_tiny _) hn1.2
    rw [hsp] at hV hok
    rcases ys with _ | ⟨v0, vs9⟩
    · exact absurd hV.1 (by simp)
    rw [lk_store] at F9
    change News _ _ _ ((_, PySem.W.listOf (v0 :: vs9).toArray (v0 :: vs9).length) :: _) at N9
    dsimp only
    refine' cut_law (Str.ofString "_law_pairs_right.<locals>.<lambda>") N9 F9 ?cl1 ?cl2 ?cl3 ?_ ?_
    case cl1 => k_asm
    case cl2 => k_asm
    case cl3 => k_asm
    · intro N8
      clear N9
      have hT8 : TabOk (Str.ofString "_law_pairs_right.<locals>.<lambda>") 485 24 [] #[] := .nil
      have hR8 : ∀ p ∈ ([] : Led), p.1 ≠ 288 := fun _ h => nomatch h
      k_steps
      all_goals
        first | refine' GoodS.intro ?gs1 ?gs2 ?gs3 ?gs4 ?gs5 ?gs7 ?gs8 ?gs6 | refine' ⟨rfl, GoodS.intro ?gs1 ?gs2 ?gs3 ?gs4 ?gs5 ?gs7 ?gs8 ?gs6⟩
        case gs2 => assumption
        case gs1 => k_asm
        case gs3 => k_asm
        case gs4 => k_asm
        case gs5 => k_asm
        case gs6 => first | assumption | exact fun _ _ _ h => nomatch h
        case gs7 => assumption
        case gs8 => assumption
    · rintro s' ⟨h08, h8, tk8, ps8, R8, rfl, F8, N8, B8, X8, T8, hT8, hR8, hP8⟩
      dsimp only [List.cons_append, List.nil_append] at N8
      have D8 := kts_nil (h := h08)
      have hR295 := hP8 295 (.head _)
      have hR307 := hP8 307 (.tail _ (.head _))
      clear N9
      k_steps
      all_goals
        refine' goodW_bool (fr_base ?y1 ?y2 hab) ?y6 ?y3 ?y4 ?y5
        case y1 => k_asm
        case y2 => k_asm
        case y3 => exact fun _ => rfl
        case y4 => exact law_post ns
        case y5 => rfl
        case y6 => exact hg9)
end

end PartS15
end Mine
theorem PySem.Challenge.cw_bw0031_01_holds : PySem.Challenge.rw_bw0031_01.Holds :=
  Mine.fin

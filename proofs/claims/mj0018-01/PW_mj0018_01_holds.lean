import PyProof.Rows.All
import Wide.All
import OpenK.AllK
import Wide.FinOn
import PySem.Challenge.RW_mj0018_01
open PySem PySem.W PyProof.Rows
set_option Elab.async false
set_option maxRecDepth 100000
set_option maxHeartbeats 8000000
namespace Mine
open_top hd for PySem.Challenge.rw_mj0018_01
end Mine
section
open PySem PySem.W PyProof.Rows PySem.Calls
namespace Mine
abbrev Led := List (Addr × Obj)
abbrev pr : Program := PySem.Challenge.rw_mj0018_01.row.prog
/-- what stands outside the ledger own stays as it is -/
def Keeps (own : Led) (h h' : Heap) : Prop := ∀ b o, h.get? b = some o → (∀ p ∈ own, p.1 ≠ b) → h'.get? b = some o
/-- the call of f upon vals, over the ledger own, ends with a value and a ledger that Post tells of; all else is kept -/
def Tell (w : World) (mean : ExcName → Option Value) (mg mb : Str → Option Value) (f : Addr) (dk uk : Nat) (vals : List Value) (own : Led) (Pre : Heap → Prop) (Post : Value → Led → Prop) : Prop :=
  ∀ (dp un : Nat) (gd : Option (List Code)) (cn : Str) (cs : Scope) (a : Addr) (ccd : Value) (cl : List (Str × Addr)) (outer : List Env) (A₀ : Around) (base h₀ : Heap) (L : Addr) (m : Str → Option Value) (s : Shared)
    (Q E : Value → Shared → Prop),
    Below A₀ base outer h₀ → Fr h₀ L s.heap m → (hd.heap_39 w.params).In h₀ → News h₀ L s.heap own → Top hd.view_39 (looseW hd.view_39 []) mean mg mb h₀ → cs.kind = .function → dp + dk < recursionLimit → un + uk < cLine → Pre s.heap →
    (∀ r own' h' tk', Fr h₀ L h' m → News h₀ L h' own' → Keeps own s.heap h' → Post r own' → Q r { s with heap := h', toks := tk' }) →
    wpAny (model PySem.Challenge.rw_mj0018_01.row.prog w) (ktrTop dp un gd cn cs L a ccd cl outer) (call (.ref f) vals) Q E s

/-- a body's end -/
def EndT (g : Heap) (L' : Addr) (s : Shared) (Post : Value → Led → Prop) (v : Value) (s' : Shared) : Prop :=
  ∃ m' own' h' tk', s' = { s with heap := h', toks := tk' } ∧ Fr g L' h' m' ∧ News g L' h' own' ∧ Post v own'
theorem EndT.intro {g : Heap} {L' : Addr} {s : Shared} {Post : Value → Led → Prop} {v : Value} {m' : Str → Option Value} {own' : Led} {h' : Heap} {tk' : Nat} (F : Fr g L' h' m') (N : News g L' h' own') (hp : Post v own') :
    EndT g L' s Post v { s with heap := h', toks := tk' } := ⟨m', own', h', tk', rfl, F, N, hp⟩

/-- a def of the text is entered: own is what it may change, all else lies in the ground -/
theorem tell_enter {w : World} {mean : ExcName → Option Value} {mg mb : Str → Option Value} {f : Addr} {dk uk : Nat} {vals : List Value} {own : Led} {Pre : Heap → Prop} {Post : Value → Led → Prop}
    {name qual : Str} {params : Arguments} {body : List Stmt} {scope : Scope} {dV kV doc pm cdv ct oc : Value} {an od : Option Addr} {osl : Array (Option Value)} {binds : List (Str × Value)}
    (ho : (hd.heap_39 w.params).lookup f = some ⟨oc, od, .func (fnOf name qual params body scope dV kV doc pm an cdv ct), osl⟩) (hcd : codeIn (hd.heap_39 w.params) cdv qual = true)
    (hbind : ∀ s, BindsTo s (fnOf name qual params body scope dV kV doc pm an cdv ct) ⟨vals, []⟩ binds) (hloc : ∀ y ∈ binds, scope.names.lookup y.1 = some .local)
    (hco : scope.isCoroutine = false) (hgen : scope.isGenerator = false) (hk : scope.kind = .function) (hcell : ∀ x ∈ scope.names, x.2 ≠ .cell)
    (hpre : ∀ h h', (∀ b o, h.get? b = some o → (∀ p ∈ own, p.1 ≠ b) → h'.get? b = some o) → Pre h → Pre h')
    (h : ∀ (dp un : Nat) (gd : Option (List Code)) (outer : List Env) (A₀ : Around) (base g : Heap) (L : Addr) (s : Shared), 0 < dk → dp + (dk - 1) < recursionLimit → un + uk < cLine + 3 →
      Fr g L s.heap (fun y => binds.reverse.lookup y) → News g L s.heap own → Below A₀ base outer g → (hd.heap_39 w.params).In g → Top hd.view_39 (looseW hd.view_39 []) mean mg mb g → Pre g →
      wpAny (model PySem.Challenge.rw_mj0018_01.row.prog w) (ktrTop dp un gd qual scope L f cdv [] outer) (execs body (envX qual scope L f cdv []))
        (fun fl s' => EndT g L s Post (match fl with | .ret v => v | _ => .none) s') (fun _ _ => False) s)
    (hdk : 0 < dk) : Tell w mean mg mb f dk uk vals own Pre Post := by
  intro dp un gd cn cs a ccd cl outer A₀ base h₀ L m s Q E B F X N T hck hd1 hu1 hP ret
  refine wpAny_call ?_
  obtain ⟨FG, BG, st, lv⟩ := groundX (R := fun r s' => match r with | .ok (.ret v) => Q v s' | .ok _ => False | .error e => E e s') (A := ktrTop dp un gd cn cs L a ccd cl outer) (env := envX cn cs L a ccd cl) B F N rfl rfl hck
  have X' := X.keeps F.keep
  refine codeAny_call_def (fd := fnOf name qual params body scope dV kV doc pm an cdv ct) (body := body) (binds := binds) ?_ (X' _ _ ho) rfl (T.nolimit.keeps F.keep) (codeRec_of X' hcd) rfl (hbind s) hcell hloc (fun h₁ hns hk₁ => ?_) hco hgen hk
  · show dp < recursionLimit
    omega
  have hkeep : ∀ b o, s.heap.get? b = some o → (∀ p ∈ own, p.1 ≠ b) → (hideAll s.heap (own.map (·.1))).get? b = some o := fun b o e hne => hideAll_get _ e fun q => by
    obtain ⟨p, hp, e'⟩ := List.mem_map.mp q
    exact hne p hp e'
  have F₁ : Fr (hideAll s.heap (own.map (·.1))) s.heap.objs.size h₁ (fun y => binds.reverse.lookup y) := ⟨hns, fun b o e => hk₁ b o (of_hideAll _ e), Nat.le_of_eq (hideAll_size _ _)⟩
  have N₁ : News (hideAll s.heap (own.map (·.1))) s.heap.objs.size h₁ own := fun p hp => ⟨hk₁ _ _ (N p hp).1, Nat.ne_of_lt (Heap.lt_size (N p hp).1), hideAll_none _ (List.mem_map_of_mem hp)⟩
  refine wpAny_mono (h (dp + 1) (un + 3) gd (envX cn cs L a ccd cl :: outer) _ base _ s.heap.objs.size { s with heap := h₁, toks := s.toks + binds.length } hdk (by omega) (by omega) F₁ N₁ BG (X.keeps st) (T.keeps st) (hpre _ _ hkeep hP)) (fun fl s' hl => ?_) fun _ _ y => y.elim
  obtain ⟨m', own', h', tk', rfl, F', N', hpost⟩ := hl
  refine lv _ _ ⟨_, m', own', F', N', fun FF NN => ?_⟩
  exact ret _ own' h' tk' FF NN (fun b o e hne => F'.keep b o (hkeep b o e hne)) hpost
end Mine
end
section
open PySem PySem.W PyProof.Rows
namespace Mine
/-- a tuple of two ints that the ledger bears, with its place -/
structure It where
  at' : Addr
  a : Int
  ta : Tok
  b : Int
  tb : Tok
  ep : Nat
def It.val (x : It) : Value := .ref x.at'
def It.obj (x : It) : Obj := { cls := .type "tuple", data := .seq #[.int x.a x.ta, .int x.b x.tb] x.ep }
def It.lt (x y : It) : Bool := decide (x.a < y.a) || (decide (x.a = y.a) && decide (x.b < y.b))

section
variable {prog : Program} {w : World} {A : Around} {E : Value → Shared → Prop} {s : Shared}
theorem tuple_lt_tree {x y : It} {P : PySem.Fin → Shared → Prop} (hx : s.heap.get? x.at' = some x.obj) (hy : s.heap.get? y.at' = some y.obj) (h : P (.done (.ret (.bool (x.lt y)))) s) :
    wpAny (model prog w) A (Builtin.«tuple.__lt__» ⟨[.ref x.at', .ref y.at'], []⟩) P E s := by
  have hTb : s.TypeIs (.ref y.at') "tuple" := ⟨_, hy, rfl⟩
  show wpAny _ _ (isInstance (.ref y.at') (.type "tuple") >>= _) _ _ s
  refine wpAny_bind (wpAny_isInstance hTb isSubtype_tuple_tuple ?_)
  simp only [Bool.not_true, Bool.false_eq_true, if_false]
  refine wpAny_bind (wpAny_tupleItemsOf hx rfl ?_)
  refine wpAny_bind (wpAny_tupleItemsOf hy rfl ?_)
  refine wpAny_bind ?_
  show wpAny _ _ (forIn [(Value.int x.a x.ta, Value.int y.a y.ta), (Value.int x.b x.tb, Value.int y.b y.tb)] _ _) _ _ s
  simp only [List.forIn_cons, List.forIn_nil]
  refine wpAny_bind (wpAny_bind (wpAny_eqBool_int ?_))
  unfold It.lt at h
  by_cases hab : x.a = y.a
  · have e1 : (x.a == y.a) = true := by simp [hab]
    rw [e1]
    simp only [Bool.not_true, Bool.false_eq_true, if_false]
    refine wpAny_pure ?_
    dsimp only
    refine wpAny_bind (wpAny_bind (wpAny_eqBool_int ?_))
    by_cases hbb : x.b = y.b
    · have e2 : (x.b == y.b) = true := by simp [hbb]
      rw [e2]
      simp only [Bool.not_true, Bool.false_eq_true, if_false]
      refine wpAny_pure ?_
      dsimp only
      refine wpAny_pure ?_
      dsimp only
      refine wpAny_pure ?_
      have : (decide (x.a < y.a) || (decide (x.a = y.a) && decide (x.b < y.b))) = false := by simp [hab, hbb]
      rw [this] at h
      exact h
    · have e2 : (x.b == y.b) = false := by simp [hbb]
      rw [e2]
      simp only [Bool.not_false, if_true]
      refine wpAny_bind (wpAny_rule ?_)
      refine wpAny_bind (lt_int ?_)
      have : (decide (x.a < y.a) || (decide (x.a = y.a) && decide (x.b < y.b))) = decide (x.b < y.b) := by simp [hab]
      rw [this] at h
      exact wpAny_bind (wpAny_pure (wpAny_pure (wpAny_pure (wpAny_pure h))))
  · have e1 : (x.a == y.a) = false := by simp [hab]
    rw [e1]
    simp only [Bool.not_false, if_true]
    refine wpAny_bind (wpAny_rule ?_)
    refine wpAny_bind (lt_int ?_)
    have : (decide (x.a < y.a) || (decide (x.a = y.a) && decide (x.b < y.b))) = decide (x.a < y.a) := by simp [hab]
    rw [this] at h
    exact wpAny_bind (wpAny_pure (wpAny_pure (wpAny_pure (wpAny_pure h))))

theorem lt_tup {x y : It} {Q : Value → Shared → Prop} (hu : A.units < cLine) (hx : s.heap.get? x.at' = some x.obj) (hy : s.heap.get? y.at' = some y.obj) (h : Q (.bool (x.lt y)) s) :
    wpAny (model prog w) A (compareOp .Lt (.ref x.at') (.ref y.at')) Q E s := by
  have hTa : s.TypeIs (.ref x.at') "tuple" := ⟨_, hx, rfl⟩
  have hTb : s.TypeIs (.ref y.at') "tuple" := ⟨_, hy, rfl⟩
  refine cmp_ofLt ?_
  exact (wpAny_richCompare_same_room (op := .Lt) hTa hTb F.slot_tuple_lt
      (wpAny_call_entry F.slot_tuple_lt hTa F.entry_tuple_lt (tuple_lt_tree hx hy ⟨_, rfl, (fun e => nomatch e), h⟩) (F.args_tuple_lt_2 _ _)) hu)
end
end Mine
end
section
open PySem PySem.W PyProof.Rows PySem.Calls
namespace Mine
/-- the list object -/
abbrev lo (vs : List Value) (n : Nat) : Obj := listOf vs.toArray n
/-- the ledger with another object at l -/
def setN (l : Addr) (o : Obj) (news : Led) : Led := news.map fun p => if p.1 = l then (l, o) else p
theorem setN_one {l : Addr} {o o' : Obj} : setN l o' [(l, o)] = [(l, o')] := by simp [setN]
theorem mem_setN_self {l : Addr} {o o' : Obj} {news : Led} (h : (l, o) ∈ news) : (l, o') ∈ setN l o' news :=
  List.mem_map.mpr ⟨(l, o), h, by simp⟩
theorem mem_setN_ne {l : Addr} {p : Addr × Obj} {o' : Obj} {news : Led} (h : p ∈ news) (hne : p.1 ≠ l) : p ∈ setN l o' news :=
  List.mem_map.mpr ⟨p, h, by simp [hne]⟩
theorem news_setN {h₀ h h' : Heap} {L l : Addr} {o o' : Obj} {news : Led} (N : News h₀ L h news) (hm : (l, o) ∈ news) (hs : Heap.SameBut l h h') (ho : h'.get? l = some o') : News h₀ L h' (setN l o' news) := by
  intro p hp
  obtain ⟨q, hq, rfl⟩ := List.mem_map.mp hp
  by_cases e : q.1 = l
  · rw [if_pos e]
    exact ⟨ho, (N _ hm).2⟩
  · rw [if_neg e]
    exact ⟨(hs.2 _ e).trans (N q hq).1, (N q hq).2⟩
theorem news_sub {h₀ h : Heap} {L : Addr} {news news' : Led} (N : News h₀ L h news) (hs : ∀ p ∈ news', p ∈ news) : News h₀ L h news' := fun p hp => N p (hs p hp)
theorem news_keeps {h₀ h h' : Heap} {L : Addr} {own rest : Led} (N : News h₀ L h rest) (k : Keeps own h h') (hne : ∀ p ∈ rest, ∀ q ∈ own, q.1 ≠ p.1) : News h₀ L h' rest :=
  fun p hp => ⟨k _ _ (N p hp).1 (hne p hp), (N p hp).2⟩
theorem news_app {h₀ h : Heap} {L : Addr} {a b : Led} (N : News h₀ L h a) (N' : News h₀ L h b) : News h₀ L h (a ++ b) :=
  fun p hp => (List.mem_append.mp hp).elim (N p) (N' p)
theorem fr_known {g h : Heap} {L : Addr} {m₁ : Str → Option Value} (ps : List (Str × Value)) (F : Fr g L h m₁) (h1 : ∀ p ∈ ps, m₁ p.1 = some p.2) : Fr g L h (kstB m₁ ps) := by
  have : kstB m₁ ps = m₁ := funext fun y => kstB_eq h1 fun _ => rfl
  rw [this]; exact F
/-- what a frame holds -/
def Knows (m : Str → Option Value) : List (Str × Value) → Prop
  | [] => True
  | p :: r => m p.1 = some p.2 ∧ Knows m r
theorem knows_all {m : Str → Option Value} : ∀ {ps : List (Str × Value)}, Knows m ps → ∀ p ∈ ps, m p.1 = some p.2
  | _ :: _, h, _, .head _ => h.1
  | _ :: _, h, _, .tail _ hm => knows_all h.2 _ hm
theorem fr_knows {g h : Heap} {L : Addr} {m₁ : Str → Option Value} {ps : List (Str × Value)} (F : Fr g L h m₁) (h1 : Knows m₁ ps) : Fr g L h (kstB m₁ ps) := fr_known ps F (knows_all h1)
theorem kcons {m : Str → Option Value} {x : Str} {v : Value} {ps : List (Str × Value)} (h : m x = some v) (hr : Knows m ps) : Knows m ((x, v) :: ps) := ⟨h, hr⟩
/-- a name holds an int -/
def Has (m : Str → Option Value) (x : Str) (k : Int) : Prop := ∃ t, m x = some (.int k t)
theorem has_of {m : Str → Option Value} {x : Str} {k k' : Int} {t : Tok} (h : m x = some (.int k' t)) (e : k' = k) : Has m x k := ⟨t, e ▸ h⟩
section
variable {prog : Program} {w : World} {A : Around} {E : Value → Shared → Prop} {s : Shared} {h₀ : Heap} {L l : Addr} {m : Str → Option Value} {news : Led} {vs : List Value} {n : Nat}
theorem isL (N : News h₀ L s.heap news) (hm : (l, lo vs n) ∈ news) : s.heap.IsList l vs.toArray := ⟨_, N.get hm, rfl, n, rfl⟩
theorem item_L {k : Nat} {x : Value} {u : Tok} {value slice : PySem.Expr} {Q : Value → Shared → Prop} (hl : s.heap.IsList l vs.toArray) (hx : vs[k]? = some x) (hk : k < 2 ^ 60) (h : Q x s)
    (hs : subscripted slice false (.ref l) (.int k u) = operate [.ref l, .int k u] (getItem (.ref l) (.int k u)) := by with_unfolding_all rfl) :
    wpAny (model prog w) A (subscriptTail value slice (.ref l) (.int k u)) Q E s := by
  refine tail_any hl.typeIs slot_list_getitem.lookup (wpAny_getItem_list hl (Int.natCast_nonneg k) (by omega) ?_ h) hs
  simp [hx]
theorem set_L {k : Nat} {v : Value} {u : Tok} {Q : Unit → Shared → Prop} (F : Fr h₀ L s.heap m) (N : News h₀ L s.heap news) (hm : (l, lo vs n) ∈ news) (hk : k < vs.length) (hk2 : k < 2 ^ 60)
    (h : ∀ h', Fr h₀ L h' m → News h₀ L h' (setN l (lo (vs.set k v) n) news) → Q () { s with heap := h' }) :
    wpAny (model prog w) A (setItem (.ref l) (.int k u) v) Q E s := by
  have z := N _ hm
  refine ki_setAt z.1 (Int.natCast_nonneg k) (by omega) (by simpa using hk) (h _ (F.change (Heap.SameBut.update ..) z.2.1 z.2.2) (news_setN N hm (Heap.SameBut.update ..) ?_))
  have q := PySem.IsL.update z.1 (fun a => a.setIfInBounds k v)
  have e : vs.toArray.setIfInBounds k v = (vs.set k v).toArray := by simp
  have e2 : (if (vs.toArray.setIfInBounds k v).size == vs.toArray.size then n else n + 1) = n := by simp
  show (s.heap.update l (Obj.mapSeq fun a => a.setIfInBounds k v)).get? l = _
  rw [q, e2, e]
theorem append_L {v : Value} {Q : Value → Shared → Prop} (F : Fr h₀ L s.heap m) (N : News h₀ L s.heap news) (hm : (l, lo vs n) ∈ news) (hz : vs.length < 1000)
    (h : ∀ h', Fr h₀ L h' m → News h₀ L h' (setN l (lo (vs ++ [v]) (n + 1)) news) → Q .none { s with heap := h' }) :
    wpAny (model prog w) A (call (.builtin "list.append") [.ref l, v]) Q E s := by
  have z := N _ hm
  refine append_at (its := vs.toArray) (n := n) z.1 (fun h' hs ho => h h' (F.change hs z.2.1 z.2.2) (news_setN N hm hs ?_)) (by rw [List.size_toArray, sizeLine_eq]; omega)
  rw [ho]; simp
theorem pop_L {v : Value} {Q : Value → Shared → Prop} (F : Fr h₀ L s.heap m) (N : News h₀ L s.heap news) (hm : (l, lo (vs ++ [v]) n) ∈ news) (hz : vs.length < 1000)
    (h : ∀ h', Fr h₀ L h' m → News h₀ L h' (setN l (lo vs (n + 1)) news) → Q v { s with heap := h' }) :
    wpAny (model prog w) A (call (.builtin "list.pop") [.ref l]) Q E s := by
  have z := N _ hm
  have hk : (vs ++ [v]).toArray.size - 1 = vs.length := by simp
  have hy : (vs ++ [v]).toArray[(vs ++ [v]).toArray.size - 1]? = some v := by rw [hk]; simp
  have hsz : (vs ++ [v]).toArray.size ≤ sizeLine := by rw [List.size_toArray, List.length_append, sizeLine_eq]; simp; omega
  refine call_meets PySem.F.slot_list_pop ⟨_, z.1, rfl⟩ PySem.F.entry_list_pop (PySem.F.args_list_pop_1 _) (PySem.MeetsSeq.list_pop_last l _ n v hy hsz) ⟨z.1, h _ (F.change (Heap.SameBut.update ..) z.2.1 z.2.2) (news_setN N hm (Heap.SameBut.update ..) ?_)⟩
  have q := PySem.IsL.update z.1 (fun a => a.eraseIdxIfInBounds ((vs ++ [v]).toArray.size - 1))
  have e : (vs ++ [v]).toArray.eraseIdxIfInBounds ((vs ++ [v]).toArray.size - 1) = vs.toArray := by
    rw [hk, kl_erase, List.append_nil]
  have e2 : (if ((vs ++ [v]).toArray.eraseIdxIfInBounds ((vs ++ [v]).toArray.size - 1)).size == (vs ++ [v]).toArray.size then n else n + 1) = n + 1 := by
    rw [e]; simp
  rw [q, e2, e]
theorem item_Li {k : Int} {j : Nat} {x : Value} {u : Tok} {value slice : PySem.Expr} {Q : Value → Shared → Prop} (hl : s.heap.IsList l vs.toArray) (e : k = (j : Int)) (hx : vs[j]? = some x) (hk : j < 2 ^ 60) (h : Q x s)
    (hs : subscripted slice false (.ref l) (.int k u) = operate [.ref l, .int k u] (getItem (.ref l) (.int k u)) := by with_unfolding_all rfl) :
    wpAny (model prog w) A (subscriptTail value slice (.ref l) (.int k u)) Q E s := by
  subst e
  exact item_L hl hx hk h hs
theorem set_Li {k : Int} {j : Nat} {v : Value} {u : Tok} {Q : Unit → Shared → Prop} (F : Fr h₀ L s.heap m) (N : News h₀ L s.heap news) (hm : (l, lo vs n) ∈ news) (e : k = (j : Int)) (hk : j < vs.length) (hk2 : j < 2 ^ 60)
    (h : ∀ h', Fr h₀ L h' m → News h₀ L h' (setN l (lo (vs.set j v) n) news) → Q () { s with heap := h' }) :
    wpAny (model prog w) A (setItem (.ref l) (.int k u) v) Q E s := by
  subst e
  exact set_L F N hm hk hk2 h
theorem len_L {Q : Value → Shared → Prop} (hl : s.heap.IsList l vs.toArray) (hz : vs.length < 1000)
    (h : ∀ t t', Q (.int (vs.length : Nat) t) { s with toks := t' }) : wpAny (model prog w) A (call (.builtin "len") [.ref l]) Q E s :=
  PyProof.Rows.len_list hl (by rw [List.size_toArray]; omega) (by rw [List.size_toArray]; exact h _ _)
end
end Mine
end
section
open PySem PySem.W PyProof.Rows PySem.Calls
namespace Mine
local macro_rules | `(tactic| ktr_unf) => `(tactic| (repeat' (first
  | (k_unfold; (try dsimp only))
  | ((fail_if_success (with_reducible show wpAny _ _ (exec (Stmt.While _ _ _ _) _) _ _ _)); (fail_if_success (with_reducible show wpAny _ _ (exec (Stmt.For _ _ _ _ _) _) _ _ _)); (fail_if_success (with_reducible show wpAny _ _ (call (Value.ref _) _) _ _ _)); (first | walk1 | (dsimp only; walk1))))))
abbrev vals (xs : List It) : List Value := xs.map It.val
def sdown (h : List It) (start pos : Nat) (new : It) : List It :=
  if c : start < pos then
    if new.lt (h[(pos - 1) / 2]?.getD new) then sdown (h.set pos (h[(pos - 1) / 2]?.getD new)) start ((pos - 1) / 2) new else h.set pos new
  else h.set pos new
termination_by pos
decreasing_by omega
def Items (l : Addr) (xs : List It) (h : Heap) : Prop := ∀ x ∈ xs, h.get? x.at' = some x.obj ∧ x.at' ≠ l
theorem Items.keeps {l : Addr} {xs : List It} {o : Obj} (h h' : Heap) (k : ∀ b o', h.get? b = some o' → (∀ p ∈ [(l, o)], p.1 ≠ b) → h'.get? b = some o') (H : Items l xs h) : Items l xs h' :=
  fun x hx => ⟨k _ _ (H x hx).1 (fun p hp => by rw [List.mem_singleton.mp hp]; exact Ne.symm (H x hx).2), (H x hx).2⟩
theorem vals_get {xs : List It} {k : Nat} {x : It} (h : xs[k]? = some x) : (vals xs)[k]? = some x.val := by simp [vals, h]
theorem lt_of_get {xs : List It} {k : Nat} {x : It} (h : xs[k]? = some x) : k < xs.length := by
  rcases Nat.lt_or_ge k xs.length with h' | h'
  · exact h'
  · rw [List.getElem?_eq_none h'] at h; cases h
theorem sdown_tell {w : World} {mean : ExcName → Option Value} {mg mb : Str → Option Value} (l : Addr) (items : List It) (ep start pos : Nat) (ts tp : Tok) (new : It) (hn : items[pos]? = some new) (hp : items.length < 1000) :
    Tell w mean mg mb 42 1 20 [.ref l, .int start ts, .int pos tp] [(l, lo (vals items) ep)] (Items l items) (fun r own => r = .none ∧ ∃ ep', own = [(l, lo (vals (sdown items start pos new)) ep')]) := by
  refine tell_enter (binds := [(Str.ofString "heap", .ref l), (Str.ofString "startpos", .int start ts), (Str.ofString "pos", .int pos tp)]) (by k_is) (by k_is) (fun s => BindsTo.of_eq rfl) (locs rfl) rfl rfl rfl (by decide) Items.keeps ?_ (by decide)
  intro dp un gd outer A₀ base g L s _ hd1 hu1 F N B X T hP
  have hlt := lt_of_get hn
  have hcl := cLine_is
  w_on
  (try k_fold)
  ktr_unf
  refine item_L (isL N (by k_mem)) (vals_get hn) (by omega) ?_
  ktr_unf
  rename_i h1 F1 N1
  refine While_inv2 (fun n m news => ∃ (h : List It) (pos' : Nat) (tp' : Tok) (ep' : Nat), n = pos' ∧ news = [(l, lo (vals h) ep')] ∧ Knows m [(Str.ofString "heap", Value.ref l), (Str.ofString "startpos", .int start ts), (Str.ofString "pos", .int pos' tp'), (Str.ofString "newitem", new.val)] ∧ h.length = items.length ∧ pos' < items.length ∧ (∀ x ∈ h, x ∈ items) ∧ sdown h start pos' new = sdown items start pos new)
    F1 N1 ⟨items, pos, tp, ep, rfl, rfl, ?_, rfl, hlt, fun _ h => h, rfl⟩ ?_ ?_
  · exact ⟨rfl, rfl, rfl, rfl, trivial⟩
  · clear F1 N1
    rintro n m₁ news₁ h₁ tk₁ F1 N1 ⟨h, pos', tp', ep', rfl, rfl, hm, hlen, hlt', hsub, heq⟩
    replace F1 := fr_knows F1 hm
    clear hm
    dsimp only [kstB] at F1
    rename_i hn1
    have hnew : new ∈ items := List.mem_of_getElem? hn
    rw [sdown] at heq
    ktr_unf
    · rename_i hc h2 F2 N2
      have hc' : start < n := by omega
      have epar : (((n : Int) - 1).fdiv (2 ^ Int.toNat 1)) = (((n - 1) / 2 : Nat) : Int) := by
        have : (2 : Int) ^ Int.toNat 1 = 2 := rfl
        rw [this, Int.fdiv_eq_ediv_of_nonneg _ (by omega)]; omega
      obtain ⟨par, hpar⟩ : ∃ par, h[(n - 1) / 2]? = some par := ⟨h[(n - 1) / 2]'(by omega), List.getElem?_eq_getElem (by omega)⟩
      rw [dif_pos hc'] at heq
      simp only [hpar, Option.getD_some] at heq
      dsimp only at F2 ⊢
      rw [epar] at F2 ⊢
      generalize (tk₁ + 1 + 1 + 1) = tq at F2 ⊢
      refine item_L (isL N2 (by k_mem)) (vals_get hpar) (by omega) ?_
      ktr_unf
      rename_i h3 F3 N3
      have hparm : par ∈ items := hsub _ (List.mem_of_getElem? hpar)
      refine lt_tup (by show un < cLine; omega) (F3.keep _ _ (hP _ hnew).1) (F3.keep _ _ (hP _ hparm).1) ?_
      ktr_unf
      · rename_i hlt2
        rw [if_pos hlt2] at heq
        refine set_L F3 N3 (by k_mem) (by simp [vals]; omega) (by omega) ?_
        intro h4 F4 N4
        rw [setN_one] at N4
        ktr_unf
        rename_i h5 F5 N5
        dsimp only
        refine ⟨_, _, _, _, (n - 1) / 2, rfl, F5, N5, by omega, h.set n par, _, tq, ep', rfl, ?_, ?_, by simpa using hlen, by omega, ?_, heq⟩
        · rw [show vals (h.set n par) = (vals h).set n par.val from List.map_set ..]
        · exact ⟨rfl, rfl, rfl, rfl, trivial⟩
        · intro x hx
          rcases List.mem_or_eq_of_mem_set hx with q | q
          · exact hsub x q
          · exact q ▸ hparm
      · rename_i hlt2
        rw [if_neg (by simp [hlt2])] at heq
        dsimp only [WhileStep2]
        ktr_unf
        refine set_L F3 N3 (by k_mem) (by simp [vals]; omega) (by omega) ?_
        intro h4 F4 N4
        rw [setN_one] at N4
        ktr_unf
        refine EndT.intro F4 N4 ⟨rfl, ep', ?_⟩
        rw [← heq, show vals (h.set n new) = (vals h).set n new.val from List.map_set ..]
    · rename_i hc
      rw [dif_neg (by omega)] at heq
      refine set_L F1 N1 (by k_mem) (by simp [vals]; omega) (by omega) ?_
      intro h3 F3 N3
      rw [setN_one] at N3
      ktr_unf
      refine EndT.intro F3 N3 ⟨rfl, ep', ?_⟩
      rw [← heq, show vals (h.set n new) = (vals h).set n new.val from List.map_set ..]
  · exact fun _ _ h => h.elim
end Mine
end
section
open PySem PySem.W PyProof.Rows PySem.Calls
namespace Mine
local macro_rules | `(tactic| ktr_unf) => `(tactic| (repeat' (first
  | (k_unfold; (try dsimp only))
  | ((fail_if_success (with_reducible show wpAny _ _ (exec (Stmt.While _ _ _ _) _) _ _ _)); (fail_if_success (with_reducible show wpAny _ _ (exec (Stmt.For _ _ _ _ _) _) _ _ _)); (fail_if_success (with_reducible show wpAny _ _ (call (Value.ref _) _) _ _ _)); (first | walk1 | (dsimp only; walk1)); (try dsimp only at *)))))
def sup (h : List It) (e start pos : Nat) (new : It) : List It :=
  if 2 * pos + 1 < e then
    if 2 * pos + 2 < e ∧ ((h[2 * pos + 1]?.getD new).lt (h[2 * pos + 2]?.getD new)) = false then sup (h.set pos (h[2 * pos + 2]?.getD new)) e start (2 * pos + 2) new
    else sup (h.set pos (h[2 * pos + 1]?.getD new)) e start (2 * pos + 1) new
  else sdown (h.set pos new) start pos new
termination_by e - pos
decreasing_by all_goals omega
theorem sup_tell {w : World} {mean : ExcName → Option Value} {mg mb : Str → Option Value} (l : Addr) (items : List It) (ep pos : Nat) (tp : Tok) (new : It) (hn : items[pos]? = some new) (hp : items.length < 1000) :
    Tell w mean mg mb 49 2 30 [.ref l, .int pos tp] [(l, lo (vals items) ep)] (Items l items) (fun r own => r = .none ∧ ∃ ep', own = [(l, lo (vals (sup items items.length pos pos new)) ep')]) := by
  refine tell_enter (binds := [(Str.ofString "heap", .ref l), (Str.ofString "pos", .int pos tp)]) (by k_is) (by k_is) (fun s => BindsTo.of_eq rfl) (locs rfl) rfl rfl rfl (by decide) Items.keeps ?_ (by decide)
  intro dp un gd outer A₀ base g L s _ hd1 hu1 F N B X T hP
  have hlt := lt_of_get hn
  have hcl := cLine_is
  have hnew : new ∈ items := List.mem_of_getElem? hn
  w_on
  (try k_fold)
  ktr_unf
  refine len_L (isL N (by k_mem)) (by simpa [vals] using hp) ?_
  intro t1 t2
  rw [show (vals items).length = items.length from List.length_map ..]
  ktr_unf
  rename_i h1 F1 N1
  refine item_L (isL N1 (by k_mem)) (vals_get hn) (by omega) ?_
  ktr_unf
  rename_i h2 F2 N2
  (try dsimp only at F2 ⊢)
  refine While_inv2 (fun n m news => ∃ (h : List It) (pos' ep' : Nat), n = items.length - pos' ∧ news = [(l, lo (vals h) ep')] ∧ h.length = items.length ∧ pos' < items.length ∧ (∀ x ∈ h, x ∈ items) ∧ sup h items.length pos pos' new = sup items items.length pos pos new ∧
      Knows m [(Str.ofString "heap", Value.ref l), (Str.ofString "startpos", .int pos tp), (Str.ofString "endpos", .int items.length t1), (Str.ofString "newitem", new.val)] ∧ Has m (Str.ofString "pos") pos' ∧ Has m (Str.ofString "childpos") (2 * (pos' : Int) + 1))
    F2 N2 ⟨items, pos, ep, rfl, rfl, rfl, hlt, fun _ h => h, rfl, ⟨rfl, rfl, rfl, rfl, trivial⟩, has_of rfl rfl, has_of rfl rfl⟩ ?_ ?_
  · clear F2 N2
    rintro n m₁ news₁ h₁ tk₁ F1 N1 ⟨h, pos', ep', rfl, rfl, hlen, hlt', hsub, heq, hm, ⟨tp', e1⟩, ⟨tc, e2⟩⟩
    replace F1 := fr_knows F1 (kcons e1 (kcons e2 hm))
    clear hm e1 e2
    dsimp only [kstB] at F1
    rw [sup] at heq
    have hget : ∀ k, k < items.length → ∃ x, h[k]? = some x ∧ x ∈ items := fun k hk =>
      ⟨h[k]'(by omega), List.getElem?_eq_getElem (by omega), hsub _ (List.getElem_mem _)⟩
    have hset : ∀ k (x : It), x ∈ items → ∀ y ∈ h.set k x, y ∈ items := fun k x hx y hy => by
      rcases List.mem_or_eq_of_mem_set hy with q | q
      · exact hsub y q
      · exact q ▸ hx
    have hvs : ∀ k (x : It), vals (h.set k x) = (vals h).set k x.val := fun k x => List.map_set ..
    ktr_unf
    · rename_i hc h2 F2 N2 hc2
      obtain ⟨x, hx, hxm⟩ := hget (2 * pos' + 1) (by omega)
      obtain ⟨y, hy, hym⟩ := hget (2 * pos' + 2) (by omega)
      rw [if_pos (by omega)] at heq
      simp only [hx, hy, Option.getD_some] at heq
      refine item_Li (j := 2 * pos' + 1) (isL N2 (by k_mem)) (by omega) (vals_get hx) (by omega) ?_
      ktr_unf
      refine item_Li (j := 2 * pos' + 2) (isL N2 (by k_mem)) (by omega) (vals_get hy) (by omega) ?_
      ktr_unf
      refine lt_tup (by show un < cLine; omega) (F2.keep _ _ (hP _ hxm).1) (F2.keep _ _ (hP _ hym).1) ?_
      ktr_unf
      · rename_i hl
        rw [if_neg (by simp [hl])] at heq
        refine item_Li (j := 2 * pos' + 1) (isL N2 (by k_mem)) (by omega) (vals_get hx) (by omega) ?_
        ktr_unf
        refine set_L F2 N2 (by k_mem) (by simp [vals]; omega) (by omega) ?_
        intro h4 F4 N4
        rw [setN_one] at N4
        ktr_unf
        rename_i h5 F5 N5
        exact ⟨_, _, _, _, items.length - (2 * pos' + 1), rfl, F5, N5, by omega, h.set pos' x, 2 * pos' + 1, ep', rfl, by rw [hvs], by simpa using hlen, by omega, hset _ _ hxm, heq, ⟨rfl, rfl, rfl, rfl, trivial⟩, has_of rfl (by omega), has_of rfl (by omega)⟩
      · rename_i hl h3 F3 N3
        rw [if_pos ⟨by omega, hl⟩] at heq
        refine item_Li (j := 2 * pos' + 2) (isL N3 (by k_mem)) (by omega) (vals_get hy) (by omega) ?_
        ktr_unf
        refine set_L F3 N3 (by k_mem) (by simp [vals]; omega) (by omega) ?_
        intro h4 F4 N4
        rw [setN_one] at N4
        ktr_unf
        rename_i h5 F5 N5
        exact ⟨_, _, _, _, items.length - (2 * pos' + 2), rfl, F5, N5, by omega, h.set pos' y, 2 * pos' + 2, ep', rfl, by rw [hvs], by simpa using hlen, by omega, hset _ _ hym, heq, ⟨rfl, rfl, rfl, rfl, trivial⟩, has_of rfl (by omega), has_of rfl (by omega)⟩
    · rename_i hc h2 F2 N2 hc2
      obtain ⟨x, hx, hxm⟩ := hget (2 * pos' + 1) (by omega)
      rw [if_pos (by omega), if_neg (by omega)] at heq
      simp only [hx, Option.getD_some] at heq
      refine item_Li (j := 2 * pos' + 1) (isL N2 (by k_mem)) (by omega) (vals_get hx) (by omega) ?_
      ktr_unf
      refine set_L F2 N2 (by k_mem) (by simp [vals]; omega) (by omega) ?_
      intro h4 F4 N4
      rw [setN_one] at N4
      ktr_unf
      rename_i h5 F5 N5
      exact ⟨_, _, _, _, items.length - (2 * pos' + 1), rfl, F5, N5, by omega, h.set pos' x, 2 * pos' + 1, ep', rfl, by rw [hvs], by simpa using hlen, by omega, hset _ _ hxm, heq, ⟨rfl, rfl, rfl, rfl, trivial⟩, has_of rfl (by omega), has_of rfl (by omega)⟩
    · rename_i hc
      rw [if_neg (by omega)] at heq
      refine set_L F1 N1 (by k_mem) (by simp [vals]; omega) (by omega) ?_
      intro h3 F3 N3
      rw [setN_one] at N3
      rw [← hvs] at N3
      ktr_unf
      refine sdown_tell l (h.set pos' new) ep' pos pos' tp tp' new (by rw [List.getElem?_set_self (by omega)]) (by simpa using (by omega : h.length < 1000)) _ _ _ _ _ _ _ _ _ _ _ _ _ _ _ _ _ B F3 X N3 T rfl (by omega) (by omega) (fun x hx => ⟨F3.keep _ _ (hP x (hset _ _ hnew x hx)).1, (hP x (hset _ _ hnew x hx)).2⟩) ?_
      rintro r own' h' tk' F4 N4 K4 ⟨rfl, ep4, rfl⟩
      ktr_unf
      exact EndT.intro F4 N4 ⟨rfl, ep4, by rw [← heq]⟩
  · exact fun _ _ h => h.elim
end Mine
end
section
namespace Mine
def hpush (items : List It) (x : It) : List It := sdown (items ++ [x]) 0 items.length x
def hpop (last : It) : List It → It × List It
  | [] => (last, [])
  | x :: r => (x, sup (last :: r) (r.length + 1) 0 0 last)
def hfy (items : List It) : Nat → List It
  | 0 => items
  | k + 1 => match items[k]? with
    | some x => hfy (sup items items.length k k x) k
    | none => hfy items k
/-- x is not behind y -/
def It.le (x y : It) : Prop := y.lt x = false
theorem It.le_iff {x y : It} : x.le y ↔ x.a < y.a ∨ (x.a = y.a ∧ x.b ≤ y.b) := by
  unfold It.le It.lt
  simp only [Bool.or_eq_false_iff, decide_eq_false_iff_not, Bool.and_eq_false_iff]
  omega
theorem It.lt_iff {x y : It} : x.lt y = true ↔ x.a < y.a ∨ (x.a = y.a ∧ x.b < y.b) := by
  unfold It.lt
  simp only [Bool.or_eq_true, decide_eq_true_eq, Bool.and_eq_true]
theorem It.le_refl (x : It) : x.le x := by rw [It.le_iff]; omega
theorem It.le_trans {x y z : It} (h : x.le y) (h' : y.le z) : x.le z := by rw [It.le_iff] at *; omega
theorem It.le_of_lt {x y : It} (h : x.lt y = true) : x.le y := by rw [It.le_iff]; rw [It.lt_iff] at h; omega
theorem It.le_of_not {x y : It} (h : ¬ x.lt y = true) : y.le x := by rw [It.le_iff]; rw [It.lt_iff] at h; omega

theorem swap_perm {α : Type} {h : List α} {i j : Nat} {p v : α} (hij : i ≠ j) (hj : h[j]? = some p) (hi : i < h.length) : ((h.set i p).set j v).Perm (h.set i v) := by
  have hjl : j < h.length := by
    rcases Nat.lt_or_ge j h.length with q | q
    · exact q
    · rw [List.getElem?_eq_none q] at hj; cases hj
  have e : h[j] = p := by
    have := List.getElem?_eq_getElem hjl
    rw [hj] at this; exact (Option.some.inj this).symm
  have q := List.set_set_perm (as := h.set i v) (i := i) (j := j) (by simpa using hi) (by simpa using hjl)
  have e1 : (h.set i v)[j]'(by simpa using hjl) = p := by rw [List.getElem_set_ne hij]; exact e
  have e2 : (h.set i v)[i]'(by simpa using hi) = v := by simp
  rw [e1, e2, List.set_set] at q
  exact q
theorem sdown_perm (h : List It) (start pos : Nat) (new : It) (hp : pos < h.length) : (sdown h start pos new).Perm (h.set pos new) := by
  fun_induction sdown h start pos new with
  | case1 h pos c hl ih =>
    have hpar : (pos - 1) / 2 < h.length := by omega
    obtain ⟨p, hq⟩ : ∃ p, h[(pos - 1) / 2]? = some p := ⟨_, List.getElem?_eq_getElem hpar⟩
    rw [hq, Option.getD_some] at ih ⊢
    exact (ih (by simpa using hpar)).trans (swap_perm (by omega) hq hp)
  | case2 h pos c hl => exact List.Perm.refl _
  | case3 h pos c => exact List.Perm.refl _
theorem sup_perm (h : List It) (start pos : Nat) (new : It) (e : Nat) (he : e = h.length) (hp : pos < h.length) : (sup h e start pos new).Perm (h.set pos new) := by
  fun_induction sup h e start pos new with
  | case1 h pos c c2 ih =>
    obtain ⟨p, hq⟩ : ∃ p, h[2 * pos + 2]? = some p := ⟨_, List.getElem?_eq_getElem (by omega)⟩
    rw [hq, Option.getD_some] at ih ⊢
    exact (ih (by simpa using he) (by simp; omega)).trans (swap_perm (by omega) hq hp)
  | case2 h pos c c2 ih =>
    obtain ⟨p, hq⟩ : ∃ p, h[2 * pos + 1]? = some p := ⟨_, List.getElem?_eq_getElem (by omega)⟩
    rw [hq, Option.getD_some] at ih ⊢
    exact (ih (by simpa using he) (by simp; omega)).trans (swap_perm (by omega) hq hp)
  | case3 h pos c =>
    have := sdown_perm (h.set pos new) start pos new (by simpa using hp)
    rwa [List.set_set] at this
theorem set_get {h : List It} {i j : Nat} {v x : It} (e : (h.set i v)[j]? = some x) (hi : i < h.length) : (j = i ∧ x = v) ∨ (j ≠ i ∧ h[j]? = some x) := by
  by_cases q : j = i
  · subst q
    rw [List.getElem?_set_self hi] at e
    exact .inl ⟨rfl, (Option.some.inj e).symm⟩
  · rw [List.getElem?_set_ne (Ne.symm q)] at e
    exact .inr ⟨q, e⟩
theorem set_at {h : List It} {i : Nat} {v : It} (hi : i < h.length) : (h.set i v)[i]? = some v := List.getElem?_set_self hi
theorem set_off {h : List It} {i j : Nat} {v : It} (hi : j ≠ i) : (h.set i v)[j]? = h[j]? := List.getElem?_set_ne (Ne.symm hi)
/-- the order between c and what lies over it -/
def Ok (h : List It) (c : Nat) : Prop := ∀ x p, h[c]? = some x → h[(c - 1) / 2]? = some p → p.le x
def HeapFrom (s : Nat) (h : List It) : Prop := ∀ c, 0 < c → s ≤ (c - 1) / 2 → Ok h c
inductive Desc (s : Nat) : Nat → Prop
  | refl : Desc s s
  | step {p c : Nat} : Desc s p → (c = 2 * p + 1 ∨ c = 2 * p + 2) → Desc s c
theorem Desc.le {s p : Nat} (h : Desc s p) : s ≤ p := by
  induction h with
  | refl => exact Nat.le_refl _
  | step _ hc ih => omega
theorem Desc.up {s p : Nat} (h : Desc s p) (hlt : s < p) : Desc s ((p - 1) / 2) := by
  cases h with
  | refl => omega
  | step h' hc =>
    rename_i q
    have : (p - 1) / 2 = q := by omega
    rw [this]; exact h'
theorem Desc.zero (p : Nat) : Desc 0 p := by
  induction p using Nat.strongRecOn with
  | _ p ih =>
    rcases Nat.eq_zero_or_pos p with rfl | hp
    · exact .refl
    · exact .step (ih ((p - 1) / 2) (by omega)) (by omega)
theorem sdown_heap (h : List It) (start pos : Nat) (new : It) (hp : pos < h.length) (hd : Desc start pos)
    (H1 : ∀ c, c ≠ pos → 0 < c → start ≤ (c - 1) / 2 → Ok (h.set pos new) c)
    (H2 : ∀ c, 0 < c → (c - 1) / 2 = pos → 0 < pos → start ≤ (pos - 1) / 2 → ∀ x p, (h.set pos new)[c]? = some x → (h.set pos new)[(pos - 1) / 2]? = some p → p.le x) :
    HeapFrom start (sdown h start pos new) := by
  fun_induction sdown h start pos new with
  | case1 h pos c hl ih =>
    have hpar : (pos - 1) / 2 < h.length := by omega
    obtain ⟨p, hq⟩ : ∃ p, h[(pos - 1) / 2]? = some p := ⟨_, List.getElem?_eq_getElem hpar⟩
    rw [hq, Option.getD_some] at ih hl ⊢
    have hup := hd.up c
    have hs := hup.le
    have hqH : (h.set pos new)[(pos - 1) / 2]? = some p := by rw [set_off (by omega)]; exact hq
    -- what the new list holds
    have g1 : ((h.set pos p).set ((pos - 1) / 2) new)[(pos - 1) / 2]? = some new := set_at (by simpa using hpar)
    have g2 : ((h.set pos p).set ((pos - 1) / 2) new)[pos]? = some p := by rw [set_off (by omega)]; exact set_at hp
    have g3 : ∀ j, j ≠ pos → j ≠ (pos - 1) / 2 → ((h.set pos p).set ((pos - 1) / 2) new)[j]? = (h.set pos new)[j]? := fun j h1 h2 => by
      rw [set_off h2, set_off h1, set_off h1]
    refine ih (by simpa using hpar) hup ?_ ?_
    · intro d hd1 hd0 hds x q ex eq
      by_cases e1 : d = pos
      · rw [e1] at ex eq
        rw [g2] at ex; rw [g1] at eq
        cases ex; cases eq
        exact It.le_of_lt hl
      · rw [g3 d e1 hd1] at ex
        by_cases e2 : (d - 1) / 2 = (pos - 1) / 2
        · rw [e2, g1] at eq
          cases eq
          exact It.le_trans (It.le_of_lt hl) (H1 d e1 hd0 hds x p ex (by rw [e2]; exact hqH))
        · by_cases e3 : (d - 1) / 2 = pos
          · rw [e3, g2] at eq
            cases eq
            exact H2 d hd0 e3 (by omega) hs x p ex hqH
          · rw [g3 _ e3 e2] at eq
            exact H1 d e1 hd0 hds x q ex eq
    · intro d hd0 hdp hpp hss x q ex eq
      rw [g3 _ (by omega) (by omega)] at eq
      have hgp : q.le p := H1 ((pos - 1) / 2) (by omega) hpp hss p q hqH eq
      by_cases e1 : d = pos
      · rw [e1, g2] at ex
        cases ex
        exact hgp
      · rw [g3 d e1 (by omega)] at ex
        exact It.le_trans hgp (H1 d e1 hd0 (by omega) x p ex (by rw [hdp]; exact hqH))
  | case2 h pos c hl =>
    have hpar : (pos - 1) / 2 < h.length := by omega
    obtain ⟨p, hq⟩ : ∃ p, h[(pos - 1) / 2]? = some p := ⟨_, List.getElem?_eq_getElem hpar⟩
    rw [hq, Option.getD_some] at hl
    intro d hd0 hds
    by_cases e1 : d = pos
    · subst e1
      intro x q ex eq
      rw [set_at hp] at ex
      rw [set_off (by omega), hq] at eq
      cases ex; cases eq
      exact It.le_of_not hl
    · exact H1 d e1 hd0 hds
  | case3 h pos c =>
    have := hd.le
    intro d hd0 hds
    exact H1 d (by omega) hd0 hds
theorem sup_heap (h : List It) (start pos : Nat) (new : It) (e : Nat) (he : e = h.length) (hp : pos < h.length) (hd : Desc start pos)
    (HA : ∀ c, c ≠ pos → (c - 1) / 2 ≠ pos → 0 < c → start ≤ (c - 1) / 2 → Ok (h.set pos new) c)
    (HB : ∀ c, 0 < c → (c - 1) / 2 = pos → 0 < pos → start ≤ (pos - 1) / 2 → ∀ x p, (h.set pos new)[c]? = some x → (h.set pos new)[(pos - 1) / 2]? = some p → p.le x) :
    HeapFrom start (sup h e start pos new) := by
  have step : ∀ (h : List It) (pos ch : Nat) (v : It), pos < h.length → Desc start pos → (ch = 2 * pos + 1 ∨ ch = 2 * pos + 2) → h[ch]? = some v →
      (∀ c, c ≠ pos → (c - 1) / 2 ≠ pos → 0 < c → start ≤ (c - 1) / 2 → Ok (h.set pos new) c) →
      (∀ c, 0 < c → (c - 1) / 2 = pos → 0 < pos → start ≤ (pos - 1) / 2 → ∀ x p, (h.set pos new)[c]? = some x → (h.set pos new)[(pos - 1) / 2]? = some p → p.le x) →
      (∀ c x, (c = 2 * pos + 1 ∨ c = 2 * pos + 2) → h[c]? = some x → v.le x) →
      (∀ c, c ≠ ch → (c - 1) / 2 ≠ ch → 0 < c → start ≤ (c - 1) / 2 → Ok ((h.set pos v).set ch new) c) ∧
      (∀ c, 0 < c → (c - 1) / 2 = ch → 0 < ch → start ≤ (ch - 1) / 2 → ∀ x p, ((h.set pos v).set ch new)[c]? = some x → ((h.set pos v).set ch new)[(ch - 1) / 2]? = some p → p.le x) := by
    intro h pos ch v hp hd hch hv HA HB hmin
    have hs := hd.le
    have hpc : (ch - 1) / 2 = pos := by omega
    have hchl := lt_of_get hv
    have g1 : ((h.set pos v).set ch new)[ch]? = some new := set_at (by simpa using hchl)
    have g2 : ((h.set pos v).set ch new)[pos]? = some v := by rw [set_off (by omega)]; exact set_at hp
    have g3 : ∀ j, j ≠ pos → j ≠ ch → ((h.set pos v).set ch new)[j]? = (h.set pos new)[j]? := fun j h1 h2 => by
      rw [set_off h2, set_off h1, set_off h1]
    have hvH : (h.set pos new)[ch]? = some v := by rw [set_off (by omega)]; exact hv
    constructor
    · intro c hc1 hc2 hc0 hcs x p ex ep
      by_cases e1 : c = pos
      · rw [e1] at ex ep
        rw [g2] at ex
        cases ex
        rw [g3 _ (by omega) (by omega)] at ep
        exact HB ch (by omega) hpc (by omega) (by rw [e1] at hcs; exact hcs) _ _ hvH ep
      · by_cases e2 : (c - 1) / 2 = pos
        · rw [e2, g2] at ep
          cases ep
          rw [g3 _ e1 hc1, set_off e1] at ex
          exact hmin c x (by omega) ex
        · rw [g3 _ e1 hc1] at ex
          rw [g3 _ e2 hc2] at ep
          exact HA c e1 e2 hc0 hcs x p ex ep
    · intro c hc0 hcp hch0 hss x p ex ep
      rw [hpc, g2] at ep
      cases ep
      rw [g3 _ (by omega) (by omega)] at ex
      exact HA c (by omega) (by omega) hc0 (by omega) x _ ex (by rw [hcp]; exact hvH)
  fun_induction sup h e start pos new with
  | case1 h pos c c2 ih =>
    obtain ⟨p, hq⟩ : ∃ p, h[2 * pos + 2]? = some p := ⟨_, List.getElem?_eq_getElem (by omega)⟩
    obtain ⟨p1, hq1⟩ : ∃ p, h[2 * pos + 1]? = some p := ⟨_, List.getElem?_eq_getElem (by omega)⟩
    rw [hq, hq1, Option.getD_some, Option.getD_some] at c2
    rw [hq, Option.getD_some] at ih ⊢
    obtain ⟨a, b⟩ := step h pos (2 * pos + 2) p hp hd (.inr rfl) hq HA HB (by
      rintro c x (rfl | rfl) hx
      · rw [hq1] at hx; cases hx; exact c2.2
      · rw [hq] at hx; cases hx; exact It.le_refl _)
    exact ih (by simpa using he) (by simp; omega) (.step hd (.inr rfl)) a b
  | case2 h pos c c2 ih =>
    obtain ⟨p1, hq1⟩ : ∃ p, h[2 * pos + 1]? = some p := ⟨_, List.getElem?_eq_getElem (by omega)⟩
    rw [hq1, Option.getD_some] at ih ⊢
    obtain ⟨a, b⟩ := step h pos (2 * pos + 1) p1 hp hd (.inl rfl) hq1 HA HB (by
      rintro c x (rfl | rfl) hx
      · rw [hq1] at hx; cases hx; exact It.le_refl _
      · have hlt := lt_of_get hx
        rw [hq1, hx, Option.getD_some, Option.getD_some] at c2
        refine It.le_of_lt ?_
        cases q : p1.lt x with
        | true => rfl
        | false => exact absurd ⟨by omega, q⟩ c2)
    exact ih (by simpa using he) (by simp; omega) (.step hd (.inl rfl)) a b
  | case3 h pos c =>
    refine sdown_heap (h.set pos new) start pos new (by simpa using hp) hd ?_ ?_
    · intro d hd1 hd0 hds
      rw [List.set_set]
      intro x p ex ep
      have hlt := lt_of_get ex
      rw [List.length_set] at hlt
      exact HA d hd1 (by omega) hd0 hds x p ex ep
    · intro d hd0 hdp _ _ x p ex ep
      have hlt := lt_of_get ex
      rw [List.length_set, List.length_set] at hlt
      omega
theorem sup_at_perm {h : List It} {k : Nat} {x : It} (hx : h[k]? = some x) : (sup h h.length k k x).Perm h := by
  have hk := lt_of_get hx
  have q := sup_perm h k k x h.length rfl hk
  rwa [show h.set k x = h from by
    have e : h[k] = x := by
      have := List.getElem?_eq_getElem hk
      rw [hx] at this; exact (Option.some.inj this).symm
    rw [← e]; exact List.set_getElem_self hk] at q
theorem sup_at_heap {h : List It} {k : Nat} {x : It} (hx : h[k]? = some x) (hh : HeapFrom (k + 1) h) : HeapFrom k (sup h h.length k k x) := by
  have hk := lt_of_get hx
  have e0 : h.set k x = h := by
    have e : h[k] = x := by
      have := List.getElem?_eq_getElem hk
      rw [hx] at this; exact (Option.some.inj this).symm
    rw [← e]; exact List.set_getElem_self hk
  refine sup_heap h k k x h.length rfl hk .refl ?_ ?_
  · intro c hc1 hc2 hc0 hcs
    rw [e0]
    exact hh c hc0 (by omega)
  · intro c _ _ h0 hs
    omega
theorem hfy_perm (k : Nat) : ∀ h : List It, (hfy h k).Perm h := by
  induction k with
  | zero => exact fun h => List.Perm.refl _
  | succ k ih =>
    intro h
    unfold hfy
    split
    · rename_i x hx
      exact (ih _).trans (sup_at_perm hx)
    · exact ih h
theorem hfy_heap (k : Nat) : ∀ h : List It, k ≤ h.length → HeapFrom k h → HeapFrom 0 (hfy h k) := by
  induction k with
  | zero => exact fun h _ hh => hh
  | succ k ih =>
    intro h hk hh
    unfold hfy
    split
    · rename_i x hx
      exact ih _ (by rw [(sup_at_perm hx).length_eq]; omega) (sup_at_heap hx hh)
    · rename_i hx
      rw [List.getElem?_eq_getElem (by omega)] at hx
      cases hx
theorem heapify_heap (h : List It) : HeapFrom 0 (hfy h (h.length / 2)) := by
  refine hfy_heap _ h (by omega) ?_
  intro c hc0 hcs x p ex _
  have := lt_of_get ex
  omega
theorem hpush_perm (h : List It) (x : It) : (hpush h x).Perm (h ++ [x]) := by
  have q := sdown_perm (h ++ [x]) 0 h.length x (by simp)
  rwa [show (h ++ [x]).set h.length x = h ++ [x] from by simp] at q
theorem hpush_heap (h : List It) (x : It) (hh : HeapFrom 0 h) : HeapFrom 0 (hpush h x) := by
  have e0 : (h ++ [x]).set h.length x = h ++ [x] := by simp
  refine sdown_heap (h ++ [x]) 0 h.length x (by simp) (.zero _) ?_ ?_
  · intro c hc1 hc0 _
    rw [e0]
    intro y p ey ep
    have hlt := lt_of_get ey
    simp at hlt
    have hc : c < h.length := by omega
    rw [List.getElem?_append_left hc] at ey
    rw [List.getElem?_append_left (by omega)] at ep
    exact hh c hc0 (Nat.zero_le _) y p ey ep
  · rw [e0]
    intro c hc0 hcp _ _ y p ey _
    have hlt := lt_of_get ey
    simp at hlt
    omega
theorem hpop_perm (last : It) (init : List It) : ((hpop last init).1 :: (hpop last init).2).Perm (init ++ [last]) := by
  cases init with
  | nil => exact List.Perm.refl _
  | cons x r =>
    have q := sup_at_perm (h := last :: r) (k := 0) (x := last) rfl
    show (x :: sup (last :: r) (r.length + 1) 0 0 last).Perm (x :: (r ++ [last]))
    exact (q.cons x).trans ((List.perm_append_comm (l₁ := [last]) (l₂ := r)).cons x)
theorem hpop_heap (last : It) (init : List It) (hh : HeapFrom 0 (init ++ [last])) : HeapFrom 0 (hpop last init).2 := by
  cases init with
  | nil =>
    intro c _ _ x p ex _
    simp [hpop] at ex
  | cons x r =>
    refine sup_at_heap (h := last :: r) (k := 0) (x := last) rfl ?_
    intro c hc0 hcs y p ey ep
    have hlt := lt_of_get ey
    simp at hlt
    obtain ⟨c', rfl⟩ : ∃ c', c = c' + 1 := ⟨c - 1, by omega⟩
    obtain ⟨d, hd⟩ : ∃ d, (c' + 1 - 1) / 2 = d + 1 := ⟨(c' + 1 - 1) / 2 - 1, by omega⟩
    rw [hd, List.getElem?_cons_succ] at ep
    rw [List.getElem?_cons_succ] at ey
    refine hh (c' + 1) hc0 (Nat.zero_le _) y p ?_ ?_
    · rw [List.cons_append, List.getElem?_cons_succ, List.getElem?_append_left (by omega)]; exact ey
    · rw [hd, List.cons_append, List.getElem?_cons_succ, List.getElem?_append_left (by omega)]; exact ep
theorem heap_min {h : List It} (hh : HeapFrom 0 h) {t : It} (ht : h[0]? = some t) : ∀ x ∈ h, t.le x := by
  have all : ∀ (c : Nat) (x : It), h[c]? = some x → t.le x := by
    intro c
    induction c using Nat.strongRecOn with
    | _ c ih =>
      intro x hx
      rcases Nat.eq_zero_or_pos c with rfl | hc
      · rw [ht] at hx; cases hx; exact It.le_refl _
      · have hlt := lt_of_get hx
        obtain ⟨p, hp⟩ : ∃ p, h[(c - 1) / 2]? = some p := ⟨_, List.getElem?_eq_getElem (by omega)⟩
        exact It.le_trans (ih _ (by omega) p hp) (hh c hc (Nat.zero_le _) x p hx hp)
  intro x hx
  obtain ⟨c, hc, rfl⟩ := List.getElem_of_mem hx
  exact all c _ (List.getElem?_eq_getElem hc)
theorem hpop_fst (last : It) (init : List It) : (init ++ [last])[0]? = some (hpop last init).1 := by
  cases init <;> rfl
end Mine
end
section
open PySem PySem.W PyProof.Rows PySem.Calls
namespace Mine
/-- a turn's end: I is the iterator, it its object -/
def ForPost (h₀ : Heap) (L I : Addr) (it : Obj) (s : Shared) (J : (Str → Option Value) → Led → Prop) (Q : Flow → Shared → Prop) (f : Flow) (s₂ : Shared) : Prop :=
  match f with
  | .ret v => Q (.ret v) s₂
  | .brk => Q .next s₂
  | _ => ∃ h' tk m' news', s₂ = { s with heap := h', toks := tk } ∧ Fr h₀ L h' m' ∧ News h₀ L h' ((I, it) :: news') ∧ (∀ p ∈ news', p.1 ≠ I) ∧ J m' news'
section
variable {prog : Program} {w : World} {A : Around} {E : Value → Shared → Prop} {s : Shared} {env : Env} {h₀ : Heap} {x : Str} {body : List Stmt} {Q : Flow → Shared → Prop} {m₀ : Str → Option Value} {news : Led}
theorem for_walks {I : Addr} {n : Nat} {P : Nat → Value → Prop} {St : Nat → Heap → Prop} (J : Nat → (Str → Option Value) → Led → Prop) (W : Walks prog w A I [I] [I] n P St)
    (hI : h₀.get? I = none) (hIL : I ≠ env.locals) (hin : ∀ i h, St i h → ∃ o, h.get? I = some o) (hst : St 0 s.heap) (F : Fr h₀ env.locals s.heap m₀) (N : News h₀ env.locals s.heap news) (hnw : ∀ p ∈ news, p.1 ≠ I) (hj : J 0 m₀ news)
    (turn : ∀ i v m₁ news₁ it h tk, i < n → P i v → J i m₁ news₁ → (∀ p ∈ news₁, p.1 ≠ I) → Fr h₀ env.locals h (fun y => if y = x then some v else m₁ y) → News h₀ env.locals h ((I, it) :: news₁) →
      wpAny (model prog w) A (execs body env) (ForPost h₀ env.locals I it s (J (i + 1)) Q) E { s with heap := h, toks := tk })
    (done : ∀ m₁ news₁ h tk, J n m₁ news₁ → Fr h₀ env.locals h m₁ → News h₀ env.locals h news₁ → Q .next { s with heap := h, toks := tk }) :
    LoopAtV prog w A h₀ env x body Q E (.ref I) s := by
  refine ⟨I, _, _, n, P, St, m₀, news, J, rfl, W, fun h => hIL (List.mem_singleton.mp h).symm, fun b hb => (List.mem_singleton.mp hb) ▸ hI, fun p hp h => hnw p hp (List.mem_singleton.mp h), hst, F, N, hj, ?_, ?_⟩
  · rintro i v m₁ news₁ s₁ own ⟨h, tk, rfl⟩ hi hP hJ hoff hown hget hall hst' F₁ N₁
    obtain ⟨o, ho⟩ := hin _ _ hst'
    have hmem : (I, o) ∈ own := hall I (.head _) hI o ho
    have hone : ∀ p ∈ own, p = (I, o) := fun p hp => by
      have e1 := List.mem_singleton.mp (hown p hp)
      have e2 := hget p hp
      rw [e1] at e2
      have := Option.some.inj (e2.symm.trans ho)
      exact Prod.ext e1 this
    have N₂ : News h₀ env.locals h ((I, o) :: news₁) := fun p hp => N₁ p (by
      rcases List.mem_cons.mp hp with rfl | hp
      · exact List.mem_append.mpr (.inl hmem)
      · exact List.mem_append.mpr (.inr hp))
    refine wpAny_mono (turn i v m₁ news₁ o h tk hi hP hJ (fun p hp e => hoff p hp (by rw [e]; exact .head _)) F₁ N₂) (fun f s₂ p => ?_) fun _ _ e => e
    have fin : (∃ h' tk' m' news', s₂ = { s with heap := h', toks := tk' } ∧ Fr h₀ env.locals h' m' ∧ News h₀ env.locals h' ((I, o) :: news') ∧ (∀ p ∈ news', p.1 ≠ I) ∧ J (i + 1) m' news') → LoopStepU h₀ env.locals [I] own (J (i + 1)) { s with heap := h, toks := tk } .next s₂ := by
      rintro ⟨h', tk', m', news', rfl, F', N', hne, hJ'⟩
      refine ⟨rfl, h', tk', m', news', rfl, F', fun p hp => N' p ?_, fun p hp hq => hne p hp (List.mem_singleton.mp hq), hJ'⟩
      rcases List.mem_append.mp hp with hp | hp
      · rw [hone p hp]; exact .head _
      · exact .tail _ hp
    cases f with
    | ret v => exact .ret p
    | brk => exact .brk p
    | next => exact .next (fin p)
    | cont => exact .cont (fin p)
  · rintro h' tk m' news' F' N' _ hJ
    exact done m' news' h' tk hJ F' N'
theorem for_iter {I : Addr} {a c : Int} {n : Nat} (J : Nat → (Str → Option Value) → Led → Prop) (hh : A.handled = none) (hI : h₀.get? I = none) (hIL : I ≠ env.locals) (hst : IsRangeIter s.heap I a n c) (F : Fr h₀ env.locals s.heap m₀) (N : News h₀ env.locals s.heap news) (hnw : ∀ p ∈ news, p.1 ≠ I) (hj : J 0 m₀ news)
    (turn : ∀ (i : Nat) t m₁ news₁ it h tk, i < n → J i m₁ news₁ → (∀ p ∈ news₁, p.1 ≠ I) → Fr h₀ env.locals h (fun y => if y = x then some (.int (a + i * c) t) else m₁ y) → News h₀ env.locals h ((I, it) :: news₁) →
      wpAny (model prog w) A (execs body env) (ForPost h₀ env.locals I it s (J (i + 1)) Q) E { s with heap := h, toks := tk })
    (done : ∀ m₁ news₁ h tk, J n m₁ news₁ → Fr h₀ env.locals h m₁ → News h₀ env.locals h news₁ → Q .next { s with heap := h, toks := tk }) :
    LoopAtV prog w A h₀ env x body Q E (.ref I) s := by
  refine for_walks J (Walks.range hh I a c n) hI hIL (fun i h e => ⟨_, e⟩) ?_ F N hnw hj ?_ done
  · show IsRangeIter _ _ _ _ _
    simpa using hst
  · rintro i v m₁ news₁ it h tk hi ⟨t, rfl⟩ hJ hne F₁ N₁
    exact turn i t m₁ news₁ it h tk hi hJ hne F₁ N₁
theorem fits_small {i : Int} (h1 : -5000 < i) (h2 : i < 5000) : Builtin.Range.rangeFitsLong i = true := by
  unfold Builtin.Range.rangeFitsLong
  simp only [Bool.and_eq_true, decide_eq_true_eq]
  omega
theorem size_up {a b : Int} {n : Nat} (hn : (n : Int) = if a < b then b - a else 0) : Builtin.Range.rangeSize a b 1 = (n : Int) := by
  rw [hn]
  unfold Builtin.Range.rangeSize
  simp
theorem n_small {a b : Int} {n : Nat} (hn : (n : Int) = if a < b then b - a else 0) (ha : -1000 < a ∧ a < 1000) (hb : -1000 < b ∧ b < 1000) : (n : Int) < 2000 := by
  rw [hn]; split <;> omega
theorem small_up {a b : Int} {n : Nat} (hn : (n : Int) = if a < b then b - a else 0) (ha : -1000 < a ∧ a < 1000) (hb : -1000 < b ∧ b < 1000) : Builtin.Range.small a b 1 = true := by
  have hsz := size_up hn
  have hns := n_small hn ha hb
  unfold Builtin.Range.small
  rw [hsz, fits_small (i := a) (by omega) (by omega), fits_small (i := b) (by omega) (by omega), fits_small (i := 1) (by omega) (by omega), fits_small (i := (n : Int)) (by omega) (by omega), if_pos (by omega), fits_small (i := b + (1 - 1)) (by omega) (by omega)]
  simp
/-- for x in range(a, b) -/
theorem for_range {r : Addr} {a b : Int} {t₀ u₀ v₀ : Tok} {n : Nat} (J : Nat → (Str → Option Value) → Led → Prop) (hh : A.handled = none) (hr : IsRange s.heap r a b 1 t₀ u₀ v₀) (hn : (n : Int) = if a < b then b - a else 0) (ha : -1000 < a ∧ a < 1000) (hb : -1000 < b ∧ b < 1000) (F : Fr h₀ env.locals s.heap m₀) (N : News h₀ env.locals s.heap news) (hj : J 0 m₀ news)
    (turn : ∀ (I : Addr) (i : Nat) t m₁ news₁ it h tk, i < n → J i m₁ news₁ → (∀ p ∈ news₁, p.1 ≠ I) → Fr h₀ env.locals h (fun y => if y = x then some (.int (a + i) t) else m₁ y) → News h₀ env.locals h ((I, it) :: news₁) →
      wpAny (model prog w) A (execs body env) (ForPost h₀ env.locals I it s (J (i + 1)) Q) E { s with heap := h, toks := tk })
    (done : ∀ m₁ news₁ h tk, J n m₁ news₁ → Fr h₀ env.locals h m₁ → News h₀ env.locals h news₁ → Q .next { s with heap := h, toks := tk }) :
    wpAny (model prog w) A (pyIter (.ref r)) (fun it s₂ => LoopAtV prog w A h₀ env x body Q E it s₂) E s := by
  have hsz := size_up hn
  have hns := n_small hn ha hb
  refine wpAny_pyIter_range hr ?_ ?_
  · unfold Builtin.Range.small
    rw [hsz, fits_small (i := a) (by omega) (by omega), fits_small (i := b) (by omega) (by omega), fits_small (i := 1) (by omega) (by omega), fits_small (i := (n : Int)) (by omega) (by omega), if_pos (by omega), fits_small (i := b + (1 - 1)) (by omega) (by omega)]
    simp
  · refine for_iter (a := a) (c := 1) (n := n) J hh (next_is_new F) ?_ ?_ (F.push _) (fun p hp => ⟨Heap.get?_push_of_some _ (N p hp).1, (N p hp).2⟩) ?_ hj (fun i t m₁ news₁ it h tk hi hJ hne F₁ N₁ => ?_) done
    · exact fun e => absurd F.ns.lt (e ▸ Nat.lt_irrefl _)
    · have := Heap.get?_push_size s.heap (o := { cls := .type "range_iterator", data := .fields #[rawInt a, rawInt (n : Int), rawInt 1] }) rfl
      rw [hsz]
      exact this
    · exact fun p hp e => absurd (Heap.lt_size (N p hp).1) (e ▸ Nat.lt_irrefl _)
    · rw [Int.mul_one] at F₁
      exact turn _ i t m₁ news₁ it h tk hi hJ hne F₁ N₁
/-- the iterator of reversed(range(a, b)) -/
def revIt (a n : Int) : Obj := { cls := .type "range_iterator", data := .fields #[rawInt (a + (n - 1) * 1), rawInt n, rawInt (-1)] }
theorem range_reversed {r : Addr} {a b : Int} {t₀ u₀ v₀ : Tok} {n : Nat} {Q : Value → Shared → Prop} (hr : IsRange s.heap r a b 1 t₀ u₀ v₀) (hn : (n : Int) = if a < b then b - a else 0) (ha : -1000 < a ∧ a < 1000) (hb : -1000 < b ∧ b < 1000)
    (h : Q (.ref s.heap.objs.size) { s with heap := s.heap.push (revIt a n) }) : wpAny (model prog w) A (call (.builtin "range.__reversed__") [.ref r]) Q E s := by
  have hT : s.TypeIs (.ref r) "range" := ⟨_, hr, rfl⟩
  have hsz := size_up hn
  have hns := n_small hn ha hb
  refine wpAny_call_entry F.slot_range_reversed hT F.entry_range_reversed ?_ (F.args_range_reversed_1 _)
  unfold Builtin.«range.__reversed__»
  refine wpAny_bind (wpAny_of_eq (a := Value.ref r) rfl ?_)
  refine wpAny_bind ?_
  unfold Builtin.Range.rangeFields
  refine wpAny_bind (wpAny_field hr rfl (x := .int a t₀) rfl ?_)
  refine wpAny_bind (wpAny_of_eq (a := some a) rfl ?_)
  refine wpAny_bind (wpAny_field hr rfl (x := .int b u₀) rfl ?_)
  refine wpAny_bind (wpAny_of_eq (a := some b) rfl ?_)
  refine wpAny_bind (wpAny_field hr rfl (x := .int 1 v₀) rfl ?_)
  refine wpAny_bind (wpAny_of_eq (a := some 1) rfl ?_)
  refine wpAny_pure ?_
  dsimp only
  rw [hsz, fits_small (i := a) (by omega) (by omega), fits_small (i := b) (by omega) (by omega), fits_small (i := 1) (by omega) (by omega), fits_small (i := -1) (by omega) (by omega), fits_small (i := a - 1) (by omega) (by omega), fits_small (i := (n : Int)) (by omega) (by omega)]
  simp only [Bool.and_self, Bool.not_true, Bool.false_eq_true, if_false, if_true]
  exact wpAny_bind (wpAny_newObj_type (wpAny_pure ⟨_, rfl, h⟩))
theorem code_rev {r : Addr} {a b : Int} {t₀ u₀ v₀ : Tok} {n : Nat} {Q₁ : Value → Shared → Prop} (hr : IsRange s.heap r a b 1 t₀ u₀ v₀) (hn : (n : Int) = if a < b then b - a else 0) (ha : -1000 < a ∧ a < 1000) (hb : -1000 < b ∧ b < 1000)
    (h : Q₁ (.ref s.heap.objs.size) { s with heap := s.heap.push (revIt a n) }) : codeAny (model prog w) A (.call (.builtin "reversed.__new__") ⟨[.type "reversed", .ref r], []⟩) (wants Q₁ E) s := by
  have hT : s.TypeIs (.ref r) "range" := ⟨_, hr, rfl⟩
  refine codeAny_of_tree ?_
  show wpAny _ A.in1 (do checkBuiltinCall "reversed.__new__" ⟨[.type "reversed", .ref r], []⟩; again (.builtin "reversed.__new__" ⟨[.type "reversed", .ref r], []⟩)) _ _ s
  refine wpAny_bind (wpAny_of_eq (F.newCall_reversed_1 _) (wpAny_pure ⟨plainId_quiet F.plain_reversed_new _, codeAny_builtin F.entry_reversed_new ?_⟩))
  rw [Around.under_plainId F.plain_reversed_new _]
  unfold Builtin.«reversed.__new__»
  refine wpAny_bind (wpAny_of_eq (newClass_reversed _) ?_)
  (try dsimp only)
  refine wpAny_bind (wpAny_of_eq (a := ()) (by first | rfl | kernel_rfl) ?_)
  refine wpAny_bind (wpAny_of_eq (a := ()) (by first | rfl | kernel_rfl) ?_)
  (try dsimp only)
  refine wpAny_bind (wpAny_specialOf hT F.slot_range_reversed.lookup ?_)
  (try dsimp only)
  refine wpAny_bind (wpAny_of_eq (F.slot_range_reversed.bind _) ?_)
  (try dsimp only)
  rw [if_neg (show ¬ ((Value.builtin "range.__reversed__" == Value.none) = true) from Bool.false_ne_true)]
  refine wpAny_bind (wpAny_rule ?_)
  refine wpAny_bind (m := runValue (.call (.builtin "range.__reversed__") ⟨[.ref r], []⟩)) (show wpAny _ _ (call (.builtin "range.__reversed__") [.ref r]) _ _ _ from range_reversed hr hn ha hb ?_)
  first
  | exact wpAny_pure h
  | exact wpAny_bind (wpAny_pure (wpAny_pure h))
theorem sub_ri_reversed : isSubtype (.type "range_iterator") (.type "reversed") = pure false := by rw [isSubtype_type]; kernel_rfl
theorem call_rev {r : Addr} {a b : Int} {t₀ u₀ v₀ : Tok} {n : Nat} {Q : Value → Shared → Prop} (hr : IsRange s.heap r a b 1 t₀ u₀ v₀) (hn : (n : Int) = if a < b then b - a else 0) (ha : -1000 < a ∧ a < 1000) (hb : -1000 < b ∧ b < 1000)
    (h : Q (.ref s.heap.objs.size) { s with heap := s.heap.push (revIt a n) }) : wpAny (model prog w) A (call (.type "reversed") [.ref r]) Q E s := by
  refine callType_other (U := "range_iterator") (Q₁ := fun obj s₁ => obj = .ref s.heap.objs.size ∧ s₁ = { s with heap := s.heap.push (revIt a n) }) (by decide +kernel) F.create_reversed ⟨_, _, F.mro_reversed⟩ F.made_reversed sub_ri_reversed (F.typeCall_reversed_1 _) (code_rev hr hn ha hb ⟨rfl, rfl⟩) ?_
  rintro obj s₁ ⟨rfl, rfl⟩
  exact ⟨⟨_, Heap.get?_push_size _ rfl, rfl⟩, h⟩
/-- for x in reversed(range(a, b)) -/
theorem for_rev {r : Addr} {b : Int} {t₀ u₀ v₀ : Tok} {n : Nat} (J : Nat → (Str → Option Value) → Led → Prop) (hh : A.handled = none) (hr : IsRange s.heap r 0 b 1 t₀ u₀ v₀) (hn : b = (n : Int)) (hb : n < 1000) (F : Fr h₀ env.locals s.heap m₀) (N : News h₀ env.locals s.heap news) (hj : J 0 m₀ news)
    (turn : ∀ (I : Addr) (i : Nat) t m₁ news₁ it h tk, i < n → J i m₁ news₁ → (∀ p ∈ news₁, p.1 ≠ I) → Fr h₀ env.locals h (fun y => if y = x then some (.int ((n - 1 - i : Nat) : Int) t) else m₁ y) → News h₀ env.locals h ((I, it) :: news₁) →
      wpAny (model prog w) A (execs body env) (ForPost h₀ env.locals I it s (J (i + 1)) Q) E { s with heap := h, toks := tk })
    (done : ∀ m₁ news₁ h tk, J n m₁ news₁ → Fr h₀ env.locals h m₁ → News h₀ env.locals h news₁ → Q .next { s with heap := h, toks := tk }) :
    wpAny (model prog w) A (call (.type "reversed") [.ref r]) (fun xv s₁ => wpAny (model prog w) A (pyIter xv) (fun it s₂ => LoopAtV prog w A h₀ env x body Q E it s₂) E s₁) E s := by
  refine call_rev (n := n) hr (by split <;> omega) (by omega) (by omega) ?_
  have hget := Heap.get?_push_size s.heap (o := revIt 0 n) rfl
  refine wpAny_pyIter_rangeiter (x := 0 + ((n : Int) - 1) * 1) (left := n) (step := -1) hget ?_
  refine for_iter (a := (n : Int) - 1) (c := -1) (n := n) J hh (next_is_new F) ?_ ?_ (F.push _) (fun p hp => ⟨Heap.get?_push_of_some _ (N p hp).1, (N p hp).2⟩) ?_ hj (fun i t m₁ news₁ it h tk hi hJ hne F₁ N₁ => ?_) done
  · exact fun e => absurd F.ns.lt (e ▸ Nat.lt_irrefl _)
  · show (s.heap.push (revIt 0 n)).get? s.heap.objs.size = _
    rw [hget]
    unfold revIt
    rw [Int.zero_add, Int.mul_one]
  · exact fun p hp e => absurd (Heap.lt_size (N p hp).1) (e ▸ Nat.lt_irrefl _)
  · rw [show (n : Int) - 1 + (i : Int) * -1 = ((n - 1 - i : Nat) : Int) from by omega] at F₁
    exact turn _ i t m₁ news₁ it h tk hi hJ hne F₁ N₁
end
end Mine
end
section
open PySem PySem.W PyProof.Rows PySem.Calls
namespace Mine
local macro_rules | `(tactic| ktr_unf) => `(tactic| (repeat' (first
  | (k_unfold; (try dsimp only))
  | ((fail_if_success (with_reducible show wpAny _ _ (exec (Stmt.While _ _ _ _) _) _ _ _)); (fail_if_success (with_reducible show wpAny _ _ (exec (Stmt.For _ _ _ _ _) _) _ _ _)); (fail_if_success (with_reducible show wpAny _ _ (call (Value.ref _) _) _ _ _)); (first | walk1 | (dsimp only; walk1)); (try dsimp only at *)))))
theorem vals_app (xs : List It) (x : It) : vals (xs ++ [x]) = vals xs ++ [x.val] := by simp [vals]
theorem hpush_tell {w : World} {mean : ExcName → Option Value} {mg mb : Str → Option Value} (l : Addr) (items : List It) (ep : Nat) (x : It) (hp : items.length < 900) :
    Tell w mean mg mb 21 2 30 [.ref l, x.val] [(l, lo (vals items) ep)] (Items l (items ++ [x])) (fun r own => r = .none ∧ ∃ ep', own = [(l, lo (vals (hpush items x)) ep')]) := by
  refine tell_enter (binds := [(Str.ofString "heap", .ref l), (Str.ofString "item", x.val)]) (by k_is) (by k_is) (fun s => BindsTo.of_eq rfl) (locs rfl) rfl rfl rfl (by decide) Items.keeps ?_ (by decide)
  intro dp un gd outer A₀ base g L s _ hd1 hu1 F N B X T hP
  have hcl := cLine_is
  w_on
  (try k_fold)
  ktr_unf
  rename_i h1 F1 N1
  have N2 : News g L h1 [(l, lo (vals (items ++ [x])) (ep + 1))] := by
    rw [vals_app]; exact N1
  refine len_L (isL N2 (by k_mem)) (by simpa [vals] using (by omega : items.length + 1 < 1000)) ?_
  intro t1 t2
  rw [show (vals (items ++ [x])).length = items.length + 1 from by simp [vals]]
  ktr_unf
  rw [show ((items.length + 1 : Nat) : Int) - 1 = (items.length : Int) from by omega]
  refine sdown_tell l (items ++ [x]) (ep + 1) 0 items.length _ _ x (by simp) (by simpa using (by omega : items.length + 1 < 1000)) _ _ _ _ _ _ _ _ _ _ _ _ _ _ _ _ _ B F1 X N2 T rfl (by omega) (by omega) (fun y hy => ⟨F1.keep _ _ (hP y hy).1, (hP y hy).2⟩) ?_
  rintro r own' h' tk' F4 N4 K4 ⟨rfl, ep4, rfl⟩
  ktr_unf
  exact EndT.intro F4 N4 ⟨rfl, ep4, rfl⟩
theorem hpop_tell {w : World} {mean : ExcName → Option Value} {mg mb : Str → Option Value} (l : Addr) (init : List It) (last : It) (ep : Nat) (hp : init.length < 900) :
    Tell w mean mg mb 28 3 40 [.ref l] [(l, lo (vals (init ++ [last])) ep)] (Items l (init ++ [last])) (fun r own => r = (hpop last init).1.val ∧ ∃ ep', own = [(l, lo (vals (hpop last init).2) ep')]) := by
  refine tell_enter (binds := [(Str.ofString "heap", .ref l)]) (by k_is) (by k_is) (fun s => BindsTo.of_eq rfl) (locs rfl) rfl rfl rfl (by decide) Items.keeps ?_ (by decide)
  intro dp un gd outer A₀ base g L s _ hd1 hu1 F N B X T hP
  have hcl := cLine_is
  rw [vals_app] at N
  w_on
  (try k_fold)
  ktr_unf
  refine pop_L F N (by k_mem) (by simpa [vals] using (by omega : init.length < 1000)) ?_
  intro h1 F1 N1
  rw [setN_one] at N1
  ktr_unf
  · rename_i h2 F2 N2 tk2 he
    have e : init = [] := by simpa [vals] using he
    subst e
    exact EndT.intro F2 N2 ⟨rfl, _, rfl⟩
  · rename_i h2 F2 N2 tk2 he
    cases init with
    | nil => simp [vals] at he
    | cons x r =>
      refine item_Li (j := 0) (isL N2 (by k_mem)) rfl (by rfl) (by omega) ?_
      ktr_unf
      rename_i h3 F4 N3
      have N4 : News g L h3 [(l, lo (vals (last :: r)) (ep + 1))] := N3
      refine sup_tell l (last :: r) (ep + 1) 0 _ last rfl (by simp at hp ⊢; omega) _ _ _ _ _ _ _ _ _ _ _ _ _ _ _ _ _ B F4 X N4 T rfl (by omega) (by omega) (fun y hy => ?_) ?_
      · have hy' : y ∈ x :: r ++ [last] := by
          rcases List.mem_cons.mp hy with q | q
          · exact List.mem_append.mpr (.inr (by rw [q]; exact .head _))
          · exact List.mem_append.mpr (.inl (.tail _ q))
        exact ⟨F4.keep _ _ (hP y hy').1, (hP y hy').2⟩
      · rintro r' own' h' tk' F5 N5 K5 ⟨rfl, ep5, rfl⟩
        ktr_unf
        exact EndT.intro F5 N5 ⟨rfl, ep5, rfl⟩
theorem hfy_tell {w : World} {mean : ExcName → Option Value} {mg mb : Str → Option Value} (l : Addr) (items : List It) (ep : Nat) (hp : items.length < 900) :
    Tell w mean mg mb 35 3 40 [.ref l] [(l, lo (vals items) ep)] (Items l items) (fun r own => r = .none ∧ ∃ ep', own = [(l, lo (vals (hfy items (items.length / 2))) ep')]) := by
  refine tell_enter (binds := [(Str.ofString "x", .ref l)]) (by k_is) (by k_is) (fun s => BindsTo.of_eq rfl) (locs rfl) rfl rfl rfl (by decide) Items.keeps ?_ (by decide)
  intro dp un gd outer A₀ base g L s _ hd1 hu1 F N B X T hP
  have hcl := cLine_is
  w_on
  (try k_fold)
  ktr_unf
  refine len_L (isL N (by k_mem)) (by simpa [vals] using (by omega : items.length < 1000)) ?_
  intro t1 t2
  rw [show (vals items).length = items.length from List.length_map ..]
  ktr_unf
  rename_i h1 F1 N1
  refine For_invV g rfl rfl ?_ ?_ ?_
  ktr_unf
  rename_i h2 tk2 t3 u3 v3 hr F2 N2 hk2
  refine for_rev (n := items.length / 2) (fun i m news => ∃ (h : List It) (ep' : Nat), news = [(l, lo (vals h) ep')] ∧ h.length = items.length ∧ (∀ x ∈ h, x ∈ items) ∧ hfy h (items.length / 2 - i) = hfy items (items.length / 2) ∧ Knows m [(Str.ofString "x", Value.ref l)])
    rfl hr (by rw [Int.fdiv_eq_ediv_of_nonneg _ (by omega)]; omega) (by omega) F2 N2 ⟨items, ep, rfl, rfl, fun _ h => h, rfl, rfl, trivial⟩ ?_ ?_
  · rintro I i t m₁ news₁ it h tk hi ⟨hh, ep', rfl, hlen, hsub, heq, hm⟩ hne F3 N3
    have F4 := fr_knows F3 (ps := [(Str.ofString "i", .int ((items.length / 2 - 1 - i : Nat) : Int) t), (Str.ofString "x", Value.ref l)]) ⟨rfl, hm.1, trivial⟩
    dsimp only [kstB] at F4
    clear F3
    ktr_unf
    obtain ⟨x, hx⟩ : ∃ x, hh[items.length / 2 - 1 - i]? = some x := ⟨_, List.getElem?_eq_getElem (by omega)⟩
    have hpm := sup_at_perm hx
    rw [hlen] at hpm
    refine sup_tell l hh ep' (items.length / 2 - 1 - i) t x hx (by omega) _ _ _ _ _ _ _ _ _ _ _ _ _ _ _ _ _ B F4 X (news_sub N3 (by intro p hp; exact .tail _ hp)) T rfl (by omega) (by omega) (fun y hy => ⟨F4.keep _ _ (hP y (hsub y hy)).1, (hP y (hsub y hy)).2⟩) ?_
    rintro r' own' h' tk' F5 N5 K5 ⟨rfl, ep5, rfl⟩
    ktr_unf
    refine ⟨_, _, _, [(l, lo (vals (sup hh hh.length (items.length / 2 - 1 - i) (items.length / 2 - 1 - i) x)) ep5)], rfl, F5, ?_, ?_, _, ep5, rfl, ?_, ?_, ?_, rfl, trivial⟩
    · refine news_app (a := [(I, it)]) (news_keeps (news_sub N3 (by intro p hp; exact List.mem_singleton.mp hp ▸ .head _)) K5 ?_) N5
      intro p hp q hq
      rw [List.mem_singleton.mp hp, List.mem_singleton.mp hq]
      exact hne _ (.head _)
    · intro p hp
      rw [List.mem_singleton.mp hp]
      exact hne (l, lo (vals hh) ep') (.head _)
    · rw [hlen, hpm.length_eq]; exact hlen
    · intro y hy
      rw [hlen] at hy
      exact hsub y (hpm.mem_iff.mp hy)
    · rw [← heq, show items.length / 2 - i = (items.length / 2 - 1 - i) + 1 from by omega]
      conv => rhs; unfold hfy
      rw [hx, hlen, show items.length / 2 - (i + 1) = items.length / 2 - 1 - i from by omega]
  · rintro m₁ news₁ h tk ⟨hh, ep', rfl, hlen, hsub, heq, hm⟩ F3 N3
    ktr_unf
    rw [Nat.sub_self] at heq
    exact EndT.intro F3 N3 ⟨rfl, ep', by rw [← heq]; rfl⟩
end Mine
end
section
open PySem PySem.W PyProof.Rows PySem.Calls PySem.SeqAt
namespace Mine
local macro_rules | `(tactic| ktr_unf) => `(tactic| (repeat' (first
  | (k_unfold; (try dsimp only))
  | ((fail_if_success (with_reducible show wpAny _ _ (exec (Stmt.While _ _ _ _) _) _ _ _)); (fail_if_success (with_reducible show wpAny _ _ (exec (Stmt.For _ _ _ _ _) _) _ _ _)); (fail_if_success (with_reducible show wpAny _ _ (call (Value.ref _) _) _ _ _)); (first | walk1 | (dsimp only; walk1)); (try dsimp only at *)))))
theorem eq_tup {prog : Program} {w : World} {A : Around} {E : Value → Shared → Prop} {s : Shared} {x : It} {Q : Value → Shared → Prop} (hu : A.units < cLine) (hx : s.heap.get? x.at' = some x.obj) (h : Q (.bool true) s) :
    wpAny (model prog w) A (compareOp .Eq x.val x.val) Q E s := by
  have hT : s.heap.IsTuple x.at' #[.int x.a x.ta, .int x.b x.tb] := ⟨_, hx, rfl, x.ep, rfl⟩
  refine PySem.SeqAt.eq_tupleAt (e := fun _ => true) hT hT hu ?_ ?_
  · intro j h1 h2
    match j, h1 with
    | 0, _ => simpa using EqAt.int_int (A := A.in1) (s := s) x.a x.ta x.a x.ta
    | 1, _ => simpa using EqAt.int_int (A := A.in1) (s := s) x.b x.tb x.b x.tb
  · exact h
theorem off_tell {w : World} {mean : ExcName → Option Value} {mg mb : Str → Option Value} (l : Addr) (init : List It) (last : It) (ep : Nat) (hp : init.length < 900) :
    Tell w mean mg mb 61 4 50 [.ref l] [(l, lo (vals (init ++ [last])) ep)] (Items l (init ++ [last])) (fun r own => r = (hpop last init).1.val ∧ ∃ ep', own = [(l, lo (vals (hpop last init).2) ep')]) := by
  refine tell_enter (binds := [(Str.ofString "heap", .ref l)]) (by k_is) (by k_is) (fun s => BindsTo.of_eq rfl) (locs rfl) rfl rfl rfl (by decide) Items.keeps ?_ (by decide)
  intro dp un gd outer A₀ base g L s _ hd1 hu1 F N B X T hP
  have hcl := cLine_is
  have htop := hpop_fst last init
  have hmem : (hpop last init).1 ∈ init ++ [last] := List.mem_of_getElem? htop
  w_on
  (try k_fold)
  ktr_unf
  refine item_Li (j := 0) (isL N (by k_mem)) rfl (vals_get htop) (by omega) ?_
  ktr_unf
  rename_i h2 F2 N2
  refine hpop_tell l init last ep hp _ _ _ _ _ _ _ _ _ _ _ _ _ _ _ _ _ B F2 X N2 T rfl (by omega) (by omega) (fun y hy => ⟨F2.keep _ _ (hP y hy).1, (hP y hy).2⟩) ?_
  rintro r' own' h' tk' F5 N5 K5 ⟨rfl, ep5, rfl⟩
  ktr_unf
  refine eq_tup (by show un < cLine; omega) (F5.keep _ _ (hP _ hmem).1) ?_
  ktr_unf
  exact EndT.intro F5 N5 ⟨rfl, ep5, rfl⟩
end Mine
end
section
namespace Mine
/-- invitation k is open on day d -/
def Opn (xs : List It) (k d : Nat) : Prop := ∃ x, xs[k]? = some x ∧ x.a ≤ d ∧ (d : Int) ≤ x.b
/-- the invitations as the law builds them -/
def GoodInv (xs : List It) : Prop := ∀ x ∈ xs, 0 ≤ x.a ∧ x.a ≤ x.b ∧ x.b ≤ 10
theorem Opn.lt {xs : List It} {k d : Nat} (hg : GoodInv xs) (h : Opn xs k d) : d < 11 := by
  obtain ⟨x, hx, h1, h2⟩ := h
  have := hg x (List.mem_of_getElem? hx)
  omega
theorem Opn.in {xs : List It} {k d : Nat} (h : Opn xs k d) : k < xs.length := by
  obtain ⟨x, hx, _⟩ := h
  exact lt_of_get hx
/-- a plan: who is visited on a day -/
abbrev Plan := Nat → Option Nat
structure Valid (xs : List It) (D : Plan) : Prop where
  opn : ∀ d k, D d = some k → Opn xs k d
  inj : ∀ d d' k, D d = some k → D d' = some k → d = d'
/-- S is full, and whoever is visited in it can be visited nowhere else -/
def Closed (xs : List It) (D : Plan) (S : Nat → Prop) : Prop := ∀ d, S d → ∃ j, D d = some j ∧ ∀ d', Opn xs j d' → S d'
def Cert (xs : List It) (D : Plan) : Prop := ∃ S : Nat → Prop, Closed xs D S ∧ ∀ k, k < xs.length → (∀ d, D d ≠ some k) → ∀ d, Opn xs k d → S d
def size (D : Plan) : Nat := ((List.range 12).filter fun d => (D d).isSome).length
theorem pigeon {R : Nat → Nat → Prop} (hR : ∀ a b c, R a c → R b c → a = b) : ∀ (l l' : List Nat), l.Nodup → (∀ a ∈ l, ∃ b ∈ l', R a b) → l.length ≤ l'.length
  | [], _, _, _ => Nat.zero_le _
  | a :: l, l', hn, h => by
    obtain ⟨b, hb, hab⟩ := h a (.head _)
    have hn' := List.nodup_cons.mp hn
    have ih := pigeon hR l (l'.erase b) hn'.2 (fun c hc => by
      obtain ⟨e, he, hce⟩ := h c (.tail _ hc)
      refine ⟨e, (List.mem_erase_of_ne ?_).mpr he, hce⟩
      rintro rfl
      exact hn'.1 (hR c a e hce hab ▸ hc))
    rw [List.length_erase_of_mem hb] at ih
    have := List.length_pos_of_mem hb
    simp only [List.length_cons]
    omega
theorem cert_max {xs : List It} {D D' : Plan} (hg : GoodInv xs) (hv : Valid xs D) (hc : Cert xs D) (hv' : Valid xs D') : size D' ≤ size D := by
  obtain ⟨S, hS, hU⟩ := hc
  refine pigeon (R := fun d e => (S d ∧ e = d) ∨ (¬ S d ∧ ¬ S e ∧ ∃ k, D' d = some k ∧ D e = some k)) ?_ _ _ (List.Pairwise.filter _ List.nodup_range) ?_
  · rintro a b c (⟨h1, rfl⟩ | ⟨h1, h2, k, h3, h4⟩) (⟨h5, h6⟩ | ⟨h5, h6, k', h7, h8⟩)
    · exact h6
    · exact absurd h1 h6
    · exact absurd (h6 ▸ h5) h2
    · rw [h4] at h8
      cases h8
      exact hv'.inj a b k h3 h7
  · intro d hd
    rw [List.mem_filter] at hd
    obtain ⟨k, hk⟩ := Option.isSome_iff_exists.mp hd.2
    have ho := hv'.opn d k hk
    by_cases hs : S d
    · obtain ⟨j, hj, _⟩ := hS d hs
      exact ⟨d, List.mem_filter.mpr ⟨hd.1, by rw [hj]; rfl⟩, .inl ⟨hs, rfl⟩⟩
    · have hm : ∃ e, D e = some k := by
        refine Classical.byContradiction fun hn => hs (hU k ho.in (fun e he => hn ⟨e, he⟩) d ho)
      obtain ⟨e, he⟩ := hm
      have hse : ¬ S e := fun h => by
        obtain ⟨j, hj, hall⟩ := hS e h
        rw [he] at hj
        cases hj
        exact hs (hall d ho)
      have := (hv.opn e k he).lt hg
      exact ⟨e, List.mem_filter.mpr ⟨List.mem_range.mpr (by omega), by rw [he]; rfl⟩, .inr ⟨hs, hse, k, hk, he⟩⟩
/-- the end of invitation k -/
def endOf (xs : List It) (k : Nat) : Int := (xs[k]?.map (·.b)).getD 0
theorem endOf_eq {xs : List It} {k : Nat} {x : It} (h : xs[k]? = some x) : endOf xs k = x.b := by simp [endOf, h]
/-- on every day one of those that end first is visited -/
def Greedy (xs : List It) (D : Plan) (t : Nat) : Prop := ∀ j d, d < t → Opn xs j d → (∀ d', d' ≤ d → D d' ≠ some j) → ∃ k, D d = some k ∧ endOf xs k ≤ endOf xs j
theorem greedy_cert {xs : List It} {D : Plan} (hg : GoodInv xs) (hv : Valid xs D) (h : Greedy xs D 12) : Cert xs D := by
  have hb : ∀ k d, Opn xs k d → (d : Int) ≤ endOf xs k := fun k d ⟨x, hx, _, h2⟩ => by rw [endOf_eq hx]; exact h2
  refine ⟨fun d => ∃ u, u < xs.length ∧ (∀ e, D e ≠ some u) ∧ (d : Int) ≤ endOf xs u ∧ ∀ e, d ≤ e → (e : Int) ≤ endOf xs u → ∃ k, D e = some k ∧ endOf xs k ≤ endOf xs u, ?_, ?_⟩
  · rintro d ⟨u, hu, hno, hle, hall⟩
    obtain ⟨k, hk, hku⟩ := hall d (Nat.le_refl _) hle
    refine ⟨k, hk, fun d' ho => ⟨u, hu, hno, Int.le_trans (hb k d' ho) hku, fun e hde heu => ?_⟩⟩
    by_cases hlt : d ≤ e
    · exact hall e hlt heu
    · obtain ⟨x, hx, h1, h2⟩ := ho
      obtain ⟨x', hx', h3, h4⟩ := hv.opn d k hk
      rw [hx] at hx'
      cases hx'
      have hoe : Opn xs k e := ⟨x, hx, by omega, by omega⟩
      have := hoe.lt hg
      obtain ⟨k2, hk2, hle2⟩ := h k e (by omega) hoe (fun d' hd' hc => by
        have := hv.inj d' d k hc hk
        omega)
      exact ⟨k2, hk2, Int.le_trans hle2 hku⟩
  · intro u hu hno d ho
    refine ⟨u, hu, hno, hb u d ho, fun e hde heu => ?_⟩
    obtain ⟨x, hx, h1, h2⟩ := ho
    rw [endOf_eq hx] at heu
    have hoe : Opn xs u e := ⟨x, hx, by omega, heu⟩
    have := hoe.lt hg
    exact h u e (by omega) hoe (fun d' _ => hno d')
theorem same_size {xs : List It} {D D' : Plan} (hg : GoodInv xs) (hv : Valid xs D) (hc : Cert xs D) (hv' : Valid xs D') (hc' : Cert xs D') : size D = size D' :=
  Nat.le_antisymm (cert_max hg hv' hc' hv) (cert_max hg hv hc hv')
/-- one day more is taken -/
def put (D : Plan) (d k : Nat) : Plan := fun e => if e = d then some k else D e
theorem put_self {D : Plan} {d k : Nat} : put D d k d = some k := by simp [put]
theorem put_ne {D : Plan} {d k e : Nat} (h : e ≠ d) : put D d k e = D e := by simp [put, h]
theorem size_one {D D' : Plan} {d : Nat} (hd : d < 12) (h0 : D d = none) (h1 : (D' d).isSome = true) (h2 : ∀ e, e ≠ d → (D' e).isSome = (D e).isSome) : size D' = size D + 1 := by
  have key : ∀ n, ((List.range n).filter fun e => (D' e).isSome).length = ((List.range n).filter fun e => (D e).isSome).length + if d < n then 1 else 0 := by
    intro n
    induction n with
    | zero => rfl
    | succ n ih =>
      rw [List.range_succ, List.filter_append, List.filter_append, List.length_append, List.length_append, ih]
      by_cases e : n = d
      · subst e
        simp [h0, h1]
      · have := h2 n e
        by_cases q : (D n).isSome = true
        · rw [q] at this
          simp only [List.filter_cons, q, this, List.filter_nil, if_true, List.length_singleton]
          split <;> split <;> omega
        · have q' : (D n).isSome = false := by simpa using q
          rw [q'] at this
          simp only [List.filter_cons, q', this, List.filter_nil, Bool.false_eq_true, if_false, List.length_nil]
          split <;> split <;> omega
  have := key 12
  rw [if_pos hd] at this
  exact this
end Mine
end
section
namespace Mine
structure GivenPre (xs : List It) (D : Plan) (seen : List Nat) (k : Nat) : Prop where
  opn : ∀ d j, D d = some j → Opn xs j d
  inj : ∀ d d' j, d ∉ seen → d' ∉ seen → D d = some j → D d' = some j → d = d'
  new : ∀ d, d ∉ seen → D d ≠ some k
structure GivenYes (xs : List It) (D : Plan) (seen : List Nat) (k : Nat) (D' : Plan) : Prop where
  old : ∀ d, d ∈ seen → D' d = D d
  opn : ∀ d j, D' d = some j → Opn xs j d
  inj : ∀ d d' j, d ∉ seen → d' ∉ seen → D' d = some j → D' d' = some j → d = d'
  who : ∀ j, (∃ d, d ∉ seen ∧ D' d = some j) ↔ (∃ d, d ∉ seen ∧ D d = some j) ∨ j = k
  cls : ∀ S, Closed xs D S → (∀ d, S d → D' d = D d) ∧ ¬ (∀ d, Opn xs k d → S d)
  one : ∃ d0, d0 < 12 ∧ D d0 = none ∧ (D' d0).isSome = true ∧ ∀ e, e ≠ d0 → (D' e).isSome = (D e).isSome
structure GivenNo (xs : List It) (D : Plan) (seen : List Nat) (k : Nat) (seen' : List Nat) : Prop where
  sub : ∀ d, d ∈ seen → d ∈ seen'
  own : ∀ d, Opn xs k d → d ∈ seen'
  cls : ∀ d, d ∈ seen' → d ∉ seen → ∃ j, D d = some j ∧ ∀ d', Opn xs j d' → d' ∈ seen'
/-- midway: the days of k below t are seen -/
structure GivenMid (xs : List It) (D : Plan) (seen : List Nat) (k t : Nat) (cur : List Nat) : Prop where
  sub : ∀ d, d ∈ seen → d ∈ cur
  own : ∀ d, d < t → Opn xs k d → d ∈ cur
  cls : ∀ d, d ∈ cur → d ∉ seen → ∃ j, D d = some j ∧ ∀ d', Opn xs j d' → d' ∈ cur
variable {xs : List It} {D D1 : Plan} {seen cur : List Nat} {k j d t : Nat}
theorem yes_free (hg : GoodInv xs) (P : GivenPre xs D seen k) (hd : d ∉ seen) (ho : Opn xs k d) (h0 : D d = none) : GivenYes xs D seen k (put D d k) where
  old := fun e he => put_ne (fun q => hd (q ▸ he))
  opn := fun e i h => by
    by_cases q : e = d
    · subst q; rw [put_self] at h; cases h; exact ho
    · rw [put_ne q] at h; exact P.opn e i h
  inj := fun e e' i he he' h h' => by
    by_cases q : e = d
    · by_cases q' : e' = d
      · rw [q, q']
      · rw [q, put_self] at h; cases h
        rw [put_ne q'] at h'
        exact absurd h' (P.new e' he')
    · rw [put_ne q] at h
      by_cases q' : e' = d
      · rw [q', put_self] at h'; cases h'
        exact absurd h (P.new e he)
      · rw [put_ne q'] at h'
        exact P.inj e e' i he he' h h'
  who := fun i => by
    constructor
    · rintro ⟨e, he, h⟩
      by_cases q : e = d
      · rw [q, put_self] at h; cases h; exact .inr rfl
      · rw [put_ne q] at h; exact .inl ⟨e, he, h⟩
    · rintro (⟨e, he, h⟩ | rfl)
      · exact ⟨e, he, by rw [put_ne (fun q => by rw [q, h0] at h; cases h)]; exact h⟩
      · exact ⟨d, hd, put_self⟩
  cls := fun S hS => by
    have hn : ¬ S d := fun h => by
      obtain ⟨i, hi, _⟩ := hS d h
      rw [h0] at hi; cases hi
    exact ⟨fun e he => put_ne (fun q => hn (q ▸ he)), fun h => hn (h d ho)⟩
  one := ⟨d, by have := ho.lt hg; omega, h0, by rw [put_self]; rfl, fun e he => by rw [put_ne he]⟩
theorem pre_rec (P : GivenPre xs D seen k) (hs : ∀ e, e ∈ seen → e ∈ cur) (hd : d ∉ cur) (hj : D d = some j) : GivenPre xs D (cur ++ [d]) j where
  opn := P.opn
  inj := fun e e' i he he' h h' => P.inj e e' i (fun q => he (List.mem_append.mpr (.inl (hs e q)))) (fun q => he' (List.mem_append.mpr (.inl (hs e' q)))) h h'
  new := fun e he h => by
    have : e = d := P.inj e d j (fun q => he (List.mem_append.mpr (.inl (hs e q)))) (fun q => hd (hs d q)) h hj
    exact he (List.mem_append.mpr (.inr (by rw [this]; exact .head _)))
theorem yes_rec (P : GivenPre xs D seen k) (hs : ∀ e, e ∈ seen → e ∈ cur) (hd : d ∉ cur) (ho : Opn xs k d) (hj : D d = some j) (Y : GivenYes xs D (cur ++ [d]) j D1) : GivenYes xs D seen k (put D1 d k) := by
  have hds : d ∉ seen := fun q => hd (hs d q)
  have hcur : ∀ e, e ∈ cur → e ∈ cur ++ [d] := fun e he => List.mem_append.mpr (.inl he)
  have hdc : d ∈ cur ++ [d] := List.mem_append.mpr (.inr (.head _))
  have hun : ∀ e, e ∉ cur ++ [d] → e ∉ seen := fun e he q => he (hcur e (hs e q))
  have hne : ∀ e, e ∉ cur ++ [d] → e ≠ d := fun e he q => he (q ▸ hdc)
  have hkj : j ≠ k := fun q => P.new d hds (q ▸ hj)
  -- whom D1 holds away from d
  have hD1 : ∀ e i, e ∉ seen → e ≠ d → D1 e = some i → (e ∈ cur ++ [d] ∧ D e = some i) ∨ (e ∉ cur ++ [d] ∧ ((∃ e', e' ∉ cur ++ [d] ∧ D e' = some i) ∨ i = j)) := by
    intro e i he hed h
    by_cases q : e ∈ cur ++ [d]
    · rw [Y.old e q] at h; exact .inl ⟨q, h⟩
    · exact .inr ⟨q, (Y.who i).mp ⟨e, q, h⟩⟩
  have hnk : ∀ e, e ∉ seen → e ≠ d → D1 e ≠ some k := by
    intro e he hed h
    rcases hD1 e k he hed h with ⟨_, h'⟩ | ⟨_, ⟨e', he', h'⟩ | h'⟩
    · exact P.new e he h'
    · exact P.new e' (hun e' he') h'
    · exact hkj h'.symm
  refine ⟨fun e he => ?_, fun e i h => ?_, fun e e' i he he' h h' => ?_, fun i => ⟨?_, ?_⟩, fun S hS => ?_, ?_⟩
  · rw [put_ne (by rintro rfl; exact hds he)]; exact Y.old e (hcur e (hs e he))
  · by_cases q : e = d
    · subst q; rw [put_self] at h; cases h; exact ho
    · rw [put_ne q] at h; exact Y.opn e i h
  · by_cases q : e = d
    · by_cases q' : e' = d
      · rw [q, q']
      · rw [q, put_self] at h; cases h
        rw [put_ne q'] at h'
        exact absurd h' (hnk e' he' q')
    · rw [put_ne q] at h
      by_cases q' : e' = d
      · rw [q', put_self] at h'; cases h'
        exact absurd h (hnk e he q)
      · rw [put_ne q'] at h'
        rcases hD1 e i he q h with ⟨a1, a2⟩ | ⟨a1, a2⟩
        · rcases hD1 e' i he' q' h' with ⟨b1, b2⟩ | ⟨b1, b2⟩
          · exact P.inj e e' i he he' a2 b2
          · rcases b2 with ⟨e3, h3, h4⟩ | rfl
            · exact absurd (P.inj e e3 i he (hun e3 h3) a2 h4 ▸ a1) h3
            · exact absurd (P.inj e d i he hds a2 hj) q
        · rcases hD1 e' i he' q' h' with ⟨b1, b2⟩ | ⟨b1, b2⟩
          · rcases a2 with ⟨e3, h3, h4⟩ | rfl
            · exact absurd (P.inj e' e3 i he' (hun e3 h3) b2 h4 ▸ b1) h3
            · exact absurd (P.inj e' d i he' hds b2 hj) q'
          · exact Y.inj e e' i a1 b1 h h'
  · rintro ⟨e, he, h⟩
    by_cases q : e = d
    · rw [q, put_self] at h; cases h; exact .inr rfl
    · rw [put_ne q] at h
      rcases hD1 e i he q h with ⟨_, h'⟩ | ⟨_, ⟨e', he', h'⟩ | rfl⟩
      · exact .inl ⟨e, he, h'⟩
      · exact .inl ⟨e', hun e' he', h'⟩
      · exact .inl ⟨d, hds, hj⟩
  · rintro (⟨e, he, h⟩ | rfl)
    · by_cases q : e = d
      · rw [q, hj] at h; cases h
        obtain ⟨e3, h3, h4⟩ := (Y.who j).mpr (.inr rfl)
        exact ⟨e3, hun e3 h3, by rw [put_ne (hne e3 h3)]; exact h4⟩
      · by_cases q' : e ∈ cur ++ [d]
        · exact ⟨e, he, by rw [put_ne q, Y.old e q']; exact h⟩
        · obtain ⟨e3, h3, h4⟩ := (Y.who i).mpr (.inl ⟨e, q', h⟩)
          exact ⟨e3, hun e3 h3, by rw [put_ne (hne e3 h3)]; exact h4⟩
    · exact ⟨d, hds, put_self⟩
  · obtain ⟨c1, c2⟩ := Y.cls S hS
    have hn : ¬ S d := fun h => by
      obtain ⟨i, hi, hall⟩ := hS d h
      rw [hj] at hi; cases hi
      exact c2 hall
    exact ⟨fun e he => by rw [put_ne (by rintro rfl; exact hn he)]; exact c1 e he, fun h => hn (h d ho)⟩
  · obtain ⟨d0, h1, h2, h3, h4⟩ := Y.one
    have hdd : d0 ≠ d := fun q => by rw [q, hj] at h2; cases h2
    refine ⟨d0, h1, h2, by rw [put_ne hdd]; exact h3, fun e he => ?_⟩
    by_cases q : e = d
    · subst q; rw [put_self, hj]; rfl
    · rw [put_ne q]; exact h4 e he
theorem mid_zero (h : ∀ d, Opn xs k d → t ≤ d) : GivenMid xs D seen k t seen :=
  ⟨fun _ h => h, fun d hd ho => absurd (h d ho) (by omega), fun d h1 h2 => absurd h1 h2⟩
theorem mid_seen (M : GivenMid xs D seen k t cur) (ht : t ∈ cur) : GivenMid xs D seen k (t + 1) cur :=
  ⟨M.sub, fun d hd ho => by
    rcases Nat.lt_or_ge d t with h | h
    · exact M.own d h ho
    · rw [show d = t from by omega]; exact ht, M.cls⟩
theorem mid_rec {seen' : List Nat} (M : GivenMid xs D seen k t cur) (hj : D t = some j) (N : GivenNo xs D (cur ++ [t]) j seen') : GivenMid xs D seen k (t + 1) seen' := by
  have h1 : ∀ e, e ∈ cur → e ∈ seen' := fun e he => N.sub e (List.mem_append.mpr (.inl he))
  have h2 : t ∈ seen' := N.sub t (List.mem_append.mpr (.inr (.head _)))
  refine ⟨fun d hd => h1 d (M.sub d hd), fun d hd ho => ?_, fun d hd hs => ?_⟩
  · rcases Nat.lt_or_ge d t with h | h
    · exact h1 d (M.own d h ho)
    · rw [show d = t from by omega]; exact h2
  · by_cases q : d ∈ cur ++ [t]
    · rcases List.mem_append.mp q with q | q
      · obtain ⟨i, hi, hall⟩ := M.cls d q hs
        exact ⟨i, hi, fun d' ho => h1 d' (hall d' ho)⟩
      · rw [List.mem_singleton.mp q]
        exact ⟨j, hj, N.own⟩
    · exact N.cls d hd q
theorem mid_end (M : GivenMid xs D seen k t cur) (h : ∀ d, Opn xs k d → d < t) : GivenNo xs D seen k cur :=
  ⟨M.sub, fun d ho => M.own d (h d ho) ho, M.cls⟩
/-- what holds after i invitations have been asked -/
structure MostInv (xs : List It) (D : Plan) (i c : Nat) : Prop where
  val : Valid xs D
  who : ∀ d j, D d = some j → j < i
  cnt : c = size D
  cert : ∃ S, Closed xs D S ∧ ∀ j, j < i → (∀ d, D d ≠ some j) → ∀ d, Opn xs j d → S d
theorem most_pre {i c : Nat} (M : MostInv xs D i c) : GivenPre xs D [] i :=
  ⟨M.val.opn, fun d d' j _ _ h h' => M.val.inj d d' j h h', fun d _ h => absurd (M.who d i h) (Nat.lt_irrefl _)⟩
theorem most_yes {i c : Nat} {D' : Plan} (M : MostInv xs D i c) (Y : GivenYes xs D [] i D') : MostInv xs D' (i + 1) (c + 1) := by
  have hn : ∀ d : Nat, d ∉ ([] : List Nat) := fun d h => nomatch h
  refine ⟨⟨Y.opn, fun d d' j h h' => Y.inj d d' j (hn d) (hn d') h h'⟩, fun d j h => ?_, ?_, ?_⟩
  · rcases (Y.who j).mp ⟨d, hn d, h⟩ with ⟨e, _, he⟩ | h'
    · have := M.who e j he; omega
    · omega
  · obtain ⟨d0, h1, h2, h3, h4⟩ := Y.one
    rw [size_one h1 h2 h3 h4, M.cnt]
  · obtain ⟨S, hS, hU⟩ := M.cert
    obtain ⟨c1, c2⟩ := Y.cls S hS
    refine ⟨S, fun d hd => by rw [c1 d hd]; exact hS d hd, fun j hj hno d ho => ?_⟩
    have hj' : j ≠ i := fun q => by
      obtain ⟨e, _, he⟩ := (Y.who j).mpr (.inr q)
      exact hno e he
    refine hU j (by omega) (fun e he => ?_) d ho
    obtain ⟨e', _, he'⟩ := (Y.who j).mpr (.inl ⟨e, hn e, he⟩)
    exact hno e' he'
theorem most_no {i c : Nat} {seen' : List Nat} (M : MostInv xs D i c) (N : GivenNo xs D [] i seen') : MostInv xs D (i + 1) c := by
  refine ⟨M.val, fun d j h => Nat.lt_succ_of_lt (M.who d j h), M.cnt, ?_⟩
  obtain ⟨S, hS, hU⟩ := M.cert
  refine ⟨fun d => S d ∨ d ∈ seen', ?_, ?_⟩
  · rintro d (hd | hd)
    · obtain ⟨j, hj, hall⟩ := hS d hd
      exact ⟨j, hj, fun d' ho => .inl (hall d' ho)⟩
    · obtain ⟨j, hj, hall⟩ := N.cls d hd (fun h => nomatch h)
      exact ⟨j, hj, fun d' ho => .inr (hall d' ho)⟩
  · intro j hj hno d ho
    by_cases q : j = i
    · subst q; exact .inr (N.own d ho)
    · exact .inl (hU j (by omega) hno d ho)
theorem most_end {c : Nat} (M : MostInv xs D xs.length c) : Cert xs D := by
  obtain ⟨S, hS, hU⟩ := M.cert
  exact ⟨S, hS, hU⟩
theorem most_zero : MostInv xs (fun _ => none) 0 0 :=
  ⟨⟨fun _ _ h => (nomatch h), fun _ _ _ h => (nomatch h)⟩, fun _ _ h => (nomatch h), rfl, fun _ => False, fun _ h => False.elim h, fun _ h => absurd h (Nat.not_lt_zero _)⟩
end Mine
end
section
namespace Mine
structure Edf (xs : List It) (d : Nat) (W O : List It) (D : Plan) : Prop where
  hw : HeapFrom 0 W
  ho : HeapFrom 0 O
  w : ∀ x ∈ W, ∃ (k : Nat) (y : It), x.b = (k : Int) ∧ xs[k]? = some y ∧ x.a = y.a ∧ (d : Int) ≤ y.a
  o : ∀ x ∈ O, ∃ (k : Nat) (y : It), x.b = (k : Int) ∧ xs[k]? = some y ∧ x.a = y.b ∧ y.a ≤ (d : Int)
  nd : ((W ++ O).map (·.b)).Nodup
  nv : ∀ x ∈ W ++ O, ∀ (e k : Nat), D e = some k → x.b ≠ (k : Int)
  all : ∀ (k : Nat) (y : It), xs[k]? = some y → (d : Int) ≤ y.b → (∀ e, D e ≠ some k) → ∃ x ∈ W ++ O, x.b = (k : Int)
  val : Valid xs D
  dom : ∀ e k, D e = some k → e < d
  gr : Greedy xs D d
/-- the visits paid so far -/
structure Vis (V : List It) (D : Plan) : Prop where
  len : V.length = size D
  nd : (V.map (·.b)).Nodup
  mem : ∀ y ∈ V, ∃ (e k : Nat), D e = some k ∧ y.b = (k : Int)
variable {xs W O V : List It} {D : Plan} {d : Nat} {init : List It} {last : It}
theorem edf_start {W0 : List It} (h0 : W0.length = xs.length) (h1 : ∀ (k : Nat) (x : It), W0[k]? = some x → ∃ y, xs[k]? = some y ∧ x.a = y.a ∧ x.b = (k : Int)) (hg : GoodInv xs) (hp : W.Perm W0) (hh : HeapFrom 0 W) : Edf xs 0 W [] (fun _ => none) where
  hw := hh
  ho := fun c _ _ x p h => by simp at h
  w := fun x hx => by
    obtain ⟨k, hk, rfl⟩ := List.getElem_of_mem (hp.mem_iff.mp hx)
    obtain ⟨y, hy, e1, e2⟩ := h1 k _ (List.getElem?_eq_getElem hk)
    exact ⟨k, y, e2, hy, e1, (hg y (List.mem_of_getElem? hy)).1⟩
  o := fun x hx => nomatch hx
  nd := by
    rw [List.append_nil]
    refine (hp.map _).nodup_iff.mpr ?_
    rw [List.nodup_iff_pairwise_ne, List.pairwise_iff_getElem]
    intro i j hi hj hij
    rw [List.length_map] at hi hj
    rw [List.getElem_map, List.getElem_map]
    obtain ⟨_, _, _, e1⟩ := h1 i _ (List.getElem?_eq_getElem hi)
    obtain ⟨_, _, _, e2⟩ := h1 j _ (List.getElem?_eq_getElem hj)
    rw [e1, e2]
    omega
  nv := fun _ _ _ _ h => nomatch h
  all := fun k y hy _ _ => by
    have hk := lt_of_get hy
    obtain ⟨_, _, _, e⟩ := h1 k _ (List.getElem?_eq_getElem (by omega))
    exact ⟨_, List.mem_append.mpr (.inl (hp.mem_iff.mpr (List.getElem_mem (by omega)))), e⟩
  val := ⟨fun _ _ h => (nomatch h), fun _ _ _ h => (nomatch h)⟩
  dom := fun _ _ h => nomatch h
  gr := fun _ _ h => absurd h (Nat.not_lt_zero _)
theorem vis_zero : Vis [] (fun _ => none) := ⟨rfl, List.nodup_nil, fun _ h => nomatch h⟩
theorem edf_move (I : Edf xs d (init ++ [last]) O D) (ht : (hpop last init).1.a = (d : Int)) :
    ∃ (k : Nat) (y : It), (hpop last init).1.b = (k : Int) ∧ xs[k]? = some y ∧ ∀ x' : It, x'.a = y.b → x'.b = (k : Int) → Edf xs d (hpop last init).2 (hpush O x') D := by
  have hpm := hpop_perm last init
  have htm : (hpop last init).1 ∈ init ++ [last] := hpm.mem_iff.mp (.head _)
  obtain ⟨k, y, e1, e2, e3, e4⟩ := I.w _ htm
  refine ⟨k, y, e1, e2, fun x' ha hb => ?_⟩
  have hpp := hpush_perm O x'
  -- the two together
  have hbs : (((hpop last init).2 ++ hpush O x').map (·.b)).Perm (((init ++ [last]) ++ O).map (·.b)) := by
    have q1 : ((hpop last init).2 ++ hpush O x').Perm (x' :: ((hpop last init).2 ++ O)) := by
      refine (List.Perm.append_left _ hpp).trans ?_
      rw [← List.append_assoc]
      exact List.perm_append_comm
    refine (q1.map _).trans ?_
    have q2 : (((hpop last init).1 :: (hpop last init).2) ++ O).Perm ((init ++ [last]) ++ O) := hpm.append_right _
    refine List.Perm.trans ?_ (q2.map _)
    simp only [List.map_cons, List.cons_append]
    rw [hb, e1]
  have hmem : ∀ v, (∃ x ∈ (hpop last init).2 ++ hpush O x', x.b = v) ↔ ∃ x ∈ (init ++ [last]) ++ O, x.b = v := fun v => by
    have := hbs.mem_iff (a := v)
    simpa only [List.mem_map] using this
  refine ⟨hpop_heap last init I.hw, hpush_heap O x' I.ho, fun x hx => I.w x (hpm.mem_iff.mp (.tail _ hx)), fun x hx => ?_, hbs.nodup_iff.mpr I.nd, fun x hx e i hi hc => ?_, fun i z hz hd hn => (hmem _).mpr (I.all i z hz hd hn), I.val, I.dom, I.gr⟩
  · rcases List.mem_append.mp (hpp.mem_iff.mp hx) with h | h
    · exact I.o x h
    · rw [List.mem_singleton.mp h]
      exact ⟨k, y, hb, e2, ha, by omega⟩
  · obtain ⟨x2, hx2, ex2⟩ := (hmem (i : Int)).mp ⟨x, hx, hc⟩
    exact I.nv x2 hx2 e i hi ex2
theorem edf_drop (I : Edf xs d W (init ++ [last]) D) (ht : (hpop last init).1.a < (d : Int)) : Edf xs d W (hpop last init).2 D := by
  have hpm := hpop_perm last init
  have hsub : ∀ x, x ∈ W ++ (hpop last init).2 → x ∈ W ++ (init ++ [last]) := fun x hx => by
    rcases List.mem_append.mp hx with h | h
    · exact List.mem_append.mpr (.inl h)
    · exact List.mem_append.mpr (.inr (hpm.mem_iff.mp (.tail _ h)))
  have hper : ((hpop last init).1 :: (W ++ (hpop last init).2)).Perm (W ++ (init ++ [last])) :=
    (List.perm_middle.symm).trans (hpm.append_left W)
  refine ⟨I.hw, hpop_heap last init I.ho, I.w, fun x hx => I.o x (hpm.mem_iff.mp (.tail _ hx)), ?_, fun x hx => I.nv x (hsub x hx), fun k y hy hd hn => ?_, I.val, I.dom, I.gr⟩
  · have q := (hper.map (·.b)).nodup_iff.mpr I.nd
    rw [List.map_cons, List.nodup_cons] at q
    exact q.2
  · obtain ⟨x, hx, e⟩ := I.all k y hy hd hn
    rcases List.mem_cons.mp (hper.mem_iff.mpr hx) with h | h
    · have htm : (hpop last init).1 ∈ init ++ [last] := hpm.mem_iff.mp (.head _)
      obtain ⟨k2, y2, f1, f2, f3, _⟩ := I.o _ htm
      rw [h, f1] at e
      have : k2 = k := by omega
      rw [this, hy] at f2
      cases f2
      omega
    · exact ⟨x, h, e⟩
theorem edf_visit (I : Edf xs d W (init ++ [last]) D) (hW : ∀ x ∈ W, (d : Int) < x.a) (hO : (d : Int) ≤ (hpop last init).1.a) (hd : d < 12) (H : Vis V D) :
    ∃ (k : Nat), (hpop last init).1.b = (k : Int) ∧ Edf xs (d + 1) W (hpop last init).2 (put D d k) ∧ ∀ x' : It, x'.b = (k : Int) → Vis (V ++ [x']) (put D d k) := by
  have hpm := hpop_perm last init
  have htm : (hpop last init).1 ∈ init ++ [last] := hpm.mem_iff.mp (.head _)
  obtain ⟨k, y, e1, e2, e3, e4⟩ := I.o _ htm
  have hDd : D d = none := by
    cases q : D d with
    | none => rfl
    | some i => exact absurd (I.dom d i q) (Nat.lt_irrefl _)
  have hnk : ∀ e, D e ≠ some k := fun e he => I.nv _ (List.mem_append.mpr (.inr htm)) e k he e1
  have hsub : ∀ x, x ∈ W ++ (hpop last init).2 → x ∈ W ++ (init ++ [last]) := fun x hx => by
    rcases List.mem_append.mp hx with h | h
    · exact List.mem_append.mpr (.inl h)
    · exact List.mem_append.mpr (.inr (hpm.mem_iff.mp (.tail _ h)))
  have hper : ((hpop last init).1 :: (W ++ (hpop last init).2)).Perm (W ++ (init ++ [last])) :=
    (List.perm_middle.symm).trans (hpm.append_left W)
  have hnd := (hper.map (·.b)).nodup_iff.mpr I.nd
  rw [List.map_cons, List.nodup_cons] at hnd
  have hmin := heap_min I.ho (hpop_fst last init)
  refine ⟨k, e1, ⟨I.hw, hpop_heap last init I.ho, fun x hx => ?_, fun x hx => ?_, hnd.2, fun x hx e i hi hc => ?_, fun i z hz hdz hn => ?_, ⟨fun e i hi => ?_, fun e e' i hi hi' => ?_⟩, fun e i hi => ?_, ?_⟩, fun x' hb => ⟨?_, ?_, ?_⟩⟩
  · obtain ⟨k2, y2, f1, f2, f3, f4⟩ := I.w x hx
    have := hW x hx
    exact ⟨k2, y2, f1, f2, f3, by omega⟩
  · obtain ⟨k2, y2, f1, f2, f3, f4⟩ := I.o x (hpm.mem_iff.mp (.tail _ hx))
    exact ⟨k2, y2, f1, f2, f3, by omega⟩
  · by_cases q : e = d
    · rw [q, put_self] at hi
      cases hi
      exact hnd.1 (List.mem_map.mpr ⟨x, hx, by rw [hc, e1]⟩)
    · rw [put_ne q] at hi
      exact I.nv x (hsub x hx) e i hi hc
  · have hn' : ∀ e, D e ≠ some i := fun e he => by
      have q : e ≠ d := fun q => by rw [q, hDd] at he; cases he
      exact hn e (by rw [put_ne q]; exact he)
    obtain ⟨x, hx, e⟩ := I.all i z hz (by omega) hn'
    rcases List.mem_cons.mp (hper.mem_iff.mpr hx) with h | h
    · rw [h, e1] at e
      have : k = i := by omega
      exact absurd (by rw [put_self, this]) (hn d)
    · exact ⟨x, h, e⟩
  · by_cases q : e = d
    · subst q
      rw [put_self] at hi
      cases hi
      exact ⟨y, e2, e4, by omega⟩
    · rw [put_ne q] at hi
      exact I.val.opn e i hi
  · by_cases q : e = d
    · by_cases q' : e' = d
      · rw [q, q']
      · rw [q, put_self] at hi
        cases hi
        rw [put_ne q'] at hi'
        exact absurd hi' (hnk e')
    · rw [put_ne q] at hi
      by_cases q' : e' = d
      · rw [q', put_self] at hi'
        cases hi'
        exact absurd hi (hnk e)
      · rw [put_ne q'] at hi'
        exact I.val.inj e e' i hi hi'
  · by_cases q : e = d
    · omega
    · rw [put_ne q] at hi
      have := I.dom e i hi
      omega
  · intro j e he ho hn
    by_cases q : e = d
    · subst q
      refine ⟨k, put_self, ?_⟩
      obtain ⟨z, hz, z1, z2⟩ := ho
      have hn' : ∀ e', D e' ≠ some j := fun e' he' => by
        have := I.dom e' j he'
        exact hn e' (by omega) (by rw [put_ne (by omega)]; exact he')
      obtain ⟨x, hx, ex⟩ := I.all j z hz z2 hn'
      rcases List.mem_append.mp hx with h | h
      · obtain ⟨k2, y2, f1, f2, f3, f4⟩ := I.w x h
        have := hW x h
        have : k2 = j := by omega
        rw [this, hz] at f2
        cases f2
        omega
      · obtain ⟨k2, y2, f1, f2, f3, f4⟩ := I.o x h
        have : k2 = j := by omega
        rw [this, hz] at f2
        cases f2
        have := hmin x h
        rw [It.le_iff] at this
        rw [endOf_eq e2, endOf_eq hz]
        omega
    · obtain ⟨k2, h1, h2⟩ := I.gr j e (by omega) ho (fun d' hd' hc => hn d' hd' (by rw [put_ne (by omega)]; exact hc))
      exact ⟨k2, by rw [put_ne q]; exact h1, h2⟩
  · rw [List.length_append, H.len, size_one (D := D) (D' := put D d k) hd hDd (by rw [put_self]; rfl) (fun e he => by rw [put_ne he])]
    rfl
  · rw [List.map_append, List.nodup_append]
    refine ⟨H.nd, by simp, ?_⟩
    intro a ha b hb' hab
    obtain ⟨v, hv, rfl⟩ := List.mem_map.mp ha
    simp only [List.map_cons, List.map_nil, List.mem_singleton] at hb'
    obtain ⟨e, i, hi, ei⟩ := H.mem v hv
    rw [hb', hb, ei] at hab
    have : i = k := by omega
    exact hnk e (by rw [hi, this])
  · intro v hv
    rcases List.mem_append.mp hv with h | h
    · obtain ⟨e, i, hi, ei⟩ := H.mem v h
      have q : e ≠ d := fun q => by rw [q, hDd] at hi; cases hi
      exact ⟨e, i, by rw [put_ne q]; exact hi, ei⟩
    · rw [List.mem_singleton.mp h]
      exact ⟨d, k, put_self, hb⟩
theorem edf_rest (I : Edf xs d W [] D) (hW : ∀ x ∈ W, (d : Int) < x.a) : Edf xs (d + 1) W [] D := by
  refine ⟨I.hw, I.ho, fun x hx => ?_, fun x hx => (nomatch hx), I.nd, I.nv, fun k y hy hd hn => I.all k y hy (by omega) hn, I.val, fun e k h => Nat.lt_succ_of_lt (I.dom e k h), ?_⟩
  · obtain ⟨k2, y2, f1, f2, f3, f4⟩ := I.w x hx
    have := hW x hx
    exact ⟨k2, y2, f1, f2, f3, by omega⟩
  · intro j e he ho hn
    by_cases q : e = d
    · subst q
      obtain ⟨z, hz, z1, z2⟩ := ho
      have hn' : ∀ e', D e' ≠ some j := fun e' he' => hn e' (by have := I.dom e' j he'; omega) he'
      obtain ⟨x, hx, ex⟩ := I.all j z hz z2 hn'
      rw [List.append_nil] at hx
      obtain ⟨k2, y2, f1, f2, f3, f4⟩ := I.w x hx
      have := hW x hx
      have : k2 = j := by omega
      rw [this, hz] at f2
      cases f2
      omega
    · exact I.gr j e (by omega) ho hn
end Mine
end
section
open PySem PySem.W PyProof.Rows PySem.Calls PySem.SeqAt
namespace Mine
local macro_rules | `(tactic| ktr_unf) => `(tactic| (repeat' (first
  | (k_unfold; (try dsimp only))
  | ((fail_if_success (with_reducible show wpAny _ _ (exec (Stmt.While _ _ _ _) _) _ _ _)); (fail_if_success (with_reducible show wpAny _ _ (exec (Stmt.For _ _ _ _ _) _) _ _ _)); (fail_if_success (with_reducible show wpAny _ _ (call (Value.ref _) _) _ _ _)); (fail_if_success (with_reducible show wpAny _ _ (pyIter _) _ _ _)); (first | walk1 | (dsimp only; walk1)); (try dsimp only at *)))))
/-- the invitations stand on the heap -/
def InvAt (li : Addr) (xs : List It) (ei : Nat) (h : Heap) : Prop := h.get? li = some (lo (vals xs) ei) ∧ ∀ x ∈ xs, h.get? x.at' = some x.obj
def OffInv (li : Addr) (xs : List It) (b : Addr) : Prop := b ≠ li ∧ ∀ x ∈ xs, b ≠ x.at'
theorem InvAt.keeps {li : Addr} {xs : List It} {ei : Nat} {own : Led} (ho : ∀ p ∈ own, OffInv li xs p.1) (h h' : Heap) (k : ∀ b o', h.get? b = some o' → (∀ p ∈ own, p.1 ≠ b) → h'.get? b = some o') (H : InvAt li xs ei h) : InvAt li xs ei h' :=
  ⟨k _ _ H.1 (fun p hp => (ho p hp).1), fun x hx => k _ _ (H.2 x hx) (fun p hp => (ho p hp).2 x hx)⟩
theorem InvAt.fr {li : Addr} {xs : List It} {ei : Nat} {g h : Heap} {L : Addr} {m : Str → Option Value} (H : InvAt li xs ei g) (F : Fr g L h m) : InvAt li xs ei h :=
  ⟨F.keep _ _ H.1, fun x hx => F.keep _ _ (H.2 x hx)⟩
theorem InvAt.list {li : Addr} {xs : List It} {ei : Nat} {h : Heap} (H : InvAt li xs ei h) : h.IsList li (vals xs).toArray := ⟨_, H.1, rfl, ei, rfl⟩
section
variable {prog : Program} {w : World} {A : Around} {E : Value → Shared → Prop} {s : Shared}
theorem item_T0 {x : It} {u : Tok} {value slice : PySem.Expr} {Q : Value → Shared → Prop} (hx : s.heap.get? x.at' = some x.obj) (h : Q (.int x.a x.ta) s)
    (hs : subscripted slice false (.ref x.at') (.int 0 u) = operate [.ref x.at', .int 0 u] (getItem (.ref x.at') (.int 0 u)) := by with_unfolding_all rfl) :
    wpAny (model prog w) A (subscriptTail value slice (.ref x.at') (.int 0 u)) Q E s :=
  item_tupleT (l := [.int x.a x.ta, .int x.b x.tb]) ⟨_, hx, rfl, x.ep, rfl⟩ (by omega) (by omega) (j := 0) rfl rfl h hs
theorem item_T1 {x : It} {u : Tok} {value slice : PySem.Expr} {Q : Value → Shared → Prop} (hx : s.heap.get? x.at' = some x.obj) (h : Q (.int x.b x.tb) s)
    (hs : subscripted slice false (.ref x.at') (.int 1 u) = operate [.ref x.at', .int 1 u] (getItem (.ref x.at') (.int 1 u)) := by with_unfolding_all rfl) :
    wpAny (model prog w) A (subscriptTail value slice (.ref x.at') (.int 1 u)) Q E s :=
  item_tupleT (l := [.int x.a x.ta, .int x.b x.tb]) ⟨_, hx, rfl, x.ep, rfl⟩ (by omega) (by omega) (j := 1) rfl rfl h hs
end
/-- the values are these numbers -/
def NumsAre : List Value → List Nat → Prop
  | [], [] => True
  | v :: vs, n :: ns => (∃ t, v = .int (n : Int) t) ∧ NumsAre vs ns
  | _, _ => False
theorem NumsAre.app {n : Nat} {t : Tok} : ∀ {vs : List Value} {ns : List Nat}, NumsAre vs ns → NumsAre (vs ++ [.int (n : Int) t]) (ns ++ [n])
  | [], [], _ => ⟨⟨t, rfl⟩, trivial⟩
  | _ :: _, _ :: _, h => ⟨h.1, NumsAre.app h.2⟩
theorem NumsAre.len : ∀ {vs : List Value} {ns : List Nat}, NumsAre vs ns → vs.length = ns.length
  | [], [], _ => rfl
  | _ :: _, _ :: _, h => by simp [NumsAre.len h.2]
def isNum (d : Nat) : Value → Bool
  | .int n _ => n == (d : Int)
  | _ => false
theorem NumsAre.any {d : Nat} : ∀ {vs : List Value} {ns : List Nat}, NumsAre vs ns → vs.any (isNum d) = decide (d ∈ ns)
  | [], [], _ => by simp
  | _ :: _, m :: ns, h => by
    obtain ⟨⟨t, rfl⟩, hr⟩ := h
    rw [List.any_cons, NumsAre.any hr]
    simp only [isNum, List.mem_cons]
    by_cases q : d = m
    · simp [q]
    · have : ((m : Int) == (d : Int)) = false := by simp; omega
      simp [this, q]
theorem NumsAre.mem : ∀ {vs : List Value} {ns : List Nat}, NumsAre vs ns → ∀ v ∈ vs, ∃ n t, v = .int (n : Nat) t
  | _ :: _, m :: _, h, _, .head _ => let ⟨t, e⟩ := h.1; ⟨m, t, e⟩
  | _ :: _, _ :: _, h, _, .tail _ hv => NumsAre.mem h.2 _ hv
theorem notIn_nums {prog : Program} {w : World} {A : Around} {E : Value → Shared → Prop} {s : Shared} {l : Addr} {vs : List Value} {ns : List Nat} {d : Nat} {t : Tok} {Q : Value → Shared → Prop} (hl : s.heap.IsList l vs.toArray) (hn : NumsAre vs ns) (h : Q (.bool (!decide (d ∈ ns))) s) :
    wpAny (model prog w) A (compareOp .NotIn (.int (d : Int) t) (.ref l)) Q E s := by
  refine notIn_listAt (isNum d) hl (fun y hy => ?_) ?_
  · obtain ⟨n, t', rfl⟩ := hn.mem y (by simpa using hy)
    exact EqAt.int_int _ _ _ _
  · rw [List.any_toArray, hn.any]; exact h
/-- the days' list tells the plan -/
def DaysAre (dv : List Value) (D : Plan) : Prop := dv.length = 12 ∧ ∀ d, d < 12 → (D d = none → dv[d]? = some .none) ∧ ∀ j, D d = some j → ∃ t, dv[d]? = some (.int (j : Int) t)
theorem DaysAre.put {dv : List Value} {D : Plan} {d k : Nat} {t : Tok} (h : DaysAre dv D) (hd : d < 12) : DaysAre (dv.set d (.int (k : Int) t)) (put D d k) := by
  refine ⟨by rw [List.length_set]; exact h.1, fun e he => ⟨fun h0 => ?_, fun j hj => ?_⟩⟩
  · have q : e ≠ d := fun q => by rw [q, put_self] at h0; cases h0
    rw [put_ne q] at h0
    rw [List.getElem?_set_ne (Ne.symm q)]
    exact (h.2 e he).1 h0
  · by_cases q : e = d
    · subst q
      rw [put_self] at hj
      cases hj
      exact ⟨t, List.getElem?_set_self (by rw [h.1]; exact hd)⟩
    · rw [put_ne q] at hj
      obtain ⟨t', ht⟩ := (h.2 e he).2 j hj
      exact ⟨t', by rw [List.getElem?_set_ne (Ne.symm q)]; exact ht⟩
def GivenPost (xs : List It) (D : Plan) (seen : List Nat) (k : Nat) (ld ls : Addr) (dv : List Value) (r : Value) (own : Led) : Prop :=
  (r = .bool true ∧ ∃ D' dv' sv' e1 e2, own = [(ld, lo dv' e1), (ls, lo sv' e2)] ∧ DaysAre dv' D' ∧ GivenYes xs D seen k D') ∨
  (r = .bool false ∧ ∃ seen' sv' e1 e2, own = [(ld, lo dv e1), (ls, lo sv' e2)] ∧ NumsAre sv' seen' ∧ seen'.Nodup ∧ (∀ d, d ∈ seen' → d < 12) ∧ GivenNo xs D seen k seen')
theorem nodup_le {l : List Nat} {n : Nat} (h : l.Nodup) (hl : ∀ d, d ∈ l → d < n) : l.length ≤ n := by
  have := pigeon (R := Eq) (fun _ _ _ h1 h2 => h1.trans h2.symm) l (List.range n) h (fun a ha => ⟨a, List.mem_range.mpr (hl a ha), rfl⟩)
  rwa [List.length_range] at this
theorem nodup_sub {l l' : List Nat} (h : l.Nodup) (hl : ∀ d, d ∈ l → d ∈ l') : l.length ≤ l'.length :=
  pigeon (R := Eq) (fun _ _ _ h1 h2 => h1.trans h2.symm) l l' h (fun a ha => ⟨a, hl a ha, rfl⟩)
theorem given_tell {w : World} {mean : ExcName → Option Value} {mg mb : Str → Option Value} (li ld ls : Addr) (xs : List It) (ei : Nat) (hg : GoodInv xs) (hxl : xs.length < 900) (hld : OffInv li xs ld) (hls : OffInv li xs ls) (hdl : ld ≠ ls) (f : Nat) :
    ∀ (seen : List Nat) (D : Plan) (k e1 e2 : Nat) (tk : Tok) (dv sv : List Value), 12 ≤ seen.length + f → seen.Nodup → (∀ d, d ∈ seen → d < 12) → k < xs.length → GivenPre xs D seen k → DaysAre dv D → NumsAre sv seen →
    Tell w mean mg mb 73 (f + 1) (30 + 5 * f) [.ref li, .int k tk, .ref ld, .ref ls] [(ld, lo dv e1), (ls, lo sv e2)] (InvAt li xs ei) (GivenPost xs D seen k ld ls dv) := by
  induction f using Nat.strongRecOn with
  | _ f ih =>
  intro seen D k e1 e2 tk dv sv hf hnd hlt hk P hdv hsv
  refine tell_enter (binds := [(Str.ofString "invitations", .ref li), (Str.ofString "k", .int k tk), (Str.ofString "days", .ref ld), (Str.ofString "seen", .ref ls)]) (by k_is) (by k_is) (fun s => BindsTo.of_eq rfl) (locs rfl) rfl rfl rfl (by decide) (InvAt.keeps (by
    intro p hp
    rcases List.mem_cons.mp hp with rfl | hp
    · exact hld
    · rw [List.mem_singleton.mp hp]; exact hls)) ?_ (by omega)
  intro dp un gd outer A₀ base g L s _ hd1 hu1 F N B X T hP
  have hcl := cLine_is
  obtain ⟨x, hx⟩ : ∃ x, xs[k]? = some x := ⟨_, List.getElem?_eq_getElem hk⟩
  have hxm : x ∈ xs := List.mem_of_getElem? hx
  have hxg := hg x hxm
  have hopn : ∀ d : Nat, Opn xs k d ↔ x.a ≤ d ∧ (d : Int) ≤ x.b := fun d => ⟨fun ⟨y, hy, h1, h2⟩ => by rw [hx] at hy; cases hy; exact ⟨h1, h2⟩, fun h => ⟨x, hx, h.1, h.2⟩⟩
  obtain ⟨sa, hsa⟩ : ∃ sa : Nat, x.a = (sa : Int) := ⟨x.a.toNat, by omega⟩
  w_on
  (try k_fold)
  ktr_unf
  refine For_invV g rfl rfl ?_ (by intro _; rfl) (by exact fun _ _ h => h.elim)
  ktr_unf
  refine item_L (hP.fr F).list (vals_get hx) (by omega) ?_
  ktr_unf
  refine item_T0 ((hP.fr F).2 x hxm) ?_
  ktr_unf
  refine item_L (hP.fr F).list (vals_get hx) (by omega) ?_
  ktr_unf
  refine item_T1 ((hP.fr F).2 x hxm) ?_
  ktr_unf
  rename_i h1 tk1 t1 u1 v1 R1 F1 N1 K1
  refine for_range (n := (x.b + 1 - x.a).toNat) (fun i m news => ∃ (cur : List Nat) (sv' : List Value) (e1' e2' : Nat), news = [(ld, lo dv e1'), (ls, lo sv' e2')] ∧ NumsAre sv' cur ∧ cur.Nodup ∧ (∀ d, d ∈ cur → d < 12) ∧ seen.length ≤ cur.length ∧ GivenMid xs D seen k (sa + i) cur ∧
      Knows m [(Str.ofString "invitations", .ref li), (Str.ofString "k", .int k tk), (Str.ofString "days", .ref ld), (Str.ofString "seen", .ref ls)])
    rfl R1 (by split <;> omega) (by omega) (by omega) F1 N1 ⟨seen, sv, e1, e2, rfl, hsv, hnd, hlt, Nat.le_refl _, mid_zero (fun d ho => by have := (hopn d).mp ho; omega), rfl, rfl, rfl, rfl, trivial⟩ ?_ ?_
  · rintro I i t m₁ news₁ it h tk' hi ⟨cur, sv', e1', e2', rfl, hsv', hnd', hlt', hlen', M, hm⟩ hne F2 N2
    have F3 := fr_knows F2 (kcons (x := Str.ofString "day") (v := .int ((sa + i : Nat) : Int) t) (by rw [hsa]; rfl) (ps := [(Str.ofString "invitations", .ref li), (Str.ofString "k", .int k tk), (Str.ofString "days", .ref ld), (Str.ofString "seen", .ref ls)]) ⟨hm.1, hm.2.1, hm.2.2.1, hm.2.2.2.1, trivial⟩)
    dsimp only [kstB] at F3
    clear F2 hm
    have hod : Opn xs k (sa + i) := (hopn _).mpr ⟨by omega, by omega⟩
    ktr_unf
    refine notIn_nums (isL N2 (by k_mem)) hsv' ?_
    by_cases hc : sa + i ∈ cur
    · rw [show (!decide (sa + i ∈ cur)) = false from by simp [hc]]
      ktr_unf
      exact ⟨_, _, _, [(ld, lo dv e1'), (ls, lo sv' e2')], rfl, F3, N2, hne, cur, sv', e1', e2', rfl, hsv', hnd', hlt', hlen', mid_seen M hc, rfl, rfl, rfl, rfl, trivial⟩
    · rw [show (!decide (sa + i ∈ cur)) = true from by simp [hc]]
      ktr_unf
      have hIs : I ≠ ls := Ne.symm (hne (ls, lo sv' e2') (.tail _ (.head _)))
      have hId : I ≠ ld := Ne.symm (hne (ld, lo dv e1') (.head _))
      have h12 : sa + i < 12 := by have := hod.lt hg; omega
      have hnds : sa + i ∉ seen := fun q => hc (M.sub _ q)
      have hcl1 : (cur ++ [sa + i]).Nodup := by
        rw [List.nodup_append]
        refine ⟨hnd', by simp, fun a ha b hb hab => ?_⟩
        rw [List.mem_singleton] at hb
        exact hc (hb ▸ hab ▸ ha)
      have hcl2 : ∀ d, d ∈ cur ++ [sa + i] → d < 12 := fun d hd => by
        rcases List.mem_append.mp hd with h' | h'
        · exact hlt' d h'
        · rw [List.mem_singleton.mp h']; exact h12
      have hcl3 := nodup_le hcl1 hcl2
      rw [List.length_append, List.length_singleton] at hcl3
      refine append_L F3 N2 (by k_mem) (by rw [hsv'.len]; omega) ?_
      intro h4 F4 N4
      rw [show setN ls (lo (sv' ++ [.int ((sa + i : Nat) : Int) t]) (e2' + 1)) [(I, it), (ld, lo dv e1'), (ls, lo sv' e2')] = [(I, it), (ld, lo dv e1'), (ls, lo (sv' ++ [.int ((sa + i : Nat) : Int) t]) (e2' + 1))] from by simp [setN, hIs, hdl]] at N4
      have hsv4 : NumsAre (sv' ++ [.int ((sa + i : Nat) : Int) t]) (cur ++ [sa + i]) := hsv'.app
      generalize sv' ++ [.int ((sa + i : Nat) : Int) t] = sv4 at N4 hsv4
      ktr_unf
      cases hD : D (sa + i) with
      | none =>
        refine item_L (isL N4 (by k_mem)) ((hdv.2 _ h12).1 hD) (by omega) ?_
        ktr_unf
        refine set_L F4 N4 (by k_mem) (by rw [hdv.1]; exact h12) (by omega) ?_
        intro h5 F5 N5
        rw [show setN ld (lo (dv.set (sa + i) (.int (k : Int) tk)) e1') [(I, it), (ld, lo dv e1'), (ls, lo sv4 (e2' + 1))] = [(I, it), (ld, lo (dv.set (sa + i) (.int (k : Int) tk)) e1'), (ls, lo sv4 (e2' + 1))] from by simp [setN, hId, Ne.symm hdl]] at N5
        ktr_unf
        dsimp only [ForPost]
        refine EndT.intro F5 (news_sub N5 (by intro p hp; exact .tail _ hp)) (.inl ⟨rfl, put D (sa + i) k, _, sv4, e1', e2' + 1, rfl, hdv.put h12, yes_free hg P hnds hod hD⟩)
      | some j =>
        obtain ⟨tj, htj⟩ := (hdv.2 _ h12).2 j hD
        refine item_L (isL N4 (by k_mem)) htj (by omega) ?_
        ktr_unf
        refine item_L (isL N4 (by k_mem)) htj (by omega) ?_
        ktr_unf
        refine ih (f - 1) (by omega) (cur ++ [sa + i]) D j e1' (e2' + 1) tj dv sv4 (by rw [List.length_append, List.length_singleton]; omega) hcl1 hcl2 (P.opn _ j hD).in (pre_rec P M.sub hc hD) hdv hsv4 _ _ _ _ _ _ _ _ _ _ _ _ _ _ _ _ _ B F4 X (news_sub N4 (by intro p hp; exact .tail _ hp)) T rfl (by omega) (by omega) (hP.fr F4) ?_
        rintro r own' h6 tk6 F6 N6 K6 hpost
        have N7 : News g L h6 [(I, it)] := news_keeps (news_sub N4 (by intro p hp; exact List.mem_singleton.mp hp ▸ .head _)) K6 (by
          intro p hp q hq
          rw [List.mem_singleton.mp hp]
          rcases List.mem_cons.mp hq with rfl | hq
          · exact Ne.symm hId
          · rw [List.mem_singleton.mp hq]; exact Ne.symm hIs)
        rcases hpost with ⟨rfl, D1, dv1, sv1, e11, e21, rfl, hdv1, Y⟩ | ⟨rfl, seen1, sv1, e11, e21, rfl, hsv1, hnd1, hlt1, No⟩
        · have N8 := news_app N7 N6
          ktr_unf
          refine set_L F6 N8 (by k_mem) (by rw [hdv1.1]; exact h12) (by omega) ?_
          intro h9 F9 N9
          rw [show setN ld (lo (dv1.set (sa + i) (.int (k : Int) tk)) e11) ([(I, it)] ++ [(ld, lo dv1 e11), (ls, lo sv1 e21)]) = [(I, it), (ld, lo (dv1.set (sa + i) (.int (k : Int) tk)) e11), (ls, lo sv1 e21)] from by simp [setN, hId, Ne.symm hdl]] at N9
          ktr_unf
          dsimp only [ForPost]
          refine EndT.intro F9 (news_sub N9 (by intro p hp; exact .tail _ hp)) (.inl ⟨rfl, put D1 (sa + i) k, _, sv1, e11, e21, rfl, hdv1.put h12, yes_rec P M.sub hc hod hD Y⟩)
        · have N8 := news_app N7 N6
          ktr_unf
          have hlen1 := nodup_sub hcl1 No.sub
          rw [List.length_append] at hlen1
          refine ⟨_, _, _, [(ld, lo dv e11), (ls, lo sv1 e21)], rfl, F6, N8, ?_, seen1, sv1, e11, e21, rfl, hsv1, hnd1, hlt1, by omega, mid_rec M hD No, rfl, rfl, rfl, rfl, trivial⟩
          · intro p hp
            rcases List.mem_cons.mp hp with rfl | hp
            · exact Ne.symm hId
            · rw [List.mem_singleton.mp hp]; exact Ne.symm hIs
  · rintro m₁ news₁ h tk' ⟨cur, sv', e1', e2', rfl, hsv', hnd', hlt', hlen', M, hm⟩ F2 N2
    ktr_unf
    refine EndT.intro F2 N2 (.inr ⟨rfl, cur, sv', e1', e2', rfl, hsv', hnd', hlt', mid_end M (fun d ho => ?_)⟩)
    have := (hopn d).mp ho
    omega
end Mine
end
section
open PySem PySem.W PyProof.Rows PySem.Calls PySem.SeqAt
namespace Mine
local macro_rules | `(tactic| ktr_unf) => `(tactic| (repeat' (first
  | (k_unfold; (try dsimp only))
  | ((fail_if_success (with_reducible show wpAny _ _ (exec (Stmt.While _ _ _ _) _) _ _ _)); (fail_if_success (with_reducible show wpAny _ _ (exec (Stmt.For _ _ _ _ _) _) _ _ _)); (fail_if_success (with_reducible show wpAny _ _ (call (Value.ref _) _) _ _ _)); (fail_if_success (with_reducible show wpAny _ _ (pyIter _) _ _ _)); (first | walk1 | (dsimp only; walk1)); (try dsimp only at *)))))
theorem off_of {g h : Heap} {L li b : Addr} {xs : List It} {ei : Nat} {o : Obj} {news : Led} (H : InvAt li xs ei g) (N : News g L h news) (hm : (b, o) ∈ news) : OffInv li xs b := by
  have hb := (N _ hm).2.2
  refine ⟨fun e => ?_, fun x hx e => ?_⟩
  · rw [show ((b, o) : Addr × Obj).1 = b from rfl, e, H.1] at hb; cases hb
  · rw [show ((b, o) : Addr × Obj).1 = b from rfl, e, H.2 x hx] at hb; cases hb
theorem days_zero : DaysAre (List.replicate 12 .none) (fun _ => none) := ⟨by simp, fun d hd => ⟨fun _ => by rw [List.getElem?_replicate, if_pos hd], fun j h => nomatch h⟩⟩
theorem most_tell {w : World} {mean : ExcName → Option Value} {mg mb : Str → Option Value} (li : Addr) (xs : List It) (ei : Nat) (hg : GoodInv xs) (hxl : xs.length < 900) :
    Tell w mean mg mb 80 20 200 [.ref li] [] (InvAt li xs ei) (fun r _ => ∃ D t, r = .int ((size D : Nat) : Int) t ∧ Valid xs D ∧ Cert xs D) := by
  refine tell_enter (binds := [(Str.ofString "invitations", .ref li)]) (by k_is) (by k_is) (fun s => BindsTo.of_eq rfl) (locs rfl) rfl rfl rfl (by decide) (InvAt.keeps (by intro p hp; exact nomatch hp)) ?_ (by omega)
  intro dp un gd outer A₀ base g L s _ hd1 hu1 F N B X T hP
  have hcl := cLine_is
  w_on
  (try k_fold)
  ktr_unf
  rename_i l0 h0 _ ld h1 _ h2 tk0 h3 F1 N1
  have N2 : News g L h3 [(ld, lo (List.replicate 12 .none) 0)] := news_sub N1 (by intro p hp; rw [List.mem_singleton.mp hp]; exact .head _)
  clear N1
  refine For_invV g rfl rfl ?_ (by intro _; rfl) (by exact fun _ _ h => h.elim)
  ktr_unf
  refine len_L (hP.fr F1).list (by simpa [vals] using (by omega : xs.length < 1000)) ?_
  intro t1 t2
  rw [show (vals xs).length = xs.length from List.length_map ..]
  ktr_unf
  rename_i h4 tk1 t3 u1 v1 R1 F3 N3 K1
  refine for_range (n := xs.length) (fun i m news => ∃ (D : Plan) (c : Nat) (dv : List Value) (e1 : Nat), news = [(ld, lo dv e1)] ∧ DaysAre dv D ∧ MostInv xs D i c ∧ Knows m [(Str.ofString "invitations", .ref li), (Str.ofString "days", .ref ld)] ∧ Has m (Str.ofString "count") c)
    rfl R1 (by split <;> omega) (by omega) (by omega) F3 N3 ⟨_, 0, _, 0, rfl, days_zero, most_zero, ⟨rfl, rfl, trivial⟩, has_of rfl rfl⟩ ?_ ?_
  · rintro I i t m₁ news₁ it h tk' hi ⟨D, c, dv, e1, rfl, hdv, M, hm, ⟨tc, hc⟩⟩ hne F4 N4
    have F5 := fr_knows F4 (kcons (x := Str.ofString "k") (v := .int (i : Int) t) (by show some (Value.int (0 + (i : Int)) t) = _; rw [Int.zero_add]) (ps := [(Str.ofString "count", .int c tc), (Str.ofString "invitations", .ref li), (Str.ofString "days", .ref ld)]) ⟨hc, hm.1, hm.2.1, trivial⟩)
    dsimp only [kstB] at F5
    clear F4 hm hc
    ktr_unf
    rename_i ls h5 F6 N6 hlt5
    have hls : ld ≠ ls := Nat.ne_of_lt hlt5.2
    have hIs : I ≠ ls := Nat.ne_of_lt hlt5.1
    have hId : I ≠ ld := Ne.symm (hne (ld, lo dv e1) (.head _))
    refine given_tell li ld ls xs ei hg hxl (off_of hP N6 (by k_mem)) (off_of hP N6 (.head _)) hls 12 [] D i e1 0 t dv [] (by simp) List.nodup_nil (fun d h => nomatch h) hi (most_pre M) hdv trivial _ _ _ _ _ _ _ _ _ _ _ _ _ _ _ _ _ B F6 X (news_sub N6 (by
      intro p hp
      rcases List.mem_cons.mp hp with rfl | hp
      · exact .tail _ (.tail _ (.head _))
      · rw [List.mem_singleton.mp hp]; exact .head _)) T rfl (by omega) (by omega) (hP.fr F6) ?_
    rintro r own' h7 tk7 F7 N7 K7 hpost
    have N8 : News g L h7 [(I, it)] := news_keeps (news_sub N6 (by intro p hp; rw [List.mem_singleton.mp hp]; exact .tail _ (.head _))) K7 (by
      intro p hp q hq
      rw [List.mem_singleton.mp hp]
      rcases List.mem_cons.mp hq with rfl | hq
      · exact Ne.symm hId
      · rw [List.mem_singleton.mp hq]; exact Ne.symm hIs)
    rcases hpost with ⟨rfl, D1, dv1, sv1, e11, e21, rfl, hdv1, Y⟩ | ⟨rfl, seen1, sv1, e11, e21, rfl, hsv1, hnd1, hlt1, No⟩
    · have N9 : News g L h7 [(I, it), (ld, lo dv1 e11)] := news_sub (news_app N8 N7) (by
        intro p hp
        rcases List.mem_cons.mp hp with rfl | hp
        · exact .head _
        · rw [List.mem_singleton.mp hp]; exact .tail _ (.head _))
      clear N8 N7 N6
      ktr_unf
      rename_i h8 F8 N10
      exact ⟨_, _, _, [(ld, lo dv1 e11)], rfl, F8, N10, (by intro p hp; rw [List.mem_singleton.mp hp]; exact Ne.symm hId), D1, c + 1, dv1, e11, rfl, hdv1, most_yes M Y, ⟨rfl, rfl, trivial⟩, has_of rfl (by omega)⟩
    · have N9 : News g L h7 [(I, it), (ld, lo dv e11)] := news_sub (news_app N8 N7) (by
        intro p hp
        rcases List.mem_cons.mp hp with rfl | hp
        · exact .head _
        · rw [List.mem_singleton.mp hp]; exact .tail _ (.head _))
      clear N8 N7 N6
      ktr_unf
      exact ⟨_, _, _, [(ld, lo dv e11)], rfl, F7, N9, (by intro p hp; rw [List.mem_singleton.mp hp]; exact Ne.symm hId), D, c, dv, e11, rfl, hdv, most_no M No, ⟨rfl, rfl, trivial⟩, has_of rfl rfl⟩
  · rintro m₁ news₁ h tk' ⟨D, c, dv, e1, rfl, hdv, M, hm, ⟨tc, hc⟩⟩ F4 N4
    have F5 := fr_knows F4 (ps := [(Str.ofString "count", .int c tc)]) ⟨hc, trivial⟩
    dsimp only [kstB] at F5
    ktr_unf
    exact EndT.intro F5 N4 ⟨D, tc, by rw [← M.cnt], M.val, most_end M⟩
end Mine
end
section
open PySem PySem.W PyProof.Rows PySem.Calls
namespace Mine
section
variable {prog : Program} {w : World} {A : Around} {s : Shared} {h₀ : Heap} {L : Addr} {m : Str → Option Value} {env : Env}
theorem rest_inv {elt : PySem.Expr} {x : Str} {scope : Scope} {cl : List (Str × Addr)} {S : Led → Prop} {P : Nat → Value → Prop} {Fin : List Value → Led → Prop} {n : Nat} (J : Nat → List Value → Led → Prop)
    (step : ∀ i ys news, i < n → J i ys news → ∀ v I oI C oC D m₂ h tk (E' : Value → Shared → Prop), P i v → LCg.NsObj oC m₂ → m₂ x = some v → Fr h₀ L h m → News h₀ L h ((I, oI) :: (C, oC) :: (D, LCg.lst ys) :: news) → LCg.Off3 I C D news → ((@Ne Nat I C) ∧ (@Ne Nat I D) ∧ (@Ne Nat C D)) →
      wpAny (model prog w) A (eval elt (compEnvC scope cl C env)) (LCg.CompEnd h₀ L m { s with heap := h, toks := tk } I oI C oC D (LCg.lst ys) S (fun y news' => J (i + 1) (ys ++ [y]) news')) E' { s with heap := h, toks := tk })
    (fin : ∀ ys news, J n ys news → Fin ys news) : ∀ k i ys news, i + k = n → J i ys news → LCg.CompRest prog w A h₀ L m env elt x scope cl s S P Fin k i ys news := by
  intro k
  induction k with
  | zero =>
    intro i ys news hi hJ
    have : i = n := by omega
    exact fin ys news (this ▸ hJ)
  | succ k ih =>
    intro i ys news hi hJ v I oI C oC D m₂ h tk E' hP hC hx F N off ne
    refine wpAny_mono (step i ys news (by omega) hJ v I oI C oC D m₂ h tk E' hP hC hx F N off ne) (fun y s₂ he => ?_) fun _ _ e => e
    obtain ⟨h', tk', news', e, F', N', off', hS, r⟩ := he
    exact ⟨h', tk', news', e, F', N', off', hS, ih (i + 1) (ys ++ [y]) news' (by omega) r⟩
theorem restP_inv {elt : PySem.Expr} {x x₂ : Str} {scope : Scope} {cl : List (Str × Addr)} {S : Led → Prop} {P : Nat → Value → Prop} {Fin : List Value → Led → Prop} {n : Nat} (J : Nat → List Value → Led → Prop)
    (step : ∀ i ys news, i < n → J i ys news → ∀ v, P i v → ∃ (t : Addr) (ot : Obj) (v₁ v₂ : Value) (nt : Nat), v = .ref t ∧ (t, ot) ∈ news ∧ ot.cls = .type "tuple" ∧ ot.data = .seq #[v₁, v₂] nt ∧
      ∀ I oI C oC D m₂ h tk (E' : Value → Shared → Prop), LCg.NsObj oC m₂ → m₂ x = some v₁ → m₂ x₂ = some v₂ → Fr h₀ L h m → News h₀ L h ((I, oI) :: (C, oC) :: (D, LCg.lst ys) :: news) → LCg.Off3 I C D news → ((@Ne Nat I C) ∧ (@Ne Nat I D) ∧ (@Ne Nat C D)) →
      wpAny (model prog w) A (eval elt (compEnvC scope cl C env)) (LCg.CompEnd h₀ L m { s with heap := h, toks := tk } I oI C oC D (LCg.lst ys) S (fun y news' => J (i + 1) (ys ++ [y]) news')) E' { s with heap := h, toks := tk })
    (fin : ∀ ys news, J n ys news → Fin ys news) : ∀ k i ys news, i + k = n → J i ys news → LCp.CompRestP prog w A h₀ L m env elt x x₂ scope cl s S P Fin k i ys news := by
  intro k
  induction k with
  | zero =>
    intro i ys news hi hJ
    have : i = n := by omega
    exact fin ys news (this ▸ hJ)
  | succ k ih =>
    intro i ys news hi hJ v hP
    obtain ⟨t, ot, v₁, v₂, nt, e1, e2, e3, e4, st⟩ := step i ys news (by omega) hJ v hP
    refine ⟨t, ot, v₁, v₂, nt, e1, e2, e3, e4, fun I oI C oC D m₂ h tk E' hC hx hx₂ F N off ne => ?_⟩
    refine wpAny_mono (st I oI C oC D m₂ h tk E' hC hx hx₂ F N off ne) (fun y s₂ he => ?_) fun _ _ e => e
    obtain ⟨h', tk', news', e, F', N', off', hS, r⟩ := he
    exact ⟨h', tk', news', e, F', N', off', hS, ih (i + 1) (ys ++ [y]) news' (by omega) r⟩
/-- no turn keeps its item -/
theorem restT_none {ct elt : PySem.Expr} {x : Str} {scope : Scope} {cl : List (Str × Addr)} {S : Led → Prop} {P : Nat → Value → Prop} {Fin : List Value → Led → Prop} {n : Nat} {news : Led} (hS : S news)
    (step : ∀ i, i < n → ∀ v I oI C oC D m₂ h tk (E' : Value → Shared → Prop), P i v → LCg.NsObj oC m₂ → m₂ x = some v → Fr h₀ L h m → News h₀ L h ((I, oI) :: (C, oC) :: (D, LCg.lst []) :: news) → LCg.Off3 I C D news → ((@Ne Nat I C) ∧ (@Ne Nat I D) ∧ (@Ne Nat C D)) →
      wpAny (model prog w) A (isTrue ct (compEnvC scope cl C env) (eval ct (compEnvC scope cl C env))) (fun ok s' => ok = false ∧ ∃ tk', s' = { s with heap := h, toks := tk' }) E' { s with heap := h, toks := tk })
    (fin : Fin [] news) : ∀ k i, i + k = n → LCt.CompRestT prog w A h₀ L m env ct elt x scope cl s S P Fin k i [] news := by
  intro k
  induction k with
  | zero =>
    intro i hi
    exact fin
  | succ k ih =>
    intro i hi v I oI C oC D m₂ h tk E' hP hC hx F N off ne
    refine wpAny_mono (step i (by omega) v I oI C oC D m₂ h tk E' hP hC hx F N off ne) (fun ok s₂ he => ?_) fun _ _ e => e
    obtain ⟨rfl, tk', rfl⟩ := he
    simp only [Bool.false_eq_true, if_false]
    exact ⟨h, tk', news, rfl, F, N, off, hS, ih (i + 1) (by omega)⟩
/-- a name of the comprehension's own -/
theorem nameC_L {E : Value → Shared → Prop} {x : Str} {pos : Pos} {scope : Scope} {cl : List (Str × Addr)} {C : Addr} {oC : Obj} {m₂ : Str → Option Value} {v : Value} {news : Led} {Q : Value → Shared → Prop} (hC : LCg.NsObj oC m₂) (N : News h₀ L s.heap news) (hm : (C, oC) ∈ news) (hv : m₂ x = some v) (h : Q v s)
    (hk : (compEnvC scope cl C env).scope.kind = .function := by rfl) (hx : (compEnvC scope cl C env).kindOf x = some .local := by rfl) (hd : (x == ("__debug__" : Str)) = false := by decide) :
    wpAny (model prog w) A (eval (.Name x pos) (compEnvC scope cl C env)) Q E s :=
  wpAny_Name (wpAny_loadName_local hk hx (hC.ns (N.get hm)) hv h) hd
/-- a cell of the frame around, read in the comprehension -/
theorem nameC_C {E : Value → Shared → Prop} {x : Str} {pos : Pos} {scope : Scope} {cl : List (Str × Addr)} {C c : Addr} {o : Obj} {v : Value} {news : Led} {Q : Value → Shared → Prop} (N : News h₀ L s.heap news) (hc : cl.lookup x = some c) (hm : (c, o) ∈ news) (ho : o.data = .cell (some v)) (h : Q v s)
    (hk : (compEnvC scope cl C env).scope.kind = .function := by rfl) (hx : (compEnvC scope cl C env).kindOf x = some .cell := by rfl) (hd : (x == ("__debug__" : Str)) = false := by decide) :
    wpAny (model prog w) A (eval (.Name x pos) (compEnvC scope cl C env)) Q E s :=
  wpAny_Name (wpAny_loadName_cell hk hx hc ⟨o, N.get hm, ho⟩ h) hd
end
end Mine
end
section
open PySem PySem.W PyProof.Rows PySem.Calls PySem.SeqAt
namespace Mine
local macro_rules | `(tactic| ktr_unf) => `(tactic| (repeat' (first
  | (k_unfold; (try dsimp only))
  | ((fail_if_success (with_reducible show wpAny _ _ (exec (Stmt.While _ _ _ _) _) _ _ _)); (fail_if_success (with_reducible show wpAny _ _ (exec (Stmt.For _ _ _ _ _) _) _ _ _)); (fail_if_success (with_reducible show wpAny _ _ (call (Value.ref _) _) _ _ _)); (fail_if_success (with_reducible show wpAny _ _ (pyIter _) _ _ _)); (fail_if_success (with_reducible show wpAny _ _ (eval (Expr.ListComp _ _ _ _) _) _ _ _)); (fail_if_success (with_reducible show wpAny _ _ (exec (Stmt.Assign _ (Expr.ListComp _ _ _ _) _) _) _ _ _)); (first | walk1 | (dsimp only; walk1)); (try dsimp only at *)))))
theorem inv_tell {w : World} {mean : ExcName → Option Value} {mg mb : Str → Option Value} (sc : Addr) (vs : List Value) (ns : List Int) (hi : IntsAre vs ns) (hn : ns.length ≤ 63) :
    Tell w mean mg mb 54 2 50 [.ref sc] [] (fun h => h.IsList sc vs.toArray) (fun r own => ∃ li xs ei, r = .ref li ∧ (li, lo (vals xs) ei) ∈ own ∧ (∀ x ∈ xs, (x.at', x.obj) ∈ own) ∧ GoodInv xs ∧ xs.length < 900) := by
  refine tell_enter (binds := [(Str.ofString "script", .ref sc)]) (by k_is) (by k_is) (fun s => BindsTo.of_eq rfl) (locs rfl) rfl rfl rfl (by decide) (by
    intro h h' k ⟨o, ho, r⟩
    exact ⟨o, k _ _ ho (by intro p hp; exact nomatch hp), r⟩) ?_ (by omega)
  intro dp un gd outer A₀ base g L s _ hd1 hu1 F N B X T hP
  have hcl := cLine_is
  w_on
  (try k_fold)
  ktr_unf
  refine LCg.ListComp_U F (cl := []) rfl (by decide) rfl (by decide) rfl ?_
  ktr_unf
  have hvl : vs.length ≤ 63 := by rw [hi.length]; exact hn
  refine slice_list (s := { s with toks := s.toks + 1 }) (lo := none) (hi := some 7) F N (F.lst hP) IsPart.none (IsPart.int 7 _) ?_ (hsz := by rw [List.size_toArray, sizeLine_eq]; omega)
  intro h1 F1 N1
  ktr_unf
  rename_i l5 h2 F2 N2 hl5
  have i1 := slice_ints_uptoW hi (y := 7) (by omega)
  have i2 : IntsAre (#[Value.int 1 (s.toks + 1), Value.int 9 (s.toks + 1 + 1), Value.int 17 (s.toks + 1 + 1 + 1), Value.int 1 (s.toks + 1 + 1 + 1 + 1), Value.int 2 (s.toks + 1 + 1 + 1 + 1 + 1)] : Array Value).toList [1, 9, 17, 1, 2] := .cons _ _ (.cons _ _ (.cons _ _ (.cons _ _ (.cons _ _ .nil))))
  have hlen : (ns.take (7 : Int).toNat ++ [1, 9, 17, 1, 2]).length ≤ 12 := by
    rw [List.length_append, List.length_take]
    show min 7 ns.length + 5 ≤ 12
    omega
  refine add_arrays_ints F2 N2 (isL (vs := (slicePick vs.toArray none (some 7) none).toList) (n := 0) N2 (by k_mem)) (isL (n := 0) N2 (.head _)) i1 i2 ?_ (hsz := by rw [List.length_append] at hlen; rw [sizeLine_eq]; omega)
  intro h3 F3 N3 i3
  generalize (ns.take (7 : Int).toNat ++ [1, 9, 17, 1, 2]) = zs at i3 hlen
  generalize ((slicePick vs.toArray none (some 7) none).toList ++ (#[Value.int 1 (s.toks + 1), Value.int 9 (s.toks + 1 + 1), Value.int 17 (s.toks + 1 + 1 + 1), Value.int 1 (s.toks + 1 + 1 + 1 + 1), Value.int 2 (s.toks + 1 + 1 + 1 + 1 + 1)] : Array Value).toList) = ws at i3 N3
  have hws : ws.length ≤ 12 := by rw [i3.length]; exact hlen
  refine LCg.CompSrc.ledger rfl F3 N3 (.head _) (by rw [List.size_toArray, sizeLine_eq]; omega) ?_
  intro g4
  refine rest_inv (n := ws.toArray.size) (fun i ys news => ∃ xs : List It, ys = vals xs ∧ xs.length = i ∧ (h2.objs.size, ({ cls := .type "list", data := .seq ws.toArray } : Obj)) ∈ news ∧ (∀ x ∈ xs, (x.at', x.obj) ∈ news) ∧ GoodInv xs) ?_ ?_ _ 0 [] _ (by simp) ⟨[], rfl, rfl, .head _, fun x hx => (nomatch hx), fun x hx => (nomatch hx)⟩
  · rintro i ys news hi ⟨xs, rfl, hxl, hsrc, hxm, hxg⟩ v I oI C oC D m₂ h tk E' hPv hC hx F4 N4 off ne
    obtain ⟨z, hz⟩ : ∃ z, zs[i]? = some z := ⟨zs[i]'(by rw [← i3.length]; simpa using hi), List.getElem?_eq_getElem _⟩
    obtain ⟨tz, htz⟩ := i3.get i z hz
    have hv : v = .int z tz := by
      have : ws[i]? = some v := by simpa using hPv
      rw [htz] at this; exact (Option.some.inj this).symm
    subst hv
    ktr_unf
    rename_i T h5 F5 N5 hlt
    have hg1 : 0 ≤ z.fmod 8 ∧ z.fmod 8 < 8 := by rw [Int.fmod_eq_emod_of_nonneg _ (by omega)]; omega
    have hg2 : 0 ≤ (z.fdiv 8).fmod 4 ∧ (z.fdiv 8).fmod 4 < 4 := by rw [Int.fmod_eq_emod_of_nonneg _ (by omega)]; omega
    refine LCg.CompEnd.intro F5 N5 ((T, It.obj ⟨T, z.fmod 8, tk + 1, z.fmod 8 + (z.fdiv 8).fmod 4, tk + 1 + 1 + 1 + 1 + 1 + 1 + 1 + 1, 0⟩) :: news) ?_ ⟨⟨Nat.ne_of_gt hlt.1, Nat.ne_of_gt hlt.2.1, Nat.ne_of_gt hlt.2.2.1⟩, off⟩ (.inr ⟨_, .tail _ hsrc, rfl, 0, rfl⟩) ⟨xs ++ [⟨T, z.fmod 8, tk + 1, z.fmod 8 + (z.fdiv 8).fmod 4, tk + 1 + 1 + 1 + 1 + 1 + 1 + 1 + 1, 0⟩], ?_, ?_, .tail _ hsrc, ?_, ?_⟩
    · intro p hp
      rcases List.mem_cons.mp hp with rfl | hp
      · exact .tail _ (.head _)
      rcases List.mem_cons.mp hp with rfl | hp
      · exact .tail _ (.tail _ (.head _))
      rcases List.mem_cons.mp hp with rfl | hp
      · exact .tail _ (.tail _ (.tail _ (.head _)))
      rcases List.mem_cons.mp hp with rfl | hp
      · exact .head _
      · exact .tail _ (.tail _ (.tail _ (.tail _ hp)))
    · rw [vals_app]; rfl
    · rw [List.length_append, hxl]; rfl
    · intro x hx
      rcases List.mem_append.mp hx with hx | hx
      · exact .tail _ (hxm x hx)
      · rw [List.mem_singleton.mp hx]; exact .head _
    · intro x hx
      rcases List.mem_append.mp hx with hx | hx
      · exact hxg x hx
      · rw [List.mem_singleton.mp hx]
        show 0 ≤ z.fmod 8 ∧ z.fmod 8 ≤ z.fmod 8 + (z.fdiv 8).fmod 4 ∧ z.fmod 8 + (z.fdiv 8).fmod 4 ≤ 10
        omega
  · rintro ys news ⟨xs, rfl, hxl, hsrc, hxm, hxg⟩ D h tk F4 N4 off
    exact EndT.intro F4 N4 ⟨D, xs, _, rfl, .head _, fun x hx => .tail _ (hxm x hx), hxg, by rw [hxl, List.size_toArray]; omega⟩
end Mine
end
section
open PySem PySem.W PyProof.Rows PySem.Calls PySem.SeqAt
namespace Mine
/-- xs != [] -/
theorem ne_empty {prog : Program} {w : World} {A : Around} {E : Value → Shared → Prop} {s : Shared} {l b : Addr} {vs : List Value} {Q : Value → Shared → Prop} (hl : s.heap.IsList l vs.toArray) (hb : s.heap.IsList b #[]) (hu : A.units < cLine)
    (h : Q (.bool (!vs.isEmpty)) s) : wpAny (model prog w) A (compareOp .NotEq (.ref l) (.ref b)) Q E s := by
  refine cmp_ofNotEq ?_
  cases vs with
  | nil => exact RcNeAt.lists (e := fun _ => true) hl hb rfl hu (fun _ h1 => absurd h1 (Nat.not_lt_zero _)) prog w E Q h
  | cons v vs => exact RcNeAt.lists_lengths hl hb (by simp) hu prog w E Q h
/-- [] == [] -/
theorem eq_empty {prog : Program} {w : World} {A : Around} {E : Value → Shared → Prop} {s : Shared} {l b : Addr} {Q : Value → Shared → Prop} (hl : s.heap.IsList l #[]) (hb : s.heap.IsList b #[]) (hu : A.units < cLine)
    (h : Q (.bool true) s) : wpAny (model prog w) A (compareOp .Eq (.ref l) (.ref b)) Q E s :=
  eq_listAt (e := fun _ => true) hl hb rfl hu (fun _ h1 => absurd h1 (Nat.not_lt_zero _)) h
end Mine
end
section
open PySem PySem.W PyProof.Rows PySem.Calls PySem.SeqAt
namespace Mine
local macro_rules | `(tactic| ktr_unf) => `(tactic| (repeat' (first
  | (k_unfold; (try dsimp only))
  | ((fail_if_success (with_reducible show wpAny _ _ (exec (Stmt.While _ _ _ _) _) _ _ _)); (fail_if_success (with_reducible show wpAny _ _ (exec (Stmt.For _ _ _ _ _) _) _ _ _)); (fail_if_success (with_reducible show wpAny _ _ (call (Value.ref _) _) _ _ _)); (fail_if_success (with_reducible show wpAny _ _ (pyIter _) _ _ _)); (fail_if_success (with_reducible show wpAny _ _ (eval (Expr.ListComp _ _ _ _) _) _ _ _)); (fail_if_success (with_reducible show wpAny _ _ (exec (Stmt.Assign _ (Expr.ListComp _ _ _ _) _) _) _ _ _)); (first | walk1 | (dsimp only; walk1)); (try dsimp only at *)))))
/-- a def with cells is entered -/
theorem tell_enterC {w : World} {mean : ExcName → Option Value} {mg mb : Str → Option Value} {f : Addr} {dk uk : Nat} {vals : List Value} {own : Led} {Pre : Heap → Prop} {Post : Value → Led → Prop}
    {name qual : Str} {params : Arguments} {body : List Stmt} {scope : Scope} {dV kV doc pm cdv ct oc : Value} {an od : Option Addr} {osl : Array (Option Value)} {binds : List (Str × Value)}
    (ho : (hd.heap_39 w.params).lookup f = some ⟨oc, od, .func (fnOf name qual params body scope dV kV doc pm an cdv ct), osl⟩) (hcd : codeIn (hd.heap_39 w.params) cdv qual = true)
    (hbind : ∀ s, BindsTo s (fnOf name qual params body scope dV kV doc pm an cdv ct) ⟨vals, []⟩ binds)
    (hkind : (binds.all fun y => scope.names.lookup y.1 == some .local || scope.names.lookup y.1 == some .cell) = true)
    (hnd : ((cellsFrom 0 scope.names []).map (·.1)).Nodup)
    (hco : scope.isCoroutine = false) (hgen : scope.isGenerator = false) (hk : scope.kind = .function)
    (hpre : ∀ h h', (∀ b o, h.get? b = some o → (∀ p ∈ own, p.1 ≠ b) → h'.get? b = some o) → Pre h → Pre h')
    (h : ∀ (dp un : Nat) (gd : Option (List Code)) (outer : List Env) (A₀ : Around) (base g : Heap) (L : Addr) (s : Shared) (cells : Led), 0 < dk → dp + (dk - 1) < recursionLimit → un + uk < cLine + 3 →
      Fr g L s.heap (bindL (envOfC qual scope L f cdv).kindOf binds fun _ => none) → News g L s.heap (cells ++ own) → CellsAre (bindC (envOfC qual scope L f cdv).kindOf binds fun _ => none) (cellsFrom (L + 1) scope.names []) cells → (∀ p ∈ own, p.1 < L) →
      Below A₀ base outer g → (hd.heap_39 w.params).In g → Top hd.view_39 (looseW hd.view_39 []) mean mg mb g → Pre g →
      wpAny (model PySem.Challenge.rw_mj0018_01.row.prog w) (ktrTop dp un gd qual scope L f cdv (cellsFrom (L + 1) scope.names []) outer) (execs body (envX qual scope L f cdv (cellsFrom (L + 1) scope.names [])))
        (fun fl s' => EndT g L s Post (match fl with | .ret v => v | _ => .none) s') (fun _ _ => False) s)
    (hdk : 0 < dk) : Tell w mean mg mb f dk uk vals own Pre Post := by
  intro dp un gd cn cs a ccd cl outer A₀ base h₀ L m s Q E B F X N T hck hd1 hu1 hP ret
  refine wpAny_call ?_
  obtain ⟨FG, BG, st, lv⟩ := groundX (R := fun r s' => match r with | .ok (.ret v) => Q v s' | .ok _ => False | .error e => E e s') (A := ktrTop dp un gd cn cs L a ccd cl outer) (env := envX cn cs L a ccd cl) B F N rfl rfl hck
  have X' := X.keeps F.keep
  refine codeAny_call_function (show dp < recursionLimit from by omega) (X' _ _ ho) rfl hco hgen rfl (codeRec_of X' hcd) (hbind s _ _ _ _ ?_)
  refine wpAny_newFunctionEnv_cells hk (kindsX hkind _) fun env' he s' x => ?_
  subst he
  refine ⟨(T.nolimit.keeps F.keep).keeps x.toInCall.keep, codeAny_func ?_⟩
  obtain ⟨h₁, tk, rfl, _⟩ := x.done
  have hk₁ := x.toInCall.keep
  obtain ⟨cells, NC, Y⟩ := Cl.news (h₀ := s.heap) (Nat.le_refl _) fun n c hm => ⟨x.cell n c (lookup_of_mem_nodup (cellsFrom_names scope.names 0 (s.heap.objs.size + 1) [] [] rfl ▸ hnd) hm), x.above n c hm⟩
  have hkeep : ∀ b o, s.heap.get? b = some o → (∀ p ∈ own, p.1 ≠ b) → (hideAll s.heap (own.map (·.1))).get? b = some o := fun b o e hne => hideAll_get _ e fun q => by
    obtain ⟨p, hp, e'⟩ := List.mem_map.mp q
    exact hne p hp e'
  have F₁ : Fr (hideAll s.heap (own.map (·.1))) s.heap.objs.size h₁ (bindL (envOfC qual scope s.heap.objs.size f cdv).kindOf binds fun _ => none) := ⟨x.toInCall.ns, fun b o e => hk₁ b o (of_hideAll _ e), Nat.le_of_eq (hideAll_size _ _)⟩
  have N₁ : News (hideAll s.heap (own.map (·.1))) s.heap.objs.size h₁ (cells ++ own) := fun p hp => by
    rcases List.mem_append.mp hp with hp | hp
    · refine ⟨(NC p hp).1, (NC p hp).2.1, ?_⟩
      cases q : (hideAll s.heap (own.map (·.1))).get? p.1 with
      | none => rfl
      | some o => have := of_hideAll _ q; rw [(NC p hp).2.2] at this; cases this
    · exact ⟨hk₁ _ _ (N p hp).1, Nat.ne_of_lt (Heap.lt_size (N p hp).1), hideAll_none _ (List.mem_map_of_mem hp)⟩
  refine wpAny_mono (h (dp + 1) (un + 3) gd (envX cn cs L a ccd cl :: outer) _ base _ s.heap.objs.size { s with heap := h₁, toks := tk } cells hdk (by omega) (by omega) F₁ N₁ Y (fun p hp => Heap.lt_size (N p hp).1) BG (X.keeps st) (T.keeps st) (hpre _ _ hkeep hP)) (fun fl s' hl => ?_) fun _ _ y => y.elim
  obtain ⟨m', own', h', tk', rfl, F', N', hpost⟩ := hl
  refine lv _ _ ⟨_, m', own', F', N', fun FF NN => ?_⟩
  exact ret _ own' h' tk' FF NN (fun b o e hne => F'.keep b o (hkeep b o e hne)) hpost
end Mine
end
section
open PySem PySem.W PyProof.Rows PySem.Calls PySem.SeqAt
namespace Mine
local macro_rules | `(tactic| ktr_unf) => `(tactic| (repeat' (first
  | (k_unfold; (try dsimp only))
  | ((fail_if_success (with_reducible show wpAny _ _ (exec (Stmt.While _ _ _ _) _) _ _ _)); (fail_if_success (with_reducible show wpAny _ _ (exec (Stmt.For _ _ _ _ _) _) _ _ _)); (fail_if_success (with_reducible show wpAny _ _ (call (Value.ref _) _) _ _ _)); (fail_if_success (with_reducible show wpAny _ _ (pyIter _) _ _ _)); (fail_if_success (with_reducible show wpAny _ _ (eval (Expr.ListComp _ _ _ _) _) _ _ _)); (fail_if_success (with_reducible show wpAny _ _ (exec (Stmt.Assign _ (Expr.ListComp _ _ _ _) _) _) _ _ _)); (fail_if_success (with_reducible show LCg.CompSrc _ _ _ _ _ _ _ _ _ _ _ _ _ _)); (fail_if_success (with_reducible show LCt.CompSrcT _ _ _ _ _ _ _ _ _ _ _ _ _ _ _)); (fail_if_success (with_reducible show LCp.SrcLP _ _ _ _ _ _ _ _ _ _ _ _ _ _ _)); (fail_if_success (with_reducible show wpAny _ _ (eval (Expr.Name _ _) (compEnvC _ _ _ _)) _ _ _)); (fail_if_success (with_reducible show wpAny _ _ (eval (Expr.Name (Str.ofString "invitations") _) _) _ _ _)); (fail_if_success (with_reducible show wpAny _ _ (compareOp _ (Value.ref _) (Value.ref _)) _ _ _)); (fail_if_success (with_reducible show wpAny _ _ (subscriptTail _ _ _ _) _ _ _)); (first | walk1 | (dsimp only; walk1)); (try dsimp only at *)))))
abbrev VLed (lw lop lv : Addr) (W O V : List It) (ew eo ev : Nat) (tups : Led) : Led := (lw, lo (vals W) ew) :: (lop, lo (vals O) eo) :: (lv, lo (vals V) ev) :: tups
/-- the ledger of the visits' frame -/
structure VOk (xs : List It) (lw lop lv c : Addr) (oc : Obj) (W O V : List It) (tups : Led) : Prop where
  off : ∀ p ∈ tups, p.1 ≠ lw ∧ p.1 ≠ lop ∧ p.1 ≠ lv
  cell : (c, oc) ∈ tups
  memW : ∀ x ∈ W, (x.at', x.obj) ∈ tups
  memO : ∀ x ∈ O, (x.at', x.obj) ∈ tups
  memV : ∀ x ∈ V, (x.at', x.obj) ∈ tups
  len : W.length + O.length ≤ xs.length
theorem off1_mem {D : Addr} {l : Led} (h : LCg.Off1 D l) : ∀ p ∈ l, p.1 ≠ D := by
  induction l with
  | nil => exact fun p hp => nomatch hp
  | cons q r ih =>
    intro p hp
    rcases List.mem_cons.mp hp with rfl | hp
    · exact h.1
    · exact ih h.2 p hp
theorem allLt_mem {d : Addr} {l : Led} (h : AllLt d l) : ∀ p ∈ l, p.1 < d := by
  induction l with
  | nil => exact fun p hp => nomatch hp
  | cons q r ih =>
    intro p hp
    rcases List.mem_cons.mp hp with rfl | hp
    · exact h.1
    · exact ih h.2 p hp
/-- between the days' steps -/
def VState (xs : List It) (g : Heap) (L lw lop lv c : Addr) (oc : Obj) (I : Addr) (it : Obj) (d : Nat) (t : Tok) (D : Plan) (V : List It) (ev : Nat) (s : Shared) (P : List It → List It → Prop) (s' : Shared) : Prop :=
  ∃ h tk m W O tups ew eo, s' = { s with heap := h, toks := tk } ∧ Fr g L h m ∧ News g L h ((I, it) :: VLed lw lop lv W O V ew eo ev tups) ∧ VOk xs lw lop lv c oc W O V tups ∧ (∀ p ∈ tups, p.1 ≠ I) ∧ Edf xs d W O D ∧
    Knows m [(Str.ofString "waiting", .ref lw), (Str.ofString "opened", .ref lop), (Str.ofString "visits", .ref lv), (Str.ofString "day", .int (d : Int) t)] ∧ P W O
theorem VLed.items {xs : List It} {lw lop lv c : Addr} {oc : Obj} {W O V : List It} {tups : Led} (H : VOk xs lw lop lv c oc W O V tups) {g h : Heap} {L : Addr} {pre : Led} {ew eo ev : Nat} (N : News g L h (pre ++ VLed lw lop lv W O V ew eo ev tups)) :
    Items lw W h ∧ Items lop O h := by
  have hm : ∀ p ∈ tups, p ∈ pre ++ VLed lw lop lv W O V ew eo ev tups := fun p hp => List.mem_append.mpr (.inr (.tail _ (.tail _ (.tail _ hp))))
  exact ⟨fun x hx => ⟨N.get (hm _ (H.memW x hx)), (H.off _ (H.memW x hx)).1⟩, fun x hx => ⟨N.get (hm _ (H.memO x hx)), (H.off _ (H.memO x hx)).2.1⟩⟩
theorem vled_o {xs : List It} {lw lop lv c I : Addr} {oc it : Obj} {W O O' V : List It} {tups : Led} {g h h' : Heap} {L : Addr} {ew eo eo' ev : Nat} {o₁ : Obj} (H : VOk xs lw lop lv c oc W O V tups) (N : News g L h ((I, it) :: VLed lw lop lv W O V ew eo ev tups))
    (K : Keeps [(lop, o₁)] h h') (N' : News g L h' [(lop, lo (vals O') eo')]) (h1 : I ≠ lop) (h2 : lw ≠ lop) (h3 : lop ≠ lv) : News g L h' ((I, it) :: VLed lw lop lv W O' V ew eo' ev tups) := by
  have NR := news_keeps (rest := (I, it) :: (lw, lo (vals W) ew) :: (lv, lo (vals V) ev) :: tups) (news_sub N (by
    intro q hq
    rcases List.mem_cons.mp hq with rfl | hq
    · exact .head _
    rcases List.mem_cons.mp hq with rfl | hq
    · exact .tail _ (.head _)
    rcases List.mem_cons.mp hq with rfl | hq
    · exact .tail _ (.tail _ (.tail _ (.head _)))
    · exact .tail _ (.tail _ (.tail _ (.tail _ hq))))) K (by
    intro q hq u hu
    rw [List.mem_singleton.mp hu]
    rcases List.mem_cons.mp hq with rfl | hq
    · exact Ne.symm h1
    rcases List.mem_cons.mp hq with rfl | hq
    · exact Ne.symm h2
    rcases List.mem_cons.mp hq with rfl | hq
    · exact h3
    · exact Ne.symm (H.off q hq).2.1)
  intro p hp
  rcases List.mem_cons.mp hp with rfl | hp
  · exact NR _ (.head _)
  rcases List.mem_cons.mp hp with rfl | hp
  · exact NR _ (.tail _ (.head _))
  rcases List.mem_cons.mp hp with rfl | hp
  · exact N' _ (.head _)
  · exact NR _ (.tail _ (.tail _ hp))
theorem vok_popO {xs : List It} {lw lop lv c : Addr} {oc : Obj} {W V init : List It} {last : It} {tups : Led} (H : VOk xs lw lop lv c oc W (init ++ [last]) V tups) : VOk xs lw lop lv c oc W (hpop last init).2 V tups := by
  have hpm := hpop_perm last init
  refine ⟨H.off, H.cell, H.memW, fun x hx => H.memO x (hpm.mem_iff.mp (.tail _ hx)), H.memV, ?_⟩
  have q1 := hpm.length_eq
  have q2 := H.len
  rw [List.length_append, List.length_singleton] at q2
  rw [List.length_cons, List.length_append, List.length_singleton] at q1
  omega
theorem visits_tell {w : World} {mean : ExcName → Option Value} {mg mb : Str → Option Value} (li : Addr) (xs : List It) (ei : Nat) (hg : GoodInv xs) (hxl : xs.length < 900) :
    Tell w mean mg mb 66 6 80 [.ref li] [] (InvAt li xs ei) (fun r own => ∃ lv V D ev, r = .ref lv ∧ (lv, lo (vals V) ev) ∈ own ∧ (∀ x ∈ V, (x.at', x.obj) ∈ own) ∧ Valid xs D ∧ Cert xs D ∧ Vis V D) := by
  refine tell_enterC (binds := [(Str.ofString "invitations", .ref li)]) (by k_is) (by k_is) (fun s => BindsTo.of_eq rfl) rfl (by decide +kernel) rfl rfl rfl (InvAt.keeps (by intro p hp; exact nomatch hp)) ?_ (by omega)
  intro dp un gd outer A₀ base g L s cells _ hd1 hu1 F N Y _ B X T hP
  have hcl := cLine_is
  k_cells Y
  simp only [List.cons_append, List.nil_append] at N
  rename_i _ _ oc hoc
  replace hoc : oc.data = .cell (some (.ref li)) := hoc
  replace F : Fr g L s.heap (fun _ => none) := F
  change wpAny _ (ktrTop dp un gd _ _ L 66 _ [(Str.ofString "invitations", L + 1)] outer) (execs _ (envX _ _ L 66 _ [(Str.ofString "invitations", L + 1)])) _ _ _
  w_on
  (try k_fold)
  ktr_unf
  refine LCg.Assign_ListComp_U F rfl (by first | rfl | kernel_rfl) (cl := [(Str.ofString "invitations", L + 1)]) (by rfl) (by decide) rfl (by decide) rfl rfl rfl ?_
  ktr_unf
  refine nameX_C N (by rfl) (.head _) hoc ?_
  ktr_unf
  refine len_L (hP.fr F).list (by simpa [vals] using (by omega : xs.length < 1000)) ?_
  intro t1 t2
  rw [show (vals xs).length = xs.length from List.length_map ..]
  ktr_unf
  rename_i h4 tk1 t3 u1 v1 R1 F3 N3 K1
  have hsz := size_up (a := 0) (b := (xs.length : Int)) (n := xs.length) (by split <;> omega)
  refine LCg.CompSrc.range rfl F3 N3 R1 (small_up (n := xs.length) (by split <;> omega) (by omega) (by omega)) hsz (by rw [sizeLine_eq]; omega) ?_
  intro g4
  refine rest_inv (n := xs.length) (fun i ys news => ∃ W : List It, ys = vals W ∧ W.length = i ∧ (L + 1, oc) ∈ news ∧ (∀ x ∈ W, (x.at', x.obj) ∈ news) ∧ ∀ (k : Nat) (x : It), W[k]? = some x → ∃ y, xs[k]? = some y ∧ x.a = y.a ∧ x.b = (k : Int)) ?_ ?_ _ 0 [] _ (by simp) ⟨[], rfl, rfl, .head _, fun x hx => (nomatch hx), fun k x h => by simp at h⟩
  · rintro i ys news hi ⟨W, rfl, hWl, hcell, hWm, hWx⟩ v I oI C oC D m₂ h tk E' ⟨t, rfl⟩ hC hx F4 N4 off ne
    rw [Int.zero_add] at hx
    obtain ⟨y, hy⟩ : ∃ y, xs[i]? = some y := ⟨_, List.getElem?_eq_getElem hi⟩
    have hcm : (L + 1, oc) ∈ (I, oI) :: (C, oC) :: (D, LCg.lst (vals W)) :: news := .tail _ (.tail _ (.tail _ hcell))
    have hCm : (C, oC) ∈ (I, oI) :: (C, oC) :: (D, LCg.lst (vals W)) :: news := .tail _ (.head _)
    ktr_unf
    refine nameC_C N4 (by rfl) hcm hoc ?_
    ktr_unf
    refine nameC_L hC N4 hCm hx ?_
    ktr_unf
    refine item_L (hP.fr F4).list (vals_get hy) (by omega) ?_
    ktr_unf
    refine item_T0 ((hP.fr F4).2 y (List.mem_of_getElem? hy)) ?_
    ktr_unf
    refine nameC_L hC N4 hCm hx ?_
    ktr_unf
    rename_i T h5 F5 N5 hlt
    refine LCg.CompEnd.intro F5 N5 ((T, It.obj ⟨T, y.a, y.ta, (i : Int), t, 0⟩) :: news) ?_ ⟨⟨Nat.ne_of_gt hlt.1, Nat.ne_of_gt hlt.2.1, Nat.ne_of_gt hlt.2.2.1⟩, off⟩ trivial ⟨W ++ [⟨T, y.a, y.ta, (i : Int), t, 0⟩], ?_, ?_, .tail _ hcell, ?_, ?_⟩
    · intro p hp
      rcases List.mem_cons.mp hp with rfl | hp
      · exact .tail _ (.head _)
      rcases List.mem_cons.mp hp with rfl | hp
      · exact .tail _ (.tail _ (.head _))
      rcases List.mem_cons.mp hp with rfl | hp
      · exact .tail _ (.tail _ (.tail _ (.head _)))
      rcases List.mem_cons.mp hp with rfl | hp
      · exact .head _
      · exact .tail _ (.tail _ (.tail _ (.tail _ hp)))
    · rw [vals_app]; rfl
    · rw [List.length_append, hWl]; rfl
    · intro x hx
      rcases List.mem_append.mp hx with hx | hx
      · exact .tail _ (hWm x hx)
      · rw [List.mem_singleton.mp hx]; exact .head _
    · intro k x hk
      rcases Nat.lt_or_ge k W.length with hlt | hge
      · rw [List.getElem?_append_left hlt] at hk
        exact hWx k x hk
      · have hk2 := lt_of_get hk
        rw [List.length_append, List.length_singleton] at hk2
        have : k = W.length := by omega
        subst this
        rw [List.getElem?_append_right (Nat.le_refl _), Nat.sub_self] at hk
        cases hk
        exact ⟨y, by rw [hWl]; exact hy, rfl, by rw [hWl]⟩
  · rintro ys news ⟨W, rfl, hWl, hcell, hWm, hWx⟩ D h tk F4 N4 off
    ktr_unf
    rename_i lop h5 hlt5 h6 tk6 lv h7 hlt7 h8 F8 N8
    have hne1 : D ≠ lop := Nat.ne_of_lt hlt5.1
    have hne2 : D ≠ lv := Nat.ne_of_lt hlt7.2.1
    have hne3 : lop ≠ lv := Nat.ne_of_lt hlt7.1
    have hW0 : Items D W h8 := fun x hx => ⟨N8.get (.tail _ (.tail _ (.tail _ (hWm x hx)))), off1_mem off _ (hWm x hx)⟩
    refine hfy_tell D W (vals W).length (by omega) _ _ _ _ _ _ _ _ _ _ _ _ _ _ _ _ _ B F8 X (news_sub N8 (by intro p hp; rw [List.mem_singleton.mp hp]; exact .tail _ (.tail _ (.head _)))) T rfl (by omega) (by omega) hW0 ?_
    rintro r own' h9 tk9 F9 N9 K9 ⟨rfl, ew, rfl⟩
    have hpm := hfy_perm (W.length / 2) W
    have N10 : News g L h9 (VLed D lop lv (hfy W (W.length / 2)) [] [] ew 0 0 news) := by
      intro p hp
      rcases List.mem_cons.mp hp with rfl | hp
      · exact N9 _ (.head _)
      · refine news_keeps (rest := (lop, lo (vals []) 0) :: (lv, lo (vals []) 0) :: news) (news_sub N8 ?_) K9 ?_ p hp
        · intro q hq
          rcases List.mem_cons.mp hq with rfl | hq
          · exact .tail _ (.head _)
          rcases List.mem_cons.mp hq with rfl | hq
          · exact .head _
          · exact .tail _ (.tail _ (.tail _ hq))
        · intro q hq u hu
          rw [List.mem_singleton.mp hu]
          rcases List.mem_cons.mp hq with rfl | hq
          · exact hne1
          rcases List.mem_cons.mp hq with rfl | hq
          · exact hne2
          · exact Ne.symm (off1_mem off q hq)
    have V0 : VOk xs D lop lv (L + 1) oc (hfy W (W.length / 2)) [] [] news := ⟨fun p hp => ⟨off1_mem off p hp, Nat.ne_of_lt (allLt_mem hlt5.2 p hp), Nat.ne_of_lt (allLt_mem hlt7.2.2 p hp)⟩, hcell, fun x hx => hWm x (hpm.mem_iff.mp hx), fun x hx => (nomatch hx), fun x hx => (nomatch hx), by rw [hpm.length_eq, hWl]; exact Nat.le_refl _⟩
    have E0 : Edf xs 0 (hfy W (W.length / 2)) [] (fun _ => none) := edf_start hWl hWx hg hpm (heapify_heap W)
    generalize hfy W (W.length / 2) = W1 at N10 V0 E0
    clear N9 K9 N8 F8 hW0 hWm hWx hpm off hlt5 hlt7
    ktr_unf
    refine For_invV g rfl rfl ?_ (by intro _; rfl) (by exact fun _ _ h => h.elim)
    ktr_unf
    rename_i h10 tk10 t10 u10 v10 R10 F11 N11 K11
    refine for_range (n := 12) (fun d m news => ∃ (W O V : List It) (P : Plan) (tups : Led) (ew eo ev : Nat), news = VLed D lop lv W O V ew eo ev tups ∧ VOk xs D lop lv (L + 1) oc W O V tups ∧ Edf xs d W O P ∧ Vis V P ∧
        Knows m [(Str.ofString "waiting", .ref D), (Str.ofString "opened", .ref lop), (Str.ofString "visits", .ref lv)])
      rfl R10 (by split <;> omega) (by omega) (by omega) F11 N11 ⟨W1, [], [], _, news, ew, 0, 0, rfl, V0, E0, vis_zero, rfl, rfl, rfl, trivial⟩ ?_ ?_
    · clear F11 N11 V0 E0
      rintro I d t m₁ news₁ it h11 tk11 hd12 ⟨W, O, V, P, tups, ew, eo, ev, rfl, VO, Ed, Vs, hm⟩ hneI F12 N12
      have F13 := fr_knows F12 (ps := [(Str.ofString "waiting", .ref D), (Str.ofString "opened", .ref lop), (Str.ofString "visits", .ref lv), (Str.ofString "day", .int (d : Int) t)]) ⟨hm.1, hm.2.1, hm.2.2.1, (by show some (Value.int (0 + (d : Int)) t) = _; rw [Int.zero_add]), trivial⟩
      dsimp only [kstB] at F13
      clear F12 hm
      have hI1 : I ≠ D := Ne.symm (hneI (D, _) (.head _))
      have hI2 : I ≠ lop := Ne.symm (hneI (lop, _) (.tail _ (.head _)))
      have hI3 : I ≠ lv := Ne.symm (hneI (lv, _) (.tail _ (.tail _ (.head _))))
      have hI4 : ∀ p ∈ tups, p.1 ≠ I := fun p hp => hneI p (.tail _ (.tail _ (.tail _ hp)))
      ktr_unf
      refine wpAny_mono (Q := fun f s' => f = .next ∧ VState xs g L D lop lv (L + 1) oc I it d t P V ev s (fun W _ => ∀ x ∈ W, (d : Int) < x.a) s') ?_ ?_ (fun _ _ h => h)
      · refine While_inv2 (fun n m news => ∃ W O tups ew eo, n = W.length ∧ news = (I, it) :: VLed D lop lv W O V ew eo ev tups ∧ VOk xs D lop lv (L + 1) oc W O V tups ∧ (∀ p ∈ tups, p.1 ≠ I) ∧ Edf xs d W O P ∧ Knows m [(Str.ofString "waiting", .ref D), (Str.ofString "opened", .ref lop), (Str.ofString "visits", .ref lv), (Str.ofString "day", .int (d : Int) t)])
          F13 N12 ⟨W, O, tups, ew, eo, rfl, rfl, VO, hI4, Ed, rfl, rfl, rfl, rfl, trivial⟩ ?_ (by exact fun _ _ h => h.elim)
        clear F13 N12 VO Ed hI4 hneI W O ew eo tups
        rintro n m₂ news₂ h12 tk12 F14 N14 ⟨W, O, tups, ew, eo, rfl, rfl, VO, hI4, Ed, hm⟩
        have hm' := hm
        replace F14 := fr_knows F14 hm
        dsimp only [kstB] at F14
        clear hm
        have hend : ∀ tk (m' : Str → Option Value) h', Fr g L h' m' → News g L h' ((I, it) :: VLed D lop lv W O V ew eo ev tups) → Knows m' [(Str.ofString "waiting", .ref D), (Str.ofString "opened", .ref lop), (Str.ofString "visits", .ref lv), (Str.ofString "day", .int (d : Int) t)] → (∀ x ∈ W, (d : Int) < x.a) → VState xs g L D lop lv (L + 1) oc I it d t P V ev s (fun W _ => ∀ x ∈ W, (d : Int) < x.a) { s with heap := h', toks := tk } :=
          fun tk m' h' F' N' hm' hw => ⟨h', tk, m', W, O, tups, ew, eo, rfl, F', N', VO, hI4, Ed, hm', hw⟩
        ktr_unf
        rename_i T0 h13 F15 N15 hlt15
        refine ne_empty (isL N15 (.tail _ (.tail _ (.head _)))) (isL (vs := []) (n := 0) N15 (.head _)) (by show un < cLine; omega) ?_
        replace N15 := news_sub N15 (news' := (I, it) :: VLed D lop lv W O V ew eo ev tups) (fun p hp => .tail _ hp)
        rcases List.eq_nil_or_concat W with rfl | ⟨init, last, rfl⟩
        · rw [show (!(vals []).isEmpty) = false from rfl]
          ktr_unf
          exact hend _ _ _ F15 N15 ⟨rfl, rfl, rfl, rfl, trivial⟩ (fun x hx => nomatch hx)
        · rw [List.concat_eq_append] at *
          rw [show (!(vals (init ++ [last])).isEmpty) = true from by simp [vals]]
          have htop := hpop_fst last init
          have htm : (hpop last init).1 ∈ init ++ [last] := List.mem_of_getElem? htop
          obtain ⟨hIW, hIO⟩ := VLed.items (pre := [(I, it)]) VO N15
          ktr_unf
          refine item_Li (j := 0) (isL N15 (.tail _ (.head _))) rfl (vals_get htop) (by omega) ?_
          ktr_unf
          refine item_T0 (hIW _ htm).1 ?_
          ktr_unf
          · rename_i hc
            have hlen := VO.len
            rw [List.length_append, List.length_singleton] at hlen
            refine off_tell D init last ew (by omega) _ _ _ _ _ _ _ _ _ _ _ _ _ _ _ _ _ B F15 X (news_sub N15 (by intro p hp; rw [List.mem_singleton.mp hp]; exact .tail _ (.head _))) T rfl (by omega) (by omega) hIW ?_
            rintro r own' h16 tk16 F16 N16 K16 ⟨rfl, ew', rfl⟩
            obtain ⟨k, y, hk1, hk2, hmove⟩ := edf_move Ed hc
            have hpm := hpop_perm last init
            have N17 : News g L h16 ((I, it) :: VLed D lop lv (hpop last init).2 O V ew' eo ev tups) := by
              have NR := news_keeps (rest := (I, it) :: (lop, lo (vals O) eo) :: (lv, lo (vals V) ev) :: tups) (news_sub N15 (by
                intro q hq
                rcases List.mem_cons.mp hq with rfl | hq
                · exact .head _
                · exact .tail _ (.tail _ hq))) K16 (by
                intro q hq u hu
                rw [List.mem_singleton.mp hu]
                rcases List.mem_cons.mp hq with rfl | hq
                · exact Ne.symm hI1
                rcases List.mem_cons.mp hq with rfl | hq
                · exact hne1
                rcases List.mem_cons.mp hq with rfl | hq
                · exact hne2
                · exact Ne.symm (VO.off q hq).1)
              intro p hp
              rcases List.mem_cons.mp hp with rfl | hp
              · exact NR _ (.head _)
              rcases List.mem_cons.mp hp with rfl | hp
              · exact N16 _ (.head _)
              · exact NR _ (.tail _ hp)
            have VO2 : VOk xs D lop lv (L + 1) oc (hpop last init).2 O V tups := ⟨VO.off, VO.cell, fun x hx => VO.memW x (hpm.mem_iff.mp (.tail _ hx)), VO.memO, VO.memV, by
              have := hpm.length_eq
              rw [List.length_cons, List.length_append, List.length_singleton] at this
              omega⟩
            have htT : ((hpop last init).1.at', (hpop last init).1.obj) ∈ tups := VO.memW _ htm
            clear N16 K16 N15 F15
            ktr_unf
            rename_i h17 F17 N18
            have hcm : (L + 1, oc) ∈ (I, it) :: VLed D lop lv (hpop last init).2 O V ew' eo ev tups := .tail _ (.tail _ (.tail _ (.tail _ VO.cell)))
            have htm2 : ((hpop last init).1.at', (hpop last init).1.obj) ∈ (I, it) :: VLed D lop lv (hpop last init).2 O V ew' eo ev tups := .tail _ (.tail _ (.tail _ (.tail _ htT)))
            show wpAny _ _ (compareOp .Is (.ref (hpop last init).1.at') .none) _ _ _
            ktr_unf
            refine nameX_C N18 (by rfl) hcm hoc ?_
            ktr_unf
            refine item_T1 (N18.get htm2) ?_
            ktr_unf
            have hkl := lt_of_get hk2
            refine item_Li (j := k) (hP.fr F17).list hk1 (vals_get hk2) (by omega) ?_
            ktr_unf
            refine item_T1 ((hP.fr F17).2 y (List.mem_of_getElem? hk2)) ?_
            ktr_unf
            refine item_T1 (N18.get htm2) ?_
            ktr_unf
            rename_i T1 h18 F19 N19 hlt19
            have E2 := hmove ⟨T1, y.b, y.tb, (hpop last init).1.b, (hpop last init).1.tb, 0⟩ rfl hk1
            replace N19 : News g L h18 ((T1, It.obj ⟨T1, y.b, y.tb, (hpop last init).1.b, (hpop last init).1.tb, 0⟩) :: (I, it) :: VLed D lop lv (hpop last init).2 O V ew' eo ev tups) := N19
            show wpAny _ _ (call (Value.ref 21) [Value.ref lop, It.val ⟨T1, y.b, y.tb, (hpop last init).1.b, (hpop last init).1.tb, 0⟩]) _ _ _
            generalize hxn : (⟨T1, y.b, y.tb, (hpop last init).1.b, (hpop last init).1.tb, 0⟩ : It) = xn at E2 N19 ⊢
            have hxa : xn.at' = T1 := by rw [← hxn]
            have hT1 : T1 ≠ lop := Nat.ne_of_gt hlt19.2.2.1
            have VO3 : VOk xs D lop lv (L + 1) oc (hpop last init).2 (hpush O xn) V ((xn.at', xn.obj) :: tups) := by
              have hpp := hpush_perm O xn
              refine ⟨fun p hp => ?_, .tail _ VO.cell, fun x hx => .tail _ (VO2.memW x hx), fun x hx => ?_, fun x hx => .tail _ (VO.memV x hx), ?_⟩
              · rcases List.mem_cons.mp hp with rfl | hp
                · rw [hxa]; exact ⟨Nat.ne_of_gt hlt19.2.1, hT1, Nat.ne_of_gt hlt19.2.2.2.1⟩
                · exact VO.off p hp
              · rcases List.mem_append.mp (hpp.mem_iff.mp hx) with hx | hx
                · exact .tail _ (VO.memO x hx)
                · rw [List.mem_singleton.mp hx]; exact .head _
              · have q1 := hpm.length_eq
                rw [List.length_cons, List.length_append, List.length_singleton] at q1
                rw [hpp.length_eq, List.length_append, List.length_singleton]
                omega
            refine hpush_tell lop O eo xn (by omega) _ _ _ _ _ _ _ _ _ _ _ _ _ _ _ _ _ B F19 X (news_sub N19 (by intro p hp; rw [List.mem_singleton.mp hp]; exact .tail _ (.tail _ (.tail _ (.head _))))) T rfl (by omega) (by omega) (fun x hx => ?_) ?_
            · rcases List.mem_append.mp hx with hx | hx
              · exact ⟨N19.get (.tail _ (.tail _ (.tail _ (.tail _ (.tail _ (VO.memO x hx)))))), (VO.off _ (VO.memO x hx)).2.1⟩
              · rw [List.mem_singleton.mp hx]
                exact ⟨by rw [hxa]; exact N19.get (.head _), by rw [hxa]; exact hT1⟩
            rintro r own' h20 tk20 F20 N20 K20 ⟨rfl, eo', rfl⟩
            have N21 : News g L h20 ((I, it) :: VLed D lop lv (hpop last init).2 (hpush O xn) V ew' eo' ev ((xn.at', xn.obj) :: tups)) := by
              have NR := news_keeps (rest := (I, it) :: (D, lo (vals (hpop last init).2) ew') :: (lv, lo (vals V) ev) :: (xn.at', xn.obj) :: tups) (news_sub N19 (by
                intro q hq
                rcases List.mem_cons.mp hq with rfl | hq
                · exact .tail _ (.head _)
                rcases List.mem_cons.mp hq with rfl | hq
                · exact .tail _ (.tail _ (.head _))
                rcases List.mem_cons.mp hq with rfl | hq
                · exact .tail _ (.tail _ (.tail _ (.tail _ (.head _))))
                rcases List.mem_cons.mp hq with rfl | hq
                · rw [hxa]; exact .head _
                · exact .tail _ (.tail _ (.tail _ (.tail _ (.tail _ hq)))))) K20 (by
                intro q hq u hu
                rw [List.mem_singleton.mp hu]
                rcases List.mem_cons.mp hq with rfl | hq
                · exact Ne.symm hI2
                rcases List.mem_cons.mp hq with rfl | hq
                · exact Ne.symm hne1
                rcases List.mem_cons.mp hq with rfl | hq
                · exact hne3
                rcases List.mem_cons.mp hq with rfl | hq
                · rw [hxa]; exact Ne.symm hT1
                · exact Ne.symm (VO.off q hq).2.1)
              intro p hp
              rcases List.mem_cons.mp hp with rfl | hp
              · exact NR _ (.head _)
              rcases List.mem_cons.mp hp with rfl | hp
              · exact NR _ (.tail _ (.head _))
              rcases List.mem_cons.mp hp with rfl | hp
              · exact N20 _ (.head _)
              · exact NR _ (.tail _ (.tail _ hp))
            clear N20 K20 N19
            ktr_unf
            refine ⟨_, _, _, _, (hpop last init).2.length, rfl, F20, N21, ?_, (hpop last init).2, hpush O xn, (xn.at', xn.obj) :: tups, ew', eo', rfl, rfl, VO3, fun p hp => ?_, E2, rfl, rfl, rfl, rfl, trivial⟩
            · have q1 := hpm.length_eq
              rw [List.length_cons] at q1
              omega
            · rcases List.mem_cons.mp hp with rfl | hp
              · rw [hxa]; exact Nat.ne_of_gt hlt19.1
              · exact hI4 p hp
          · rename_i hc
            have hmin := heap_min Ed.hw htop
            obtain ⟨k, y, q1, q2, q3, q4⟩ := Ed.w _ htm
            refine hend _ _ _ F15 N15 ⟨rfl, rfl, rfl, rfl, trivial⟩ (fun x hx => ?_)
            have := hmin x hx
            rw [It.le_iff] at this
            omega
      · rintro f s' ⟨rfl, h12, tk12, m12, W, O, tups, ew, eo, rfl, F14, N14, VO, hI4, Ed, hm, hWd⟩
        clear F13 N12
        replace F14 := fr_knows F14 hm
        dsimp only [kstB] at F14
        clear hm
        dsimp only
        ktr_unf
        refine wpAny_mono (Q := fun f s' => f = .next ∧ VState xs g L D lop lv (L + 1) oc I it d t P V ev s (fun W O => (∀ x ∈ W, (d : Int) < x.a) ∧ ∀ x ∈ O, (d : Int) ≤ x.a) s') ?_ ?_ (fun _ _ h => h)
        · refine While_inv2 (fun n m news => ∃ W O tups ew eo, n = O.length ∧ news = (I, it) :: VLed D lop lv W O V ew eo ev tups ∧ VOk xs D lop lv (L + 1) oc W O V tups ∧ (∀ p ∈ tups, p.1 ≠ I) ∧ Edf xs d W O P ∧ (∀ x ∈ W, (d : Int) < x.a) ∧ Knows m [(Str.ofString "waiting", .ref D), (Str.ofString "opened", .ref lop), (Str.ofString "visits", .ref lv), (Str.ofString "day", .int (d : Int) t)])
            F14 N14 ⟨W, O, tups, ew, eo, rfl, rfl, VO, hI4, Ed, hWd, rfl, rfl, rfl, rfl, trivial⟩ ?_ (by exact fun _ _ h => h.elim)
          clear F14 N14 VO Ed hI4 hWd hneI W O ew eo tups
          rintro n m₂ news₂ h12 tk12 F14 N14 ⟨W, O, tups, ew, eo, rfl, rfl, VO, hI4, Ed, hWd, hm⟩
          replace F14 := fr_knows F14 hm
          dsimp only [kstB] at F14
          clear hm
          ktr_unf
          rename_i T0 h13 F15 N15 hlt15
          refine ne_empty (isL N15 (.tail _ (.tail _ (.tail _ (.head _))))) (isL (vs := []) (n := 0) N15 (.head _)) (by show un < cLine; omega) ?_
          replace N15 := news_sub N15 (news' := (I, it) :: VLed D lop lv W O V ew eo ev tups) (fun p hp => .tail _ hp)
          rcases List.eq_nil_or_concat O with rfl | ⟨init, last, rfl⟩
          · rw [show (!(vals []).isEmpty) = false from rfl]
            ktr_unf
            exact ⟨_, _, _, W, [], tups, ew, eo, rfl, F15, N15, VO, hI4, Ed, ⟨rfl, rfl, rfl, rfl, trivial⟩, hWd, fun x hx => nomatch hx⟩
          · rw [List.concat_eq_append] at *
            rw [show (!(vals (init ++ [last])).isEmpty) = true from by simp [vals]]
            have htop := hpop_fst last init
            have htm : (hpop last init).1 ∈ init ++ [last] := List.mem_of_getElem? htop
            obtain ⟨hIW, hIO⟩ := VLed.items (pre := [(I, it)]) VO N15
            ktr_unf
            refine item_Li (j := 0) (isL N15 (.tail _ (.tail _ (.head _)))) rfl (vals_get htop) (by omega) ?_
            ktr_unf
            refine item_T0 (hIO _ htm).1 ?_
            ktr_unf
            · rename_i hc
              have hlen := VO.len
              rw [List.length_append, List.length_singleton] at hlen
              refine off_tell lop init last eo (by omega) _ _ _ _ _ _ _ _ _ _ _ _ _ _ _ _ _ B F15 X (news_sub N15 (by intro p hp; rw [List.mem_singleton.mp hp]; exact .tail _ (.tail _ (.head _)))) T rfl (by omega) (by omega) hIO ?_
              rintro r own' h16 tk16 F16 N16 K16 ⟨rfl, eo', rfl⟩
              have N17 := vled_o VO N15 K16 N16 hI2 hne1 hne3
              clear N16 K16 N15 F15
              ktr_unf
              show wpAny _ _ (compareOp .Is (.ref (hpop last init).1.at') .none) _ _ _
              ktr_unf
              refine ⟨_, _, _, _, (hpop last init).2.length, rfl, F16, N17, ?_, W, (hpop last init).2, tups, ew, eo', rfl, rfl, vok_popO VO, hI4, edf_drop Ed hc, hWd, rfl, rfl, rfl, rfl, trivial⟩
              have q1 := (hpop_perm last init).length_eq
              rw [List.length_cons] at q1
              omega
            · rename_i hc
              have hmin := heap_min Ed.ho htop
              exact ⟨_, _, _, W, init ++ [last], tups, ew, eo, rfl, F15, N15, VO, hI4, Ed, ⟨rfl, rfl, rfl, rfl, trivial⟩, hWd, fun x hx => by
                have := hmin x hx
                rw [It.le_iff] at this
                omega⟩
        · rintro f s' ⟨rfl, h12, tk12, m12, W, O, tups, ew, eo, rfl, F14, N14, VO, hI4, Ed, hm, hWd, hOd⟩
          replace F14 := fr_knows F14 hm
          dsimp only [kstB] at F14
          clear hm
          dsimp only
          ktr_unf
          rename_i T0 h13 F15 N15 hlt15
          refine ne_empty (isL N15 (.tail _ (.tail _ (.tail _ (.head _))))) (isL (vs := []) (n := 0) N15 (.head _)) (by show un < cLine; omega) ?_
          replace N15 := news_sub N15 (news' := (I, it) :: VLed D lop lv W O V ew eo ev tups) (fun p hp => .tail _ hp)
          rcases List.eq_nil_or_concat O with rfl | ⟨init, last, rfl⟩
          · rw [show (!(vals []).isEmpty) = false from rfl]
            ktr_unf
            refine ⟨_, _, _, VLed D lop lv W [] V ew eo ev tups, rfl, F15, N15, ?_, W, [], V, P, tups, ew, eo, ev, rfl, VO, edf_rest Ed hWd, Vs, rfl, rfl, rfl, trivial⟩
            intro p hp
            rcases List.mem_cons.mp hp with rfl | hp
            · exact Ne.symm hI1
            rcases List.mem_cons.mp hp with rfl | hp
            · exact Ne.symm hI2
            rcases List.mem_cons.mp hp with rfl | hp
            · exact Ne.symm hI3
            · exact hI4 p hp
          · rw [List.concat_eq_append] at *
            rw [show (!(vals (init ++ [last])).isEmpty) = true from by simp [vals]]
            have htop := hpop_fst last init
            have htm : (hpop last init).1 ∈ init ++ [last] := List.mem_of_getElem? htop
            obtain ⟨hIW, hIO⟩ := VLed.items (pre := [(I, it)]) VO N15
            have hlen := VO.len
            rw [List.length_append, List.length_singleton] at hlen
            have hVl : V.length ≤ 12 := by
              rw [Vs.len]
              exact Nat.le_trans (List.length_filter_le _ _) (by simp)
            obtain ⟨k, hk1, E2, hV2⟩ := edf_visit Ed hWd (hOd _ htm) hd12 Vs
            ktr_unf
            refine off_tell lop init last eo (by omega) _ _ _ _ _ _ _ _ _ _ _ _ _ _ _ _ _ B F15 X (news_sub N15 (by intro p hp; rw [List.mem_singleton.mp hp]; exact .tail _ (.tail _ (.head _)))) T rfl (by omega) (by omega) hIO ?_
            rintro r own' h16 tk16 F16 N16 K16 ⟨rfl, eo', rfl⟩
            have N17 := vled_o VO N15 K16 N16 hI2 hne1 hne3
            have VO2 := vok_popO VO
            have htT := VO.memO _ htm
            clear N16 K16 N15 F15
            ktr_unf
            rename_i h17 F17 N18
            have htm2 : ((hpop last init).1.at', (hpop last init).1.obj) ∈ (I, it) :: VLed D lop lv W (hpop last init).2 V ew eo' ev tups := .tail _ (.tail _ (.tail _ (.tail _ htT)))
            show wpAny _ _ (compareOp .Is (.ref (hpop last init).1.at') .none) _ _ _
            ktr_unf
            refine item_T1 (N18.get htm2) ?_
            ktr_unf
            rename_i T1 h18 F19 N19 hlt19
            have H2 := hV2 ⟨T1, (d : Int), t, (hpop last init).1.b, (hpop last init).1.tb, 0⟩ hk1
            replace N19 : News g L h18 ((T1, It.obj ⟨T1, (d : Int), t, (hpop last init).1.b, (hpop last init).1.tb, 0⟩) :: (I, it) :: VLed D lop lv W (hpop last init).2 V ew eo' ev tups) := N19
            show wpAny _ _ (call (Value.builtin "list.append") [Value.ref lv, It.val ⟨T1, (d : Int), t, (hpop last init).1.b, (hpop last init).1.tb, 0⟩]) _ _ _
            generalize hxn : (⟨T1, (d : Int), t, (hpop last init).1.b, (hpop last init).1.tb, 0⟩ : It) = xn at H2 N19 ⊢
            have hxa : xn.at' = T1 := by rw [← hxn]
            have hT1 : T1 ≠ lv := Nat.ne_of_gt hlt19.2.2.2.1
            refine append_L F19 N19 (.tail _ (.tail _ (.tail _ (.tail _ (.head _))))) (by rw [show (vals V).length = V.length from List.length_map ..]; omega) ?_
            intro h20 F20 N20
            have N21 : News g L h20 ((I, it) :: VLed D lop lv W (hpop last init).2 (V ++ [xn]) ew eo' (ev + 1) ((xn.at', xn.obj) :: tups)) := by
              refine news_sub N20 (fun p hp => ?_)
              rcases List.mem_cons.mp hp with rfl | hp
              · exact mem_setN_ne (.tail _ (.head _)) hI3
              rcases List.mem_cons.mp hp with rfl | hp
              · exact mem_setN_ne (.tail _ (.tail _ (.head _))) hne2
              rcases List.mem_cons.mp hp with rfl | hp
              · exact mem_setN_ne (.tail _ (.tail _ (.tail _ (.head _)))) hne3
              rcases List.mem_cons.mp hp with rfl | hp
              · rw [vals_app]; exact mem_setN_self (o := lo (vals V) ev) (.tail _ (.tail _ (.tail _ (.tail _ (.head _)))))
              rcases List.mem_cons.mp hp with rfl | hp
              · rw [hxa]; exact mem_setN_ne (.head _) hT1
              · exact mem_setN_ne (.tail _ (.tail _ (.tail _ (.tail _ (.tail _ hp))))) (VO.off p hp).2.2
            have VO3 : VOk xs D lop lv (L + 1) oc W (hpop last init).2 (V ++ [xn]) ((xn.at', xn.obj) :: tups) := by
              refine ⟨fun p hp => ?_, .tail _ VO.cell, fun x hx => .tail _ (VO2.memW x hx), fun x hx => .tail _ (VO2.memO x hx), fun x hx => ?_, VO2.len⟩
              · rcases List.mem_cons.mp hp with rfl | hp
                · rw [hxa]; exact ⟨Nat.ne_of_gt hlt19.2.1, Nat.ne_of_gt hlt19.2.2.1, hT1⟩
                · exact VO.off p hp
              · rcases List.mem_append.mp hx with hx | hx
                · exact .tail _ (VO.memV x hx)
                · rw [List.mem_singleton.mp hx]; exact .head _
            clear N20 N19
            ktr_unf
            refine ⟨_, _, _, VLed D lop lv W (hpop last init).2 (V ++ [xn]) ew eo' (ev + 1) ((xn.at', xn.obj) :: tups), rfl, F20, N21, ?_, W, (hpop last init).2, V ++ [xn], put P d k, (xn.at', xn.obj) :: tups, ew, eo', ev + 1, rfl, VO3, E2, H2, rfl, rfl, rfl, trivial⟩
            intro p hp
            rcases List.mem_cons.mp hp with rfl | hp
            · exact Ne.symm hI1
            rcases List.mem_cons.mp hp with rfl | hp
            · exact Ne.symm hI2
            rcases List.mem_cons.mp hp with rfl | hp
            · exact Ne.symm hI3
            rcases List.mem_cons.mp hp with rfl | hp
            · rw [hxa]; exact Nat.ne_of_gt hlt19.1
            · exact hI4 p hp
    · rintro m₁ news₁ h11 tk11 ⟨W, O, V, P, tups, ew, eo, ev, rfl, VO, Ed, Vs, hm⟩ F12 N12
      have F13 := fr_knows F12 hm
      dsimp only [kstB] at F13
      ktr_unf
      exact EndT.intro F13 N12 ⟨lv, V, P, ev, rfl, .tail _ (.tail _ (.head _)), fun x hx => .tail _ (.tail _ (.tail _ (VO.memV x hx))), Ed.val, greedy_cert hg Ed.val Ed.gr, Vs⟩
end Mine
end
section
open PySem PySem.W PyProof.Rows PySem.Calls PySem.SeqAt
namespace Mine
local macro_rules | `(tactic| ktr_unf) => `(tactic| (repeat' (first
  | (k_unfold; (try dsimp only))
  | ((fail_if_success (with_reducible show wpAny _ _ (exec (Stmt.While _ _ _ _) _) _ _ _)); (fail_if_success (with_reducible show wpAny _ _ (exec (Stmt.For _ _ _ _ _) _) _ _ _)); (fail_if_success (with_reducible show wpAny _ _ (call (Value.ref _) _) _ _ _)); (fail_if_success (with_reducible show wpAny _ _ (pyIter _) _ _ _)); (fail_if_success (with_reducible show wpAny _ _ (eval (Expr.ListComp _ _ _ _) _) _ _ _)); (fail_if_success (with_reducible show wpAny _ _ (exec (Stmt.Assign _ (Expr.ListComp _ _ _ _) _) _) _ _ _)); (fail_if_success (with_reducible show LCg.CompSrc _ _ _ _ _ _ _ _ _ _ _ _ _ _)); (fail_if_success (with_reducible show LCt.CompSrcT _ _ _ _ _ _ _ _ _ _ _ _ _ _ _)); (fail_if_success (with_reducible show LCp.SrcLP _ _ _ _ _ _ _ _ _ _ _ _ _ _ _)); (fail_if_success (with_reducible show wpAny _ _ (eval (Expr.Name _ _) (compEnvC _ _ _ _)) _ _ _)); (fail_if_success (with_reducible show wpAny _ _ (compareOp _ (Value.ref _) (Value.ref _)) _ _ _)); (fail_if_success (with_reducible show wpAny _ _ (subscriptTail _ _ _ _) _ _ _)); (fail_if_success (with_reducible show wpAny _ _ (call (Value.builtin "sorted") _) _ _ _)); (first | walk1 | (dsimp only; walk1)); (try dsimp only at *)))))
theorem law_holds : PySem.Challenge.rw_mj0018_01.Holds := by
  refine hd ?_
  w_on
  k_go0
  rename_i sc vs as1 hLst ra wl r0 hInts hrW hc1 hc2 K0 hD h1 tk1 F oc hoc N0 X0
  clear X0 hD hrW r0 wl ra
  rename World => w
  rename Frag.In _ _ => KX
  rename Top _ _ _ _ _ _ => TT
  have hcl := cLine_is
  have hrl : recursionLimit = 1000 := by decide
  have hcm : claimMargin ≤ 500 := by decide
  rename Shared => s₁
  rename List Int => ns
  have hn : ns.length ≤ 63 := by omega
  replace K0 : Below callerA s₁.heap [] s₁.heap := K0
  replace F : Fr s₁.heap s₁.heap.objs.size h1 (fun y => if y = Str.ofString "script" then some (.ref sc) else none) := F
  replace hoc : oc.data = .cell none := hoc
  change wpAny _ (ktrTop (1 + claimMargin + 1) (4 + 3) (some []) (Str.ofString "law") _ s₁.heap.objs.size _ _ [(Str.ofString "guests", s₁.heap.objs.size + 1)] []) (execs _ (envX (Str.ofString "law") _ s₁.heap.objs.size _ _ [(Str.ofString "guests", s₁.heap.objs.size + 1)])) _ _ _
  (try k_fold)
  ktr_unf
  refine inv_tell sc vs ns hInts hn _ _ _ _ _ _ _ _ _ _ _ _ _ _ _ _ _ K0 F KX (news_sub N0 (by intro p hp; exact nomatch hp)) TT rfl (by omega) (by omega) (F.lst hLst) ?_
  rintro r own1 h2 tk2 F2 N2 K2 ⟨li, xs, ei, rfl, hlim, hxm, hg, hxl⟩
  have hInv0 : InvAt li xs ei h2 := ⟨N2.get hlim, fun x hx => N2.get (hxm x hx)⟩
  have N3 : News s₁.heap s₁.heap.objs.size h2 ((s₁.heap.objs.size + 1, oc) :: own1) := by
    intro p hp
    rcases List.mem_cons.mp hp with rfl | hp
    · exact news_keeps N0 K2 (by intro p hp q hq; exact nomatch hq) _ (.head _)
    · exact N2 _ hp
  clear N2 K2 N0 hInv0
  have hinv : ∀ {h : Heap} {news : Led}, News s₁.heap s₁.heap.objs.size h news → (∀ p ∈ (s₁.heap.objs.size + 1, oc) :: own1, p ∈ news) → InvAt li xs ei h := fun N hs => ⟨N.get (hs _ (.tail _ hlim)), fun x hx => N.get (hs _ (.tail _ (hxm x hx)))⟩
  ktr_unf
  rename_i h3 F3 N4
  refine visits_tell li xs ei hg hxl _ _ _ _ _ _ _ _ _ _ _ _ _ _ _ _ _ K0 F3 KX (news_sub N4 (by intro p hp; exact nomatch hp)) TT rfl (by omega) (by omega) (hinv N4 (fun p hp => hp)) ?_
  rintro r own2 h4 tk4 F4 N5 K4 ⟨lv, V, Dv, ev, rfl, hlvm, hVm, hval, hcert, hvis⟩
  have N6 : News s₁.heap s₁.heap.objs.size h4 ((s₁.heap.objs.size + 1, oc) :: own1 ++ own2) := news_app (news_keeps N4 K4 (by intro p hp q hq; exact nomatch hq)) N5
  clear N5 K4 N4
  have hVl : V.length ≤ 12 := by
    rw [hvis.len]
    exact Nat.le_trans (List.length_filter_le _ _) (by simp)
  have hsub : ∀ p ∈ own2, p ∈ (s₁.heap.objs.size + 1, oc) :: own1 ++ own2 := fun p hp => List.mem_append.mpr (.inr hp)
  ktr_unf
  rename_i h5 F5 N7
  refine len_L (isL N7 (hsub _ hlvm)) (by simpa [vals] using (by omega : V.length < 1000)) ?_
  intro t1 t2
  rw [show (vals V).length = V.length from List.length_map ..]
  ktr_unf
  refine most_tell li xs ei hg hxl _ _ _ _ _ _ _ _ _ _ _ _ _ _ _ _ _ K0 F5 KX (news_sub N7 (by intro p hp; exact nomatch hp)) TT rfl (by omega) (by omega) (hinv N7 (fun p hp => List.mem_append.mpr (.inl hp))) ?_
  rintro r own3 h6 tk6 F6 N8 K6 ⟨Dm, tm, rfl, hval2, hcert2⟩
  have N9 : News s₁.heap s₁.heap.objs.size h6 ((s₁.heap.objs.size + 1, oc) :: own2) := news_sub (news_keeps N7 K6 (by intro p hp q hq; exact nomatch hq)) (fun p hp => by
    rcases List.mem_cons.mp hp with rfl | hp
    · exact .head _
    · exact hsub p hp)
  have hsz : V.length = size Dm := by rw [hvis.len]; exact same_size hg hval hcert hval2 hcert2
  clear N8 K6 N7
  ktr_unf
  · rename_i hbad
    exact absurd (by omega) hbad
  · refine LCp.ListComp_P F6 (cl := []) rfl (by decide) rfl (by decide) rfl rfl (by decide) ?_
    ktr_unf
    refine LCp.SrcLP.ledger rfl F6 N9 (.tail _ hlvm) (by rw [List.size_toArray, sizeLine_eq, show (vals V).length = V.length from List.length_map ..]; omega) ?_
    intro g7
    refine restP_inv (n := (vals V).toArray.size) (fun i ys news => news = (s₁.heap.objs.size + 1, oc) :: own2 ∧ IntsAre ys ((V.take i).map (·.b))) ?_ ?_ _ 0 [] _ (by simp) ⟨rfl, .nil⟩
    · rintro i ys news hi ⟨rfl, hys⟩ v hv
      have hi' : i < V.length := by simpa [vals] using hi
      obtain ⟨x, hx⟩ : ∃ x, V[i]? = some x := ⟨_, List.getElem?_eq_getElem hi'⟩
      have hv' : v = x.val := by
        have h1 := vals_get hx
        have h2 : (vals V)[i]? = some v := by simpa using hv
        rw [h1] at h2; exact (Option.some.inj h2).symm
      subst hv'
      refine ⟨x.at', x.obj, .int x.a x.ta, .int x.b x.tb, x.ep, rfl, .tail _ (hVm x (List.mem_of_getElem? hx)), rfl, rfl, ?_⟩
      intro I oI C oC D m₂ h tk E' hC hx1 hx2 F7 N10 off ne
      refine nameC_L hC N10 (.tail _ (.head _)) hx2 ?_
      refine LCg.CompEnd.intro F7 N10 _ (fun p hp => hp) off (.inr ⟨_, .tail _ hlvm, rfl, ev, rfl⟩) ⟨rfl, ?_⟩
      have e : (V.take (i + 1)).map (·.b) = (V.take i).map (·.b) ++ [x.b] := by
        rw [List.take_add_one, hx]; simp
      rw [e]
      exact hys.append (.cons _ _ .nil)
    · rintro ys news ⟨rfl, hys⟩ D h tk F7 N10 off
      have hys' : IntsAre ys (V.map (·.b)) := by
        have : V.take (vals V).toArray.size = V := by simp [vals]
        rw [this] at hys; exact hys
      ktr_unf
      have hcell := N10.get (.tail _ (.head _))
      have hclt : s₁.heap.objs.size + 1 < h.objs.size := Heap.lt_size hcell
      refine sorted_N F7 (news_sub N10 (news' := [(s₁.heap.objs.size + 1, oc)]) (by intro p hp; rw [List.mem_singleton.mp hp]; exact .tail _ (.head _))) (isL N10 (.head _)) hys' (by rw [hys'.length, List.length_map]; omega) ?_
      intro h8 vs' gs e F8 N11 hI' hperm hsort
      have hgnd : gs.Nodup := hperm.nodup_iff.mpr hvis.nd
      have hgl : gs.length ≤ 12 := by rw [hperm.length_eq, List.length_map]; exact hVl
      have hvl : vs'.length = gs.length := hI'.length
      dsimp only at N11
      generalize hlg : h.objs.size + 1 = lg at N11 ⊢
      replace N11 : News s₁.heap s₁.heap.objs.size h8 [(lg, lo vs' e), (s₁.heap.objs.size + 1, oc)] := N11
      have hlt8 : s₁.heap.objs.size + 1 < lg := by omega
      clear hlim hxm hinv N9 N10
      dsimp only
      ktr_unf
      rename_i h9 og F9 N12 hog
      clear hoc
      have hgm : (s₁.heap.objs.size + 1, og) ∈ [(lg, lo vs' e), (s₁.heap.objs.size + 1, og)] := .tail _ (.head _)
      refine LCt.ListComp_T F9 (cl := [(Str.ofString "guests", s₁.heap.objs.size + 1)]) (by rfl) (by decide) rfl (by decide) rfl ?_
      ktr_unf
      rename_i h10 tk10 t10 u10 v10 R10 F11 N13 K11
      have hnn : ((gs.length - 1 : Nat) : Int) = if (1 : Int) < (gs.length : Int) then (gs.length : Int) - 1 else 0 := by split <;> omega
      refine LCt.CompSrcT.range rfl F11 N13 R10 (small_up hnn (by omega) (by omega)) (size_up hnn) (by rw [sizeLine_eq]; omega) ?_
      intro g11
      refine restT_none (n := gs.length - 1) trivial ?_ ?_ _ 0 (by omega)
      · rintro i hi v I oI C oC D2 m₂ h11 tk11 E' ⟨t, rfl⟩ hC hx F12 N14 off ne
        have hcm2 : (s₁.heap.objs.size + 1, og) ∈ (I, oI) :: (C, oC) :: (D2, LCg.lst []) :: [(lg, lo vs' e), (s₁.heap.objs.size + 1, og)] := .tail _ (.tail _ (.tail _ hgm))
        have hlm2 : (lg, lo vs' e) ∈ (I, oI) :: (C, oC) :: (D2, LCg.lst []) :: [(lg, lo vs' e), (s₁.heap.objs.size + 1, og)] := .tail _ (.tail _ (.tail _ (.head _)))
        have hCm : (C, oC) ∈ (I, oI) :: (C, oC) :: (D2, LCg.lst []) :: [(lg, lo vs' e), (s₁.heap.objs.size + 1, og)] := .tail _ (.head _)
        obtain ⟨a, ha⟩ : ∃ a, gs[i]? = some a := ⟨_, List.getElem?_eq_getElem (by omega)⟩
        obtain ⟨b, hb⟩ : ∃ b, gs[i + 1]? = some b := ⟨_, List.getElem?_eq_getElem (by omega)⟩
        obtain ⟨ta, hta⟩ := hI'.get i a ha
        obtain ⟨tb, htb⟩ := hI'.get (i + 1) b hb
        have hab : a ≠ b := by
          intro q
          rw [q] at ha
          have h1 : gs[i]'(by omega) = b := by
            have := List.getElem?_eq_getElem (l := gs) (i := i) (by omega)
            rw [ha] at this; exact (Option.some.inj this).symm
          have h2 : gs[i + 1]'(by omega) = b := by
            have := List.getElem?_eq_getElem (l := gs) (i := i + 1) (by omega)
            rw [hb] at this; exact (Option.some.inj this).symm
          have := (List.pairwise_iff_getElem.mp (List.nodup_iff_pairwise_ne.mp hgnd)) i (i + 1) (by omega) (by omega) (by omega)
          exact this (h1.trans h2.symm)
        ktr_unf
        refine nameC_C N14 (by rfl) hcm2 hog ?_
        ktr_unf
        refine nameC_L hC N14 hCm hx ?_
        ktr_unf
        refine item_Li (j := i) (isL N14 hlm2) (by omega) hta (by omega) ?_
        ktr_unf
        refine nameC_C N14 (by rfl) hcm2 hog ?_
        ktr_unf
        refine nameC_L hC N14 hCm hx ?_
        ktr_unf
        refine item_Li (j := i + 1) (isL N14 hlm2) (by omega) htb (by omega) ?_
        ktr_unf
        simp [hab]
      · intro D2 h11 tk11 F12 N14 off
        ktr_unf
        rename_i T2 h12 F13 N15 hlt12
        refine eq_empty (isL (vs := []) N15 (.tail _ (.head _))) (isL (vs := []) (n := 0) N15 (.head _)) (by show 4 + 3 < cLine; omega) ?_
        ktr_unf
        wrow_close
end Mine
end
theorem PySem.Challenge.cw_mj0018_01_holds : PySem.Challenge.rw_mj0018_01.Holds := by
  exact Mine.law_holds

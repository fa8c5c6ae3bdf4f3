import PyProof.Rows.All
import Wide.All
import OpenK.AllK
import Wide.FinOn
import PyProof.AttrMissHeap
import PyProof.ForAny
import PyProof.DictItems
import PyProof.EqAt
import PyProof.EqKinds
import PyProof.NeKinds
import PyProof.ListIndexNeg
import PyProof.ZipIter
import PyProof.Rows.ZipGen
import PyProof.Rows.SeqSlice
import PyProof.Rows.StrSplitMax
import PyProof.Rows.TupMore
import PyProof.Rows.TupAdd
import KE.KUnpack
import KE.KListMore
import KE.KCells
import KE.KNest
import KE.KLam
import KE.KDictNew
import KE.KDictOf
import KE.KEqDict
import KE.KTurns
import KE.KIntText
import KE.KTurnsAny
import KE.KItemsList
import KE.KPairComp
import KE.KxPercentT
import PySem.Challenge.RW_pg0151_01
open PySem PySem.W PyProof.Rows
set_option Elab.async false
set_option maxRecDepth 100000
set_option maxHeartbeats 8000000
namespace Mine
theorem keep3 {α β γ : Prop} (_ : α) (_ : β) (h : γ) : γ := h
/-- the head: what is left is the walk -/
def hd := fun walk => show PySem.Challenge.rw_pg0151_01.Holds by
  w_on
  o_law
  refine' keep3 ?hl ?hc ?main
  case main =>
    k_head
    case hw => w_witness2
  case hl => intro w; kernel_rfl
  case hc => exact walk
end Mine
namespace Mine
section
/-- what a call leaves: the heap, the numbers of values -/
abbrev St (s : Shared) (h : Heap) (tk : Nat) : Shared := { s with heap := h, toks := tk }

/-- the top's facts -/
structure TF (w : World) (h : Heap) : Prop where
  k : (hd.heap_39 w.params).In h
  lim : h.NoLimit
  g : ∃ mg, h.Ns mainGlobals mg
  b : ∃ mb, h.Ns builtinsNs mb ∧ ∀ x : Str, x ≠ "__name__" → mb x = bootBuiltins x
  dig : ∃ mc, h.Ns cStatics mc ∧ mc "sys.int_max_str_digits" = none
  top : ∃ p loose mean mg mb, Top p loose mean mg mb h
  cod1 : CodeHd h 157 153
  cod2 : CodeHd h 171 167
theorem TF.keeps {w : World} {h h' : Heap} (T : TF w h) (k : h.StaysIn h') : TF w h' :=
  ⟨T.k.keeps k, T.lim.keeps k, (by obtain ⟨mg, x⟩ := T.g; exact ⟨mg, x.keeps k⟩), (by obtain ⟨mb, x, y⟩ := T.b; exact ⟨mb, x.keeps k, y⟩), (by obtain ⟨mc, x, y⟩ := T.dig; exact ⟨mc, x.keeps k, y⟩), (by obtain ⟨p, l, me, mg, mb, x⟩ := T.top; exact ⟨p, l, me, mg, mb, x.keeps k⟩), T.cod1.keeps k, T.cod2.keeps k⟩

/-- room for d frames and u units -/
structure Rm (A : Around) (d u : Nat) : Prop where
  hd : A.handled = none
  dp : A.depth + d ≤ 900
  un : A.units + u ≤ 9000
theorem Rm.room {A : Around} {d u : Nat} (R : Rm A d u) : A.depth < recursionLimit := by have := R.dp; simp only [recursionLimit]; omega
theorem Rm.uroom {A : Around} {d u : Nat} (R : Rm A d u) (h : 0 < u := by omega) : A.units < cLine := by have := R.un; simp only [cLine]; omega
theorem Rm.deeper {A : Around} {d u : Nat} {env : Env} (R : Rm A (d + 1) (u + 3)) : Rm (A.deeper env) d u :=
  ⟨R.hd, by have := R.dp; show A.depth + 1 + d ≤ 900; omega, by have := R.un; show A.units + 3 + u ≤ 9000; omega⟩
theorem Rm.le {A : Around} {d u d' u' : Nat} (R : Rm A d u) (h1 : d' ≤ d) (h2 : u' ≤ u) : Rm A d' u' := ⟨R.hd, by have := R.dp; omega, by have := R.un; omega⟩

theorem stays_refl (h : Heap) : h.StaysIn h := fun _ _ e => e
theorem stays_trans {a b c : Heap} (x : a.StaysIn b) (y : b.StaysIn c) : a.StaysIn c := fun _ _ e => y _ _ (x _ _ e)
theorem frStays {h₀ h h' : Heap} {L : Addr} {m : Str → Option Value} (F : Fr h₀ L h m) (k : h.StaysIn h') : Fr h₀ L h' m := ⟨F.ns.keeps k, fun b o e => k _ _ (F.keep b o e), F.above⟩
theorem newsStays {h₀ h h' : Heap} {L : Addr} {news : List (Addr × Obj)} (N : News h₀ L h news) (k : h.StaysIn h') : News h₀ L h' news := fun p hp => ⟨k _ _ (N p hp).1, (N p hp).2⟩
/-- a new object of a callee's goes onto the ledger -/
theorem newsAdd {h₀ h h' : Heap} {L a : Addr} {o : Obj} {m : Str → Option Value} {news : List (Addr × Obj)} (F : Fr h₀ L h m) (N : News h₀ L h' news) (hn : h.get? a = none) (ho : h'.get? a = some o) : News h₀ L h' ((a, o) :: news) := by
  intro p hp
  rcases List.mem_cons.mp hp with rfl | hp
  · refine ⟨ho, fun e => ?_, ?_⟩
    · obtain ⟨oL, _, _, hL, _⟩ := F.ns
      rw [show a = L from e, hL] at hn; cases hn
    · cases q : h₀.get? a with
      | none => rfl
      | some o' => rw [F.keep _ _ q] at hn; cases hn
  · exact N p hp

section
variable {prog : Program} {w : World} {A : Around} {E : Value → Shared → Prop} {s : Shared} {h₀ : Heap} {L a : Addr} {m : Str → Option Value} {cn : Str} {cs : Scope} {ccd : Value} {cl : List (Str × Addr)}
  {x : Str} {pos : Pos} {v : Value} {Q : Value → Shared → Prop}
theorem nmL {M : Model} (F : Fr h₀ L s.heap m) (hv : m x = some v) (h : Q v s)
    (hk : cs.kind = .function := by rfl) (hl : (envX cn cs L a ccd cl).kindOf x = some .local := by rfl) (hd : (x == ("__debug__" : Str)) = false := by decide) :
    wpAny M A (eval (.Name x pos) (envX cn cs L a ccd cl)) Q E s := wpAny_Name (wpAny_loadName_local hk hl F.ns hv h) hd
theorem nmG {M : Model} (F : Fr h₀ L s.heap m) (T : TF w h₀) (hx : (envX cn cs L a ccd cl).kindOf x = some .globalImplicit) (e : nsIn (hd.heap_39 w.params) mainGlobals x = some (some v)) (h : Q v s)
    (hk : cs.kind = .function := by rfl) (hd : (x == ("__debug__" : Str)) = false := by decide) :
    wpAny M A (eval (.Name x pos) (envX cn cs L a ccd cl)) Q E s := by
  obtain ⟨mg, g⟩ := T.g
  exact Calls.Name_function_global hk hx (Calls.loadGlobal_global (env := envX cn cs L a ccd cl) (g.keeps F.keep) (mg_of T.k g e) h) hd
theorem nmB {M : Model} (F : Fr h₀ L s.heap m) (T : TF w h₀) (hx : (envX cn cs L a ccd cl).kindOf x = some .globalImplicit) (e : nsIn (hd.heap_39 w.params) mainGlobals x = some none) (hv : bootBuiltins x = some v) (hn : x ≠ "__name__") (h : Q v s)
    (hk : cs.kind = .function := by rfl) (hd : (x == ("__debug__" : Str)) = false := by decide) :
    wpAny M A (eval (.Name x pos) (envX cn cs L a ccd cl)) Q E s := by
  obtain ⟨mg, g⟩ := T.g
  obtain ⟨mb, b, bb⟩ := T.b
  exact Calls.Name_function_global hk hx (Calls.loadGlobal_builtin (env := envX cn cs L a ccd cl) (g.keeps F.keep) (mg_none_of T.k g e) (b.keeps F.keep) ((bb x hn).trans hv) h) hd

/-- a def of the text's is entered -/
theorem enter {R : Result → Shared → Prop} {name : Str} {params : Arguments} {body : List Stmt} {scope : Scope} {pm cd doc : Value} {f : Addr} {o : Obj} {args : List Value} {binds : List (Str × Value)} {d u : Nat}
    (T : TF w s.heap) (hA : Rm A (d + 1) (u + 3)) (ho : (hd.heap_39 w.params).lookup f = some o) (hdata : o.data = .func (Calls.docDef name params body scope pm cd doc)) (hcd : codeIn (hd.heap_39 w.params) cd name = true)
    (hbind : bindArgs (Calls.docDef name params body scope pm cd doc) ⟨args, []⟩ = pure binds)
    (hloc : ∀ x ∈ binds, scope.names.lookup x.1 = some .local)
    (h : ∀ h₁ A', Rm A' d u → Fr s.heap s.heap.objs.size h₁ (fun x => binds.reverse.lookup x) → News s.heap s.heap.objs.size h₁ [] →
      wpAny (model prog w) A' (execs body (envX name scope s.heap.objs.size f cd []))
        (fun fl s' => R (.ok (.ret (match fl with | .ret v => v | _ => .none))) s') (fun _ _ => False)
        { s with heap := h₁, toks := s.toks + binds.length })
    (hco : scope.isCoroutine = false := by rfl) (hgen : scope.isGenerator = false := by rfl) (hk : scope.kind = .function := by rfl)
    (hcell : ∀ x ∈ scope.names, x.2 ≠ .cell := by decide) :
    codeAny (model prog w) A (.call (.ref f) ⟨args, []⟩) R s :=
  call_plain_ret hA.room (T.k _ _ ho) hdata T.lim (codeRec_of T.k hcd) hbind hloc (fun h₁ F => h h₁ _ hA.deeper F News.nil) hco hgen hk hcell
end

section
variable {prog : Program} {w : World} {A : Around} {E : Value → Shared → Prop} {s : Shared} {K : Type} [DecidableEq K] {knd : KeyKind prog w K}
theorem gm_dict {name : Str} {id : String} {pl : Sem Bool} {d : Addr} {kvs : List (K × Value)} {Q : Value × List Value → Shared → Prop} (slot : Slot "dict" name id) (hty : typeOf (.builtin id) = pure (.type "method_descriptor"))
    (hd : s.heap.DictOf knd d kvs) (h : Q (.builtin id, [.ref d]) s) : wpAny (model prog w) A (getMethod (.ref d) name pl) Q E s :=
  getMethod_builtin hd.typeIs PySem.F.plainAttrs_dict slot hty hd.mapOf.noDict h
theorem c_values {d : Addr} {kvs : List (K × Value)} {Q : Value → Shared → Prop} (hd : s.heap.DictOf knd d kvs) (lo : (d == sysModules) = false)
    (h : Q (.ref s.heap.objs.size) { s with heap := s.heap.push { cls := .type "dict_values", data := .fields #[.ref d] } }) : wpAny (model prog w) A (call (.builtin "dict.values") [.ref d]) Q E s :=
  call_meetsIn PySem.F.slot_dict_values hd.typeIs PySem.F.entry_dict_values (PySem.F.args_dict_values_1 _) (meets_dict_values knd d lo) ⟨⟨_, hd⟩, h⟩
end
end
section
theorem DictOf.at {prog : Program} {w : World} {K : Type} [DecidableEq K] {knd : KeyKind prog w K} {h : Heap} {d : Addr} {kvs : List (K × Value)} (x : h.DictOf knd d kvs) : ∃ ep, h.DictAt knd d kvs ep := by
  obtain ⟨o, es, ep, r⟩ := x
  exact ⟨ep, o, es, r⟩
theorem absQ {M : Model} {A : Around} {t : Sem Flow} {Q : Flow → Shared → Prop} {E : Value → Shared → Prop} {s : Shared} (h : ∀ T : Flow → Shared → Prop, (∀ f s', Q f s' → T f s') → wpAny M A t T E s) : wpAny M A t Q E s := h Q fun _ _ x => x
theorem absA {M : Model} {A : Around} {u : Sem Unit} {t : Sem Flow} {Q : Flow → Shared → Prop} {E E' : Value → Shared → Prop} {s : Shared} (h : ∀ T : Flow → Shared → Prop, (∀ f s', Q f s' → T f s') → wpAny M A u (fun _ s₃ => wpAny M A t T E s₃) E' s) :
    wpAny M A u (fun _ s₃ => wpAny M A t Q E s₃) E' s := h Q fun _ _ x => x
theorem absG {G : Prop} (h : ∀ P : Prop, (G → P) → P) : G := h G id
theorem five {i : Nat} (h : i < 5) : i = 0 ∨ i = 1 ∨ i = 2 ∨ i = 3 ∨ i = 4 := by omega
section
variable {prog : Program} {w : World} {A : Around} {E : Value → Shared → Prop} {s : Shared} {env : Env} {h₀ : Heap} {x : Str} {body : List Stmt} {Q : Flow → Shared → Prop}
theorem old_ne_top {h : Heap} {L d : Addr} {m : Str → Option Value} {o : Obj} (F : Fr h₀ L h m) (e : h₀.get? d = some o) : d ≠ h.objs.size := fun q => by
  have := next_is_new F
  rw [← q, e] at this; cases this
theorem old_ne_L {h : Heap} {L d : Addr} {m : Str → Option Value} {o : Obj} (F : Fr h₀ L h m) (e : h₀.get? d = some o) : L ≠ d := fun q => absurd (Nat.lt_of_lt_of_le (Heap.lt_size e) F.above) (q ▸ Nat.lt_irrefl _)
theorem L_ne_top {h : Heap} {L : Addr} {m : Str → Option Value} (F : Fr h₀ L h m) : L ≠ h.objs.size := fun q => absurd F.ns.lt (q ▸ Nat.lt_irrefl _)
/-- a loop over a base dict's values -/
theorem it_values {K : Type} [DecidableEq K] {knd : KeyKind prog w K} {v d : Addr} {kvs : List (K × Value)} {m₀ : Str → Option Value} {news : List (Addr × Obj)} (J : Nat → (Str → Option Value) → List (Addr × Obj) → Prop)
    (hh : A.handled = none) (hv : s.heap.IsValuesView v d) (hd : h₀.DictOf knd d kvs) (F : Fr h₀ env.locals s.heap m₀) (N : News h₀ env.locals s.heap news) (hj : J 0 m₀ news)
    (turn : ∀ i k v m₁ news₁ h tk own, kvs[i]? = some (k, v) → news₁.map (·.1) = news.map (·.1) → OwnOff own (news.map (·.1)) → J i m₁ news₁ → Fr h₀ env.locals h (fun y => if y = x then some v else m₁ y) → News h₀ env.locals h (news₁ ++ own) →
      wpAny (model prog w) A (execs body env) (InvPostN h₀ env.locals (J (i + 1)) own (news.map (·.1)) (St s h tk) Q) E (St s h tk))
    (done : ∀ m₁ news₁ h tk, J kvs.length m₁ news₁ → Fr h₀ env.locals h m₁ → News h₀ env.locals h news₁ → Q .next (St s h tk)) :
    wpAny (model prog w) A (pyIter (.ref v)) (fun it s₂ => LoopAtV prog w A h₀ env x body Q E it s₂) E s := by
  obtain ⟨ep, ha⟩ := DictOf.at hd
  have ha' : s.heap.DictAt knd d kvs ep := ha.at' fun o e => F.keep d o e
  obtain ⟨od, _, hod, _⟩ := id ha
  refine wpAny_pyIter_values hv ha' ?_
  have ne : d ≠ s.heap.objs.size := old_ne_top F hod
  have W := Walks.dictValues (prog := prog) (w := w) (knd := knd) hh s.heap.objs.size d ne kvs ep
  refine loop_invN (s := { s with heap := s.heap.push _ }) J W ?_ ?_ ?_ ?_ ⟨⟨_, Heap.get?_push_size _ rfl, rfl, rfl⟩, ha'.at' fun o e => Heap.get?_push_of_some _ e⟩ (F.push _) (fun p hp => ⟨Heap.get?_push_of_some _ (N p hp).1, (N p hp).2⟩) hj ?_ ?_
  · intro hm
    rcases List.mem_cons.mp hm with e | hm
    · exact L_ne_top F e
    · exact old_ne_L F hod (List.mem_singleton.mp hm)
  · intro b hb
    rw [List.mem_singleton.mp hb]; exact next_is_new F
  · intro p hp hI
    exact absurd (Heap.lt_size (N p hp).1) ((List.mem_singleton.mp hI) ▸ Nat.lt_irrefl _)
  · intro p hp hI
    rcases List.mem_cons.mp hI with e | hm
    · exact absurd (Heap.lt_size (N p hp).1) (e ▸ Nat.lt_irrefl _)
    · have := (N p hp).2.2; rw [List.mem_singleton.mp hm, hod] at this; cases this
  · intro i v m₁ news₁ h tk own _ hP ha ho hJ F₁ N₁
    obtain ⟨k, hk⟩ := hP
    exact turn i k v m₁ news₁ h tk own hk ha ho hJ F₁ N₁
  · intro m₁ news₁ h tk hJ F₁ N₁
    exact done m₁ news₁ h tk hJ F₁ N₁
/-- a loop over a base list -/
theorem it_list {l : Addr} {vs : List Value} {m₀ : Str → Option Value} {news : List (Addr × Obj)} (J : Nat → (Str → Option Value) → List (Addr × Obj) → Prop)
    (hh : A.handled = none) (hl : h₀.IsList l vs.toArray) (F : Fr h₀ env.locals s.heap m₀) (N : News h₀ env.locals s.heap news) (hj : J 0 m₀ news)
    (turn : ∀ i v m₁ news₁ h tk own, vs[i]? = some v → news₁.map (·.1) = news.map (·.1) → OwnOff own (news.map (·.1)) → J i m₁ news₁ → Fr h₀ env.locals h (fun y => if y = x then some v else m₁ y) → News h₀ env.locals h (news₁ ++ own) →
      wpAny (model prog w) A (execs body env) (InvPostN h₀ env.locals (J (i + 1)) own (news.map (·.1)) (St s h tk) Q) E (St s h tk))
    (done : ∀ m₁ news₁ h tk, J vs.length m₁ news₁ → Fr h₀ env.locals h m₁ → News h₀ env.locals h news₁ → Q .next (St s h tk)) :
    wpAny (model prog w) A (pyIter (.ref l)) (fun it s₂ => LoopAtV prog w A h₀ env x body Q E it s₂) E s := by
  have hls : s.heap.IsList l vs.toArray := hl.at fun o e => F.keep l o e
  obtain ⟨ol, hol, _⟩ := id hl
  have ne : l ≠ s.heap.objs.size := old_ne_top F hol
  refine wpAny_pyIter_list hls ?_
  have W := Walks.list (prog := prog) (w := w) hh s.heap.objs.size l ne vs.toArray
  refine loop_invN (s := { s with heap := s.heap.push _ }) J W ?_ ?_ ?_ ?_ ⟨⟨_, Heap.get?_push_size _ rfl, rfl, rfl⟩, hls.at fun o e => Heap.get?_push_of_some _ e⟩ (F.push _) (fun p hp => ⟨Heap.get?_push_of_some _ (N p hp).1, (N p hp).2⟩) hj ?_ ?_
  · intro hm
    rcases List.mem_cons.mp hm with e | hm
    · exact L_ne_top F e
    · exact old_ne_L F hol (List.mem_singleton.mp hm)
  · intro b hb
    rw [List.mem_singleton.mp hb]; exact next_is_new F
  · intro p hp hI
    exact absurd (Heap.lt_size (N p hp).1) ((List.mem_singleton.mp hI) ▸ Nat.lt_irrefl _)
  · intro p hp hI
    rcases List.mem_cons.mp hI with e | hm
    · exact absurd (Heap.lt_size (N p hp).1) (e ▸ Nat.lt_irrefl _)
    · have := (N p hp).2.2; rw [List.mem_singleton.mp hm, hol] at this; cases this
  · intro i v m₁ news₁ h tk own _ hP ha ho hJ F₁ N₁
    exact turn i v m₁ news₁ h tk own (by simpa using hP) ha ho hJ F₁ N₁
  · intro m₁ news₁ h tk hJ F₁ N₁
    exact done m₁ news₁ h tk (by simpa using hJ) F₁ N₁
end
section
variable {prog : Program} {w : World} {A : Around} {E : Value → Shared → Prop} {s : Shared} {K : Type} [DecidableEq K] {knd : KeyKind prog w K} {h₀ : Heap} {L : Addr} {m : Str → Option Value} {news : List (Addr × Obj)}
theorem c_valuesN {d : Addr} {kvs : List (K × Value)} {Q : Value → Shared → Prop} (F : Fr h₀ L s.heap m) (N : News h₀ L s.heap news) (hd : s.heap.DictOf knd d kvs) (lo : (d == sysModules) = false)
    (h : ∀ v h', Fr h₀ L h' m → News h₀ L h' news → h'.IsValuesView v d → Q (.ref v) (St s h' s.toks)) : wpAny (model prog w) A (call (.builtin "dict.values") [.ref d]) Q E s :=
  c_values hd lo (h _ _ (F.push _) (newsStays N fun _ _ e => Heap.get?_push_of_some _ e) ⟨_, Heap.get?_push_size _ rfl, rfl, rfl⟩)
end
theorem ForV {prog : Program} {w : World} {A : Around} {s : Shared} {env : Env} {h₀ : Heap} {m : Str → Option Value} {E : Value → Shared → Prop} {Q : Flow → Shared → Prop} {x : Str} {px pos : Pos} {iter : Expr} {body : List Stmt} (F0 : Fr h₀ env.locals s.heap m) (hx : env.kindOf x = some .local)
    (hp : (env.scope.kind == .class || (env.scope.kind == .module && env.locals != env.globals)) = false)
    (h : wpAny (model prog w) A (eval iter env) (fun xv s₁ => wpAny (model prog w) A (pyIter xv) (fun it s₂ => LoopAtV prog w A h₀ env x body Q E it s₂) E s₁) E s)
    (hs : ∀ x, foldedSetIterable iter env x = pure x := by intro _; rfl)
    (hE : PassesOwn (model prog w) A env E := by passes_own) :
    wpAny (model prog w) A (exec (.For (.Name x px) iter body [] pos) env) Q E s := For_invV h₀ hx hp h hs hE
theorem invEnd {h₀ : Heap} {L : Addr} {J : (Str → Option Value) → List (Addr × Obj) → Prop} {own nx news' : List (Addr × Obj)} {adr : List Addr} {s₁ : Shared} {h' : Heap} {tk : Nat} {m' : Str → Option Value}
    (F : Fr h₀ L h' m') (N : News h₀ L h' news') (h1 : ∀ p ∈ nx, p ∈ news') (h2 : ∀ p ∈ own, p ∈ news') (ha : nx.map (·.1) = adr) (hJ : J m' nx) : InvEndN h₀ L J own adr s₁ (St s₁ h' tk) :=
  ⟨h', tk, m', news', nx, rfl, F, N, h1, h2, ha, hJ⟩
theorem take_sum {ks : List Int} {i : Nat} {n : Int} (h : ks[i]? = some n) : (ks.take (i + 1)).sum = (ks.take i).sum + n := by
  rw [List.take_add_one, h]; simp
theorem ldL {M : Model} {A : Around} {E : Value → Shared → Prop} {s : Shared} {h₀ : Heap} {L a : Addr} {m : Str → Option Value} {cn : Str} {cs : Scope} {ccd : Value} {cl : List (Str × Addr)}
    {x : Str} {v : Value} {Q : Value → Shared → Prop} (F : Fr h₀ L s.heap m) (hv : m x = some v) (h : Q v s)
    (hk : cs.kind = .function := by rfl) (hl : (envX cn cs L a ccd cl).kindOf x = some .local := by rfl) :
    wpAny M A (loadName (envX cn cs L a ccd cl) x) Q E s := wpAny_loadName_local hk hl F.ns hv h
end
section
section
variable {prog : Program} {w : World} {A : Around} {s : Shared} {env : Env} {h₀ : Heap}
/-- a loop over what hands out tuples, by what holds between the turns -/
theorem code_forT {R : Result → Shared → Prop} {elts : List Expr} {kt : Nat} {pt : Pos} {body : List Stmt} {I : Addr} {fp wr : List Addr} {n : Nat} {Pt : Nat → Array Value → Prop} {St' : Nat → Heap → Prop} {Mid : Nat → Addr → Heap → Prop}
    {m : Str → Option Value} {news : List (Addr × Obj)} (W : WalksU prog w A I fp wr n Pt St' Mid)
    (hLf : env.locals ∉ fp) (hwr : ∀ b ∈ wr, h₀.get? b = none) (hnw : ∀ p ∈ news, p.1 ∉ fp)
    (hst : St' 0 s.heap) (F : Fr h₀ env.locals s.heap m) (N : News h₀ env.locals s.heap news)
    (J : Nat → (Str → Option Value) → List (Addr × Obj) → Prop) (h0 : J 0 m news)
    (turn : ∀ i T vals m₁ news₁ h tk own, i < n → Pt i vals → h.IsTuple T vals → news₁.map (·.1) = news.map (·.1) → OwnOff own (news.map (·.1)) → J i m₁ news₁ → Fr h₀ env.locals h m₁ → News h₀ env.locals h (news₁ ++ own) →
      wpAny (model prog w) A (assign (.Tuple elts kt pt) env (.ref T)) (fun _ s₃ => wpAny (model prog w) A (execs body env) (InvPostN h₀ env.locals (J (i + 1)) own (news.map (·.1)) (St s h tk) (fun f s' => R (.ok f) s')) (fun _ _ => False) s₃) (fun _ _ => False) (St s h tk))
    (done : ∀ m₁ news₁ h tk, J n m₁ news₁ → Fr h₀ env.locals h m₁ → News h₀ env.locals h news₁ → R (.ok .next) (St s h tk)) :
    codeAny (model prog w) A (.forLoop (.Tuple elts kt pt) (.ref I) body [] env) R s := by
  have hLw : env.locals ∉ wr := fun h => hLf (W.sub _ h)
  have old : ∀ b o, h₀.get? b = some o → b ∉ wr := fun b o e hb => by rw [hwr b hb] at e; cases e
  have hnw' : ∀ news' : List (Addr × Obj), news'.map (·.1) = news.map (·.1) → ∀ p ∈ news', p.1 ∉ fp := fun news' ha p hp => by
    have : p.1 ∈ news.map (·.1) := ha ▸ List.mem_map.mpr ⟨p, hp, rfl⟩
    obtain ⟨q, hq, e⟩ := List.mem_map.mp this
    exact e ▸ hnw q hq
  have never : ∀ {α : Type} {t : Sem α} {Q : α → Shared → Prop} {s' : Shared}, wpAny (model prog w) A t Q (fun _ _ => False) s' → wpAny (model prog w) A t Q (notedBy (model prog w) A env fun e s' => R (.error e) s') s' :=
    fun h => wpAny_mono h (fun _ _ x => x) fun _ _ x => x.elim
  refine codeAny_forLoop_any
    (fun k s' => ∃ h' tk m' news' i, s' = St s h' tk ∧ St' i h' ∧ Fr h₀ env.locals h' m' ∧ News h₀ env.locals h' news' ∧ news'.map (·.1) = news.map (·.1) ∧ J i m' news' ∧ i ≤ n ∧ k = n + 1 - i) ?_ (n + 1)
    ⟨s.heap, s.toks, m, news, 0, rfl, hst, F, N, rfl, h0, Nat.zero_le _, rfl⟩
  rintro k s' ⟨H, tk, m', news', i, rfl, hst', F', N', ha', hJ, hi, rfl⟩
  have next : ∀ h₁ : Heap, (∀ b o, b ∉ wr → H.get? b = some o → h₁.get? b = some o) → Fr h₀ env.locals h₁ m' ∧ News h₀ env.locals h₁ news' := fun h₁ hk₁ =>
    ⟨⟨F'.ns.at' fun o e => hk₁ _ o hLw e, fun b o e => hk₁ b o (old b o e) (F'.keep b o e), F'.above⟩, fun p hp => ⟨hk₁ _ _ (fun q => hnw' news' ha' p hp (W.sub _ q)) (N' p hp).1, (N' p hp).2⟩⟩
  by_cases hlt : i < n
  · refine W.item i _ _ _ hlt hst' fun T vals h₁ tk₁ hPt hT hMid hk₁ => ?_
    refine W.go _ kt pt i T _ _ _ hMid fun h₂ hst₂ hk₂ => ?_
    have ht₂ : h₂.IsTuple T vals := hT.at fun o e => hk₂ T o (W.apart i T h₁ hMid) e
    obtain ⟨F₂, N₂⟩ := next h₂ fun b o hb x => hk₂ b o hb (hk₁ b o hb x)
    have hoff : OwnOff (ownOf h₀ fp h₂) (news.map (·.1)) := fun p hp b hb e => by
      obtain ⟨q, hq, rfl⟩ := List.mem_map.mp hb
      exact hnw q hq (e ▸ ownOf_sub p hp)
    have tn := turn i T vals m' news' h₂ tk₁ (ownOf h₀ fp h₂) hlt hPt ht₂ ha' hoff hJ F₂ (N₂.append (news_ownOf hLf))
    refine wpAny_mono (never tn) (fun _ s₃ h₃ => wpAny_mono (never h₃) (fun f s₄ h₆ => ?_) fun _ _ e => e) fun _ _ e => e
    have fin : InvEndN h₀ env.locals (J (i + 1)) (ownOf h₀ fp h₂) (news.map (·.1)) (St s h₂ tk₁) s₄ → ∃ m, m < n + 1 - i ∧ ∃ h' tk m' news' j, s₄ = St s h' tk ∧ St' j h' ∧ Fr h₀ env.locals h' m' ∧ News h₀ env.locals h' news' ∧ news'.map (·.1) = news.map (·.1) ∧ J j m' news' ∧ j ≤ n ∧ m = n + 1 - j := by
      rintro ⟨h₆', tk₆, m₂, news₂, nx, rfl, F₆, N₆, hnx, hown, ha₆, hJ₆⟩
      refine ⟨n + 1 - (i + 1), by omega, h₆', tk₆, m₂, nx, i + 1, rfl, ?_, F₆, fun p hp => N₆ p (hnx p hp), ha₆, hJ₆, hlt, rfl⟩
      refine W.frame _ _ _ hst₂ fun b hb o e => ?_
      cases hn : h₀.get? b with
      | some o₀ =>
        have : o₀ = o := by have q := F₂.keep b o₀ hn; rw [e] at q; exact (Option.some.inj q).symm
        exact this ▸ F₆.keep b o₀ hn
      | none => exact (N₆ _ (hown _ (mem_ownOf hb hn e))).1
    cases f with
    | ret v => exact h₆
    | brk => exact h₆
    | cont => exact fin h₆
    | next => exact fin h₆
  · have hin : i = n := by omega
    subst hin
    refine W.done _ _ _ hst' fun h₁ tk₁ hk₁ => wpAny_execs_nil ?_
    obtain ⟨F₁, N₁⟩ := next h₁ hk₁
    exact done m' news' h₁ tk₁ hJ F₁ N₁

/-- what is to be shown of the iterator for a tuple loop -/
noncomputable def LoopT (prog : Program) (w : World) (A : Around) (env : Env) (target : Expr) (body : List Stmt) (Q : Flow → Shared → Prop) (it : Value) (s₂ : Shared) : Prop :=
  codeAny (model prog w) A (.forLoop target it body [] env) (fun r s' => match r with | .ok f => Q f s' | .error e => cameBackBy (model prog w) A env (fun _ _ => False) e s') s₂
theorem ForTup {Q : Flow → Shared → Prop} {elts : List Expr} {kt : Nat} {pt pos : Pos} {iter : Expr} {body : List Stmt}
    (h : wpAny (model prog w) A (eval iter env) (fun xv s₁ => wpAny (model prog w) A (pyIter xv) (fun it s₂ => LoopT prog w A env (.Tuple elts kt pt) body Q it s₂) (fun _ _ => False) s₁) (fun _ _ => False) s)
    (hs : ∀ x, foldedSetIterable iter env x = pure x := by intro _; rfl) :
    wpAny (model prog w) A (exec (.For (.Tuple elts kt pt) iter body [] pos) env) Q (fun _ _ => False) s :=
  wpAny_For h hs
end
end
section
section
variable {prog : Program} {w : World} {A : Around} {E : Value → Shared → Prop} {s : Shared} {K : Type} [DecidableEq K] {knd : KeyKind prog w K}
theorem entry_ii : entryFor table "dict_itemiterator.__iter__" = some Builtin.«dict_keyiterator.__iter__» :=
  entryFor_alias (id' := "dict_keyiterator.__iter__") (by kernel_rfl) rfl (by decide +kernel) (by kernel_rfl)
theorem walksItems (hh : A.handled = none) (I d : Addr) (hne : d ≠ I) (kvs : List (K × Value)) (ep : Nat) :
    WalksU prog w A I [I, d] [I] kvs.length (fun i vals => ∃ k key v, kvs[i]? = some (k, v) ∧ knd.is k key = true ∧ vals = #[key, v])
      (fun i h => (∃ ok ov, IsItemIter h I d i kvs.length ep ok ov) ∧ h.DictAt knd d kvs ep)
      (fun i T h => (∃ ok ov, IsItemIterOut h I d (i + 1) kvs.length ep ok ov T) ∧ h.DictAt knd d kvs ep ∧ T ≠ I) where
  sub := fun b hb => by simp at hb; simp [hb]
  frame := fun i h h' st hk => by
    obtain ⟨⟨ok, ov, e⟩, hd⟩ := st
    exact ⟨⟨ok, ov, hk I (by simp) _ e⟩, hd.at' fun o e => hk d (by simp) o e⟩
  item := fun i s Q E hi st hQ => by
    obtain ⟨⟨ok, ov, e⟩, hd⟩ := st
    obtain ⟨⟨k, x⟩, hx⟩ : ∃ p, kvs[i]? = some p := ⟨kvs[i], by simp [hi]⟩
    refine wpAny_pyNext_items_item e hd hx fun key h' hkey hit' hT hsz hk => ?_
    exact hQ s.heap.objs.size #[key, x] h' s.toks ⟨k, key, x, hx, hkey, rfl⟩ ⟨_, hT, rfl, _, rfl⟩ ⟨⟨_, _, hit'⟩, hd.at' fun o e => hk d o hne e, Nat.ne_of_gt (Heap.lt_size e)⟩ fun b o hb e => hk b o (fun q => hb (by simp [q])) e
  go := fun elts k pos i T s Q E hm hQ => by
    obtain ⟨⟨ok, ov, e⟩, hd, hT⟩ := hm
    refine wpAny_letOwnedTupleGo_items e fun h' he' hs' => hQ h' ⟨⟨ok, ov, he'⟩, hd.at' fun o e => (hs'.2 d hne).trans e⟩ fun b o hb e => ?_
    exact (hs'.2 b fun q => hb (by simp [q])).trans e
  apart := fun i T h hm hT => hm.2.2 (List.mem_singleton.mp hT)
  done := fun s Q E st hQ => by
    obtain ⟨⟨ok, ov, e⟩, hd⟩ := st
    exact wpAny_pyNext_items_end hh e hd (by simp) fun h' he' => hQ h' s.toks fun b o hb e => he' b o (fun q => hb (by simp [q])) e
  self := fun i s Q E st hQ => by
    obtain ⟨⟨ok, ov, e⟩, hd⟩ := st
    exact wpAny_pyIter_slot (Q := Q) (s := s) ⟨_, e, rfl⟩ F.slot_dict_itemiterator_iter (wpAny_call_entry F.slot_dict_itemiterator_iter ⟨_, e, rfl⟩ entry_ii (by
      show wpAny _ _ (ret (.ref I)) _ _ s
      exact wpAny_pure ⟨_, rfl, "dict_itemiterator", _, ⟨_, e, rfl⟩, F.slot_dict_itemiterator_next.lookup, hQ⟩) (F.args_dict_itemiterator_iter_1 _))
end
section
variable {prog : Program} {w : World} {A : Around} {s : Shared} {K : Type} [DecidableEq K] {knd : KeyKind prog w K} {env : Env} {h₀ : Heap} {body : List Stmt} {Q : Flow → Shared → Prop}
theorem it_items {elts : List Expr} {kt : Nat} {pt : Pos} {v d : Addr} {kvs : List (K × Value)} {m₀ : Str → Option Value} {news : List (Addr × Obj)} (J : Nat → (Str → Option Value) → List (Addr × Obj) → Prop)
    (hh : A.handled = none) (hv : s.heap.IsItemsView v d) (hd : h₀.DictOf knd d kvs) (F : Fr h₀ env.locals s.heap m₀) (N : News h₀ env.locals s.heap news) (hj : J 0 m₀ news)
    (turn : ∀ i T k key v m₁ news₁ h tk own, kvs[i]? = some (k, v) → knd.is k key = true → h.IsTuple T #[key, v] → news₁.map (·.1) = news.map (·.1) → OwnOff own (news.map (·.1)) → J i m₁ news₁ → Fr h₀ env.locals h m₁ → News h₀ env.locals h (news₁ ++ own) →
      wpAny (model prog w) A (assign (.Tuple elts kt pt) env (.ref T)) (fun _ s₃ => wpAny (model prog w) A (execs body env) (InvPostN h₀ env.locals (J (i + 1)) own (news.map (·.1)) (St s h tk) Q) (fun _ _ => False) s₃) (fun _ _ => False) (St s h tk))
    (done : ∀ m₁ news₁ h tk, J kvs.length m₁ news₁ → Fr h₀ env.locals h m₁ → News h₀ env.locals h news₁ → Q .next (St s h tk)) :
    wpAny (model prog w) A (pyIter (.ref v)) (fun it s₂ => LoopT prog w A env (.Tuple elts kt pt) body Q it s₂) (fun _ _ => False) s := by
  obtain ⟨ep, ha⟩ := DictOf.at hd
  have ha' : s.heap.DictAt knd d kvs ep := ha.at' fun o e => F.keep d o e
  obtain ⟨od, _, hod, _⟩ := id ha
  refine wpAny_pyIter_items hv ha' ?_
  have ne : d ≠ s.heap.objs.size := old_ne_top F hod
  have W := walksItems (prog := prog) (w := w) (knd := knd) hh s.heap.objs.size d ne kvs ep
  refine code_forT (h₀ := h₀) (s := { s with heap := s.heap.push _ }) W ?_ ?_ ?_ ⟨⟨_, _, Heap.get?_push_size _ rfl⟩, ha'.at' fun o e => Heap.get?_push_of_some _ e⟩ (F.push _) (fun p hp => ⟨Heap.get?_push_of_some _ (N p hp).1, (N p hp).2⟩) J hj ?_ ?_
  · intro hm
    rcases List.mem_cons.mp hm with e | hm
    · exact L_ne_top F e
    · exact old_ne_L F hod (List.mem_singleton.mp hm)
  · intro b hb
    rw [List.mem_singleton.mp hb]; exact next_is_new F
  · intro p hp hI
    rcases List.mem_cons.mp hI with e | hm
    · exact absurd (Heap.lt_size (N p hp).1) (e ▸ Nat.lt_irrefl _)
    · have := (N p hp).2.2; rw [List.mem_singleton.mp hm, hod] at this; cases this
  · intro i T vals m₁ news₁ h tk own _ hP hT ha ho hJ F₁ N₁
    obtain ⟨k, key, v, hk, hkey, rfl⟩ := hP
    exact turn i T k key v m₁ news₁ h tk own hk hkey hT ha ho hJ F₁ N₁
  · intro m₁ news₁ h tk hJ F₁ N₁
    exact done m₁ news₁ h tk hJ F₁ N₁
theorem c_itemsN {E : Value → Shared → Prop} {L : Addr} {m : Str → Option Value} {news : List (Addr × Obj)} {d : Addr} {kvs : List (K × Value)} {Q : Value → Shared → Prop} (F : Fr h₀ L s.heap m) (N : News h₀ L s.heap news) (hd : s.heap.DictOf knd d kvs) (lo : (d == sysModules) = false)
    (h : ∀ v h', Fr h₀ L h' m → News h₀ L h' news → h'.IsItemsView v d → Q (.ref v) (St s h' s.toks)) : wpAny (model prog w) A (call (.builtin "dict.items") [.ref d]) Q E s :=
  call_meetsIn PySem.F.slot_dict_items hd.typeIs PySem.F.entry_dict_items (PySem.F.args_dict_items_1 _) (meets_dict_items knd d lo) ⟨⟨_, hd⟩, h _ _ (F.push _) (newsStays N fun _ _ e => Heap.get?_push_of_some _ e) ⟨_, Heap.get?_push_size _ rfl, rfl, rfl⟩⟩
end
end
section
section
variable {prog : Program} {w : World} {A : Around} {E : Value → Shared → Prop} {s : Shared} {K : Type} [DecidableEq K] {knd : KeyKind prog w K} {h₀ : Heap} {L : Addr} {m : Str → Option Value} {news own rest : List (Addr × Obj)} {d : Addr} {o : Obj} {kvs : List (K × Value)} {k : K} {key v : Value}
theorem dictMem (N : News h₀ L s.heap news) (hm : (d, o) ∈ news) (ho : o.IsDictOf knd kvs) : s.heap.DictOf knd d kvs := Heap.dictOf_iff.mpr ⟨o, (N _ hm).1, ho⟩
theorem setN {Q : Unit → Shared → Prop} (F : Fr h₀ L s.heap m) (N : News h₀ L s.heap (own ++ (d, o) :: rest)) (ho : o.IsDictOf knd kvs) (hkey : knd.is k key = true) (h1 : ∀ p ∈ own, p.1 ≠ d) (h2 : ∀ p ∈ rest, p.1 ≠ d)
    (h : ∀ h' o', Fr h₀ L h' m → News h₀ L h' (own ++ (d, o') :: rest) → o'.IsDictOf knd (stored kvs k v) → Q () (St s h' (s.toks + 1)))
    (hsz : kvs.length ≤ sizeLine := by size_fits) : wpAny (model prog w) A (setItem (.ref d) key v) Q E s := by
  have hm := N (d, o) (List.mem_append_right _ (.head _))
  refine wpAny_setItem_pairs (hsz := hsz) hkey (Heap.dictOf_iff.mpr ⟨o, hm.1, ho⟩) fun h' hmm hs => ?_
  obtain ⟨o', ho', hd'⟩ := Heap.dictOf_iff.mp hmm
  exact h h' o' (F.change hs hm.2.1 hm.2.2) (N.setIn h1 h2 hs ho') hd'
/-- .. the dict at the ledger's head -/
theorem setN0 {Q : Unit → Shared → Prop} (F : Fr h₀ L s.heap m) (N : News h₀ L s.heap ((d, o) :: rest)) (ho : o.IsDictOf knd kvs) (hkey : knd.is k key = true) (h2 : ∀ p ∈ rest, p.1 ≠ d)
    (h : ∀ h' o', Fr h₀ L h' m → News h₀ L h' ((d, o') :: rest) → o'.IsDictOf knd (stored kvs k v) → Q () (St s h' (s.toks + 1)))
    (hsz : kvs.length ≤ sizeLine := by size_fits) : wpAny (model prog w) A (setItem (.ref d) key v) Q E s :=
  setN (own := []) F N ho hkey (fun _ hp => nomatch hp) h2 h hsz
theorem getD {Q : Value → Shared → Prop} (hd : s.heap.DictOf knd d kvs) (hkey : knd.is k key = true) (hv : valueAt kvs k = some v) (h : Q v (St s s.heap (s.toks + 1))) : wpAny (model prog w) A (getItem (.ref d) key) Q E s :=
  wpAny_getItem_of hkey hd.mapOf hv h
theorem inD {Q : Value → Shared → Prop} (hd : s.heap.DictOf knd d kvs) (lo : (d == sysModules) = false) (hkey : knd.is k key = true) (h : Q (.bool (valueAt kvs k).isSome) (St s s.heap (s.toks + 1))) : wpAny (model prog w) A (compareOp .In key (.ref d)) Q E s :=
  wpAny_in_of hkey lo hd.mapOf h
end
theorem emptyIs {prog : Program} {w : World} {K : Type} [DecidableEq K] {knd : KeyKind prog w K} {n : Nat} : (dictOf [] n).IsDictOf knd ([] : List (K × Value)) :=
  ⟨#[], n, ⟨rfl, rfl, rfl⟩, rfl, fun e he => by simp at he, .nil, List.nodup_nil⟩
end
section
theorem k_objs (P : Params) : ((hd.heap_39 P).lookup 136).isSome = true := by rfl
theorem TF.big {w : World} {h : Heap} (T : TF w h) : 136 < h.objs.size := by
  obtain ⟨o, ho⟩ := Option.isSome_iff_exists.mp (k_objs w.params)
  exact Heap.lt_size (T.k _ _ ho)
theorem TF.lo {w : World} {h₀ h : Heap} {L : Addr} {m : Str → Option Value} (T : TF w h₀) (F : Fr h₀ L h m) : (h.objs.size == sysModules) = false := by
  have h1 := T.big
  have h2 := F.above
  have h3 := F.ns.lt
  have : h.objs.size ≠ sysModules := by
    show h.objs.size ≠ 1
    exact fun e => by
      have a1 : 136 < L := Nat.lt_of_lt_of_le h1 h2
      have a2 : 136 < h.objs.size := Nat.lt_trans a1 h3
      rw [e] at a2
      exact absurd a2 (by decide)
  exact beq_eq_false_iff_ne.mpr this
theorem fresh_ne {h₀ h : Heap} {L d : Addr} {news : List (Addr × Obj)} (N : News h₀ L h news) (hn : h.get? d = none) : ∀ p ∈ news, p.1 ≠ d := fun p hp e => by
  have := (N p hp).1
  rw [e, hn] at this; cases this
section
variable {M : Model} {w : World} {A : Around} {E : Value → Shared → Prop} {s : Shared} {h₀ : Heap} {L : Addr} {m : Str → Option Value} {news : List (Addr × Obj)}
/-- what a new object gives -/
noncomputable def Fresh (h₀ : Heap) (L : Addr) (m : Str → Option Value) (news : List (Addr × Obj)) (s : Shared) (o : Obj) (Q : Value → Shared → Prop) : Prop :=
  ∀ a h', Fr h₀ L h' m → News h₀ L h' ((a, o) :: news) → s.heap.get? a = none → (a == sysModules) = false → s.heap.StaysIn h' → Q (.ref a) (St s h' s.toks)
theorem Fresh.get {o : Obj} {Q : Value → Shared → Prop} (F : Fr h₀ L s.heap m) (N : News h₀ L s.heap news) (T : TF w h₀) (hf : o.isFreed = false) (h : Fresh h₀ L m news s o Q) : Q (.ref s.heap.objs.size) { s with heap := s.heap.push o } :=
  h _ _ (F.push _) (N.push F _ hf) (Heap.get?_none_of_le (Nat.le_refl _)) (T.lo F) fun _ _ e => Heap.get?_push_of_some _ e
theorem eDict0 {env : Env} {pos : Pos} {Q : Value → Shared → Prop} (F : Fr h₀ L s.heap m) (N : News h₀ L s.heap news) (T : TF w h₀) (h : Fresh h₀ L m news s (dictOf [] 0) Q) : wpAny M A (eval (.Dict [] [] pos) env) Q E s := by
  exact wpAny_Dict_empty (Fresh.get F N T rfl h)
theorem nList {vs : List Value} {Q : Value → Shared → Prop} (F : Fr h₀ L s.heap m) (N : News h₀ L s.heap news) (T : TF w h₀) (h : Fresh h₀ L m news s { cls := .type "list", data := .seq vs.toArray } Q) (hsz : vs.length ≤ sizeLine := by size_fits) :
    wpAny M A (newList vs) Q E s := wpAny_newObj_type (Fresh.get F N T rfl h) (by show vs.toArray.size ≤ sizeLine; rw [List.size_toArray]; exact hsz)
theorem nTuple {vs : List Value} {Q : Value → Shared → Prop} (F : Fr h₀ L s.heap m) (N : News h₀ L s.heap news) (T : TF w h₀) (h : Fresh h₀ L m news s { cls := .type "tuple", data := .seq vs.toArray } Q) (hsz : vs.length ≤ sizeLine := by size_fits) :
    wpAny M A (newTuple vs) Q E s := wpAny_newObj_type (Fresh.get F N T rfl h) (by show vs.toArray.size ≤ sizeLine; rw [List.size_toArray]; exact hsz)
end
-- a tuple is unpacked into names
section
variable {prog : Program} {w : World} {A : Around} {E : Value → Shared → Prop} {s : Shared} {h₀ : Heap} {L a : Addr} {m : Str → Option Value} {news : List (Addr × Obj)} {cn : Str} {cs : Scope} {ccd : Value} {cl : List (Str × Addr)}
theorem asT {elts : List Expr} {k : Nat} {pos : Pos} {env : Env} {t : Addr} {items : Array Value} {Q : Unit → Shared → Prop} (F : Fr h₀ L s.heap m) (N : News h₀ L s.heap news) (hh : A.handled = none) (ht : s.heap.IsTuple t items)
    (hn : (assignEach elts env).length = items.size) (hstar : (assignEach elts env).findIdx? (·.1) = none)
    (h : ∀ h', Fr h₀ L h' m → News h₀ L h' news → s.heap.StaysIn h' → wpAny (model prog w) A (assignInOrder ((assignEach elts env).map (·.2)) items.toList) Q E (St s h' s.toks)) :
    wpAny (model prog w) A (assign (.Tuple elts k pos) env (.ref t)) Q E s :=
  wpAny_assign_Tuple hh ht hn hstar fun h' hx => by
    have st : s.heap.StaysIn h' := fun b o e => hx b o (Nat.ne_of_lt (Heap.lt_size e)) e
    exact h h' (frStays F st) (newsStays N st) st
theorem aioCons {f : Value → Sem Unit} {fs : List (Value → Sem Unit)} {v : Value} {vs : List Value} {Q : Unit → Shared → Prop} (h : wpAny (model prog w) A (f v) (fun _ s₁ => wpAny (model prog w) A (assignInOrder fs vs) Q E s₁) E s) :
    wpAny (model prog w) A (assignInOrder (f :: fs) (v :: vs)) Q E s := by
  show wpAny _ _ (do holding vs (f v); assignInOrder fs vs) Q E s
  exact wpAny_bind (wpAny_holding h)
theorem aioNil {Q : Unit → Shared → Prop} (h : Q () s) : wpAny (model prog w) A (assignInOrder [] []) Q E s := by
  show wpAny _ _ (pure ()) Q E s
  exact wpAny_pure h
end
theorem stored_take {K : Type} [DecidableEq K] {kvs : List (K × Value)} {i : Nat} {k : K} {v : Value} (hn : (kvs.map (·.1)).Nodup) (h : kvs[i]? = some (k, v)) : stored (kvs.take i) k v = kvs.take (i + 1) := by
  have hno : (kvs.take i).any (fun kv => kv.1 = k) = false := by
    rw [List.any_eq_false]
    intro p hp hk
    have hk : p.1 = k := by simpa using hk
    obtain ⟨j, hj, rfl⟩ := List.mem_iff_getElem.mp hp
    have hj' : j < i := by have := List.length_take_le i kvs; omega
    obtain ⟨hil, hie⟩ := List.getElem?_eq_some_iff.mp h
    have hjl : j < kvs.length := by omega
    have e1 : (kvs.map (·.1))[j]? = some k := by
      rw [List.getElem?_map, List.getElem?_eq_getElem hjl]
      rw [List.getElem_take] at hk
      simp [hk]
    have e2 : (kvs.map (·.1))[i]? = some k := by rw [List.getElem?_map, h]; rfl
    have := (List.getElem?_inj (by simpa using hjl) hn).mp (e1.trans e2.symm)
    omega
  unfold stored
  rw [hno, List.take_add_one, h]; rfl
theorem DictOf.nodup {prog : Program} {w : World} {K : Type} [DecidableEq K] {knd : KeyKind prog w K} {h : Heap} {d : Addr} {kvs : List (K × Value)} (x : h.DictOf knd d kvs) : (kvs.map (·.1)).Nodup := by
  obtain ⟨o, es, ep, _, _, _, _, _, hn⟩ := x
  exact hn
end
section
/-- a dict's pairs bear these counts -/
inductive Cnt : List (Str × Value) → List (Str × Int) → Prop where
  | nil : Cnt [] []
  | cons (k : Str) (n : Int) (t : Tok) {r : List (Str × Value)} {r' : List (Str × Int)} : Cnt r r' → Cnt ((k, .int n t) :: r) ((k, n) :: r')
theorem Cnt.len {kv : List (Str × Value)} {cs : List (Str × Int)} (h : Cnt kv cs) : kv.length = cs.length := by
  induction h with
  | nil => rfl
  | cons _ _ _ _ ih => simp [ih]
theorem Cnt.ints {kv : List (Str × Value)} {cs : List (Str × Int)} (h : Cnt kv cs) : IntsAre (kv.map (·.2)) (cs.map (·.2)) := by
  induction h with
  | nil => exact .nil
  | cons k n t _ ih => exact .cons n t ih
theorem Cnt.keys {kv : List (Str × Value)} {cs : List (Str × Int)} (h : Cnt kv cs) : kv.map (·.1) = cs.map (·.1) := by
  induction h with
  | nil => rfl
  | cons k n t _ ih => simp [ih]
theorem Cnt.at {kv : List (Str × Value)} {cs : List (Str × Int)} (h : Cnt kv cs) : ∀ (i : Nat) (k : Str) (v : Value), kv[i]? = some (k, v) → ∃ n t, v = .int n t ∧ cs[i]? = some (k, n) := by
  induction h with
  | nil => intro i k v e; simp at e
  | cons k n t _ ih =>
    intro i k' v e
    cases i with
    | zero => simp at e; exact ⟨n, t, e.2.symm, by simp [e.1]⟩
    | succ i => exact ih i k' v (by simpa using e)
theorem Cnt.append {kv : List (Str × Value)} {cs : List (Str × Int)} (h : Cnt kv cs) (k : Str) (n : Int) (t : Tok) : Cnt (kv ++ [(k, .int n t)]) (cs ++ [(k, n)]) := by
  induction h with
  | nil => exact .cons k n t .nil
  | cons k' n' t' _ ih => exact .cons k' n' t' ih
/-- one more count -/
noncomputable def addC (acc : List (Str × Int)) (p : Str × Int) : List (Str × Int) := if acc.any (fun q => q.1 = p.1) then acc.map (fun q => if q.1 = p.1 then (q.1, q.2 + p.2) else q) else acc ++ [p]
theorem addC_len (acc : List (Str × Int)) (p : Str × Int) : (addC acc p).length ≤ acc.length + 1 := by
  unfold addC; split <;> simp
theorem addCs_len (ps : List (Str × Int)) : ∀ acc : List (Str × Int), (ps.foldl addC acc).length ≤ acc.length + ps.length := by
  induction ps with
  | nil => intro acc; simp
  | cons p r ih => intro acc; have h1 := ih (addC acc p); have h2 := addC_len acc p; simp only [List.foldl_cons, List.length_cons]; omega
theorem Cnt.any {kv : List (Str × Value)} {cs : List (Str × Int)} (h : Cnt kv cs) (k : Str) : kv.any (fun q => q.1 = k) = cs.any (fun q => q.1 = k) := by
  induction h with
  | nil => rfl
  | cons k' n t _ ih => simp only [List.any_cons, ih]
theorem valueAt_none {kv : List (Str × Value)} {k : Str} (h : valueAt kv k = none) : kv.any (fun q => q.1 = k) = false := by
  rw [List.any_eq_false]
  intro p hp e
  have e : p.1 = k := by simpa using e
  unfold valueAt at h
  rw [Option.map_eq_none_iff, List.find?_eq_none] at h
  exact h p hp (by simpa using e)
theorem Cnt.new {kv : List (Str × Value)} {cs : List (Str × Int)} (h : Cnt kv cs) {k : Str} (hk : valueAt kv k = none) (n : Int) (t : Tok) : Cnt (stored kv k (.int n t)) (addC cs (k, n)) := by
  have h1 := valueAt_none hk
  unfold stored addC
  rw [← h.any k, h1]
  exact h.append k n t
theorem Cnt.upd {kv : List (Str × Value)} {cs : List (Str × Int)} (h : Cnt kv cs) {k : Str} {v : Value} (hn : (kv.map (·.1)).Nodup) (hk : valueAt kv k = some v) : ∃ a t, v = .int a t ∧ ∀ n t', Cnt (stored kv k (.int (a + n) t')) (addC cs (k, n)) := by
  have hany : kv.any (fun q => q.1 = k) = true := by
    cases e : kv.any (fun q => q.1 = k) with
    | true => rfl
    | false =>
      exfalso
      rw [List.any_eq_false] at e
      unfold valueAt at hk
      obtain ⟨p, hp, _⟩ := Option.map_eq_some_iff.mp hk
      exact e p (List.mem_of_find?_eq_some hp) (List.find?_some (p := fun kv : Str × Value => decide (kv.1 = k)) hp)
  have key : ∃ a t, v = .int a t ∧ ∀ n t', Cnt (kv.map (fun q => if q.1 = k then (q.1, .int (a + n) t') else q)) (cs.map (fun q => if q.1 = k then (q.1, q.2 + n) else q)) := by
    clear hany
    induction h with
    | nil => simp [valueAt] at hk
    | @cons k' n' t' r r' hr ih =>
      by_cases e : k' = k
      · subst e
        have hv : v = .int n' t' := by simp [valueAt] at hk; exact hk.symm
        refine ⟨n', t', hv, fun n t'' => ?_⟩
        have hrest : r.map (fun q => if q.1 = k' then (q.1, Value.int (n' + n) t'') else q) = r ∧ r'.map (fun q => if q.1 = k' then (q.1, q.2 + n) else q) = r' := by
          have hno : k' ∉ r.map (·.1) := by simpa using (List.nodup_cons.mp hn).1
          have hno' : k' ∉ r'.map (·.1) := hr.keys ▸ hno
          constructor
          · refine (List.map_congr_left fun q hq => ?_).trans (List.map_id r)
            rw [if_neg fun e => hno (List.mem_map.mpr ⟨q, hq, e⟩)]; rfl
          · refine (List.map_congr_left fun q hq => ?_).trans (List.map_id r')
            rw [if_neg fun e => hno' (List.mem_map.mpr ⟨q, hq, e⟩)]; rfl
        simp only [List.map_cons, if_true]
        rw [hrest.1, hrest.2]
        exact .cons k' _ _ hr
      · have hk' : valueAt r k = some v := by simpa [valueAt, e] using hk
        obtain ⟨a, t, hv, g⟩ := ih (by simpa using (List.nodup_cons.mp hn).2) hk'
        refine ⟨a, t, hv, fun n t'' => ?_⟩
        simp only [List.map_cons, if_neg e]
        exact .cons k' _ _ (g n t'')
  obtain ⟨a, t, hv, g⟩ := key
  refine ⟨a, t, hv, fun n t' => ?_⟩
  unfold stored addC
  rw [← h.any k, hany]
  exact g n t'
theorem isDict_nodup {prog : Program} {w : World} {K : Type} [DecidableEq K] {knd : KeyKind prog w K} {o : Obj} {kvs : List (K × Value)} (x : o.IsDictOf knd kvs) : (kvs.map (·.1)).Nodup := by
  obtain ⟨es, ep, _, _, _, _, hn⟩ := x
  exact hn
end
section
section
variable {prog : Program} {w : World} {A : Around} {E : Value → Shared → Prop} {s : Shared} {h₀ : Heap} {env : Env} {pos : Pos} {f : Value} {first : List Value} {Q : Value → Shared → Prop}
/-- a call of the top's own: first the arguments -/
theorem callK {M : Model} {e : Expr} {rest : List Expr} (T : TF w h₀) (hk : keepIn (hd.heap_39 w.params) f = true) (h : wpAny M A (spliced (backTo pos (starEach (e :: rest) env))) (fun vs s₁ => h₀.StaysIn s₁.heap ∧ wpAny M A (call f (first ++ vs)) Q E s₁) E s)
    (he : starEach (e :: rest) env = (false, eval e env) :: starEach rest env := by rfl) (hplain : (backTo pos (starEach rest env)).any (·.1) = false := by rfl) :
    wpAny M A (callWith pos f first (backTo pos (starEach (e :: rest) env)) []) Q E s :=
  callWith_K T.k hk (wpAny_mono h (fun _ _ x => ⟨T.k.keeps x.1, x.2⟩) fun _ _ x => x) he hplain
theorem callK0 {M : Model} (T : TF w h₀) (st : h₀.StaysIn s.heap) (hk : keepIn (hd.heap_39 w.params) f = true) (h : wpAny M A (call f (first ++ [])) Q E s) : wpAny M A (callWith pos f first (backTo pos (starEach [] env)) []) Q E s :=
  callWith_K0 (T.k.keeps st) hk h
end
theorem tupKeep {h₀ h : Heap} {L a : Addr} {m : Str → Option Value} {its : Array Value} (F : Fr h₀ L h m) (x : h₀.IsTuple a its) : h.IsTuple a its := x.at fun o e => F.keep a o e
theorem tupMem {h₀ h : Heap} {L a : Addr} {news : List (Addr × Obj)} {its : Array Value} {n : Nat} (N : News h₀ L h news) (hm : (a, ({ cls := .type "tuple", data := .seq its n } : Obj)) ∈ news) : h.IsTuple a its := ⟨_, (N _ hm).1, rfl, n, rfl⟩
theorem tupStay {h h' : Heap} {a : Addr} {its : Array Value} (st : h.StaysIn h') (x : h.IsTuple a its) : h'.IsTuple a its := x.at fun o e => st a o e
theorem listKeep {h₀ h : Heap} {L a : Addr} {m : Str → Option Value} {its : Array Value} (F : Fr h₀ L h m) (x : h₀.IsList a its) : h.IsList a its := x.at fun o e => F.keep a o e
theorem listMem {h₀ h : Heap} {L a : Addr} {news : List (Addr × Obj)} {its : Array Value} {n : Nat} (N : News h₀ L h news) (hm : (a, ({ cls := .type "list", data := .seq its n } : Obj)) ∈ news) : h.IsList a its := ⟨_, (N _ hm).1, rfl, n, rfl⟩
end
section
section
variable {prog : Program} {w : World} {A : Around} {E : Value → Shared → Prop} {s : Shared}
theorem slApplied2 {sl : Addr} {u : Tok} {Q : Int × Int × Nat → Shared → Prop} (hs : s.heap.IsSliceOf sl .none (.int 2 u) .none) (h : Q ((0 : Int), 1, 2) s) :
    wpAny (model prog w) A (Builtin.Slice.sliceApplied (.ref sl) (pure (3 : Int))) Q E s := by
  obtain ⟨os, hos, hcs, hds⟩ := id hs
  unfold Builtin.Slice.sliceApplied Builtin.Slice.sliceFields
  refine wpAny_bind (wpAny_bind (wpAny_field hos hds (x := .none) rfl (wpAny_bind (wpAny_field hos hds (x := .int 2 u) rfl (wpAny_bind (wpAny_field hos hds (x := .none) rfl (wpAny_pure ?_)))))))
  refine wpAny_bind (slicePart_none ?_)
  show wpAny _ _ (if ((1 : Int) == 0) = true then _ else _) _ _ s
  rw [if_neg (by decide)]
  refine wpAny_bind (slicePart_none (wpAny_bind (slicePart_int (wpAny_bind (wpAny_pure ?_)))))
  show wpAny _ _ (match Builtin.Slice.sliceAdjust none (some 2) 1 (3 : Int) with | (lo, hi) => pure (lo, (1 : Int), Builtin.Slice.slicePlaces lo hi 1)) _ _ s
  rw [show Builtin.Slice.sliceAdjust none (some 2) 1 (3 : Int) = (0, 2) from by decide]
  show wpAny _ _ (pure ((0 : Int), (1 : Int), Builtin.Slice.slicePlaces 0 2 1)) _ _ s
  rw [show Builtin.Slice.slicePlaces 0 2 1 = 2 from by decide]
  exact wpAny_pure h
theorem giTup2 {t sl : Addr} {x y z : Value} {u : Tok} {Q : Value → Shared → Prop} (ht : IsTup s.heap t #[x, y, z]) (hs : s.heap.IsSliceOf sl .none (.int 2 u) .none)
    (h : Q (.ref s.heap.objs.size) { s with heap := s.heap.push { cls := .type "tuple", data := .seq #[x, y] } }) : wpAny (model prog w) A (getItem (.ref t) (.ref sl)) Q E s := by
  obtain ⟨os, hos, hcs, hds⟩ := id hs
  have hTs : s.TypeIs (.ref sl) "slice" := ⟨os, hos, hcs⟩
  unfold getItem
  try with_reducible refine wpAny_holding ?_
  first | refine wpAny_bind (wpAny_pure ?_) | skip
  refine wpAny_bind (wpAny_sequenceKey ht.typeIs (by decide) ?_)
  refine wpAny_bind (wpAny_callSpecial?_slot (name := Str.ofString "__getitem__") ht.typeIs slot_tuple_getitem
    (wpAny_call_entry slot_tuple_getitem ht.typeIs entry_tuple_getitem ?_ (args_tuple_getitem _ _)))
  show wpAny _ _ (Builtin.Tuple.tupleItemsOf (.ref t) >>= _) _ _ s
  refine wpAny_bind (tupleItemsOf_ ht ?_)
  refine wpAny_bind (wpAny_typeOf hTs ?_)
  rw [if_pos (by decide)]
  refine wpAny_bind (slApplied2 hs ?_)
  have e : ((List.range 2).filterMap fun (k : Nat) => (#[x, y, z] : Array Value)[((0 : Int) + (k : Int) * 1).toNat]?).toArray = #[x, y] := rfl
  show wpAny _ _ (if ((0 : Int) == 0 && (1 : Int) == 1 && (2 : Nat) == 3) = true then _ else _) _ _ s
  rw [if_neg (by decide)]
  first
    | exact wpAny_bind (m := Builtin.Tuple.tupleExact _) (wpAny_newObj_type (wpAny_pure ⟨_, rfl, wpAny_pure h⟩) (by show (2 : Nat) ≤ sizeLine; decide))
    | exact wpAny_bind (m := Builtin.Tuple.tupleExact _) (wpAny_newObj_type (wpAny_bind (wpAny_pure (wpAny_pure ⟨_, rfl, wpAny_pure h⟩))) (by show (2 : Nat) ≤ sizeLine; decide))
variable {h₀ : Heap} {L : Addr} {m : Str → Option Value} {news : List (Addr × Obj)}
theorem slTup2 {value slice : Expr} {t : Addr} {x y z : Value} {u : Tok} {Q : Value → Shared → Prop}
    (F : Fr h₀ L s.heap m) (N : News h₀ L s.heap news) (T : TF w h₀) (ht : s.heap.IsTuple t #[x, y, z])
    (h : ∀ a h', Fr h₀ L h' m → News h₀ L h' ((a, { cls := .type "tuple", data := .seq #[x, y] }) :: news) → s.heap.StaysIn h' → Q (.ref a) (St s h' s.toks))
    (hs : subscripted slice false (.ref t) (.ref s.heap.objs.size) = operate [.ref s.heap.objs.size, .ref t] (getItem (.ref t) (.ref s.heap.objs.size)) := by with_unfolding_all rfl)
    (hg : ∀ r, letTemporaryGo value (.ref t) r = pure () := by intro _; with_unfolding_all rfl) :
    wpAny (model prog w) A (subscriptTail value slice (.ref t) (.ref s.heap.objs.size)) Q E { s with heap := s.heap.push { cls := .type "slice", data := .fields #[.none, .int 2 u, .none] } } := by
  have ht' : IsTup (s.heap.push { cls := .type "slice", data := .fields #[.none, .int 2 u, .none] }) t #[x, y, z] := IsTup.keeps ht fun _ _ e => Heap.get?_push_of_some _ e
  refine subscriptTail_ops (s := { s with heap := s.heap.push { cls := .type "slice", data := .fields #[.none, .int 2 u, .none] } }) ht'.typeIs slot_tuple_getitem.lookup
    (giTup2 ht' (Heap.IsSliceOf.new ..) ?_) hs hg
  have N1 := News.push (F.push { cls := .type "slice", data := .fields #[.none, .int 2 u, .none] }) (N.grown fun _ _ e => Heap.get?_push_of_some _ e) { cls := .type "tuple", data := .seq #[x, y] }
  exact h _ _ ((F.push _).push _) N1 fun _ _ e => Heap.get?_push_of_some _ (Heap.get?_push_of_some _ e)
end
end
section
open PySem.SeqAt
section
variable {prog : Program} {w : World} {A : Around} {E : Value → Shared → Prop} {s : Shared}
theorem eqPairNe {a b : Addr} {x x' : Str} {c c' : Int} {t t' u u' : Tok} {Q : Value → Shared → Prop} (ha : s.heap.IsTuple a #[.str x t, .int c u]) (hb : s.heap.IsTuple b #[.str x' t', .int c' u']) (hu : A.units < cLine) (hx : x ≠ x')
    (h : Q (.bool false) s) : wpAny (model prog w) A (compareOp .Eq (.ref a) (.ref b)) Q E s := by
  refine eq_tupleAt (e := fun j => if j = 0 then x == x' else c == c') ha hb hu (fun j h1 h2 => ?_) ?_
  · have : j = 0 ∨ j = 1 := by have : j < 2 := h1; omega
    rcases this with rfl | rfl
    · exact EqAt.str_str _ _ _ _
    · exact EqAt.int_int _ _ _ _
  · have : (x == x') = false := beq_eq_false_iff_ne.mpr hx
    show Q (.bool (((if (0 : Nat) = 0 then x == x' else c == c') && _) && _)) s
    rw [if_pos rfl, this]; exact h
theorem eqPairYes {a b : Addr} {x : Str} {c : Int} {t t' u u' : Tok} {Q : Value → Shared → Prop} (ha : s.heap.IsTuple a #[.str x t, .int c u]) (hb : s.heap.IsTuple b #[.str x t', .int c u']) (hu : A.units < cLine)
    (h : Q (.bool true) s) : wpAny (model prog w) A (compareOp .Eq (.ref a) (.ref b)) Q E s := by
  refine eq_tupleAt (e := fun j => if j = 0 then x == x else c == c) ha hb hu (fun j h1 h2 => ?_) ?_
  · have : j = 0 ∨ j = 1 := by have : j < 2 := h1; omega
    rcases this with rfl | rfl
    · exact EqAt.str_str _ _ _ _
    · exact EqAt.int_int _ _ _ _
  · have : ((List.range (min 2 2)).all (fun j => if j = 0 then x == x else c == c) && (2 : Nat) == 2) = true := by
      show (((if (0 : Nat) = 0 then x == x else c == c) && ((if (1 : Nat) = 0 then x == x else c == c) && true)) && true) = true
      simp
    show Q (.bool ((List.range (min 2 2)).all (fun j => if j = 0 then x == x else c == c) && (2 : Nat) == 2)) s
    rw [this]; exact h
open PySem.Builtin in
theorem modTup {X T : Str} {t : Tok} {b : Addr} {its : Array Value} {Q : Value → Shared → Prop} (ht : IsTup s.heap b its)
    (hm : Meets («str.__mod__» ⟨[.str X t, .ref b], []⟩) (fun _ R s => IsTup s.heap b its ∧ ∀ t' k, R (.ok (.ret (.str T t'))) { s with toks := k }))
    (h : ∀ t' k, Q (.str T t') { s with toks := k }) : wpAny (model prog w) A (binaryOp .Mod (.str X t) (.ref b)) Q E s := by
  have hT : s.TypeIs (.ref b) "tuple" := by
    obtain ⟨o, ho, hc, _⟩ := id ht
    exact ⟨o, ho, hc⟩
  exact KPt.bin_left (T := "str") (U := "tuple") (op := .Mod) (by decide) (typeIs_str s X t) hT F.fills_str_mod KPt.fills_tuple F.slot_str_mod
    (call_meets F.slot_str_mod (typeIs_str s X t) F.entry_str_mod (F.args_str_mod_2 _ _) hm ⟨ht, fun t' k => ⟨(fun e => nomatch e), h t' k⟩⟩)
end
end
section
section
variable {g h h' : Heap} {L : Addr} {m : Str → Option Value} {news : List (Addr × Obj)} {mus : List Addr}
theorem frHid (F : Fr g L h m) (hL : L ∉ mus) (hm : ∀ b ∈ mus, g.get? b = none) (st : (hideAll h mus).StaysIn (hideAll h' mus)) : Fr g L h' m :=
  ⟨F.ns.at' fun o e => of_hideAll _ (st _ _ (hideAll_get _ e hL)), fun b o e => of_hideAll _ (st _ _ (hideAll_get _ (F.keep b o e) fun q => by rw [hm b q] at e; cases e)), F.above⟩
theorem newsPut (N : News g L h news) (hk : ∀ p ∈ news, h'.get? p.1 = some p.2) : News g L h' news := fun p hp => ⟨hk p hp, (N p hp).2⟩
/-- what stays while some may change -/
theorem hidOf (F : Fr g L h' m) (hm : ∀ b ∈ mus, g.get? b = none) : g.StaysIn (hideAll h' mus) := fun b o e => hideAll_get _ (F.keep b o e) fun q => by rw [hm b q] at e; cases e
theorem hid_none {b : Addr} (hb : b ∈ mus) : (hideAll h mus).get? b = none := hideAll_none _ hb
theorem of_hid : (hideAll h mus).StaysIn h := fun _ _ e => of_hideAll _ e
end
section
variable {prog : Program} {w : World} {A : Around} {s : Shared}
/-- a def is entered while some of the heap may change -/
theorem enterX {R : Result → Shared → Prop} {mus : List Addr} {name qual : Str} {params : Arguments} {body : List Stmt} {scope : Scope} {cl : List (Str × Addr)} {doc pm ct cd : Value} {f : Addr} {fo : Obj} {args : List Value} {binds : List (Str × Value)} {news : List (Addr × Obj)} {d u : Nat}
    (T : TF w (hideAll s.heap mus)) (hA : Rm A (d + 1) (u + 3)) (ho : s.heap.get? f = some fo) (hdata : fo.data = .func (fnX name qual params body scope cl .none .none doc pm none cd ct)) (hcd : s.heap.CodeRec cd qual)
    (hbind : bindArgs (fnX name qual params body scope cl .none .none doc pm none cd ct) ⟨args, []⟩ = pure binds)
    (hloc : ∀ x ∈ binds, scope.names.lookup x.1 = some .local) (N : ∀ p ∈ news, p.1 ∈ mus ∧ s.heap.get? p.1 = some p.2)
    (h : ∀ h₁ A', Rm A' d u → Fr (hideAll s.heap mus) s.heap.objs.size h₁ (fun x => binds.reverse.lookup x) → News (hideAll s.heap mus) s.heap.objs.size h₁ news → s.heap.StaysIn h₁ →
      wpAny (model prog w) A' (execs body (envX qual scope s.heap.objs.size f cd cl))
        (fun fl s' => R (.ok (.ret (match fl with | .ret v => v | _ => .none))) s') (fun _ _ => False)
        { s with heap := h₁, toks := s.toks + binds.length })
    (hco : scope.isCoroutine = false := by rfl) (hgen : scope.isGenerator = false := by rfl) (hk : scope.kind = .function := by rfl)
    (hcell : ∀ x ∈ scope.names, x.2 ≠ .cell := by decide) :
    codeAny (model prog w) A (.call (.ref f) ⟨args, []⟩) R s := by
  refine codeAny_call_def (fd := fnX name qual params body scope cl .none .none doc pm none cd ct) (body := body) (binds := binds) hA.room ho hdata (T.lim.keeps of_hid) hcd rfl (.of_eq hbind) hcell hloc (fun h₁ hns hk₁ => ?_) hco hgen hk
  refine wpAny_mono (h h₁ _ hA.deeper ⟨hns, fun b o e => hk₁ b o (of_hideAll _ e), Nat.le_of_eq (hideAll_size _ _)⟩ (fun p hp => ?_) hk₁) (fun _ _ x => x) fun _ _ x => x.elim
  exact ⟨hk₁ _ _ (N p hp).2, Nat.ne_of_lt (Heap.lt_size (N p hp).2), hideAll_none _ (N p hp).1⟩
/-- a lambda is entered -/
theorem enterLam {R : Result → Shared → Prop} {mus : List Addr} {name qual : Str} {params : Arguments} {body : Expr} {scope : Scope} {cl : List (Str × Addr)} {pm ct cd : Value} {f : Addr} {fo : Obj} {args : List Value} {binds : List (Str × Value)} {news : List (Addr × Obj)} {d u : Nat}
    (T : TF w (hideAll s.heap mus)) (hA : Rm A (d + 1) (u + 3)) (ho : s.heap.get? f = some fo) (hdata : fo.data = .func (kla_fn name qual params body scope cl pm cd ct)) (hcd : s.heap.CodeRec cd qual)
    (hbind : bindArgs (kla_fn name qual params body scope cl pm cd ct) ⟨args, []⟩ = pure binds)
    (hloc : ∀ x ∈ binds, scope.names.lookup x.1 = some .local) (N : ∀ p ∈ news, p.1 ∈ mus ∧ s.heap.get? p.1 = some p.2)
    (h : ∀ h₁ A', Rm A' d u → Fr (hideAll s.heap mus) s.heap.objs.size h₁ (fun x => binds.reverse.lookup x) → News (hideAll s.heap mus) s.heap.objs.size h₁ news → s.heap.StaysIn h₁ →
      wpAny (model prog w) A' (eval body (envX qual scope s.heap.objs.size f cd cl))
        (fun v s' => R (.ok (.ret v)) s') (fun _ _ => False)
        { s with heap := h₁, toks := s.toks + binds.length })
    (hco : scope.isCoroutine = false := by rfl) (hgen : scope.isGenerator = false := by rfl) (hk : scope.kind = .function := by rfl)
    (hcell : ∀ x ∈ scope.names, x.2 ≠ .cell := by decide) :
    codeAny (model prog w) A (.call (.ref f) ⟨args, []⟩) R s := by
  refine kla_callFunE hA.room ho hdata hco hgen rfl hcd ?_
  rw [hbind]
  refine wpAny_pure (wpAny_newFunctionEnv hcell hloc (fun h₁ hns hsb => ⟨(T.lim.keeps of_hid).fresh _ hsb, ?_⟩) hk)
  have hk₁ : s.heap.StaysIn h₁ := fun b o e => hsb.extBut b o (Nat.ne_of_lt (Heap.lt_size e)) (Heap.get?_push_of_some _ e)
  show codeAny _ _ (.expr body (envX qual scope s.heap.objs.size f cd cl)) _ _
  refine kla_codeExpr (wpAny_mono (h h₁ _ hA.deeper ⟨hns, fun b o e => hk₁ b o (of_hideAll _ e), Nat.le_of_eq (hideAll_size _ _)⟩ (fun p hp => ?_) hk₁) (fun _ _ x => x) fun _ _ x => x.elim)
  exact ⟨hk₁ _ _ (N p hp).2, Nat.ne_of_lt (Heap.lt_size (N p hp).2), hideAll_none _ (N p hp).1⟩
end
-- attributes
/-- an object with its own names -/
structure Inst (h : Heap) (x C dx : Addr) (es : List DictEntry) (n : Nat) : Prop where
  x : h.get? x = some (instObj C dx)
  d : h.get? dx = some (dictOf es n)
theorem Inst.keeps {h h' : Heap} {x C dx : Addr} {es : List DictEntry} {n : Nat} (I : Inst h x C dx es n) (k : h.StaysIn h') : Inst h' x C dx es n := ⟨k _ _ I.x, k _ _ I.d⟩
theorem Inst.at {h : Heap} {x C dx : Addr} {es : List DictEntry} {n : Nat} (I : Inst h x C dx es n) : InstAt h x (instObj C dx) C (some (dictOf es n)) := ⟨I.x, rfl, rfl, I.d⟩
section
variable {prog : Program} {w : World} {A : Around} {E : Value → Shared → Prop} {s : Shared} {x C dx : Addr} {es : List DictEntry} {n : Nat} {L : Addr} {h₀ : Heap} {m : Str → Option Value} {name : Str} {v : Value}
/-- an attribute of its own -/
theorem attrOwn {expr : Bool} {attr : Option Value} {Q : Value → Shared → Prop} (F : Fr h₀ L s.heap m) (T : TF w h₀) (I : Inst s.heap x C dx es n) (hl : getL name es = some (some v)) (hg : plainGet (hd.heap_39 w.params) C name = true) (hh : hasDictIn (hd.heap_39 w.params) C = true)
    (ha : findIn (hd.heap_39 w.params) (.ref C) name = some attr) (hn : noGet (hd.heap_39 w.params) attr = true) (hv : handedIn v = true) (h : Q v (St s s.heap (s.toks + 1))) :
    wpAny (model prog w) A (getAttr (.ref x) name expr) Q E s :=
  get_own F T.k I.at hg hh ha hn hl hv h
/-- a function that the object holds, called by its name -/
theorem methOwn {pl : Sem Bool} {Q : Value × List Value → Shared → Prop} (F : Fr h₀ L s.heap m) (T : TF w h₀) (I : Inst s.heap x C dx es n) (hl : getL name es = some (some v)) (hg : plainGet (hd.heap_39 w.params) C name = true) (hh : hasDictIn (hd.heap_39 w.params) C = true)
    (ha : findIn (hd.heap_39 w.params) (.ref C) name = some none) (hv : handedIn v = true) (h : Q (v, []) (St s s.heap (s.toks + 1))) :
    wpAny (model prog w) A (getMethod (.ref x) name pl) Q E s :=
  method_usual (T.k.keeps F.keep) I.at (plainGet_of hg).1 (plainGet_of hg).2 ha rfl (get_own F T.k I.at hg hh ha rfl hl hv h)
/-- a method of the class -/
theorem methCls {pl : Sem Bool} {Q : Value × List Value → Shared → Prop} {f : Addr} (F : Fr h₀ L s.heap m) (T : TF w h₀) (I : Inst s.heap x C dx es n) (hl : getL name es = some none) (hg : plainGet (hd.heap_39 w.params) C name = true)
    (hf : findIn (hd.heap_39 w.params) (.ref C) name = some (some (.ref f))) (ht : isFn (hd.heap_39 w.params) (.ref f) = true) (h : Q (.ref f, [.ref x]) s) : wpAny (model prog w) A (getMethod (.ref x) name pl) Q E s :=
  method_inst F T.k I.at hg hf ht hl h
end
-- free names
section
variable {M : Model} {A : Around} {E : Value → Shared → Prop} {s : Shared} {L a : Addr} {cn : Str} {cs : Scope} {ccd : Value} {cl : List (Str × Addr)} {x : Str} {pos : Pos} {v : Value} {Q : Value → Shared → Prop} {c : Addr}
theorem nmF (hc : cl.lookup x = some c) (hv : s.heap.IsCell c (some v)) (h : Q v s)
    (hk : cs.kind = .function := by rfl) (hl : (envX cn cs L a ccd cl).kindOf x = some .free := by rfl) (hb : (x == ("__debug__" : Str)) = false := by decide) (hn : (x == ("__classdict__" : Str)) = false := by decide) :
    wpAny M A (eval (.Name x pos) (envX cn cs L a ccd cl)) Q E s := wpAny_Name (wpAny_loadName_free hk hl hc hv h hn) hb
end
theorem cellKeep {h h' : Heap} {c : Addr} {v : Option Value} (x : h.IsCell c v) (k : h.StaysIn h') : h'.IsCell c v := (by obtain ⟨o, e, d⟩ := x; exact ⟨o, k _ _ e, d⟩)
end
section
-- the two defs that are made while the law runs, as the program has them
noncomputable def wkDef : Stmt := match PySem.Challenge.pw_pg0151_01.main.body.drop 17 with
  | .FunctionDef _ _ b _ _ _ _ _ _ _ :: _ => (match b.drop 5 with | x :: _ => x | [] => .Pass ⟨0, 0, 0, 0⟩)
  | _ => .Pass ⟨0, 0, 0, 0⟩
noncomputable def errA : Arguments := match wkDef with | .FunctionDef _ a _ _ _ _ _ _ _ _ => a | _ => default
noncomputable def errB : List Stmt := match wkDef with | .FunctionDef _ _ b _ _ _ _ _ _ _ => b | _ => []
noncomputable def errS : Scope := match wkDef with | .FunctionDef _ _ _ _ _ _ s _ _ _ => s | _ => default
noncomputable def pgLam : Expr := match PySem.Challenge.pw_pg0151_01.main.body.drop 15 with
  | .FunctionDef _ _ b _ _ _ _ _ _ _ :: _ => (match b.drop 5 with | .Assign _ v _ :: _ => v | _ => .Name "x" ⟨0, 0, 0, 0⟩)
  | _ => .Name "x" ⟨0, 0, 0, 0⟩
noncomputable def lamA : Arguments := match pgLam with | .Lambda a _ _ _ => a | _ => default
noncomputable def lamB : Expr := match pgLam with | .Lambda _ b _ _ => b | e => e
noncomputable def lamS : Scope := match pgLam with | .Lambda _ _ s _ => s | _ => default
noncomputable def lamQ : Str := Str.ofString "_law_page" ++ Str.ofString ".<locals>." ++ Str.ofString "<lambda>"
noncomputable def errQ : Str := Str.ofString "_law_walk" ++ Str.ofString ".<locals>." ++ Str.ofString "_law_error"
/-- a page's info: it gives its heads -/
structure Info (h : Heap) (inf hd_ : Addr) : Prop where
  x : ∃ pm c' ctv cell, h.get? inf = some (kla_obj (Str.ofString "<lambda>") lamQ lamA lamB lamS [(Str.ofString "heads", cell)] pm c' ctv) ∧ h.CodeRec (.ref c') lamQ ∧ h.IsCell cell (some (.ref hd_))
theorem Info.keeps {h h' : Heap} {inf a : Addr} (x : Info h inf a) (k : h.StaysIn h') : Info h' inf a :=
  (by obtain ⟨pm, c', ctv, cell, h1, h2, h3⟩ := x.x; exact ⟨pm, c', ctv, cell, k _ _ h1, h2.keeps k, cellKeep h3 k⟩)
theorem FnAt.keeps' {h h' : Heap} {q : Addr} (x : FnAt q h) (k : h.StaysIn h') : FnAt q h' := (by obtain ⟨a, b, c, d, e⟩ := x; exact ⟨a, b, c, d, k _ _ e⟩)
theorem Info.fn {h : Heap} {inf a : Addr} (x : Info h inf a) : FnAt inf h := (by obtain ⟨_, _, _, _, h1, _⟩ := x.x; exact ⟨_, _, _, _, h1⟩)
theorem info_call {prog : Program} {w : World} {A : Around} {s : Shared} {Q E : Value → Shared → Prop} {inf a : Addr} (T : TF w s.heap) (hA : Rm A 2 10) (I : Info s.heap inf a)
    (hret : ∀ h' tk', s.heap.StaysIn h' → Q (.ref a) (St s h' tk')) : wpAny (model prog w) A (call (.ref inf) []) Q E s := by
  obtain ⟨pm, c', ctv, cell, h1, h2, h3⟩ := I.x
  refine wpAny_call (enterLam (mus := []) (d := 1) (u := 7) (binds := []) (news := []) T hA h1 rfl h2 rfl (fun _ h => nomatch h) (fun _ h => nomatch h) ?_)
  intro h₁ A' hA' F N st
  exact nmF (x := Str.ofString "heads") (c := cell) rfl (cellKeep h3 st) (hret _ _ st)
/-- a page -/
structure Page (h : Heap) (p : Addr) (code : Int) (fn heads : Addr) : Prop where
  x : ∃ dx es n t inf, Inst h p 45 dx es n ∧ getL "code" es = some (some (.int code t)) ∧ getL "msg" es = some (some (.ref fn)) ∧ getL "info" es = some (some (.ref inf)) ∧ Info h inf heads
theorem Page.keeps {h h' : Heap} {p fn heads : Addr} {code : Int} (x : Page h p code fn heads) (k : h.StaysIn h') : Page h' p code fn heads :=
  (by obtain ⟨dx, es, n, t, inf, h1, h2, h3, h4, h5⟩ := x.x; exact ⟨dx, es, n, t, inf, h1.keeps k, h2, h3, h4, h5.keeps k⟩)
end
section
/-- pairs alike -/
inductive Rel {β : Type} (R : Value → β → Prop) : List (Str × Value) → List (Str × β) → Prop where
  | nil : Rel R [] []
  | cons (k : Str) {v : Value} {b : β} {r : List (Str × Value)} {r' : List (Str × β)} : R v b → Rel R r r' → Rel R ((k, v) :: r) ((k, b) :: r')
section
variable {β : Type} {R S : Value → β → Prop}
noncomputable def putB (l : List (Str × β)) (k : Str) (b : β) : List (Str × β) := if l.any (fun q => q.1 = k) then l.map (fun q => if q.1 = k then (q.1, b) else q) else l ++ [(k, b)]
noncomputable def getB (l : List (Str × β)) (k : Str) : Option β := (l.find? fun q => q.1 = k).map (·.2)
theorem Rel.mono (h : ∀ v b, R v b → S v b) {l : List (Str × Value)} {l' : List (Str × β)} (x : Rel R l l') : Rel S l l' := by
  induction x with
  | nil => exact .nil
  | cons k hv _ ih => exact .cons k (h _ _ hv) ih
theorem Rel.len {l : List (Str × Value)} {l' : List (Str × β)} (x : Rel R l l') : l.length = l'.length := by
  induction x with
  | nil => rfl
  | cons _ _ _ ih => simp [ih]
theorem Rel.any {l : List (Str × Value)} {l' : List (Str × β)} (x : Rel R l l') (k : Str) : l.any (fun q => q.1 = k) = l'.any (fun q => q.1 = k) := by
  induction x with
  | nil => rfl
  | cons k' _ _ ih => simp only [List.any_cons, ih]
theorem Rel.append {l : List (Str × Value)} {l' : List (Str × β)} (x : Rel R l l') (k : Str) {v : Value} {b : β} (hv : R v b) : Rel R (l ++ [(k, v)]) (l' ++ [(k, b)]) := by
  induction x with
  | nil => exact .cons k hv .nil
  | cons k' h _ ih => exact .cons k' h ih
theorem Rel.map {l : List (Str × Value)} {l' : List (Str × β)} (x : Rel R l l') (k : Str) {v : Value} {b : β} (hv : R v b) : Rel R (l.map (fun q => if q.1 = k then (q.1, v) else q)) (l'.map (fun q => if q.1 = k then (q.1, b) else q)) := by
  induction x with
  | nil => exact .nil
  | cons k' h _ ih =>
    simp only [List.map_cons]
    by_cases e : k' = k
    · simp only [e, if_true]; exact .cons k hv ih
    · simp only [if_neg e]; exact .cons k' h ih
theorem Rel.put {l : List (Str × Value)} {l' : List (Str × β)} (x : Rel R l l') (k : Str) {v : Value} {b : β} (hv : R v b) : Rel R (stored l k v) (putB l' k b) := by
  unfold stored putB
  rw [x.any k]
  split
  · exact x.map k hv
  · exact x.append k hv
theorem Rel.get {l : List (Str × Value)} {l' : List (Str × β)} (x : Rel R l l') (k : Str) : (valueAt l k = none ∧ getB l' k = none) ∨ ∃ v b, valueAt l k = some v ∧ getB l' k = some b ∧ R v b := by
  induction x with
  | nil => exact .inl ⟨rfl, rfl⟩
  | @cons k' v b r r' h _ ih =>
    by_cases e : k' = k
    · exact .inr ⟨v, b, by simp [valueAt, e], by simp [getB, e], h⟩
    · rcases ih with ⟨h1, h2⟩ | ⟨v', b', h1, h2, h3⟩
      · exact .inl ⟨by simpa [valueAt, e] using h1, by simpa [getB, e] using h2⟩
      · exact .inr ⟨v', b', by simpa [valueAt, e] using h1, by simpa [getB, e] using h2, h3⟩
theorem Rel.at {l : List (Str × Value)} {l' : List (Str × β)} (x : Rel R l l') : ∀ (i : Nat) (k : Str) (v : Value), l[i]? = some (k, v) → ∃ b, l'[i]? = some (k, b) ∧ R v b := by
  induction x with
  | nil => intro i k v e; simp at e
  | @cons k' v' b' r r' h _ ih =>
    intro i k v e
    cases i with
    | zero => simp at e; exact ⟨b', by simp [e.1], e.2 ▸ h⟩
    | succ i => exact ih i k v (by simpa using e)
end
/-- these are the texts -/
inductive StrsAre : List Value → List Str → Prop where
  | nil : StrsAre [] []
  | cons (x : Str) (t : Tok) {r : List Value} {r' : List Str} : StrsAre r r' → StrsAre (.str x t :: r) (x :: r')
theorem StrsAre.len {l : List Value} {l' : List Str} (x : StrsAre l l') : l.length = l'.length := by
  induction x with
  | nil => rfl
  | cons _ _ _ ih => simp [ih]
theorem StrsAre.append {l : List Value} {l' : List Str} (h : StrsAre l l') (x : Str) (t : Tok) : StrsAre (l ++ [.str x t]) (l' ++ [x]) := by
  induction h with
  | nil => exact .cons x t .nil
  | cons y u _ ih => exact .cons y u ih
theorem StrsAre.mem {l : List Value} {l' : List Str} (h : StrsAre l l') : ∀ v ∈ l, ∃ x t, v = .str x t ∧ x ∈ l' := by
  induction h with
  | nil => intro v hv; cases hv
  | cons x t _ ih =>
    intro v hv
    rcases List.mem_cons.mp hv with rfl | hv
    · exact ⟨x, t, rfl, .head _⟩
    · obtain ⟨y, u, e, hy⟩ := ih v hv; exact ⟨y, u, e, .tail _ hy⟩
theorem StrsAre.at {l : List Value} {l' : List Str} (h : StrsAre l l') : ∀ (i : Nat) (v : Value), l[i]? = some v → ∃ x t, v = .str x t ∧ l'[i]? = some x := by
  induction h with
  | nil => intro i v e; simp at e
  | cons x t _ ih =>
    intro i v e
    cases i with
    | zero => simp at e; exact ⟨x, t, e.symm, by simp⟩
    | succ i => exact ih i v (by simpa using e)
/-- the very equality of a text with these -/
noncomputable def isStrB (x : Str) : Value → Bool | .str y _ => y == x | _ => false
theorem StrsAre.any {l : List Value} {l' : List Str} (h : StrsAre l l') (x : Str) : l.any (isStrB x) = decide (x ∈ l') := by
  induction h with
  | nil => simp
  | cons y t _ ih =>
    simp only [List.any_cons, ih, isStrB, List.mem_cons, Bool.decide_or]
    congr 1
    by_cases e : y = x
    · subst e; simp
    · rw [beq_eq_false_iff_ne.mpr e]; simp [Ne.symm e]
end
section
section
variable {prog : Program} {w : World} {A : Around} {E : Value → Shared → Prop} {s : Shared} {h₀ : Heap} {L : Addr} {m : Str → Option Value} {news : List (Addr × Obj)}
theorem upT {t : Addr} {items : Array Value} {n : Nat} {Q : List Value → Shared → Prop} (F : Fr h₀ L s.heap m) (N : News h₀ L s.heap news) (hh : A.handled = none) (ht : s.heap.IsTuple t items) (hn : n = items.size)
    (h : ∀ h', Fr h₀ L h' m → News h₀ L h' news → s.heap.StaysIn h' → Q items.toList (St s h' s.toks)) : wpAny (model prog w) A (unpackItems (.ref t) n none) Q E s := by
  subst hn
  refine wpAny_unpackItems_tuple hh ht fun h' hx => ?_
  have st : s.heap.StaysIn h' := fun b o e => hx b o (Nat.ne_of_lt (Heap.lt_size e)) e
  exact h h' (frStays F st) (newsStays N st) st
end
end
section
section
variable {prog : Program} {w : World} {A : Around} {E : Value → Shared → Prop} {s : Shared} {h₀ : Heap} {L : Addr} {m : Str → Option Value} {news : List (Addr × Obj)}
theorem notInL {l : Addr} {its : Array Value} {ys : List Str} {x : Str} {t : Tok} {Q : Value → Shared → Prop} (hl : s.heap.IsList l its) (hs : StrsAre its.toList ys) (h : Q (.bool (!decide (x ∈ ys))) s) :
    wpAny (model prog w) A (compareOp .NotIn (.str x t) (.ref l)) Q E s := by
  refine PySem.SeqAt.notIn_listAt (isStrB x) hl (fun y hy => ?_) ?_
  · obtain ⟨z, u, rfl, _⟩ := hs.mem y (Array.mem_toList_iff.mpr hy)
    exact PySem.SeqAt.EqAt.str_str _ _ _ _
  · rw [← Array.any_toList, hs.any]; exact h
theorem gmAppend {l : Addr} {its : Array Value} {n : Nat} {pl : Sem Bool} {Q : Value × List Value → Shared → Prop} (ho : s.heap.get? l = some (listOf its n)) (h : Q (.builtin "list.append", [.ref l]) s) :
    wpAny (model prog w) A (getMethod (.ref l) "append" pl) Q E s := PySem.Calls.getMethod_list_append ho rfl rfl h
theorem appendN {own rest : List (Addr × Obj)} {l : Addr} {its : Array Value} {n : Nat} {x : Value} {Q : Value → Shared → Prop} (F : Fr h₀ L s.heap m) (N : News h₀ L s.heap (own ++ (l, listOf its n) :: rest)) (h1 : ∀ p ∈ own, p.1 ≠ l) (h2 : ∀ p ∈ rest, p.1 ≠ l) (hsz : its.size ≤ sizeLine)
    (h : ∀ h', Fr h₀ L h' m → News h₀ L h' (own ++ (l, listOf (its.push x) (n + 1)) :: rest) → Q .none (St s h' s.toks)) : wpAny (model prog w) A (call (.builtin "list.append") [.ref l, x]) Q E s := by
  have z := N (l, listOf its n) (List.mem_append.mpr (.inr (.head _)))
  exact append_at (hsz := hsz) z.1 fun h' hs ho' => h h' (F.change hs z.2.1 z.2.2) (news_set N h1 h2 hs ho')
theorem lenL {l : Addr} {its : Array Value} {Q : Value → Shared → Prop} (hl : s.heap.IsList l its) (hfit : (its.size : Int) < 2 ^ 63)
    (h : Q (.int its.size (s.toks + 1)) (St s s.heap (s.toks + 1 + 1))) : wpAny (model prog w) A (call (.builtin "len") [.ref l]) Q E s := PySem.Calls.call_len_list hl hfit h
theorem preSum_sum (l : List Int) : ∀ n, n ≤ l.length → preSum (fun i => l.getD i 0) n = (l.take n).sum := by
  intro n
  induction n with
  | zero => intro _; rfl
  | succ n ih =>
    intro hn
    have : l[n]? = some l[n] := List.getElem?_eq_getElem (by omega)
    rw [take_sum this, ← ih (by omega)]
    show preSum _ n + l.getD n 0 = _
    rw [List.getD_eq_getElem?_getD, this]; rfl
/-- the sum of a list of ints that the heap holds -/
theorem sumL {l : Addr} {its : Array Value} {ns : List Int} {Q : Value → Shared → Prop} (F : Fr h₀ L s.heap m) (N : News h₀ L s.heap news) (hh : A.handled = none) (hl : s.heap.IsList l its) (hi : IntsAre its.toList ns)
    (h : ∀ t h' tk', Fr h₀ L h' m → News h₀ L h' news → s.heap.StaysIn h' → Q (.int ns.sum t) (St s h' tk')) : wpAny (model prog w) A (call (.builtin "sum") [.ref l]) Q E s := by
  refine call_sum_walkG (wpAny_pyIter_list hl ?_)
  obtain ⟨ol, hol, _⟩ := id hl
  have ne : l ≠ s.heap.objs.size := Nat.ne_of_lt (Heap.lt_size hol)
  have W := Walks.list (prog := prog) (w := w) (A := A.in1) (by exact hh) s.heap.objs.size l ne its
  refine ⟨_, _, _, _, _, _, fun i => ns.getD i 0, rfl, W, ⟨⟨_, Heap.get?_push_size _ rfl, rfl, rfl⟩, hl.at fun o e => Heap.get?_push_of_some _ e⟩, ?_, ?_, ?_⟩
  · intro b hb
    simp only [List.mem_cons, List.not_mem_nil, or_false] at hb
    rw [Heap.size_push]
    rcases hb with rfl | rfl
    · exact Nat.lt_succ_self _
    · exact Nat.lt_succ_of_lt (Heap.lt_size hol)
  · intro i v hv
    obtain ⟨n, t, rfl, hn⟩ := hi.at i v (by simpa using hv)
    exact ⟨t, by show _ = Value.int (ns.getD i 0) t; rw [List.getD_eq_getElem?_getD, hn]; rfl⟩
  · intro h' tk t' hk
    have st : s.heap.StaysIn h' := fun b o e => hk b o (fun q => by rw [List.mem_singleton.mp q] at e; exact absurd (Heap.lt_size e) (Nat.lt_irrefl _)) (Heap.get?_push_of_some _ e)
    have e : preSum (fun i => ns.getD i 0) its.size = ns.sum := by
      rw [preSum_sum ns its.size (by have := hi.length; simp at this; omega), List.take_of_length_le (by have := hi.length; simp at this; omega)]
    rw [e]
    exact h _ _ _ (frStays F st) (newsStays N st) st
end
end
section
section
variable {prog : Program} {w : World} {A : Around} {E : Value → Shared → Prop} {K : Type} [DecidableEq K] {knd : KeyKind prog w K} {d : Addr} {kvs : List (K × Value)} {k : K} {key v : Value} {h : Heap} {g : Array GenState} {dr : Nat} {t : Tok} {os : OS}
variable {s : Shared}
theorem subD {value slice : Expr} {Q : Value → Shared → Prop} (hd : s.heap.DictOf knd d kvs) (hkey : knd.is k key = true) (hv : valueAt kvs k = some v) (h : Q v (St s s.heap (s.toks + 1)))
    (hs : subscripted slice false (.ref d) key = operate [.ref d, key] (getItem (.ref d) key) := by with_unfolding_all rfl) (hg : ∀ r, letTemporaryGo value (.ref d) r = pure () := by intro _; with_unfolding_all rfl) :
    wpAny (model prog w) A (subscriptTail value slice (.ref d) key) Q E s :=
  subscriptTail_builtin hd.typeIs F.slot_dict_getitem.lookup (wpAny_getItem_of hkey hd.mapOf hv h) hs hg
theorem getDf {dflt : Value} {Q : Value → Shared → Prop} (hd : s.heap.DictOf knd d kvs) (lo : (d == sysModules) = false) (hkey : knd.is k key = true) (h : Q ((valueAt kvs k).getD dflt) (St s s.heap (s.toks + 1))) :
    wpAny (model prog w) A (call (.builtin "dict.get") [.ref d, key, dflt]) Q E s :=
  call_meetsIn PySem.F.slot_dict_get hd.typeIs PySem.F.entry_dict_get (PySem.F.args_dict_get_3 _ _ _) (meets_dict_get_default knd d hkey lo dflt) ⟨_, hd.mapOf, h⟩
end
end
section
section
variable {prog : Program} {w : World} {A : Around} {E : Value → Shared → Prop} {s : Shared} {env : Env} {h₀ : Heap} {x : Str} {body : List Stmt} {Q : Flow → Shared → Prop}
/-- a loop over a text's signs -/
theorem it_str {X : Str} {t : Tok} {m₀ : Str → Option Value} {news : List (Addr × Obj)} (J : Nat → (Str → Option Value) → List (Addr × Obj) → Prop)
    (hh : A.handled = none) (F : Fr h₀ env.locals s.heap m₀) (N : News h₀ env.locals s.heap news) (hj : J 0 m₀ news)
    (turn : ∀ i c u m₁ news₁ h tk own, X.cps[i]? = some c → news₁.map (·.1) = news.map (·.1) → OwnOff own (news.map (·.1)) → J i m₁ news₁ → Fr h₀ env.locals h (fun y => if y = x then some (.str ⟨#[c]⟩ u) else m₁ y) → News h₀ env.locals h (news₁ ++ own) →
      wpAny (model prog w) A (execs body env) (InvPostN h₀ env.locals (J (i + 1)) own (news.map (·.1)) (St s h tk) Q) E (St s h tk))
    (done : ∀ m₁ news₁ h tk, J X.cps.size m₁ news₁ → Fr h₀ env.locals h m₁ → News h₀ env.locals h news₁ → Q .next (St s h tk)) :
    wpAny (model prog w) A (pyIter (.str X t)) (fun it s₂ => LoopAtV prog w A h₀ env x body Q E it s₂) E s := by
  refine wpAny_pyIter_str fun o St' W hst => ?_
  refine loop_invN (s := { s with heap := s.heap.push _ }) J (W A hh) ?_ ?_ ?_ ?_ hst (F.push _) (fun p hp => ⟨Heap.get?_push_of_some _ (N p hp).1, (N p hp).2⟩) hj ?_ ?_
  · intro hm
    exact L_ne_top F (List.mem_singleton.mp hm)
  · intro b hb
    rw [List.mem_singleton.mp hb]; exact next_is_new F
  · intro p hp hI
    exact absurd (Heap.lt_size (N p hp).1) ((List.mem_singleton.mp hI) ▸ Nat.lt_irrefl _)
  · intro p hp hI
    exact absurd (Heap.lt_size (N p hp).1) ((List.mem_singleton.mp hI) ▸ Nat.lt_irrefl _)
  · intro i v m₁ news₁ h tk own _ hP ha ho hJ F₁ N₁
    obtain ⟨c, u, hc, rfl⟩ := hP
    exact turn i c u m₁ news₁ h tk own hc ha ho hJ F₁ N₁
  · intro m₁ news₁ h tk hJ F₁ N₁
    exact done m₁ news₁ h tk hJ F₁ N₁
end
-- parse_http_list, plainly
structure PS where
  part : Str
  esc : Bool
  quo : Bool
  res : List Str
noncomputable def sgn (c : Nat) : Str := ⟨#[c]⟩
noncomputable def phStep (st : PS) (c : Nat) : PS :=
  if st.esc = true then { st with part := st.part ++ sgn c, esc := false }
  else if st.quo = true then
    if c = 92 then { st with esc := true }
    else { st with part := st.part ++ sgn c, quo := !decide (c = 34) }
  else if c = 44 then { st with res := st.res ++ [st.part], part := Str.ofString "" }
  else { st with part := st.part ++ sgn c, quo := decide (c = 34) }
noncomputable def phRun (X : List Nat) : PS := X.foldl phStep ⟨Str.ofString "", false, false, []⟩
noncomputable def phRes (X : List Nat) : List Str := if (phRun X).part = Str.ofString "" then (phRun X).res else (phRun X).res ++ [(phRun X).part]
theorem phRun_next {X : List Nat} {i c : Nat} (h : X[i]? = some c) : phRun (X.take (i + 1)) = phStep (phRun (X.take i)) c := by
  unfold phRun
  rw [List.take_add_one, h]; simp
theorem phRun_zero (l : List Nat) : phRun (l.take 0) = ⟨Str.ofString "", false, false, []⟩ := by
  rw [List.take_zero]; rfl
theorem phStep_len (st : PS) (c : Nat) : (phStep st c).part.length ≤ st.part.length + 1 := by
  have h1 : (st.part ++ sgn c).length = st.part.length + 1 := by rw [PySem.strLen_append]; rfl
  have h2 : (Str.ofString "").length = 0 := rfl
  unfold phStep
  split
  · simp only [h1]; exact Nat.le_refl _
  · split
    · split
      · exact Nat.le_succ _
      · simp only [h1]; exact Nat.le_refl _
    · split
      · simp only [h2]; exact Nat.zero_le _
      · simp only [h1]; exact Nat.le_refl _
theorem ph_esc (P : Str) (q : Bool) (L : List Str) (c : Nat) : phStep ⟨P, true, q, L⟩ c = ⟨P ++ sgn c, false, q, L⟩ := rfl
theorem ph_q92 (P : Str) (L : List Str) : phStep ⟨P, false, true, L⟩ 92 = ⟨P, true, true, L⟩ := rfl
theorem ph_q34 (P : Str) (L : List Str) : phStep ⟨P, false, true, L⟩ 34 = ⟨P ++ sgn 34, false, false, L⟩ := rfl
theorem ph_q (P : Str) (L : List Str) (c : Nat) (h1 : c ≠ 92) (h2 : c ≠ 34) : phStep ⟨P, false, true, L⟩ c = ⟨P ++ sgn c, false, true, L⟩ := by simp [phStep, h1, h2]
theorem ph_44 (P : Str) (L : List Str) : phStep ⟨P, false, false, L⟩ 44 = ⟨Str.ofString "", false, false, L ++ [P]⟩ := rfl
theorem ph_34 (P : Str) (L : List Str) : phStep ⟨P, false, false, L⟩ 34 = ⟨P ++ sgn 34, false, true, L⟩ := rfl
theorem ph_ (P : Str) (L : List Str) (c : Nat) (h1 : c ≠ 44) (h2 : c ≠ 34) : phStep ⟨P, false, false, L⟩ c = ⟨P ++ sgn c, false, false, L⟩ := by simp [phStep, h1, h2]
theorem sgn_ne {c d : Nat} (h : c ≠ d) : (Str.mk #[c]) ≠ Str.mk #[d] := fun e => h (by simpa using e)
end
section
section
variable {prog : Program} {w : World} {A : Around} {E : Value → Shared → Prop} {s : Shared} {env : Env} {h₀ : Heap} {L : Addr} {m : Str → Option Value} {news : List (Addr × Obj)} {scope : Scope} {cl : List (Str × Addr)} {C : Addr} {x : Str} {elt iter : Expr} {px pos : Pos} {v : Value} {Q : Value → Shared → Prop}
theorem nmLc (F : Fr h₀ C s.heap m) (hv : m x = some v) (h : Q v s)
    (hk : (compEnvC scope cl C env).scope.kind = .function := by rfl) (hl : (compEnvC scope cl C env).kindOf x = some .local := by rfl) (hd : (x == ("__debug__" : Str)) = false := by decide) {M : Model} :
    wpAny M A (eval (.Name x pos) (compEnvC scope cl C env)) Q E s := wpAny_Name (wpAny_loadName_local hk hl F.ns hv h) hd
theorem nmCc {c : Addr} (hc : cl.lookup x = some c) (hv : s.heap.IsCell c (some v)) (h : Q v s)
    (hk : (compEnvC scope cl C env).scope.kind = .function := by rfl) (hl : (compEnvC scope cl C env).kindOf x = some .cell := by rfl) (hb : (x == ("__debug__" : Str)) = false := by decide) {M : Model} :
    wpAny M A (eval (.Name x pos) (compEnvC scope cl C env)) Q E s := wpAny_Name (wpAny_loadName_cell hk hl hc hv h) hb
theorem nmGc (F : Fr h₀ L s.heap m) (T : TF w h₀) (e : nsIn (hd.heap_39 w.params) mainGlobals x = some (some v)) (h : Q v s)
    (hg : (compEnvC scope cl C env).globals = mainGlobals := by rfl) (hk : (compEnvC scope cl C env).scope.kind = .function := by rfl) (hx : (compEnvC scope cl C env).kindOf x = some .globalImplicit := by rfl) (hd : (x == ("__debug__" : Str)) = false := by decide) {M : Model} :
    wpAny M A (eval (.Name x pos) (compEnvC scope cl C env)) Q E s := by
  obtain ⟨mg, g⟩ := T.g
  exact Calls.Name_function_global hk hx (Calls.loadGlobal_global (env := compEnvC scope cl C env) (by rw [hg]; exact g.keeps F.keep) (mg_of T.k g e) h) hd
theorem nmBc (F : Fr h₀ L s.heap m) (T : TF w h₀) (e : nsIn (hd.heap_39 w.params) mainGlobals x = some none) (hv : bootBuiltins x = some v) (hn : x ≠ "__name__") (h : Q v s)
    (hg : (compEnvC scope cl C env).globals = mainGlobals := by rfl) (hb : (compEnvC scope cl C env).builtins = builtinsNs := by rfl) (hk : (compEnvC scope cl C env).scope.kind = .function := by rfl) (hx : (compEnvC scope cl C env).kindOf x = some .globalImplicit := by rfl) (hd : (x == ("__debug__" : Str)) = false := by decide) {M : Model} :
    wpAny M A (eval (.Name x pos) (compEnvC scope cl C env)) Q E s := by
  obtain ⟨mg, g⟩ := T.g
  obtain ⟨mb, b, bb⟩ := T.b
  exact Calls.Name_function_global hk hx (Calls.loadGlobal_builtin (env := compEnvC scope cl C env) (by rw [hg]; exact g.keeps F.keep) (mg_none_of T.k g e) (by rw [hb]; exact b.keeps F.keep) ((bb x hn).trans hv) h) hd
/-- what is to be shown of the iterator for a comprehension with one name -/
noncomputable def CompN (prog : Program) (w : World) (A : Around) (env : Env) (scope : Scope) (cl : List (Str × Addr)) (x : Str) (elt : Expr) (Q : Value → Shared → Prop) (it : Value) (s₂ : Shared) : Prop :=
  ∃ I fp wr n P St G, it = .ref I ∧ Walks prog w A I fp wr n P St ∧ n ≤ sizeLine ∧ St 0 s₂.heap ∧ (∀ b ∈ fp, b < s₂.heap.objs.size) ∧
    (∀ C i v s₃ m₃, s₂.heap.objs.size ≤ C → P i v → s₃.heap.Ns C m₃ → m₃ x = some v → (∀ b o, b ∉ wr → s₂.heap.get? b = some o → s₃.heap.get? b = some o) →
      wpAny (model prog w) A (eval elt (compEnvC scope cl C env)) (fun y s₄ => G v y ∧ Keeps s₃ s₄) (fun _ _ => False) s₃) ∧
    (∀ D h' tk ys (vs : List Value), s₂.heap.get? D = none → h'.PlainList D ys → vs.length = n → (∀ j v, vs[j]? = some v → P j v) → Paired G vs ys.toList →
      (∀ b o, b ∉ wr → s₂.heap.get? b = some o → h'.get? b = some o) → Q (.ref D) { s₂ with heap := h', toks := tk })
theorem compN (hclos : closureFor scope env = pure cl) (hcell : ∀ y ∈ scope.names, y.2 ≠ .cell) (hkind : scope.kind = .function)
    (hnames : ∀ y ∈ scope.names, y.2 = .local → scope.names.lookup y.1 = some .local) (hx : scope.names.lookup x = some .local)
    (h : wpAny (model prog w) A (eval iter env) (fun xv s₁ => wpAny (model prog w) A (pyIter xv) (fun it s₂ => CompN prog w A env scope cl x elt Q it s₂) E s₁) E s)
    (hs : ∀ x, foldedSetIterable iter env x = pure x := by intro _; rfl) :
    wpAny (model prog w) A (eval (.ListComp elt [⟨.Name x px, iter, [], 0⟩] scope pos) env) Q E s := by
  refine wpAny_mono (?_ : wpAny (model prog w) A (eval (.ListComp elt [⟨.Name x px, iter, [], 0⟩] scope pos) env) (fun v s' => ∃ v', v = v' ∧ Q v' s') E s) (fun _ _ ⟨_, e, h⟩ => e ▸ h) fun _ _ h => h
  -- the relation is chosen at the iterator: one rule for all
  rw [eval_ListComp]
  refine wpAny_comprehension_free (use := none) rfl hs hclos hkind hnames (wpAny_mono h (fun xv s₁ h₁ => wpAny_mono h₁ (fun it s₂ h₂ => ?_) fun _ _ e => e) fun _ _ e => e)
  obtain ⟨I, fp, wr, n, P, St, G, rfl, W, hsz, hst, hfp, hq, hQ⟩ := h₂
  refine comp_block_walkC (RR := fun acc C => compPost (model prog w) A E none (fun v s' => ∃ v', v = v' ∧ Q v' s') acc C) W hsz (fun _ => true) G hcell hkind hx hst hfp ⟨?_, ?_⟩ ?_
  · intro C i v s₃ m₃ E' hC hP hn hm hk ht
    exact wpAny_pure ⟨rfl, s₃.heap, s₃.toks, rfl, fun _ _ e => e⟩
  · intro C i v s₃ m₃ E' hC hP _ hn hm hk ht
    exact wpAny_mono (hq C i v s₃ m₃ hC hP hn hm hk) (fun _ _ x => x) fun _ _ x => x.elim
  · intro D C h' tk m' ys vs hD hC hDC hn hl hpl hlen hP hF hk
    refine ⟨m', hn, fun h'' hs'' => ⟨_, rfl, hQ D h'' tk ys vs hD (hpl.extBut hs''.extBut hDC) hlen hP (by rw [List.filter_eq_self.mpr (fun _ _ => rfl)] at hF; exact hF) fun b o hbf e => hs''.extBut b o (by rintro rfl; rw [hC] at e; cases e) (hk b o hbf e)⟩⟩
/-- .. over a list -/
theorem comp_list {l : Addr} {its : Array Value} (hh : A.handled = none) (F : Fr h₀ L s.heap m) (N : News h₀ L s.heap news) (hl : s.heap.IsList l its) (hsz : its.size ≤ sizeLine) (G : Value → Value → Prop)
    (he : ∀ (C : Addr) (i : Nat) (v : Value) (s₃ : Shared) (m₃ : Str → Option Value), its[i]? = some v → Fr s.heap C s₃.heap m₃ → m₃ x = some v → wpAny (model prog w) A (eval elt (compEnvC scope cl C env)) (fun y s₄ => G v y ∧ Keeps s₃ s₄) (fun _ _ => False) s₃)
    (hd : ∀ D ys n h' tk, Fr h₀ L h' m → News h₀ L h' ((D, listOf ys n) :: news) → s.heap.StaysIn h' → s.heap.get? D = none → Paired G its.toList ys.toList → Q (.ref D) (St s h' tk)) :
    wpAny (model prog w) A (pyIter (.ref l)) (fun it s₂ => CompN prog w A env scope cl x elt Q it s₂) E s := by
  refine wpAny_pyIter_list hl ?_
  obtain ⟨ol, hol, _⟩ := id hl
  have ne : l ≠ s.heap.objs.size := Nat.ne_of_lt (Heap.lt_size hol)
  have up : s.heap.StaysIn (s.heap.push { cls := .type "list_iterator", data := .fields #[.ref l, .int 0 0] }) := fun _ _ e => Heap.get?_push_of_some _ e
  refine ⟨_, _, _, _, _, _, G, rfl, Walks.list hh s.heap.objs.size l ne its, hsz, ⟨⟨_, Heap.get?_push_size _ rfl, rfl, rfl⟩, hl.at fun o e => Heap.get?_push_of_some _ e⟩, ?_, ?_, ?_⟩
  · intro b hb
    simp only [List.mem_cons, List.not_mem_nil, or_false] at hb
    rw [Heap.size_push]
    rcases hb with rfl | rfl
    · exact Nat.lt_succ_self _
    · exact Nat.lt_succ_of_lt (Heap.lt_size hol)
  · intro C i v s₃ m₃ hC hP hn hm hk
    have st : s.heap.StaysIn s₃.heap := fun b o e => hk b o (fun q => by rw [List.mem_singleton.mp q] at e; exact absurd (Heap.lt_size e) (Nat.lt_irrefl _)) (up _ _ e)
    have h1 := he C i v s₃ m₃ hP ⟨hn, st, Nat.le_trans (by rw [Heap.size_push]; exact Nat.le_succ _) hC⟩ hm
    exact h1
  · intro D h' tk ys vs hD hpl hlen hP hF hk
    have st : s.heap.StaysIn h' := fun b o e => hk b o (fun q => by rw [List.mem_singleton.mp q] at e; exact absurd (Heap.lt_size e) (Nat.lt_irrefl _)) (up _ _ e)
    obtain ⟨n, hpl⟩ := hpl
    have hD' : s.heap.get? D = none := by
      cases q : s.heap.get? D with
      | none => rfl
      | some o => rw [up _ _ q] at hD; cases hD
    have hvs : vs = its.toList := by
      apply List.ext_getElem?
      intro j
      cases q : vs[j]? with
      | some v => have := hP j v q; rw [Array.getElem?_toList]; exact this.symm
      | none =>
        rw [Array.getElem?_toList]
        have := List.getElem?_eq_none_iff.mp q
        exact (Array.getElem?_eq_none (by omega)).symm
    subst hvs
    exact hd D ys n h' tk (frStays F st) (newsAdd F (newsStays N st) hD' hpl) st hD' hF
end
theorem phRes_some {X : List Nat} (h : ((phRun X).part.length : Int) ≠ 0) : phRes X = (phRun X).res ++ [(phRun X).part] := by
  unfold phRes
  rw [if_neg]
  intro e
  apply h
  rw [e]; rfl
theorem phRes_none {X : List Nat} (h : ¬ ((phRun X).part.length : Int) ≠ 0) : phRes X = (phRun X).res := by
  unfold phRes
  rw [if_pos]
  have h1 : (phRun X).part.length = 0 := by omega
  generalize (phRun X).part = p at h1
  obtain ⟨⟨l⟩⟩ := p
  cases l with
  | nil => rfl
  | cons a r => exact absurd (show r.length + 1 = 0 from h1) (by omega)
/-- texts made of texts, one by one -/
theorem paired_strs {f : Str → Str} {l : List Value} {ys : List Str} (h : StrsAre l ys) : ∀ {l' : List Value}, Paired (fun v y => ∃ x t u, v = .str x t ∧ y = .str (f x) u) l l' → StrsAre l' (ys.map f) := by

  induction h with
  | nil => intro l' p; cases p; exact .nil
  | cons x t _ ih =>
    intro l' p
    cases p with
    | cons hx hr =>
      obtain ⟨x', t', u, e, rfl⟩ := hx
      cases e
      exact .cons _ u (ih hr)
end
section
section
variable {prog : Program} {w : World} {A : Around} {E : Value → Shared → Prop} {s : Shared} {h₀ : Heap} {L : Addr} {m : Str → Option Value} {news : List (Addr × Obj)}
theorem strsFrom_two (n : Nat) (a b : Str) : ∃ t u, strsFrom n [a, b] = [.str a t, .str b u] := ⟨_, _, rfl⟩
/-- a split at the first sign of equality, into two -/
theorem splitEq {x a b : Str} {t u v : Tok} {Q : Value → Shared → Prop} (F : Fr h₀ L s.heap m) (N : News h₀ L s.heap news) (hs : Txt.splitMax x (Str.ofString "=") 1 = [a, b]) (hx : x.length ≤ sizeLine)
    (h : ∀ l t1 t2 h' tk, Fr h₀ L h' m → News h₀ L h' ((l, listOf #[.str a t1, .str b t2] 0) :: news) → s.heap.get? l = none → s.heap.StaysIn h' → Q (.ref l) (St s h' tk)) :
    wpAny (model prog w) A (call (.builtin "str.split") [.str x t, .str (Str.ofString "=") u, .int 1 v]) Q E s := by
  unfold Txt.splitMax at hs
  split at hs
  · cases hs
  rename_i h1
  split at hs
  · cases hs
  rename_i h2
  obtain ⟨t1, t2, e⟩ := strsFrom_two s.toks a b
  refine call_meets PySem.F.slot_str_split (typeIs_str s x t) PySem.F.entry_str_split (PySem.F.args_str_split_3 _ _ _)
    (meets_str_split_sep_max x (Str.ofString "=") 1 t u v (by decide) (by simpa using h1) (by decide +kernel) (by simpa using h2) hx (by rw [hs]; show (2 : Nat) ≤ sizeLine; decide)) ?_
  rw [hs, e]
  exact h s.heap.objs.size t1 t2 _ _ (F.push _) (N.push F _) (Heap.get?_none_of_le (Nat.le_refl _)) fun _ _ e => Heap.get?_push_of_some _ e
end
theorem stored_len {K : Type} [DecidableEq K] (l : List (K × Value)) (k : K) (v : Value) : (stored l k v).length ≤ l.length + 1 := by
  unfold stored; split <;> simp
noncomputable def StrIs (v : Value) (b : Str) : Prop := ∃ t, v = .str b t
/-- what parse_keqv_list makes of a part -/
structure KV (y a b c : Str) : Prop where
  split : Txt.splitMax y (Str.ofString "=") 1 = [a, b]
  pos : 0 < b.length
  len : b.length ≤ 1000
  val : c = if (Txt.item b 0 == Str.ofString "\"") = true ∧ (Txt.item b (-1) == Str.ofString "\"") = true then Txt.slice b (some 1) (some (-1)) else b
/-- a header that reads so -/
structure Parses (X : Str) (ps : List (Str × Str)) : Prop where
  len : X.length ≤ 200
  few : (phRes X.cps.toList).length ≤ 100
  same : ps.length = (phRes X.cps.toList).length
  kv : ∀ (i : Nat) y, ((phRes X.cps.toList).map Txt.strip)[i]? = some y → y.length ≤ 1000 ∧ ∃ a b c, KV y a b c ∧ ps[i]? = some (a, c)
noncomputable def dictOfPs (ps : List (Str × Str)) : List (Str × Str) := ps.foldl (fun d p => putB d p.1 p.2) []
noncomputable def headText (name : Str) (cost : Int) : Str :=
  Str.ofString "cost=0, to=\"" ++ Txt.replace (Txt.replace name (Str.ofString "\\") (Str.ofString "\\\\")) (Str.ofString "\"") (Str.ofString "\\\"") ++ Str.ofString "\", cost=\"" ++ Str.ofString (toString cost) ++ Str.ofString "\""
end
section
section
variable {prog : Program} {w : World} {A : Around} {s : Shared}
/-- a def with cells is entered while some of the heap may change -/
theorem enterC {R : Result → Shared → Prop} {mus : List Addr} {name qual : Str} {params : Arguments} {body : List Stmt} {scope : Scope} {doc pm ct cd : Value} {f : Addr} {fo : Obj} {args : List Value} {binds : List (Str × Value)} {news : List (Addr × Obj)} {d u : Nat}
    (T : TF w (hideAll s.heap mus)) (hA : Rm A (d + 1) (u + 3)) (ho : s.heap.get? f = some fo) (hdata : fo.data = .func (fnX name qual params body scope [] .none .none doc pm none cd ct)) (hcd : s.heap.CodeRec cd qual)
    (hbind : bindArgs (fnX name qual params body scope [] .none .none doc pm none cd ct) ⟨args, []⟩ = pure binds)
    (hkind : (binds.all fun y => scope.names.lookup y.1 == some .local || scope.names.lookup y.1 == some .cell) = true) (hnd : ((cellsFrom 0 scope.names []).map (·.1)).Nodup) (N : ∀ p ∈ news, p.1 ∈ mus ∧ s.heap.get? p.1 = some p.2)
    (h : ∀ h₁ tk A' cells, Rm A' d u → Fr (hideAll s.heap mus) s.heap.objs.size h₁ (bindL (envOfC qual scope s.heap.objs.size f cd).kindOf binds fun _ => none) → News (hideAll s.heap mus) s.heap.objs.size h₁ (cells ++ news) →
      CellsAre (bindC (envOfC qual scope s.heap.objs.size f cd).kindOf binds fun _ => none) (cellsFrom (s.heap.objs.size + 1) scope.names []) cells → s.heap.StaysIn h₁ → s.toks ≤ tk →
      wpAny (model prog w) A' (execs body (envOfC qual scope s.heap.objs.size f cd))
        (fun fl s' => R (.ok (.ret (match fl with | .ret v => v | _ => .none))) s') (fun _ _ => False)
        { s with heap := h₁, toks := tk })
    (hco : scope.isCoroutine = false := by rfl) (hgen : scope.isGenerator = false := by rfl) (hk : scope.kind = .function := by rfl) :
    codeAny (model prog w) A (.call (.ref f) ⟨args, []⟩) R s := by
  refine codeAny_call_function hA.room ho hdata hco hgen rfl hcd ((BindsTo.of_eq hbind) _ _ _ _ ?_)
  refine wpAny_with_toks (n := s.toks) (Nat.le_refl _) ?_
  refine wpAny_newFunctionEnv_cells hk (kindsX hkind _) fun env' he s' x htk => ?_
  subst he
  refine ⟨(T.lim.keeps of_hid).keeps x.toInCall.keep, codeAny_func ?_⟩
  obtain ⟨h₁, tk, rfl, _⟩ := x.done
  have hk₁ := x.toInCall.keep
  obtain ⟨cells, NC, Y⟩ := Cl.news (h₀ := s.heap) (Nat.le_refl _) fun n c hm => ⟨x.cell n c (lookup_of_mem_nodup (cellsFrom_names scope.names 0 (s.heap.objs.size + 1) [] [] rfl ▸ hnd) hm), x.above n c hm⟩
  refine wpAny_mono (h h₁ tk _ cells hA.deeper ⟨x.toInCall.ns, fun b o e => hk₁ b o (of_hideAll _ e), Nat.le_of_eq (hideAll_size _ _)⟩ (fun p hp => ?_) Y hk₁ htk) (fun _ _ x => x) fun _ _ x => x.elim
  rcases List.mem_append.mp hp with hp | hp
  · refine ⟨(NC p hp).1, (NC p hp).2.1, ?_⟩
    cases q : (hideAll s.heap mus).get? p.1 with
    | none => rfl
    | some o => have := of_hideAll _ q; rw [(NC p hp).2.2] at this; cases this
  · exact ⟨hk₁ _ _ (N p hp).2, Nat.ne_of_lt (Heap.lt_size (N p hp).2), hideAll_none _ (N p hp).1⟩
end
section
variable {M : Model} {A : Around} {E : Value → Shared → Prop} {s : Shared} {h₀ : Heap} {L a : Addr} {m : Str → Option Value} {cn : Str} {cs : Scope} {ccd : Value} {cl : List (Str × Addr)}
  {x : Str} {v : Value} {news own rest : List (Addr × Obj)} {c : Addr} {o : Obj} {v₀ : Option Value}
/-- a cell's name is stored: own ++ cell :: rest -/
theorem stCell {Q : Unit → Shared → Prop} (F : Fr h₀ L s.heap m) (N : News h₀ L s.heap (own ++ (c, o) :: rest)) (hc : cl.lookup x = some c) (h1 : ∀ p ∈ own, p.1 ≠ c) (h2 : ∀ p ∈ rest, p.1 ≠ c) (hd : o.data = .cell v₀)
    (h : ∀ h' o', Fr h₀ L h' m → News h₀ L h' (own ++ (c, o') :: rest) → o'.data = .cell (some v) → Q () (St s h' s.toks))
    (hk : cs.kind = .function := by rfl) (hx : (envX cn cs L a ccd cl).kindOf x = some .cell := by rfl) : wpAny M A (storeName (envX cn cs L a ccd cl) x v) Q E s := by
  have hmem := N (c, o) (List.mem_append_right _ (.head _))
  refine wpAny_storeName_cell hk hx hc ⟨o, hmem.1, hd⟩ fun h' hv hs => ?_
  obtain ⟨o', ho', hd'⟩ := hv
  refine h h' o' ⟨F.ns.sameBut hs (Ne.symm hmem.2.1), fun b ob e => (hs.2 b (fun q => ?_)).trans (F.keep b ob e), F.above⟩ (N.setAt h1 h2 hs ho') hd'
  rw [q, hmem.2.2] at e; cases e
end
theorem Upd.of {d : Addr} {o o' : Obj} {own rest : List (Addr × Obj)} (h1 : ∀ p ∈ own, p.1 ≠ d) (h2 : ∀ p ∈ rest, p.1 ≠ d) : Upd d o o' (own ++ (d, o) :: rest) (own ++ (d, o') :: rest) := by
  induction own with
  | nil => exact .head h2
  | cons p r ih => exact .tail (h1 p (.head _)) (ih fun q hq => h1 q (.tail _ hq))
section
variable {prog : Program} {w : World} {A : Around} {E : Value → Shared → Prop} {s : Shared} {h₀ : Heap} {L : Addr} {m : Str → Option Value} {own rest : List (Addr × Obj)} {x C dx : Addr} {es : List DictEntry} {n : Nat} {name : Str} {v : Value}
/-- an attribute is set: own ++ dict :: rest -/
theorem setA {Q : Unit → Shared → Prop} (F : Fr h₀ L s.heap m) (T : TF w h₀) (N : News h₀ L s.heap (own ++ (dx, dictOf es n) :: rest)) (hx : s.heap.get? x = some (instObj C dx)) (h1 : ∀ p ∈ own, p.1 ≠ dx) (h2 : ∀ p ∈ rest, p.1 ≠ dx)
    (hs : findIn (hd.heap_39 w.params) (.ref C) "__setattr__" = some (some (.builtin "object.__setattr__"))) (hp : plainOver (hd.heap_39 w.params) C = true) (ht : takerIn (hd.heap_39 w.params) C name = some none) (hh : hasDictIn (hd.heap_39 w.params) C = true) (hl : (getL name es).isSome = true)
    (h : ∀ h' t, Fr h₀ L h' m → News h₀ L h' (own ++ (dx, dictOf (putL name (PyData.keyHash w.params name) (.str name t) v es) (putN name es n)) :: rest) → Q () (St s h' (s.toks + 2)))
    (hz' : (putL name (PyData.keyHash w.params name) (.str name (s.toks + 1)) v es).length ≤ 1000) :
    wpAny (model prog w) A (setAttr (.ref x) name v) Q E s :=
  set_dict F T.k N ⟨hx, rfl, rfl, (N _ (List.mem_append_right _ (.head _))).1⟩ rfl hs hp ht hh hl rfl (Upd.of h1 h2) hz' fun h' F' N' => h h' _ F' N'
end
end
section
/-- what these objects make true -/
noncomputable def Kept (R : List (Addr × Obj)) (P : Heap → Prop) : Prop := ∀ g : Heap, (∀ p ∈ R, g.get? p.1 = some p.2) → P g
section
variable {R R' news : List (Addr × Obj)} {P P' : Heap → Prop} {h₀ h : Heap} {L : Addr} {mus : List Addr}
theorem Kept.more (k : Kept R P) (s : ∀ p ∈ R, p ∈ R') : Kept R' P := fun g hg => k g fun p hp => hg p (s p hp)
theorem Kept.here (k : Kept R P) (N : News h₀ L h news) (s : ∀ p ∈ R, p ∈ news) : P h := k h fun p hp => (N p (s p hp)).1
theorem Kept.at (k : Kept R P) (s : ∀ p ∈ R, h.get? p.1 = some p.2) : P h := k h s
theorem Kept.imp (k : Kept R P) (f : ∀ g, P g → P' g) : Kept R P' := fun g hg => f g (k g hg)
end
/-- a table of codes: empty, or the one -/
noncomputable def TabSt (pos : Pos) (qual : Str) (R : List (Addr × Obj)) (ps : Array Value) : Prop :=
  ps = #[] ∨ ∃ c oc vs t, ps = #[rawInt pos.line, rawInt pos.col, .ref c] ∧ (c, oc) ∈ R ∧ oc.data = .fields vs ∧ vs[1]? = some (.str qual t)
theorem TabSt.more {pos : Pos} {qual : Str} {R R' : List (Addr × Obj)} {ps : Array Value} (x : TabSt pos qual R ps) (s : ∀ p ∈ R, p ∈ R') : TabSt pos qual R' ps := by
  rcases x with h | ⟨c, oc, vs, t, h1, h2, h3⟩
  · exact .inl h
  · exact .inr ⟨c, oc, vs, t, h1, s _ h2, h3⟩
-- loops
noncomputable def TurnEndN (h₀ : Heap) (L : Addr) (J : (Str → Option Value) → List (Addr × Obj) → Prop) (own news₁ : List (Addr × Obj)) (s₁ s₂ : Shared) : Prop :=
  ∃ h' tk m' news' nx, s₂ = St s₁ h' tk ∧ Fr h₀ L h' m' ∧ News h₀ L h' news' ∧ (∀ p ∈ nx, p ∈ news') ∧ (∀ p ∈ own, p ∈ news') ∧ (∀ p ∈ nx, p.1 ∈ news₁.map (·.1) ∨ ∀ q ∈ own, p.1 ≠ q.1) ∧ J m' nx
/-- a turn's end -/
noncomputable def TurnEnd (h₀ : Heap) (L : Addr) (J : (Str → Option Value) → List (Addr × Obj) → Prop) (own news₁ : List (Addr × Obj)) (s₁ : Shared) (Q : Flow → Shared → Prop) (f : Flow) (s₂ : Shared) : Prop :=
  match f with
  | .ret v => Q (.ret v) s₂
  | .brk => Q .next s₂
  | .cont => TurnEndN h₀ L J own news₁ s₁ s₂
  | .next => TurnEndN h₀ L J own news₁ s₁ s₂
theorem turnEnd {h₀ : Heap} {L : Addr} {J : (Str → Option Value) → List (Addr × Obj) → Prop} {own nx news₁ news' : List (Addr × Obj)} {s₁ : Shared} {h' : Heap} {tk : Nat} {m' : Str → Option Value}
    (F : Fr h₀ L h' m') (N : News h₀ L h' news') (h1 : ∀ p ∈ nx, p ∈ news') (h2 : ∀ p ∈ own, p ∈ news') (ha : ∀ p ∈ nx, p.1 ∈ news₁.map (·.1) ∨ ∀ q ∈ own, p.1 ≠ q.1) (hJ : J m' nx) : TurnEndN h₀ L J own news₁ s₁ (St s₁ h' tk) :=
  ⟨h', tk, m', news', nx, rfl, F, N, h1, h2, ha, hJ⟩
section
variable {prog : Program} {w : World} {A : Around} {E : Value → Shared → Prop} {s : Shared} {env : Env} {h₀ : Heap} {target : Expr} {body : List Stmt} {Q : Flow → Shared → Prop}
/-- a loop by what holds between its turns; the new objects may grow -/
theorem turnsK {I : Addr} {fp wr lst : List Addr} {n : Nat} {P Md : Nat → Value → Heap → Prop} {St' : Nat → Heap → Prop} {m : Str → Option Value} {news : List (Addr × Obj)} (W : KTurns prog w A target I fp wr n P Md St')
    (hfp : ∀ b ∈ fp, b ∈ wr ∨ b ∈ lst) (hlive : ∀ b ∈ wr, ∀ h i, St' i h → ∃ o, h.get? b = some o)
    (hLf : env.locals ∉ fp) (hwr : ∀ b ∈ wr, h₀.get? b = none) (hnw : ∀ p ∈ news, p.1 ∉ wr) (hst : St' 0 s.heap) (F : Fr h₀ env.locals s.heap m) (N : News h₀ env.locals s.heap news)
    (J : Nat → (Str → Option Value) → List (Addr × Obj) → Prop) (h0 : J 0 m news)
    (turn : ∀ i v m₁ news₁ h tk own, i < n → P i v h → J i m₁ news₁ → (∀ p ∈ own, ∀ q ∈ news₁, p.1 = q.1 → p.1 ∈ lst) → Fr h₀ env.locals h m₁ → News h₀ env.locals h (news₁ ++ own) →
      wpAny (model prog w) A (assign target env v) (fun _ s₃ => wpAny (model prog w) A (execs body env) (TurnEnd h₀ env.locals (J (i + 1)) own news₁ (St s h tk) Q) E s₃) E (St s h tk))
    (done : ∀ m₁ news₁ h tk, J n m₁ news₁ → Fr h₀ env.locals h m₁ → News h₀ env.locals h news₁ → Q .next (St s h tk)) :
    TurnsAt prog w A h₀ env target body Q E (.ref I) s := by
  refine ⟨I, fp, wr, n, P, Md, St', m, news, J, rfl, W, hLf, hwr, hnw, hst, F, N, h0, ?_, fun h' tk m' news' F' N' _ hJ => done m' news' h' tk hJ F' N'⟩
  intro i v m₁ news₁ h₁ tk₁ own hin hP hJ hoff hown hget hall hst₁ F₁ N₁
  have N₂ : News h₀ env.locals h₁ (news₁ ++ own) := fun p hp => N₁ p (by rw [List.mem_append] at hp ⊢; exact hp.symm)
  refine wpAny_mono (turn i v m₁ news₁ h₁ tk₁ own hin hP hJ (fun p hp q hq e => ?_) F₁ N₂) (fun _ s₃ h₃ => wpAny_mono h₃ (fun f s₄ h₄ => ?_) fun _ _ e => e) fun _ _ e => e
  · rcases hfp _ (hown p hp) with hw | hl
    · exact absurd (e ▸ hw) (hoff q hq)
    · exact hl
  · have fin : TurnEndN h₀ env.locals (J (i + 1)) own news₁ (St s h₁ tk₁) s₄ → LoopStepU h₀ env.locals wr own (J (i + 1)) { s with heap := h₁, toks := tk₁ } .next s₄ := by
      rintro ⟨h', tk, m', news', nx, rfl, F', N', h1, h2, ha, hJ'⟩
      refine ⟨rfl, h', tk, m', nx, rfl, F', fun p hp => ?_, fun p hp hw => ?_, hJ'⟩
      · rcases List.mem_append.mp hp with hp | hp
        · exact N' p (h2 p hp)
        · exact N' p (h1 p hp)
      · rcases ha p hp with hp' | hp'
        · obtain ⟨q, hq, e⟩ := List.mem_map.mp hp'
          exact hoff q hq (e ▸ hw)
        · obtain ⟨o, ho⟩ := hlive _ hw _ _ hst₁
          exact hp' _ (hall _ (W.sub _ hw) (hwr _ hw) o ho) rfl
    cases f with
    | ret v => exact h₄
    | brk => exact h₄
    | cont => exact fin h₄
    | next => exact fin h₄
/-- .. over a list -/
theorem turnsList {l : Addr} {vs : List Value} {m : Str → Option Value} {news : List (Addr × Obj)} (hh : A.handled = none) (F : Fr h₀ env.locals s.heap m) (N : News h₀ env.locals s.heap news) (hl : s.heap.IsList l vs.toArray) (hlL : l ≠ env.locals)
    (J : Nat → (Str → Option Value) → List (Addr × Obj) → Prop) (h0 : J 0 m news)
    (turn : ∀ i v m₁ news₁ h tk own, vs[i]? = some v → J i m₁ news₁ → (∀ p ∈ own, ∀ q ∈ news₁, p.1 = q.1 → p.1 = l) → Fr h₀ env.locals h m₁ → News h₀ env.locals h (news₁ ++ own) →
      wpAny (model prog w) A (assign target env v) (fun _ s₃ => wpAny (model prog w) A (execs body env) (TurnEnd h₀ env.locals (J (i + 1)) own news₁ (St s h tk) Q) E s₃) E (St s h tk))
    (done : ∀ m₁ news₁ h tk, J vs.length m₁ news₁ → Fr h₀ env.locals h m₁ → News h₀ env.locals h news₁ → Q .next (St s h tk)) :
    wpAny (model prog w) A (pyIter (.ref l)) (fun it s₂ => TurnsAt prog w A h₀ env target body Q E it s₂) E s := by
  obtain ⟨ol, hol, _⟩ := id hl
  have ne : l ≠ s.heap.objs.size := Nat.ne_of_lt (Heap.lt_size hol)
  refine wpAny_pyIter_list hl ?_
  refine turnsK (s := { s with heap := s.heap.push _ }) (lst := [l]) (KTurns.ofWalks (Walks.list hh s.heap.objs.size l ne vs.toArray) fun i v s Q E st q => letGo_listiter st.1 q) ?_ ?_ ?_ ?_ ?_ ⟨⟨_, Heap.get?_push_size _ rfl, rfl, rfl⟩, hl.at fun o e => Heap.get?_push_of_some _ e⟩ (F.push _) (fun p hp => ⟨Heap.get?_push_of_some _ (N p hp).1, (N p hp).2⟩) J h0 ?_ ?_
  · intro b hb
    simp only [List.mem_cons, List.not_mem_nil, or_false] at hb ⊢
    exact hb
  · intro b hb h i st
    rw [List.mem_singleton.mp hb]
    obtain ⟨o, ho, _⟩ := st.1
    exact ⟨o, ho⟩
  · intro hm
    rcases List.mem_cons.mp hm with e | hm
    · exact L_ne_top F e
    · exact hlL (List.mem_singleton.mp hm).symm
  · intro b hb
    rw [List.mem_singleton.mp hb]; exact next_is_new F
  · intro p hp hI
    exact absurd (Heap.lt_size (N p hp).1) ((List.mem_singleton.mp hI) ▸ Nat.lt_irrefl _)
  · intro i v m₁ news₁ h tk own hi hP hJ ho F₁ N₁
    exact turn i v m₁ news₁ h tk own (by simpa using hP) hJ (fun p hp q hq e => List.mem_singleton.mp (ho p hp q hq e)) F₁ N₁
  · intro m₁ news₁ h tk hJ F₁ N₁
    exact done m₁ news₁ h tk (by simpa using hJ) F₁ N₁
/-- .. over a tuple -/
theorem turnsTup {l : Addr} {vs : List Value} {m : Str → Option Value} {news : List (Addr × Obj)} (hh : A.handled = none) (F : Fr h₀ env.locals s.heap m) (N : News h₀ env.locals s.heap news) (hl : s.heap.IsTuple l vs.toArray) (hlL : l ≠ env.locals)
    (J : Nat → (Str → Option Value) → List (Addr × Obj) → Prop) (h0 : J 0 m news)
    (turn : ∀ i v m₁ news₁ h tk own, vs[i]? = some v → J i m₁ news₁ → (∀ p ∈ own, ∀ q ∈ news₁, p.1 = q.1 → p.1 = l) → Fr h₀ env.locals h m₁ → News h₀ env.locals h (news₁ ++ own) →
      wpAny (model prog w) A (assign target env v) (fun _ s₃ => wpAny (model prog w) A (execs body env) (TurnEnd h₀ env.locals (J (i + 1)) own news₁ (St s h tk) Q) E s₃) E (St s h tk))
    (done : ∀ m₁ news₁ h tk, J vs.length m₁ news₁ → Fr h₀ env.locals h m₁ → News h₀ env.locals h news₁ → Q .next (St s h tk)) :
    wpAny (model prog w) A (pyIter (.ref l)) (fun it s₂ => TurnsAt prog w A h₀ env target body Q E it s₂) E s := by
  obtain ⟨ol, hol, _⟩ := id hl
  have ne : l ≠ s.heap.objs.size := Nat.ne_of_lt (Heap.lt_size hol)
  refine wpAny_pyIter_tuple hl ?_
  refine turnsK (s := { s with heap := s.heap.push _ }) (lst := [l]) (KTurns.ofWalks (Walks.tuple hh s.heap.objs.size l ne vs.toArray) fun i v s Q E st q => letGo_tupleiter st.1 q) ?_ ?_ ?_ ?_ ?_ ⟨⟨_, Heap.get?_push_size _ rfl, rfl, rfl⟩, hl.at fun o e => Heap.get?_push_of_some _ e⟩ (F.push _) (fun p hp => ⟨Heap.get?_push_of_some _ (N p hp).1, (N p hp).2⟩) J h0 ?_ ?_
  · intro b hb
    simp only [List.mem_cons, List.not_mem_nil, or_false] at hb ⊢
    exact hb
  · intro b hb h i st
    rw [List.mem_singleton.mp hb]
    obtain ⟨o, ho, _⟩ := st.1
    exact ⟨o, ho⟩
  · intro hm
    rcases List.mem_cons.mp hm with e | hm
    · exact L_ne_top F e
    · exact hlL (List.mem_singleton.mp hm).symm
  · intro b hb
    rw [List.mem_singleton.mp hb]; exact next_is_new F
  · intro p hp hI
    exact absurd (Heap.lt_size (N p hp).1) ((List.mem_singleton.mp hI) ▸ Nat.lt_irrefl _)
  · intro i v m₁ news₁ h tk own hi hP hJ ho F₁ N₁
    exact turn i v m₁ news₁ h tk own (by simpa using hP) hJ (fun p hp q hq e => List.mem_singleton.mp (ho p hp q hq e)) F₁ N₁
  · intro m₁ news₁ h tk hJ F₁ N₁
    exact done m₁ news₁ h tk (by simpa using hJ) F₁ N₁
/-- .. over enumerate of a list -/
theorem turnsEnum {elts : List Expr} {k : Nat} {pos : Pos} {l : Addr} {vs : List Value} {m : Str → Option Value} {news : List (Addr × Obj)} (hh : A.handled = none) (F : Fr h₀ env.locals s.heap m) (N : News h₀ env.locals s.heap news) (hl : s.heap.IsList l vs.toArray) (hlL : l ≠ env.locals)
    (J : Nat → (Str → Option Value) → List (Addr × Obj) → Prop) (h0 : J 0 m news)
    (turn : ∀ i T t v m₁ news₁ h tk own, vs[i]? = some v → h.IsTuple T #[.int i t, v] → J i m₁ news₁ → (∀ p ∈ own, ∀ q ∈ news₁, p.1 = q.1 → p.1 = l) → Fr h₀ env.locals h m₁ → News h₀ env.locals h (news₁ ++ own) →
      wpAny (model prog w) A (assign (.Tuple elts k pos) env (.ref T)) (fun _ s₃ => wpAny (model prog w) A (execs body env) (TurnEnd h₀ env.locals (J (i + 1)) own news₁ (St s h tk) Q) E s₃) E (St s h tk))
    (done : ∀ m₁ news₁ h tk, J vs.length m₁ news₁ → Fr h₀ env.locals h m₁ → News h₀ env.locals h news₁ → Q .next (St s h tk)) :
    wpAny (model prog w) A (call (.type "enumerate") [.ref l]) (fun xv s₁ => wpAny (model prog w) A (pyIter xv) (fun it s₂ => TurnsAt prog w A h₀ env (.Tuple elts k pos) body Q E it s₂) E s₁) E s := by
  obtain ⟨ol, hol, _⟩ := id hl
  have hlt : l < s.heap.objs.size := Heap.lt_size hol
  have hLs : env.locals < s.heap.objs.size := F.ns.lt
  refine call_enumerate_list hl fun h' hE hI hsz hk => ?_
  refine wpAny_pyIter_enum hE ?_
  refine turnsK (s := { s with heap := h' }) (lst := [l]) (KTurns.ofWalksU (WalksT.enumerate hh (s.heap.objs.size + 1) s.heap.objs.size l (Nat.succ_ne_self _) (ktu_ne 1 hlt) (Nat.ne_of_lt hlt) vs.toArray).toU) ?_ ?_ ?_ ?_ ?_ ⟨⟨.none, hE⟩, hI, hl.at fun o e => hk l o e⟩ (F.keeps hk) (N.grown hk) J h0 ?_ ?_
  · intro b hb
    simp only [List.mem_cons, List.not_mem_nil, or_false] at hb ⊢
    rcases hb with h | h | h
    · exact .inl (.inl h)
    · exact .inl (.inr h)
    · exact .inr h
  · rintro b hb h i ⟨⟨old, he⟩, ⟨oi, hoi, _⟩, _⟩
    have hb' : b = s.heap.objs.size + 1 ∨ b = s.heap.objs.size := by simpa using hb
    rcases hb' with rfl | rfl
    · exact ⟨_, he⟩
    · exact ⟨oi, hoi⟩
  · intro hI'
    have hb' : env.locals = s.heap.objs.size + 1 ∨ env.locals = s.heap.objs.size ∨ env.locals = l := by simpa using hI'
    rcases hb' with e | e | e
    · exact ktu_ne 1 hLs e
    · exact Nat.ne_of_lt hLs e
    · exact hlL e.symm
  · intro b hb
    have hb' : b = s.heap.objs.size + 1 ∨ b = s.heap.objs.size := by simpa using hb
    rcases hb' with rfl | rfl
    · exact ktu_new F (Nat.le_add_right _ _)
    · exact ktu_new F (Nat.le_refl _)
  · intro p hp hI'
    have hb' : p.1 = s.heap.objs.size + 1 ∨ p.1 = s.heap.objs.size := by simpa using hI'
    have hlp := Heap.lt_size (N p hp).1
    rcases hb' with e | e
    · exact ktu_ne 1 hlp e
    · exact Nat.ne_of_lt hlp e
  · rintro i v m₁ news₁ h tk own hi ⟨T, vals, rfl, ⟨t, x, hx, rfl⟩, hT⟩ hJ ho F₁ N₁
    exact turn i T t x m₁ news₁ h tk own (by simpa using hx) hT hJ (fun p hp q hq e => List.mem_singleton.mp (ho p hp q hq e)) F₁ N₁
  · intro m₁ news₁ h tk hJ F₁ N₁
    exact done m₁ news₁ h tk (by simpa using hJ) F₁ N₁
end
theorem tabOut {s h : Heap} {L : Addr} {mus : List Addr} {m : Str → Option Value} {news R l : List (Addr × Obj)} (F : Fr (hideAll s mus) L h m) (N : News (hideAll s mus) L h news) (hR : ∀ p ∈ R, (hideAll s mus).get? p.1 = some p.2) (hs : ∀ p ∈ l, p ∈ news) (hne : ∀ p ∈ l, p.1 ∉ mus) :
    (∀ p ∈ R ++ l, h.get? p.1 = some p.2) ∧ (∀ p ∈ R ++ l, p ∈ R ∨ s.get? p.1 = none) := by
  refine ⟨fun p hp => ?_, fun p hp => ?_⟩
  · rcases List.mem_append.mp hp with hp | hp
    · exact F.keep _ _ (hR p hp)
    · exact (N p (hs p hp)).1
  · rcases List.mem_append.mp hp with hp | hp
    · exact .inl hp
    · refine .inr ?_
      cases q : s.get? p.1 with
      | none => rfl
      | some o => have := (N p (hs p hp)).2.2; rw [hideAll_get _ q (hne p hp)] at this; cases this
end
section
theorem ndOwn {own rest : List (Addr × Obj)} {c : Addr} {o : Obj} (h : ((own ++ (c, o) :: rest).map (·.1)).Nodup) : (∀ p ∈ own, p.1 ≠ c) ∧ (∀ p ∈ rest, p.1 ≠ c) := by
  rw [List.map_append, List.map_cons, List.nodup_append] at h
  obtain ⟨_, h2, h3⟩ := h
  refine ⟨fun p hp e => h3 _ (List.mem_map_of_mem hp) c (.head _) e, fun p hp e => ?_⟩
  have hm := List.mem_map_of_mem (f := (·.1)) hp
  rw [e] at hm
  exact (List.nodup_cons.mp h2).1 hm
theorem ndCons {h₀ h : Heap} {L a : Addr} {news : List (Addr × Obj)} (N : News h₀ L h news) (hn : h.get? a = none) (ND : (news.map (·.1)).Nodup) : (a :: news.map (·.1)).Nodup := by
  refine List.nodup_cons.mpr ⟨fun hm => ?_, ND⟩
  obtain ⟨p, hp, e⟩ := List.mem_map.mp hm
  exact fresh_ne N hn p hp e
theorem ndLt {a : Addr} {news : List (Addr × Obj)} (hl : ∀ p ∈ news, p.1 < a) (ND : (news.map (·.1)).Nodup) : (a :: news.map (·.1)).Nodup := by
  refine List.nodup_cons.mpr ⟨fun hm => ?_, ND⟩
  obtain ⟨p, hp, e⟩ := List.mem_map.mp hm
  exact Nat.ne_of_lt (hl p hp) e
section
variable {M : Model} {A : Around} {E : Value → Shared → Prop} {s : Shared} {L a : Addr} {cn : Str} {cs : Scope} {ccd : Value} {cl : List (Str × Addr)} {x : Str} {pos : Pos} {v : Value} {Q : Value → Shared → Prop} {c : Addr}
theorem nmC (hc : cl.lookup x = some c) (hv : s.heap.IsCell c (some v)) (h : Q v s)
    (hk : cs.kind = .function := by rfl) (hl : (envX cn cs L a ccd cl).kindOf x = some .cell := by rfl) (hb : (x == ("__debug__" : Str)) = false := by decide) :
    wpAny M A (eval (.Name x pos) (envX cn cs L a ccd cl)) Q E s := wpAny_Name (wpAny_loadName_cell hk hl hc hv h) hb
end
theorem cellMem {h₀ h : Heap} {L c : Addr} {o : Obj} {v : Option Value} {news : List (Addr × Obj)} (N : News h₀ L h news) (hm : (c, o) ∈ news) (hd : o.data = .cell v) : h.IsCell c v := ⟨o, (N _ hm).1, hd⟩
theorem nd6 {n : Nat} (h : 167 < n) : [n + 5, n + 4, n + 3, n + 2, n + 1, 167].Nodup := by
  simp only [List.nodup_cons, List.mem_cons, List.not_mem_nil, or_false, not_or, List.nodup_nil, and_true, not_false_eq_true]
  omega
section
variable {M : Model} {A : Around} {E : Value → Shared → Prop} {s : Shared} {h₀ : Heap} {L a : Addr} {m : Str → Option Value} {cn : Str} {cs : Scope} {ccd : Value} {cl : List (Str × Addr)}
  {x : Str} {v : Value} {news own rest : List (Addr × Obj)} {c : Addr} {o : Obj} {v₀ : Option Value}
theorem stCellN {Q : Unit → Shared → Prop} (F : Fr h₀ L s.heap m) (N : News h₀ L s.heap (own ++ (c, o) :: rest)) (ND : ((own ++ (c, o) :: rest).map (·.1)).Nodup) (hc : cl.lookup x = some c) (hd : o.data = .cell v₀)
    (h : ∀ h' o', Fr h₀ L h' m → News h₀ L h' (own ++ (c, o') :: rest) → o'.data = .cell (some v) → Q () (St s h' s.toks))
    (hk : cs.kind = .function := by rfl) (hx : (envX cn cs L a ccd cl).kindOf x = some .cell := by rfl) : wpAny M A (storeName (envX cn cs L a ccd cl) x v) Q E s :=
  stCell F N hc (ndOwn ND).1 (ndOwn ND).2 hd h hk hx
end
section
variable {prog : Program} {w : World} {A : Around} {E : Value → Shared → Prop} {s : Shared} {h₀ : Heap} {L : Addr} {m : Str → Option Value} {own rest : List (Addr × Obj)} {x C dx : Addr} {es : List DictEntry} {n : Nat} {name : Str} {v : Value}
theorem setAN {Q : Unit → Shared → Prop} (F : Fr h₀ L s.heap m) (T : TF w h₀) (N : News h₀ L s.heap (own ++ (dx, dictOf es n) :: rest)) (ND : ((own ++ (dx, dictOf es n) :: rest).map (·.1)).Nodup) (hx : s.heap.get? x = some (instObj C dx))
    (hs : findIn (hd.heap_39 w.params) (.ref C) "__setattr__" = some (some (.builtin "object.__setattr__"))) (hp : plainOver (hd.heap_39 w.params) C = true) (ht : takerIn (hd.heap_39 w.params) C name = some none) (hh : hasDictIn (hd.heap_39 w.params) C = true) (hl : (getL name es).isSome = true)
    (h : ∀ h' t, Fr h₀ L h' m → News h₀ L h' (own ++ (dx, dictOf (putL name (PyData.keyHash w.params name) (.str name t) v es) (putN name es n)) :: rest) → Q () (St s h' (s.toks + 2)))
    (hz' : (putL name (PyData.keyHash w.params name) (.str name (s.toks + 1)) v es).length ≤ 1000) :
    wpAny (model prog w) A (setAttr (.ref x) name v) Q E s := setA F T N hx (ndOwn ND).1 (ndOwn ND).2 hs hp ht hh hl h hz'
end
theorem UpdF.of {own rest : List (Addr × Obj)} {c : Addr} {o : Obj} (ND : ((own ++ (c, o) :: rest).map (·.1)).Nodup) : UpdF c o (own ++ (c, o) :: rest) (fun o' => own ++ (c, o') :: rest) := by
  obtain ⟨h1, h2⟩ := ndOwn ND
  clear ND
  induction own with
  | nil => exact .head h2
  | cons p r ih => exact .tail (h1 p (.head _)) (ih fun q hq => h1 q (.tail _ hq))
end
set_option compiler.extract_closed false
local macro_rules | `(tactic| walk_at "eval Name") => `(tactic| first
  | (with_unfolding_all refine nmL (by assumption) (by rfl) ?_)
  | (with_unfolding_all refine nmG (by assumption) (by assumption) (by rfl) (by k_is) ?_)
  | (with_unfolding_all refine nmB (by assumption) (by assumption) (by rfl) (by k_is) (by boot_by_name) (by decide) ?_)
  | (with_unfolding_all refine nmF (by rfl) (by walk_at "cellAt") ?_)
  | (with_unfolding_all refine nmC (by rfl) (cellMem (by assumption) (by k_mem) (by assumption)) ?_)
  | (with_unfolding_all refine nmL (by assumption) (by assumption) ?_)
  | (with_unfolding_all refine nmLc (by assumption) (by assumption) ?_)
  | (with_unfolding_all refine nmLc (by assumption) (by rfl) ?_)
  | (with_unfolding_all refine nmGc (by assumption) (by assumption) (by k_is) ?_)
  | (with_unfolding_all refine nmBc (by assumption) (by assumption) (by k_is) (by boot_by_name) (by decide) ?_)
  | (with_unfolding_all refine nmFc (by rfl) (by walk_at "cellAt") ?_)
  | (with_unfolding_all refine nmCc (by rfl) (by walk_at "cellAt") ?_))
local macro_rules | `(tactic| walk_at "storeName") => `(tactic| (with_unfolding_all refine storeX_L (by assumption) (by assumption) ?_ (by rfl) (by rfl); intro h' F' N'))
local macro_rules | `(tactic| walk_at "dictAt") => `(tactic| first | (refine dictMem (by assumption) (by k_mem) (by assumption)) | assumption | (refine Heap.DictOf.keep (by assumption) (Fr.keep (by assumption))))
local macro_rules | `(tactic| walk_at "getMethod ref") => `(tactic| first
  | (with_unfolding_all refine methOwn (by assumption) (by assumption) (by walk_at "instAt") (by assumption) (by k_is) (by k_is) (by k_is) (by rfl) ?_; dsimp only [St])
  | (with_unfolding_all refine methCls (by assumption) (by assumption) (by walk_at "instAt") (by assumption) (by k_is) (by k_is) (by k_is) ?_)
  | ((with_reducible show wpAny _ _ (getMethod (Value.ref _) (Str.ofString "append") _) _ _ _); with_unfolding_all refine gmAppend (by walk_at "memAt") ?_)
  | ((with_reducible show wpAny _ _ (getMethod (Value.ref _) (Str.ofString "get") _) _ _ _); refine gm_dict (knd := strKind _ _) PySem.F.slot_dict_get PySem.F.type_dict_get (by walk_at "dictAt") ?_)
  | ((with_reducible show wpAny _ _ (getMethod (Value.ref _) (Str.ofString "values") _) _ _ _); refine gm_dict (knd := strKind _ _) PySem.F.slot_dict_values PySem.F.type_dict_values (by walk_at "dictAt") ?_)
  | ((with_reducible show wpAny _ _ (getMethod (Value.ref _) (Str.ofString "items") _) _ _ _); refine gm_dict (knd := strKind _ _) PySem.F.slot_dict_items PySem.F.type_dict_items (by walk_at "dictAt") ?_))
local macro_rules | `(tactic| walk_at "call builtin:dict.values") => `(tactic| (refine c_valuesN (knd := strKind _ _) (by assumption) (by assumption) (by walk_at "dictAt") (by assumption) ?_; intro v' h' F' N' hV'))
local macro_rules | `(tactic| walk_at "exec For Name") => `(tactic| (with_unfolding_all refine ForV (by assumption) (by rfl) (by rfl) ?_))
local macro_rules | `(tactic| walk_at "exec For Name Name") => `(tactic| (with_unfolding_all refine ForV (by assumption) (by rfl) (by rfl) ?_))
local macro_rules | `(tactic| walk_at "exec For Name Call") => `(tactic| (with_unfolding_all refine ForV (by assumption) (by rfl) (by rfl) ?_))
local macro_rules | `(tactic| walk_at "loadName") => `(tactic| first
  | (with_unfolding_all refine ldL (by assumption) (by rfl) ?_)
  | (with_unfolding_all refine ldL (by assumption) (by assumption) ?_))
local macro_rules | `(tactic| walk_at "call builtin:dict.items") => `(tactic| (refine c_itemsN (knd := strKind _ _) (by assumption) (by assumption) (by walk_at "dictAt") (by assumption) ?_; intro v' h' F' N' hV'))
local macro_rules | `(tactic| walk_at "exec For Tuple") => `(tactic| (with_unfolding_all refine ForTup ?_ (by intro _; rfl)))
local macro_rules | `(tactic| walk_at "exec For Tuple Call") => `(tactic| (with_unfolding_all refine ForTup ?_ (by intro _; rfl)))
local macro_rules | `(tactic| walk_at "fresh") => `(tactic| (intro a' h' F' N' hn' lo' st'))
local macro_rules | `(tactic| walk_at "eval Dict") => `(tactic| first
  | (with_unfolding_all refine eDict0 (by assumption) (by assumption) (by assumption) ?_; walk_at "fresh")
  | (with_unfolding_all refine kdn_eval (knd := strKind _ _) (by assumption) (by assumption) (TF.lim (by assumption)) (by rfl) (by rfl) (List.cons_ne_nil _ _) (by decide) ?_; intro d' h' o' F' N' lt' lo' hd'))
local macro_rules | `(tactic| walk_at "newList") => `(tactic| (with_unfolding_all refine nList (by assumption) (by assumption) (by assumption) ?_; walk_at "fresh"))
local macro_rules | `(tactic| walk_at "newTuple") => `(tactic| (with_unfolding_all refine nTuple (by assumption) (by assumption) (by assumption) ?_; walk_at "fresh"))
local macro_rules | `(tactic| walk_at "exec Assign cons Dict") => `(tactic| (with_unfolding_all refine wpAny_Assign_Name ?_))
local macro_rules | `(tactic| walk_at "assign") => `(tactic| first
  | (with_unfolding_all refine wpAny_assign_Name ?_)
  | (with_unfolding_all refine asT (by assumption) (by assumption) (Rm.hd (by assumption)) (by walk_at "tupAt") (by rfl) (by rfl) ?_; intro h' F' N' st')
  | (with_unfolding_all refine kun_list (by assumption) (by assumption) (by walk_at "listAt") (Rm.hd (by assumption)) (by rfl) (by rfl) ?_; intro h' F' N'))
local macro_rules | `(tactic| walk_at "assignInOrder") => `(tactic| first
  | (with_unfolding_all refine aioNil ?_)
  | (with_unfolding_all refine aioCons ?_))
local macro_rules | `(tactic| walk_at "compareOp In str ref") => `(tactic| (with_unfolding_all refine inD (knd := strKind _ _) (by walk_at "dictAt") (by assumption) (strKind_is _ _ _ _) ?_))
local macro_rules | `(tactic| walk_at "tupAt") => `(tactic| first | assumption | (refine tupKeep (by assumption) (by assumption)) | (refine tupMem (by assumption) (by k_mem)))
local macro_rules | `(tactic| walk_at "callWith ref") => `(tactic| first
  | (with_unfolding_all refine callK (by assumption) (by k_is) ?_)
  | (with_unfolding_all refine callK0 (by assumption) (Fr.keep (by assumption)) (by k_is) ?_)
  | (with_unfolding_all refine callWith_F0 (by walk_at "fnAt") ?_)
  | (with_unfolding_all refine callWith_F (by walk_at "fnAt") ?_))
local macro_rules | `(tactic| walk_at "And") => `(tactic| first
  | (with_unfolding_all refine And.intro (Fr.keep (by assumption)) ?_)
  | ((with_reducible show FnAt _ _ ∧ _); with_unfolding_all refine And.intro (by walk_at "fnAt") ?_))
local macro_rules | `(tactic| walk_at "subscriptTail Name Slice ref ref") => `(tactic| (with_unfolding_all refine slTup2 (by assumption) (by assumption) (by assumption) (by walk_at "tupAt") ?_; intro a' h' F' N' st'))
local macro_rules | `(tactic| walk_at "fnAt") => `(tactic| first | assumption | (with_unfolding_all refine FnAt.keeps' (by assumption) (Fr.keep (by assumption))))
local macro_rules | `(tactic| walk_at "instAt") => `(tactic| first | assumption | (refine Inst.keeps (by assumption) (Fr.keep (by assumption))))
local macro_rules | `(tactic| walk_at "getAttr ref") => `(tactic| (with_unfolding_all refine attrOwn (by assumption) (by assumption) (by walk_at "instAt") (by assumption) (by k_is) (by k_is) (by k_is) (by k_is) (by rfl) ?_; dsimp only [St]))
local macro_rules | `(tactic| walk_at "unpackItems ref") => `(tactic| (with_unfolding_all refine upT (by assumption) (by assumption) (Rm.hd (by assumption)) (by walk_at "tupAt") (by rfl) ?_; intro h' F' N' st'))
local macro_rules | `(tactic| walk_at "cellAt") => `(tactic| first | (with_unfolding_all assumption) | (with_unfolding_all refine cellKeep (by assumption) (Fr.keep (by assumption))))
local macro_rules | `(tactic| walk_at "KdnMade") => `(tactic| (with_unfolding_all refine kdn_made_str (by assumption) (by assumption) (.head (fun p hp => Nat.ne_of_lt (by solve_by_elim))) (by assumption) (by rfl) (by simp [strPairs]) ?_; intro h' o' F' N' hd'))
local macro_rules | `(tactic| walk_at "memAt") => `(tactic| first
  | (with_unfolding_all exact (‹News _ _ _ _› _ (by k_mem)).1))
local macro_rules | `(tactic| walk_at "subscriptTail") => `(tactic| first
  | (with_unfolding_all refine subD (knd := strKind _ _) (by walk_at "dictAt") (strKind_is _ _ _ _) (by assumption) ?_; dsimp only [St])
  | ((with_reducible show wpAny _ _ (subscriptTail _ _ (Value.str _ _) (Value.int _ _)) _ _ _); refine KXi.item (n := Str.length _) rfl (by omega) (by omega) (by omega) ?_; intro kE')
  | ((with_reducible show wpAny _ _ (subscriptTail _ (PySem.Expr.Slice (some _) (some _) none _) (Value.str _ _) (Value.ref _)) _ _ _); with_unfolding_all refine slice_strN_ss (hsz := by simp only [sizeLine]; omega) (by assumption) (by assumption) ?_; intro _ _ _ _ _))
local macro_rules | `(tactic| walk_at "call type:int") => `(tactic| (with_unfolding_all refine KIN.call_num (by assumption) (by omega) ?_))
local macro_rules | `(tactic| walk_at "inplaceOp Add str str") => `(tactic| (with_unfolding_all refine PySem.SB.iadd ?_ (by simp only [sizeLine]; omega); intro t' k'; dsimp only))
local macro_rules | `(tactic| walk_at "call builtin:list.append") => `(tactic| (with_unfolding_all refine appendN (own := []) (by assumption) (by assumption) (fun _ h => nomatch h) (by assumption) (by simp only [sizeLine]; omega) ?_; intro h' F' N'; dsimp only [St]))
local macro_rules | `(tactic| walk_at "eval ListComp") => `(tactic| (with_unfolding_all refine compN (by rfl) (by decide) (by rfl) (by decide) (by rfl) ?_))
local macro_rules | `(tactic| walk_at "Keeps") => `(tactic| exact ⟨_, _, rfl, stays_refl _⟩)
local macro_rules | `(tactic| walk_at "listAt") => `(tactic| first | assumption | (refine listKeep (by assumption) (by assumption)) | (refine listMem (by assumption) (by k_mem)))
local macro_rules | `(tactic| walk_at "call builtin:str.split") => `(tactic| (with_unfolding_all refine splitEq (by assumption) (by assumption) (KV.split (by assumption)) (by simp only [sizeLine]; omega) ?_; intro l' t1' t2' h' tk' F' N' hn' st'))
local macro_rules | `(tactic| walk_at "exec Assign") => `(tactic| (with_reducible refine PySem.plainObj_wpAny_Assign_Attribute ?_ ?_; rotate_left; with_unfolding_all rfl))
section
/-- the dict's values are the ints ks -/
theorem count_calls {prog : Program} {w : World} {A : Around} {s : Shared} {Q E : Value → Shared → Prop} {d : Addr} {kvs : List (Str × Value)} {ks : List Int} (T : TF w s.heap) (hA : Rm A 5 50)
  (hd : s.heap.DictOf (strKind prog w) d kvs) (lo : (d == sysModules) = false) (hi : IntsAre (kvs.map (·.2)) ks)
  (hret : ∀ t h' tk', s.heap.StaysIn h' → Q (.int ks.sum t) (St s h' tk')) :
  wpAny (model prog w) A (call (.ref 136) [.ref d]) Q E s := by
  refine wpAny_call (enter (d := 4) (u := 47) (binds := [(Str.ofString "callers", .ref d)]) T hA (by k_is) rfl (by k_is) rfl (locs rfl) ?_)
  intro h₁ A' hA' F N
  repeat' walk1
  refine it_values (knd := strKind _ _) (fun i m nx => ∃ t, m (Str.ofString "nc") = some (.int (ks.take i).sum t)) hA'.hd (by assumption) hd (by assumption) (by assumption) ⟨_, rfl⟩ ?_ ?_
  · intro i k v m₁ news₁ h tk own hk ha ho hJ F₁ N₁
    obtain ⟨t, hJ⟩ := hJ
    refine absG ?_; intro PG hPG
    obtain ⟨n, t', rfl, hn⟩ := hi.at i v (by simp [hk])
    refine hPG ?_; clear hPG PG
    repeat' walk1
    refine invEnd (by assumption) (by assumption) (fun p hp => List.mem_append_left _ hp) (fun p hp => List.mem_append_right _ hp) ha ?_
    rw [take_sum hn]; exact ⟨_, rfl⟩
  · intro m₁ news₁ h tk hJ F₁ N₁
    obtain ⟨t, hJ⟩ := hJ
    repeat' walk1
    have e : ks.take kvs.length = ks := List.take_of_length_le (by have := hi.length; simp at this; omega)
    rw [e] 
    exact hret _ _ _ F₁.keep
end
section
theorem add_callers {prog : Program} {w : World} {A : Around} {s : Shared} {Q E : Value → Shared → Prop} {d e : Addr} {kvs kvs' : List (Str × Value)} {cs cs' : List (Str × Int)} (T : TF w s.heap) (hA : Rm A 5 50)
  (hd : s.heap.DictOf (strKind prog w) d kvs) (lo : (d == sysModules) = false) (hi : Cnt kvs cs) (hl : kvs.length ≤ 100)
  (he : s.heap.DictOf (strKind prog w) e kvs') (lo' : (e == sysModules) = false) (hi' : Cnt kvs' cs') (hl' : kvs'.length ≤ 100)
  (hret : ∀ r o kv h' tk', s.heap.get? r = none → (r == sysModules) = false → s.heap.StaysIn h' → h'.get? r = some o → o.IsDictOf (strKind prog w) kv → Cnt kv (cs'.foldl addC cs) → Q (.ref r) (St s h' tk')) :
  wpAny (model prog w) A (call (.ref 129) [.ref d, .ref e]) Q E s := by
  refine wpAny_call (enter (d := 4) (u := 47) (binds := [(Str.ofString "target", .ref d), (Str.ofString "source", .ref e)]) T hA (by k_is) rfl (by k_is) rfl (locs rfl) ?_)
  intro h₁ A' hA' F N
  repeat' walk1
  rename_i a0 h0 F0 N0 hn0 lo0 st0 h1 F1 N1 v2 h2 F2 N2 hV2
  have hf0 : s.heap.get? a0 = none := (N2 _ (.head _)).2.2
  refine it_items (knd := strKind _ _) (fun i m nx => ∃ o, nx = [(a0, o)] ∧ o.IsDictOf (strKind prog w) (kvs.take i) ∧ m (Str.ofString "new_callers") = some (.ref a0) ∧ m (Str.ofString "source") = some (.ref e)) hA'.hd hV2 hd F2 N2 ⟨_, rfl, emptyIs, rfl, rfl⟩ ?_ ?_
  · intro i T' k key v m₁ news₁ h tk own hk hkey hT ha ho hXG F3 N3
    refine absG ?_; intro PG hPG
    obtain ⟨o, rfl, hO, hm1, hm2⟩ := hXG
    refine hPG ?_; clear hPG PG
    obtain ⟨tk', rfl⟩ := Value.isStrOf_shape hkey
    repeat' walk1
    refine setN0 (knd := strKind _ _) (rest := own) (by assumption) (by assumption) hO (strKind_is _ _ _ _) (ho.ne (.head _)) ?_ (by simp only [List.length_take, sizeLine]; omega)
    intro h' o' F' N' hO'
    rw [stored_take (DictOf.nodup hd) hk] at hO'
    repeat' walk1
    exact invEnd F' N' (nx := [(a0, o')]) (fun p hp => by cases hp with | head => exact .head _ | tail _ hp => cases hp) (fun p hp => .tail _ hp) rfl ⟨o', rfl, hO', hm1, hm2⟩
  · intro m₁ news₁ h tk hXG F3 N3
    refine absG ?_; intro PG hPG
    obtain ⟨o, rfl, hO, hm1, hm2⟩ := hXG
    refine hPG ?_; clear hPG PG
    rw [List.take_length] at hO
    repeat' walk1
    rename_i v4 h4 F4 N4 hV4
    refine it_items (knd := strKind _ _) (fun i m nx => ∃ o kv, nx = [(a0, o)] ∧ o.IsDictOf (strKind prog w) kv ∧ Cnt kv ((cs'.take i).foldl addC cs) ∧ m (Str.ofString "new_callers") = some (.ref a0)) hA'.hd hV4 he F4 N4 ⟨o, kvs, rfl, hO, hi, hm1⟩ ?_ ?_
    · intro i T' k key v m₁ news₁ h tk own hk hkey hT ha ho hXG F5 N5
      refine absG ?_; intro PG hPG
      obtain ⟨o, kv, rfl, hO, hC, hm1⟩ := hXG
      refine hPG ?_; clear hPG PG
      obtain ⟨tk', rfl⟩ := Value.isStrOf_shape hkey
      refine absG ?_; intro PG hPG
      obtain ⟨n, t, rfl, hn⟩ := hi'.at i k v hk
      refine hPG ?_; clear hPG PG
      have hkv : kv.length ≤ 200 := by
        have h1 := addCs_len (cs'.take i) cs
        have h2 := hC.len
        have h3 := hi.len
        have h4 := hi'.len
        have h5 := List.length_take_le i cs'
        have h6 : (cs'.take i).length ≤ cs'.length := by simp; omega
        omega
      have hnext : (cs'.take (i + 1)).foldl addC cs = addC ((cs'.take i).foldl addC cs) (k, n) := by
        rw [List.take_add_one, hn]; simp
      repeat' walk1
      · obtain ⟨v, hv⟩ := Option.isSome_iff_exists.mp (show (valueAt kv k).isSome = true by assumption)
        refine absG ?_; intro PG hPG
        obtain ⟨a, t1, rfl, hup⟩ := hC.upd (isDict_nodup hO) hv
        refine hPG ?_; clear hPG PG
        refine getD (knd := strKind _ _) (by walk_at "dictAt") (strKind_is _ _ _ _) hv ?_
        repeat' walk1
        refine setN0 (knd := strKind _ _) (rest := own) (by assumption) (by assumption) hO (strKind_is _ _ _ _) (ho.ne (.head _)) ?_ (by simp only [sizeLine]; omega)
        intro h' o' F' N' hO'
        repeat' walk1
        refine invEnd F' N' (nx := [(a0, o')]) (fun p hp => by cases hp with | head => exact .head _ | tail _ hp => cases hp) (fun p hp => .tail _ hp) rfl ⟨o', _, rfl, hO', ?_, hm1⟩
        rw [hnext]
        exact hup n _
      · have hv : valueAt kv k = none := by
          cases q : valueAt kv k with
          | none => rfl
          | some _ => exfalso; rename_i hno vv; rw [q] at hno; cases hno
        refine setN0 (knd := strKind _ _) (rest := own) (by assumption) (by assumption) hO (strKind_is _ _ _ _) (ho.ne (.head _)) ?_ (by simp only [sizeLine]; omega)
        intro h' o' F' N' hO'
        repeat' walk1
        refine invEnd F' N' (nx := [(a0, o')]) (fun p hp => by cases hp with | head => exact .head _ | tail _ hp => cases hp) (fun p hp => .tail _ hp) rfl ⟨o', _, rfl, hO', ?_, hm1⟩
        rw [hnext]
        exact hC.new hv n t
    · intro m₁ news₁ h tk hXG F5 N5
      refine absG ?_; intro PG hPG
      obtain ⟨o, kv, rfl, hO, hC, hm1⟩ := hXG
      refine hPG ?_; clear hPG PG
      repeat' walk1
      have e1 : cs'.take kvs'.length = cs' := List.take_of_length_le (by have := hi'.len; omega)
      rw [e1] at hC
      exact hret a0 o kv _ _ hf0 lo0 F5.keep (N5 _ (.head _)).1 hO hC
end
section
/-- a tuple of four ints and a ref -/
structure Tup5 (h : Heap) (a : Addr) (x1 x2 x3 x4 : Int) (c : Addr) : Prop where
  is : ∃ t1 t2 t3 t4, h.IsTuple a #[.int x1 t1, .int x2 t2, .int x3 t3, .int x4 t4, .ref c]
theorem add_func_stats {prog : Program} {w : World} {A : Around} {s : Shared} {Q E : Value → Shared → Prop} {a b d e : Addr} {x1 x2 x3 x4 y1 y2 y3 y4 : Int} {kvs kvs' : List (Str × Value)} {cs cs' : List (Str × Int)} (T : TF w s.heap) (hA : Rm A 7 60)
  (ha : Tup5 s.heap a x1 x2 x3 x4 d) (hb : Tup5 s.heap b y1 y2 y3 y4 e)
  (hd : s.heap.DictOf (strKind prog w) d kvs) (lo : (d == sysModules) = false) (hi : Cnt kvs cs) (hl : kvs.length ≤ 100)
  (he : s.heap.DictOf (strKind prog w) e kvs') (lo' : (e == sysModules) = false) (hi' : Cnt kvs' cs') (hl' : kvs'.length ≤ 100)
  (hret : ∀ r c o kv h' tk', s.heap.get? r = none → s.heap.StaysIn h' → Tup5 h' r (y1 + x1) (y2 + x2) (y3 + x3) (y4 + x4) c → s.heap.get? c = none → (c == sysModules) = false → h'.get? c = some o → o.IsDictOf (strKind prog w) kv → Cnt kv (cs'.foldl addC cs) → Q (.ref r) (St s h' tk')) :
  wpAny (model prog w) A (call (.ref 122) [.ref a, .ref b]) Q E s := by
  refine absG ?_; intro PG hPG
  obtain ⟨t1, t2, t3, t4, ha⟩ := ha
  refine hPG ?_; clear hPG PG
  refine absG ?_; intro PG hPG
  obtain ⟨u1, u2, u3, u4, hb⟩ := hb
  refine hPG ?_; clear hPG PG
  refine wpAny_call (enter (d := 6) (u := 57) (binds := [(Str.ofString "target", .ref a), (Str.ofString "source", .ref b)]) T hA (by k_is) rfl (by k_is) rfl (locs rfl) ?_)
  intro h₁ A' hA' F N
  repeat' walk1
  rename_i h3 F3 N3
  refine add_callers (T.keeps F3.keep) (hA'.le (by decide) (by decide)) (hd.keep F3.keep) lo hi hl (he.keep F3.keep) lo' hi' hl' ?_
  intro c o kv h4 tk4 hc loc st4 ho hO hC
  have F4 := frStays F3 st4
  have N4 := newsAdd F3 (newsStays N3 st4) hc ho
  repeat' walk1
  rename_i r h5 F5 N5 hn5 lo5 st5
  have hr : s.heap.get? r = none := (N5 _ (.head _)).2.2
  have hc' : s.heap.get? c = none := (N5 _ (.tail _ (.head _))).2.2
  exact hret r c o kv _ _ hr F5.keep ⟨_, _, _, _, _, (N5 _ (.head _)).1, rfl, _, rfl⟩ hc' loc (N5 _ (.tail _ (.head _))).1 hO hC
end
section
open PySem.Builtin in
theorem fmt3 {a : Addr} {x y : Str} {c : Int} {t t1 t2 t3 : Tok} (hxl : x.length ≤ 100) (hyl : y.length ≤ 100) (hc : 0 ≤ c) (hc' : c < 1000) :
    Meets («str.__mod__» ⟨[.str (Str.mk #[37, 115, 58, 37, 100, 40, 37, 115, 41]) t, .ref a], []⟩) (fun _ R s => IsTup s.heap a #[.str x t1, .int c t2, .str y t3] ∧ ∀ t' k, R (.ok (.ret (.str (x ++ Str.mk #[58] ++ Str.ofString (toString c) ++ Str.mk #[40] ++ y ++ Str.mk #[41]) t'))) { s with toks := k }) := by
  kpt_run
theorem fss {prog : Program} {w : World} {A : Around} {s : Shared} {Q E : Value → Shared → Prop} {a : Addr} {x y : Str} {c : Int} {t1 t2 t3 : Tok} (T : TF w s.heap) (hA : Rm A 5 60)
  (ha : s.heap.IsTuple a #[.str x t1, .int c t2, .str y t3]) (hx : x ≠ Str.ofString "~") (hxl : x.length ≤ 100) (hyl : y.length ≤ 100) (hc : 0 ≤ c) (hc' : c < 1000)
  (hret : ∀ t h' tk', s.heap.StaysIn h' → 1 ≤ tk' → Q (.str (x ++ Str.mk #[58] ++ Str.ofString (toString c) ++ Str.mk #[40] ++ y ++ Str.mk #[41]) t) (St s h' tk')) :
  wpAny (model prog w) A (call (.ref 115) [.ref a]) Q E s := by
  refine wpAny_call (enter (d := 4) (u := 57) (binds := [(Str.ofString "func_name", .ref a)]) T hA (by k_is) rfl (by k_is) rfl (locs rfl) ?_)
  intro h₁ A' hA' F N
  refine wpAny_with_toks (n := 1) (Nat.le_add_left _ _) ?_
  repeat' walk1
  refine eqPairNe (by walk_at "tupAt") (by walk_at "tupAt") hA'.uroom hx ?_
  repeat' walk1
  refine modTup (tupKeep (by assumption) ha) (by rw [show Str.ofString "%s:%d(%s)" = Str.mk #[37, 115, 58, 37, 100, 40, 37, 115, 41] from by decide +kernel]; exact fmt3 hxl hyl hc hc') ?_
  intro t k
  repeat' walk1
  exact hret _ _ _ (Fr.keep (by assumption)) (by assumption)
theorem fss_h {prog : Program} {w : World} {A : Around} {s : Shared} {Q E : Value → Shared → Prop} {a : Addr} {t1 t2 t3 : Tok} (T : TF w s.heap) (hA : Rm A 5 60)
  (ha : s.heap.IsTuple a #[.str (Str.ofString "~") t1, .int 0 t2, .str (Str.ofString "<h>") t3])
  (hret : ∀ t h' tk', s.heap.StaysIn h' → 1 ≤ tk' → Q (.str (Str.ofString "{h}") t) (St s h' tk')) :
  wpAny (model prog w) A (call (.ref 115) [.ref a]) Q E s := by
  refine wpAny_call (enter (d := 4) (u := 57) (binds := [(Str.ofString "func_name", .ref a)]) T hA (by k_is) rfl (by k_is) rfl (locs rfl) ?_)
  intro h₁ A' hA' F N
  refine wpAny_with_toks (n := 1) (Nat.le_add_left _ _) ?_
  repeat' walk1
  refine eqPairYes (by walk_at "tupAt") (by walk_at "tupAt") hA'.uroom ?_
  repeat' walk1
  rw [show Txt.slice (Str.ofString "<h>") (some 1) (some (-1)) = Str.ofString "h" from by decide +kernel]
  refine KPc.mod_str (T := fun x => Str.mk #[123] ++ x ++ Str.mk #[125]) (X' := Str.mk #[123, 37, 115, 125]) (by decide +kernel) (by decide +kernel) (by k_dflt kpc_run_s) ?_
  intro t k
  rw [show Str.mk #[123] ++ Str.ofString "h" ++ Str.mk #[125] = Str.ofString "{h}" from by decide +kernel]
  repeat' walk1
  exact hret _ _ _ (Fr.keep (by assumption)) (by assumption)
theorem fss_k {prog : Program} {w : World} {A : Around} {s : Shared} {Q E : Value → Shared → Prop} {a : Addr} {t1 t2 t3 : Tok} (T : TF w s.heap) (hA : Rm A 5 60)
  (ha : s.heap.IsTuple a #[.str (Str.ofString "~") t1, .int 0 t2, .str (Str.ofString "k, l") t3])
  (hret : ∀ t h' tk', s.heap.StaysIn h' → 1 ≤ tk' → Q (.str (Str.ofString "k, l") t) (St s h' tk')) :
  wpAny (model prog w) A (call (.ref 115) [.ref a]) Q E s := by
  refine wpAny_call (enter (d := 4) (u := 57) (binds := [(Str.ofString "func_name", .ref a)]) T hA (by k_is) rfl (by k_is) rfl (locs rfl) ?_)
  intro h₁ A' hA' F N
  refine wpAny_with_toks (n := 1) (Nat.le_add_left _ _) ?_
  repeat' walk1
  refine eqPairYes (by walk_at "tupAt") (by walk_at "tupAt") hA'.uroom ?_
  repeat' walk1
  exact hret _ _ _ (Fr.keep (by assumption)) (by assumption)
end
section
/-- a row of a profile -/
abbrev Row := Int × Int × Int × Int × List (Str × Int)
/-- the names, pages and functions by number -/
structure Pg where
  nm : Nat → Str
  code : Nat → Int
  far : Nat → Nat
  cost : Nat → Int
/-- what a walk remembers -/
structure Mem where
  told : List Str
  costs : List Int
  prof : List (Str × Row)
noncomputable def addRow (t s : Row) : Row := (s.1 + t.1, s.2.1 + t.2.1, s.2.2.1 + t.2.2.1, s.2.2.2.1 + t.2.2.2.1, s.2.2.2.2.foldl addC t.2.2.2.2)
noncomputable def isGood (c : Int) : Bool := 200 ≤ c && c < 300
/-- what http_response answers while n more errors may walk on, and what it leaves -/
noncomputable def http (D : Pg) : Nat → Str → Nat → Mem → Nat × Mem
  | n, req, i, M => if isGood (D.code i) then (i, M) else
    let M1 : Mem := { M with told := M.told ++ [D.nm i], costs := M.costs ++ [D.cost i] }
    let r := match n with
      | 0 => (i, M1)
      | n + 1 => http D n (D.nm i) (D.far i) M1
    let entry : Row := if D.nm i ∈ M.told then (0, 1, D.cost i, 0, [(req, 1)]) else (1, 1, D.cost i, r.2.costs.sum - M.costs.sum, [(req, 1)])
    (r.1, { r.2 with prof := putB r.2.prof (D.nm i) (addRow ((getB r.2.prof (D.nm i)).getD (0, 0, 0, 0, [])) entry) })
/-- what _law_error answers -/
noncomputable def errS' (D : Pg) : Nat → Str → Nat → Mem → Nat × Mem
  | n, req, i, M =>
    let M1 : Mem := { M with told := M.told ++ [D.nm i], costs := M.costs ++ [D.cost i] }
    let r := match n with
      | 0 => (i, M1)
      | n + 1 => http D n (D.nm i) (D.far i) M1
    let entry : Row := if D.nm i ∈ M.told then (0, 1, D.cost i, 0, [(req, 1)]) else (1, 1, D.cost i, r.2.costs.sum - M.costs.sum, [(req, 1)])
    (r.1, { r.2 with prof := putB r.2.prof (D.nm i) (addRow ((getB r.2.prof (D.nm i)).getD (0, 0, 0, 0, [])) entry) })
theorem http_eq (D : Pg) (n : Nat) (req : Str) (i : Nat) (M : Mem) : http D n req i M = if isGood (D.code i) then (i, M) else errS' D n req i M := by
  cases n <;> rfl
/-- a function as a profile has it, and what is written of it -/
inductive FnOf (h : Heap) (a : Addr) : Str → Prop where
  | plain (x y : Str) (c : Int) (t1 t2 t3 : Tok) : h.IsTuple a #[.str x t1, .int c t2, .str y t3] → x ≠ Str.ofString "~" → x.length ≤ 100 → y.length ≤ 100 → 0 ≤ c → c < 1000 →
      FnOf h a (x ++ Str.mk #[58] ++ Str.ofString (toString c) ++ Str.mk #[40] ++ y ++ Str.mk #[41])
  | h (t1 t2 t3 : Tok) : h.IsTuple a #[.str (Str.ofString "~") t1, .int 0 t2, .str (Str.ofString "<h>") t3] → FnOf h a (Str.ofString "{h}")
  | k (t1 t2 t3 : Tok) : h.IsTuple a #[.str (Str.ofString "~") t1, .int 0 t2, .str (Str.ofString "k, l") t3] → FnOf h a (Str.ofString "k, l")
theorem FnOf.keeps {h h' : Heap} {a : Addr} {x : Str} (f : FnOf h a x) (k : h.StaysIn h') : FnOf h' a x := by
  cases f with
  | plain x y c t1 t2 t3 ht h1 h2 h3 h4 h5 => exact .plain x y c t1 t2 t3 (tupStay k ht) h1 h2 h3 h4 h5
  | h t1 t2 t3 ht => exact .h t1 t2 t3 (tupStay k ht)
  | k t1 t2 t3 ht => exact .k t1 t2 t3 (tupStay k ht)
theorem fss_any {prog : Program} {w : World} {A : Around} {s : Shared} {Q E : Value → Shared → Prop} {a : Addr} {x : Str} (T : TF w s.heap) (hA : Rm A 5 60) (f : FnOf s.heap a x)
    (hret : ∀ t h' tk', s.heap.StaysIn h' → 1 ≤ tk' → Q (.str x t) (St s h' tk')) : wpAny (model prog w) A (call (.ref 115) [.ref a]) Q E s := by
  cases f with
  | plain x y c t1 t2 t3 ht h1 h2 h3 h4 h5 => exact fss T hA ht h1 h2 h3 h4 h5 hret
  | h t1 t2 t3 ht => exact fss_h T hA ht hret
  | k t1 t2 t3 ht => exact fss_k T hA ht hret
/-- where the walk's things lie -/
structure Wk where
  D : Pg
  pg : Nat → Addr
  fn : Nat → Addr
  proc : Addr
  par : Addr
  ef : Addr
  pages : Addr
  told : Addr
  costs : Addr
  prof : Addr
noncomputable def Wk.mus (k : Wk) : List Addr := [k.told, k.costs, k.prof]
/-- a page's heads -/
structure Heads (prog : Program) (w : World) (h : Heap) (a : Addr) (to_ : Str) (cost : Int) : Prop where
  lo : (a == sysModules) = false
  x : ∃ kvs t u, h.DictOf (strKind prog w) a kvs ∧ valueAt kvs (Str.ofString "to") = some (.str to_ t) ∧ valueAt kvs (Str.ofString "cost") = some (.str (Str.ofString (toString cost)) u)
theorem Heads.keeps {prog : Program} {w : World} {h h' : Heap} {a : Addr} {to_ : Str} {c : Int} (x : Heads prog w h a to_ c) (k : h.StaysIn h') : Heads prog w h' a to_ c :=
  ⟨x.lo, (by obtain ⟨kvs, t, u, h1, h2⟩ := x.x; exact ⟨kvs, t, u, h1.keep k, h2⟩)⟩
/-- the pages by their names -/
structure Pages (prog : Program) (w : World) (D : Pg) (pg fn : Nat → Addr) (pages : Addr) (h : Heap) : Prop where
  lo : (pages == sysModules) = false
  pages : ∃ kvs, h.DictOf (strKind prog w) pages kvs ∧ ∀ i, i < 5 → valueAt kvs (D.nm i) = some (.ref (pg i))
  page : ∀ i, i < 5 → ∃ hd_, Page h (pg i) (D.code i) (fn i) hd_ ∧ Heads prog w h hd_ (D.nm (D.far i)) (D.cost i)
  func : ∀ i, i < 5 → FnOf h (fn i) (D.nm i)
theorem Pages.keeps {prog : Program} {w : World} {D : Pg} {pg fn : Nat → Addr} {pages : Addr} {h h' : Heap} (x : Pages prog w D pg fn pages h) (k : h.StaysIn h') : Pages prog w D pg fn pages h' :=
  ⟨x.lo, (by obtain ⟨kvs, h1, h2⟩ := x.pages; exact ⟨kvs, h1.keep k, h2⟩), fun i hi => (by obtain ⟨a, h1, h2⟩ := x.page i hi; exact ⟨a, h1.keeps k, h2.keeps k⟩), fun i hi => (x.func i hi).keeps k⟩
/-- what stands still while a walk runs -/
structure WE (prog : Program) (w : World) (k : Wk) (h : Heap) : Prop where
  P : Pages prog w k.D k.pg k.fn k.pages h
  far : ∀ i, i < 5 → k.D.far i < 5
  cst : ∀ i, i < 5 → 0 ≤ k.D.cost i ∧ k.D.cost i < 1000
  proc : ∃ dx es n, Inst h k.proc 66 dx es n ∧ getL (Str.ofString "parent") es = some (some (.ref k.par)) ∧ getL (Str.ofString "http_response") es = some none
  par : ∃ dx es n, Inst h k.par 45 dx es n ∧ getL (Str.ofString "error") es = some (some (.ref k.ef))
  ef : ∃ doc pm c' ctv cc cg cp cf ct, h.get? k.ef = some (fnMade (Str.ofString "_law_error") errQ errA errB errS [(Str.ofString "told", ct), (Str.ofString "profile", cf), (Str.ofString "processor", cp), (Str.ofString "pages", cg), (Str.ofString "costs", cc)] doc pm c' ctv) ∧
    h.CodeRec (.ref c') errQ ∧ h.IsCell cc (some (.ref k.costs)) ∧ h.IsCell cg (some (.ref k.pages)) ∧ h.IsCell cp (some (.ref k.proc)) ∧ h.IsCell cf (some (.ref k.prof)) ∧ h.IsCell ct (some (.ref k.told))
  lo : (k.prof == sysModules) = false
  n1 : k.told ≠ k.costs
  n2 : k.told ≠ k.prof
  n3 : k.costs ≠ k.prof
theorem WE.keeps {prog : Program} {w : World} {k : Wk} {h h' : Heap} (x : WE prog w k h) (st : h.StaysIn h') : WE prog w k h' where
  P := x.P.keeps st
  far := x.far
  cst := x.cst
  proc := (by obtain ⟨dx, es, n, a, b⟩ := x.proc; exact ⟨dx, es, n, a.keeps st, b⟩)
  par := (by obtain ⟨dx, es, n, a, b⟩ := x.par; exact ⟨dx, es, n, a.keeps st, b⟩)
  ef := (by obtain ⟨doc, pm, c', ctv, cc, cg, cp, cf, ct, a, b, c1, c2, c3, c4, c5⟩ := x.ef; exact ⟨doc, pm, c', ctv, cc, cg, cp, cf, ct, st _ _ a, b.keeps st, cellKeep c1 st, cellKeep c2 st, cellKeep c3 st, cellKeep c4 st, cellKeep c5 st⟩)
  lo := x.lo
  n1 := x.n1
  n2 := x.n2
  n3 := x.n3
/-- a profile's row, by the objects it is made of -/
noncomputable def RowIn (prog : Program) (w : World) (R : List (Addr × Obj)) (v : Value) (r : Row) : Prop :=
  ∃ a c oa oc kv n t1 t2 t3 t4, v = .ref a ∧ (a, oa) ∈ R ∧ oa.cls = .type "tuple" ∧ oa.data = .seq #[.int r.1 t1, .int r.2.1 t2, .int r.2.2.1 t3, .int r.2.2.2.1 t4, .ref c] n ∧ (c, oc) ∈ R ∧ (c == sysModules) = false ∧ oc.IsDictOf (strKind prog w) kv ∧ Cnt kv r.2.2.2.2
theorem RowIn.sub {prog : Program} {w : World} {R R' : List (Addr × Obj)} (h : ∀ p ∈ R, p ∈ R') (v : Value) (r : Row) (x : RowIn prog w R v r) : RowIn prog w R' v r :=
  (by obtain ⟨a, c, oa, oc, kv, n, t1, t2, t3, t4, e, h1, h2, h3, h4, h5⟩ := x; exact ⟨a, c, oa, oc, kv, n, t1, t2, t3, t4, e, h _ h1, h2, h3, h _ h4, h5⟩)
/-- the walk's memory: the three objects that change, and the rows -/
structure MemOf (prog : Program) (w : World) (R : List (Addr × Obj)) (M : Mem) (ot oc op : Obj) : Prop where
  told : ∃ its n, ot = listOf its n ∧ StrsAre its.toList M.told
  costs : ∃ its n, oc = listOf its n ∧ IntsAre its.toList M.costs
  prof : ∃ kvs, op.IsDictOf (strKind prog w) kvs ∧ Rel (RowIn prog w R) kvs M.prof
/-- all that changes while a walk runs -/
abbrev Wk.nu (k : Wk) (ot oc op : Obj) (R : List (Addr × Obj)) : List (Addr × Obj) := (k.told, ot) :: (k.costs, oc) :: (k.prof, op) :: R
abbrev Wk.hid (k : Wk) (R : List (Addr × Obj)) (h : Heap) : Heap := hideAll h (k.told :: k.costs :: k.prof :: R.map (·.1))
structure MemAt (prog : Program) (w : World) (k : Wk) (h : Heap) (M : Mem) (ot oc op : Obj) (R : List (Addr × Obj)) : Prop where
  at_ : ∀ p ∈ k.nu ot oc op R, h.get? p.1 = some p.2
  no : ∀ p ∈ R, p.1 ≠ k.told ∧ p.1 ≠ k.costs ∧ p.1 ≠ k.prof
  of_ : MemOf prog w R M ot oc op
/-- what a walk's step leaves -/
structure Left (prog : Program) (w : World) (k : Wk) (h h' : Heap) (R : List (Addr × Obj)) (M' : Mem) : Prop where
  keep : ∀ b o, b ∉ k.told :: k.costs :: k.prof :: R.map (·.1) → h.get? b = some o → h'.get? b = some o
  x : ∃ ot oc op R', MemAt prog w k h' M' ot oc op R' ∧ (∀ p ∈ R', p ∈ R ∨ h.get? p.1 = none) ∧ ∀ p ∈ R, p ∈ R'
structure Small (M : Mem) : Prop where
  costs : M.costs.length = M.told.length
  rows : ∀ r ∈ M.prof, r.2.2.2.2.2.length ≤ 50
  prof : M.prof.length ≤ 50
/-- what is shown of http_response, of _law_error -/
noncomputable def HttpOk (prog : Program) (w : World) (k : Wk) (n : Nat) : Prop := ∀ (A : Around) (s : Shared) (Q E : Value → Shared → Prop) (i : Nat) (M : Mem) (req : Str) (t : Tok) (ot oc op : Obj) (R : List (Addr × Obj)),
  TF w (k.hid R s.heap) → WE prog w k (k.hid R s.heap) → Rm A (2 * n + 12) (6 * n + 106) → MemAt prog w k s.heap M ot oc op R → M.told.length + n = 8 → Small M → i < 5 →
  (∀ h' tk', Left prog w k s.heap h' R (http k.D n req i M).2 → Q (.ref (k.pg (http k.D n req i M).1)) (St s h' tk')) →
  wpAny (model prog w) A (call (.ref 63) [.ref k.proc, .str req t, .ref (k.pg i)]) Q E s
noncomputable def ErrOk (prog : Program) (w : World) (k : Wk) (n : Nat) : Prop := ∀ (A : Around) (s : Shared) (Q E : Value → Shared → Prop) (i : Nat) (M : Mem) (req : Str) (t t' u : Tok) (hd_ : Addr) (ot oc op : Obj) (R : List (Addr × Obj)),
  TF w (k.hid R s.heap) → WE prog w k (k.hid R s.heap) → Rm A (2 * n + 11) (6 * n + 103) → MemAt prog w k s.heap M ot oc op R → M.told.length + n = 8 → Small M → i < 5 →
  Page (k.hid R s.heap) (k.pg i) (k.D.code i) (k.fn i) hd_ → Heads prog w (k.hid R s.heap) hd_ (k.D.nm (k.D.far i)) (k.D.cost i) →
  (∀ h' tk', Left prog w k s.heap h' R (errS' k.D n req i M).2 → Q (.ref (k.pg (errS' k.D n req i M).1)) (St s h' tk')) →
  wpAny (model prog w) A (call (.ref k.ef) [.str (Str.ofString "http") t, .str req t', .ref (k.pg i), .int (k.D.code i) u, .ref (k.fn i), .ref hd_]) Q E s
section
variable {prog : Program} {w : World} {k : Wk} {g h h' : Heap} {L : Addr} {m : Str → Option Value} {M M' : Mem} {ot oc op : Obj} {R R' : List (Addr × Obj)} {news : List (Addr × Obj)}
theorem MemAt.in_ (x : MemAt prog w k h M ot oc op R) : ∀ p ∈ k.nu ot oc op R, p.1 ∈ k.told :: k.costs :: k.prof :: R.map (·.1) ∧ h.get? p.1 = some p.2 := fun p hp => by
  refine ⟨?_, x.at_ p hp⟩
  rcases List.mem_cons.mp hp with rfl | hp
  · exact .head _
  rcases List.mem_cons.mp hp with rfl | hp
  · exact .tail _ (.head _)
  rcases List.mem_cons.mp hp with rfl | hp
  · exact .tail _ (.tail _ (.head _))
  · exact .tail _ (.tail _ (.tail _ (List.mem_map_of_mem hp)))
theorem nu_of {b : Addr} (hb : b ∈ k.told :: k.costs :: k.prof :: R.map (·.1)) : ∃ o, (b, o) ∈ k.nu ot oc op R := by
  rcases List.mem_cons.mp hb with rfl | hb
  · exact ⟨_, .head _⟩
  rcases List.mem_cons.mp hb with rfl | hb
  · exact ⟨_, .tail _ (.head _)⟩
  rcases List.mem_cons.mp hb with rfl | hb
  · exact ⟨_, .tail _ (.tail _ (.head _))⟩
  · obtain ⟨p, hp, rfl⟩ := List.mem_map.mp hb
    exact ⟨p.2, .tail _ (.tail _ (.tail _ hp))⟩
/-- the frame's base lies in what is hidden -/
theorem hidIn (F : Fr g L h m) (N : News g L h (k.nu ot oc op R)) : g.StaysIn (k.hid R h) := fun b o e => hideAll_get _ (F.keep b o e) fun q => by
  obtain ⟨o', hp⟩ := nu_of (ot := ot) (oc := oc) (op := op) q
  have := (N _ hp).2.2
  rw [show g.get? b = some o from e] at this; cases this
/-- back from a step: the frame and the memory -/
theorem Left.fr (x : Left prog w k h h' R M') (F : Fr g L h m) (N : News g L h (k.nu ot oc op R)) : Fr g L h' m := by
  refine ⟨F.ns.at' fun o e => x.keep _ _ (fun q => ?_) e, fun b o e => x.keep _ _ (fun q => ?_) (F.keep b o e), F.above⟩
  · obtain ⟨o', hp⟩ := nu_of (ot := ot) (oc := oc) (op := op) q
    exact (N _ hp).2.1 rfl
  · obtain ⟨o', hp⟩ := nu_of (ot := ot) (oc := oc) (op := op) q
    have := (N _ hp).2.2
    rw [show g.get? b = some o from e] at this; cases this
theorem Left.nws (x : Left prog w k h h' R M') (F : Fr g L h m) (N : News g L h (k.nu ot oc op R)) (No : News g L h news) (hd : ∀ p ∈ news, ∀ q ∈ k.nu ot oc op R, p.1 ≠ q.1) :
    ∃ ot' oc' op' R', MemOf prog w R' M' ot' oc' op' ∧ News g L h' (news ++ k.nu ot' oc' op' R') ∧ (∀ p ∈ R', p.1 ≠ k.told ∧ p.1 ≠ k.costs ∧ p.1 ≠ k.prof) ∧ (∀ p ∈ R', p ∈ R ∨ h.get? p.1 = none) ∧ (∀ p ∈ R, p ∈ R') := by
  obtain ⟨ot', oc', op', R', hM, hR, hsub⟩ := x.x
  refine ⟨ot', oc', op', R', hM.of_, fun p hp => ?_, hM.no, hR, hsub⟩
  rcases List.mem_append.mp hp with hp | hp
  · refine ⟨x.keep _ _ (fun q => ?_) (No p hp).1, (No p hp).2⟩
    obtain ⟨o', hq⟩ := nu_of (ot := ot) (oc := oc) (op := op) q
    exact hd p hp _ hq rfl
  · refine ⟨hM.at_ p hp, ?_⟩
    rcases List.mem_cons.mp hp with rfl | hp
    · exact (N (k.told, ot) (.head _)).2
    rcases List.mem_cons.mp hp with rfl | hp
    · exact (N (k.costs, oc) (.tail _ (.head _))).2
    rcases List.mem_cons.mp hp with rfl | hp
    · exact (N (k.prof, op) (.tail _ (.tail _ (.head _)))).2
    rcases hR p hp with hp | hp
    · exact (N _ (.tail _ (.tail _ (.tail _ hp)))).2
    · refine ⟨fun q => ?_, ?_⟩
      · obtain ⟨oL, _, _, hL, _⟩ := F.ns
        rw [q, hL] at hp; cases hp
      · cases q : g.get? p.1 with
        | none => rfl
        | some o => rw [F.keep _ _ q] at hp; cases hp
theorem freshBack {s : Heap} {a : Addr} (F : Fr (k.hid R s) L h m) (N : News (k.hid R s) L h (k.nu ot oc op R')) (hs : ∀ p ∈ R, p ∈ R') (e : h.get? a = none) : s.get? a = none := by
  cases q : s.get? a with
  | none => rfl
  | some o =>
    by_cases hb : a ∈ k.told :: k.costs :: k.prof :: R.map (·.1)
    · have hb' : a ∈ k.told :: k.costs :: k.prof :: R'.map (·.1) := by
        simp only [List.mem_cons, List.mem_map] at hb ⊢
        rcases hb with h1 | h1 | h1 | ⟨p, hp, e1⟩
        · exact .inl h1
        · exact .inr (.inl h1)
        · exact .inr (.inr (.inl h1))
        · exact .inr (.inr (.inr ⟨p, hs p hp, e1⟩))
      obtain ⟨o', hp⟩ := nu_of (ot := ot) (oc := oc) (op := op) hb'
      have := (N _ hp).1
      rw [show h.get? a = none from e] at this; cases this
    · have := F.keep _ _ (hideAll_get _ q hb)
      rw [e] at this; cases this
/-- the end of a step: what its frame saw -/
theorem Left.of {s : Heap} (F : Fr (k.hid R s) L h m) (N : News (k.hid R s) L h (k.nu ot oc op R')) (hno : ∀ p ∈ R', p.1 ≠ k.told ∧ p.1 ≠ k.costs ∧ p.1 ≠ k.prof) (hR : ∀ p ∈ R', p ∈ R ∨ s.get? p.1 = none) (hs : ∀ p ∈ R, p ∈ R')
    (ho : MemOf prog w R' M' ot oc op) : Left prog w k s h R M' := by
  refine ⟨fun b o hb e => F.keep _ _ (hideAll_get _ e hb), ot, oc, op, R', ⟨fun p hp => (N p hp).1, hno, ho⟩, hR, hs⟩
end
end
section
theorem ints_append {l : List Value} {l' : List Int} (h : IntsAre l l') (x : Int) (t : Tok) : IntsAre (l ++ [.int x t]) (l' ++ [x]) := by
  induction h with
  | nil => exact .cons x t .nil
  | cons y u _ ih => exact .cons y u ih
theorem mem_getB {β : Type} {l : List (Str × β)} {k : Str} {b : β} (h : getB l k = some b) : (k, b) ∈ l := by
  unfold getB at h
  obtain ⟨p, hp, rfl⟩ := Option.map_eq_some_iff.mp h
  have h1 := List.mem_of_find?_eq_some hp
  have h2 : p.1 = k := by simpa using List.find?_some hp
  rw [← h2]; exact h1
theorem putB_len {β : Type} (l : List (Str × β)) (k : Str) (b : β) : (putB l k b).length ≤ l.length + 1 := by
  unfold putB; split <;> simp
theorem mem_putB {β : Type} {l : List (Str × β)} {k : Str} {b : β} {p : Str × β} (h : p ∈ putB l k b) : p ∈ l ∨ p.2 = b := by
  unfold putB at h
  split at h
  · obtain ⟨q, hq, rfl⟩ := List.mem_map.mp h
    by_cases e : q.1 = k
    · rw [if_pos e]; exact .inr rfl
    · rw [if_neg e]; exact .inl hq
  · rcases List.mem_append.mp h with h | h
    · exact .inl h
    · rw [List.mem_singleton.mp h]; exact .inr rfl
/-- a bound on what a walk's memory may hold -/
noncomputable def Bd (c p : Nat) (M : Mem) : Prop := (∀ r ∈ M.prof, r.2.2.2.2.2.length ≤ c) ∧ M.prof.length ≤ p
theorem Bd.put {c p : Nat} {M : Mem} (h : Bd c p M) (k : Str) (e : Row) (he : e.2.2.2.2.length ≤ 1) :
    Bd (c + 1) (p + 1) { M with prof := putB M.prof k (addRow ((getB M.prof k).getD (0, 0, 0, 0, [])) e) } := by
  refine ⟨fun r hr => ?_, Nat.le_trans (putB_len _ _ _) (Nat.add_le_add_right h.2 1)⟩
  rcases mem_putB hr with hr | hr
  · exact Nat.le_trans (h.1 r hr) (Nat.le_succ _)
  · rw [hr]
    show (e.2.2.2.2.foldl addC _).length ≤ c + 1
    refine Nat.le_trans (addCs_len _ _) ?_
    have : ((getB M.prof k).getD (0, 0, 0, 0, [])).2.2.2.2.length ≤ c := by
      cases q : getB M.prof k with
      | none => exact Nat.zero_le _
      | some b => exact h.1 _ (mem_getB q)
    omega
theorem err_bd (D : Pg) : ∀ n req i M c p, Bd c p M → Bd (c + n + 1) (p + n + 1) (errS' D n req i M).2 := by
  intro n
  induction n with
  | zero =>
    intro req i M c p h
    have h1 : Bd c p { M with told := M.told ++ [D.nm i], costs := M.costs ++ [D.cost i] } := h
    exact h1.put _ _ (by split <;> exact Nat.le_refl _)
  | succ n ih =>
    intro req i M c p h
    have h1 : Bd c p { M with told := M.told ++ [D.nm i], costs := M.costs ++ [D.cost i] } := h
    have h2 : Bd (c + n + 1) (p + n + 1) (http D n (D.nm i) (D.far i) { M with told := M.told ++ [D.nm i], costs := M.costs ++ [D.cost i] }).2 := by
      rw [http_eq]
      split
      · exact ⟨fun r hr => Nat.le_trans (h1.1 r hr) (by omega), Nat.le_trans h1.2 (by omega)⟩
      · exact ih _ _ _ _ _ h1
    exact h2.put _ _ (by split <;> exact Nat.le_refl _)
theorem http_bd (D : Pg) (n : Nat) (req : Str) (i : Nat) (M : Mem) (c p : Nat) (h : Bd c p M) : Bd (c + n + 1) (p + n + 1) (http D n req i M).2 := by
  rw [http_eq]
  split
  · exact ⟨fun r hr => Nat.le_trans (h.1 r hr) (by omega), Nat.le_trans h.2 (by omega)⟩
  · exact err_bd D n req i M c p h
/-- the row that an error adds -/
noncomputable def entryOf (D : Pg) (req : Str) (i : Nat) (M M2 : Mem) : Row := if D.nm i ∈ M.told then (0, 1, D.cost i, 0, [(req, 1)]) else (1, 1, D.cost i, M2.costs.sum - M.costs.sum, [(req, 1)])
noncomputable def finOf (D : Pg) (req : Str) (i : Nat) (M : Mem) (ans : Nat) (M2 : Mem) : Nat × Mem :=
  (ans, { M2 with prof := putB M2.prof (D.nm i) (addRow ((getB M2.prof (D.nm i)).getD (0, 0, 0, 0, [])) (entryOf D req i M M2)) })
noncomputable def M1of (D : Pg) (i : Nat) (M : Mem) : Mem := { M with told := M.told ++ [D.nm i], costs := M.costs ++ [D.cost i] }
theorem errS_zero (D : Pg) (req : Str) (i : Nat) (M : Mem) : errS' D 0 req i M = finOf D req i M i (M1of D i M) := rfl
theorem errS_succ (D : Pg) (n : Nat) (req : Str) (i : Nat) (M : Mem) : errS' D (n + 1) req i M = finOf D req i M (http D n (D.nm i) (D.far i) (M1of D i M)).1 (http D n (D.nm i) (D.far i) (M1of D i M)).2 := rfl
theorem mem1 {prog : Program} {w : World} {k : Wk} {g h : Heap} {L : Addr} {its cts : Array Value} {n1 n2 : Nat} {t t' : Tok} {op : Obj} {R : List (Addr × Obj)} {M : Mem} {i : Nat} {kvs : List (Str × Value)}
    (N : News g L h (k.nu (listOf (its.push (.str (k.D.nm i) t)) n1) (listOf (cts.push (.int (k.D.cost i) t')) n2) op R)) (hno : ∀ p ∈ R, p.1 ≠ k.told ∧ p.1 ≠ k.costs ∧ p.1 ≠ k.prof)
    (hits : StrsAre its.toList M.told) (hcts : IntsAre cts.toList M.costs) (hkvs : op.IsDictOf (strKind prog w) kvs) (hrel : Rel (RowIn prog w R) kvs M.prof) :
    MemAt prog w k h (M1of k.D i M) (listOf (its.push (.str (k.D.nm i) t)) n1) (listOf (cts.push (.int (k.D.cost i) t')) n2) op R :=
  ⟨fun p hp => (N p hp).1, hno, ⟨_, _, rfl, by rw [Array.toList_push]; exact hits.append _ _⟩, ⟨_, _, rfl, by rw [Array.toList_push]; exact ints_append hcts _ _⟩, ⟨kvs, hkvs, hrel⟩⟩
theorem tup5Mem {h₀ h : Heap} {L a c : Addr} {news : List (Addr × Obj)} {x1 x2 x3 x4 : Int} {t1 t2 t3 t4 : Tok} {n : Nat} (N : News h₀ L h news) (hm : (a, ({ cls := .type "tuple", data := .seq #[.int x1 t1, .int x2 t2, .int x3 t3, .int x4 t4, .ref c] n } : Obj)) ∈ news) : Tup5 h a x1 x2 x3 x4 c :=
  ⟨t1, t2, t3, t4, tupMem N hm⟩
/-- the end of an error: its row is in the profile -/
theorem errEnd {prog : Program} {w : World} {k : Wk} {s h : Heap} {L r c : Addr} {m : Str → Option Value} {req : Str} {i ans : Nat} {M M2 : Mem} {ot oc op oa ocd : Obj} {R R' : List (Addr × Obj)} {kv : List (Str × Value)} {x1 x2 x3 x4 : Int} {cs : List (Str × Int)} {kvs' : List (Str × Value)}
    (F : Fr (k.hid R s) L h m) (N : News (k.hid R s) L h ((r, oa) :: (c, ocd) :: k.nu ot oc op R')) (hno : ∀ p ∈ R', p.1 ≠ k.told ∧ p.1 ≠ k.costs ∧ p.1 ≠ k.prof) (back : ∀ p ∈ R', p ∈ R ∨ s.get? p.1 = none) (hs : ∀ p ∈ R, p ∈ R')
    (hr : s.get? r = none) (hc : s.get? c = none) (r1 : r ≠ k.told ∧ r ≠ k.costs ∧ r ≠ k.prof) (c1 : c ≠ k.told ∧ c ≠ k.costs ∧ c ≠ k.prof) (ht : ∃ its n, ot = listOf its n ∧ StrsAre its.toList M2.told) (hcs : ∃ its n, oc = listOf its n ∧ IntsAre its.toList M2.costs)
    (ho : op.IsDictOf (strKind prog w) (stored kvs' (k.D.nm i) (.ref r))) (hrel : Rel (RowIn prog w R') kvs' M2.prof)
    (h5 : Tup5 h r x1 x2 x3 x4 c) (lo : (c == sysModules) = false) (hd : ocd.IsDictOf (strKind prog w) kv) (hC : Cnt kv cs)
    (e : addRow ((getB M2.prof (k.D.nm i)).getD (0, 0, 0, 0, [])) (entryOf k.D req i M M2) = (x1, x2, x3, x4, cs)) : Left prog w k s h R (finOf k.D req i M ans M2).2 := by
  refine Left.of (ot := ot) (oc := oc) (op := op) (R' := (r, oa) :: (c, ocd) :: R') F ?_ ?_ ?_ (fun p hp => .tail _ (.tail _ (hs p hp))) ⟨ht, hcs, _, ho, ?_⟩
  · intro p hp
    refine N p ?_
    simp only [List.mem_cons] at hp ⊢
    grind
  · intro p hp
    rcases List.mem_cons.mp hp with rfl | hp
    · exact r1
    rcases List.mem_cons.mp hp with rfl | hp
    · exact c1
    · exact hno p hp
  · intro p hp
    rcases List.mem_cons.mp hp with rfl | hp
    · exact .inr hr
    rcases List.mem_cons.mp hp with rfl | hp
    · exact .inr hc
    · exact back p hp
  · refine Rel.put (Rel.mono (RowIn.sub fun p hp => .tail _ (.tail _ hp)) hrel) _ ?_
    rw [e]
    obtain ⟨t1, t2, t3, t4, o, ho', hcl, n, hdt⟩ := h5.is
    have : oa = o := by have := (N _ (.head _)).1; rw [ho'] at this; exact (Option.some.inj this).symm
    subst this
    exact ⟨r, c, oa, ocd, kv, n, t1, t2, t3, t4, rfl, .head _, hcl, hdt, .tail _ (.head _), lo, hd, hC⟩
noncomputable def errT : List Stmt := errB.drop 9
theorem mem1s {k : Wk} {g h : Heap} {L : Addr} {its cts : Array Value} {n1 n2 : Nat} {t t' : Tok} {op : Obj} {R : List (Addr × Obj)} {M : Mem} {i : Nat}
    (N0 : News g L h (k.nu (listOf (its.push (.str (k.D.nm i) t)) n1) (listOf (cts.push (.int (k.D.cost i) t')) n2) op R)) (hits : StrsAre its.toList M.told) (hcts : IntsAre cts.toList M.costs) :
    StrsAre (its.push (.str (k.D.nm i) t)).toList (M1of k.D i M).told ∧ IntsAre (cts.push (.int (k.D.cost i) t')).toList (M1of k.D i M).costs :=
  ⟨by rw [Array.toList_push]; exact hits.append _ _, by rw [Array.toList_push]; exact ints_append hcts _ _⟩
end
section
theorem http_of {prog : Program} {w : World} {k : Wk} {n : Nat} (he : ErrOk prog w k n) : HttpOk prog w k n := by
  intro A s Q E i M req t ot oc op R T W hA hM hn hS hi hret
  refine absG ?_; intro PG hPG
  obtain ⟨px, pes, pn, pI, pl1, pl2⟩ := W.proc
  refine hPG ?_; clear hPG PG
  refine absG ?_; intro PG hPG
  obtain ⟨rx, res, rn, rI, rl⟩ := W.par
  refine hPG ?_; clear hPG PG
  obtain ⟨hd_, hP, hH⟩ := W.P.page i hi
  refine absG ?_; intro PG hPG
  obtain ⟨dx, es, n', t', inf, gI, g1, g2, g3, gF⟩ := hP.x
  refine hPG ?_; clear hPG PG
  have fnI : FnAt inf (k.hid R s.heap) := gF.fn
  have fnE : FnAt k.ef (k.hid R s.heap) := by obtain ⟨_, _, _, _, _, _, _, _, _, e, _⟩ := W.ef; exact ⟨_, _, _, _, e⟩
  refine wpAny_call (enterX (d := 2 * n + 11) (u := 6 * n + 103) (binds := [(Str.ofString "self", .ref k.proc), (Str.ofString "request", .str req t), (Str.ofString "response", .ref (k.pg i))]) (news := k.nu ot oc op R)
    T (hA.le (by omega) (by omega)) (of_hid _ _ (T.k _ _ (by k_is))) rfl ((codeRec_of T.k (by k_is)).keeps of_hid) rfl (locs rfl) hM.in_ ?_)
  intro h₁ A' hA' F N st
  repeat' walk1
  refine info_call (T.keeps (Fr.keep (by assumption))) (hA'.le (by omega) (by omega)) (gF.keeps (Fr.keep (by assumption))) ?_
  intro h2 tk2 st2
  have F2 := frStays F st2
  have N2 := newsStays N st2
  repeat' walk1
  · rename Fr _ _ _ _ => F5
    rename News _ _ _ _ => N5
    have e : http k.D n req i M = (i, M) := by
      rw [http_eq, if_pos]; simp only [isGood, Bool.and_eq_true, decide_eq_true_eq]; omega
    rw [e] at hret
    exact hret _ _ (Left.of F5 (fun p hp => N5 p (.tail _ hp)) hM.no (fun p hp => .inl hp) (fun p hp => hp) hM.of_)
  all_goals
    have e : http k.D n req i M = errS' k.D n req i M := by
      rw [http_eq, if_neg]; simp only [isGood, Bool.and_eq_true, decide_eq_true_eq]; omega
    rw [e] at hret
    rename Fr _ _ _ _ => F5
    rename News _ _ _ _ => N5
    have N6 : News (k.hid R s.heap) s.heap.objs.size _ (k.nu ot oc op R) := fun p hp => N5 p (.tail _ hp)
    refine he _ _ _ _ i M req _ _ _ hd_ ot oc op R ?a1 ?a2 (hA'.le (by omega) (by omega)) ?a3 hn hS hi ?a4 ?a5 ?_
    case a1 => exact T.keeps (hidIn F5 N6)
    case a2 => exact W.keeps (hidIn F5 N6)
    case a3 => exact ⟨fun p hp => (N6 p hp).1, hM.no, hM.of_⟩
    case a4 => exact hP.keeps (hidIn F5 N6)
    case a5 => exact hH.keeps (hidIn F5 N6)
    intro h7 tk7 hl
    have F7 := hl.fr F5 N6
    refine absG ?_; intro PG hPG
    obtain ⟨ot', oc', op', R', hM7, N7, hno7, hR7, hs7⟩ := hl.nws F5 N6 News.nil (fun _ h => nomatch h)
    refine hPG ?_; clear hPG PG
    have back := fun p (hp : p ∈ R') => (hR7 p hp).imp id (freshBack F5 N6 (fun p hp => hp))
    clear hl F5 N5 N6 N2 F2 N F
    repeat' walk1
    rename_i F8 N8
    exact hret _ _ (Left.of F8 N8 hno7 back hs7 hM7)
end
section
theorem err_tail {prog : Program} {w : World} {k : Wk} {A' : Around} {s s0 : Shared} {Q : Flow → Shared → Prop} {i ans : Nat} {M M2 : Mem} {req : Str} {op' : Obj} {R R' : List (Addr × Obj)} {m : Str → Option Value} {its' cts' : Array Value} {m1' m2' : Nat} {kvs' : List (Str × Value)}
  {cc cg cp cf ct c' : Addr} {tn tq tb tc : Tok}
  (T : TF w (k.hid R s.heap)) (W : WE prog w k (k.hid R s.heap)) (hA' : Rm A' 9 80) (hi : i < 5)
  (e3 : (k.hid R s.heap).IsCell cc (some (.ref k.costs))) (e6 : (k.hid R s.heap).IsCell cf (some (.ref k.prof)))
  (F0 : Fr (k.hid R s.heap) s.heap.objs.size s0.heap m) (N0 : News (k.hid R s.heap) s.heap.objs.size s0.heap (k.nu (listOf its' m1') (listOf cts' m2') op' R'))
  (hits' : StrsAre its'.toList M2.told) (hcts' : IntsAre cts'.toList M2.costs) (hkvs' : op'.IsDictOf (strKind prog w) kvs') (hrel' : Rel (RowIn prog w R') kvs' M2.prof)
  (hno8 : ∀ p ∈ R', p.1 ≠ k.told ∧ p.1 ≠ k.costs ∧ p.1 ≠ k.prof) (back : ∀ p ∈ R', p ∈ R ∨ s.heap.get? p.1 = none) (hs8 : ∀ p ∈ R, p ∈ R') (hb1 : ∀ r ∈ M2.prof, r.2.2.2.2.2.length ≤ 60) (hb2 : M2.prof.length ≤ 60)
  (k1 : m (Str.ofString "here") = some (.str (k.D.nm i) tn)) (k2 : m (Str.ofString "request") = some (.str req tq)) (k3 : m (Str.ofString "before") = some (.int M.costs.sum tb)) (k4 : m (Str.ofString "cost") = some (.int (k.D.cost i) tc))
  (k5 : m (Str.ofString "fresh") = some (.bool (!decide (k.D.nm i ∈ M.told)))) (k6 : m (Str.ofString "answer") = some (.ref (k.pg ans)))
  (hret : ∀ h' tk', Left prog w k s.heap h' R (finOf k.D req i M ans M2).2 → Q (.ret (.ref (k.pg ans))) (St s0 h' tk')) :
  wpAny (model prog w) A' (execs errT (envX errQ errS s.heap.objs.size k.ef (.ref c') [(Str.ofString "told", ct), (Str.ofString "profile", cf), (Str.ofString "processor", cp), (Str.ofString "pages", cg), (Str.ofString "costs", cc)])) Q (fun _ _ => False) s0 := by
  obtain ⟨hc0, hc1⟩ := W.cst i hi
  have eT : errT = [_, _, _, _] := rfl
  rw [eT]
  repeat' walk1
  refine sumL F0 N0 hA'.hd (listMem (n := m2') N0 (.tail _ (.head _))) hcts' ?_
  intro ts2 h9 tk9 F9 N9 st9
  repeat' walk1
  all_goals
    rename News _ _ _ _ => N11
    refine getDf (knd := strKind _ _) (dictMem N11 (.tail _ (.tail _ (.tail _ (.tail _ (.tail _ (.tail _ (.head _))))))) hkvs') W.lo (strKind_is _ _ _ _) ?_
    rcases hrel'.get (k.D.nm i) with ⟨hv, hg⟩ | ⟨v, b, hv, hg, ra, rc, oa, ocd, kvr, nr, t1, t2, t3, t4, rfl, hra, hcl, hdt, hrc, hlo, hkd, hcnt⟩
  all_goals
    rw [hv]
    repeat' walk1
    rename News _ _ _ _ => N12
    rename Fr _ _ _ _ => F12
  all_goals
    first
    | refine add_func_stats (T.keeps F12.keep) (hA'.le (by omega) (by omega)) (tup5Mem N12 (.head _)) (tup5Mem N12 (.tail _ (.tail _ (.head _)))) (dictMem N12 (.tail _ (.head _)) emptyIs) (by assumption) Cnt.nil (by decide)
        (dictMem N12 (.tail _ (.tail _ (.tail _ (.head _)))) (by assumption)) (by assumption) (Cnt.cons _ _ _ .nil) (by show (1 : Nat) ≤ 100; decide) ?_
    | refine add_func_stats (T.keeps F12.keep) (hA'.le (by omega) (by omega)) ⟨t1, t2, t3, t4, oa, (N12 _ (.tail _ (.tail _ (.tail _ (.tail _ (.tail _ (.tail _ (.tail _ hra)))))))).1, hcl, nr, hdt⟩ (tup5Mem N12 (.tail _ (.tail _ (.head _)))) (dictMem N12 (.tail _ (.tail _ (.tail _ (.tail _ (.tail _ (.tail _ (.tail _ hrc))))))) hkd) hlo hcnt (by have h60 : b.2.2.2.2.length ≤ 60 := hb1 _ (mem_getB hg); have := hcnt.len; omega)
        (dictMem N12 (.tail _ (.tail _ (.tail _ (.head _)))) (by assumption)) (by assumption) (Cnt.cons _ _ _ .nil) (by show (1 : Nat) ≤ 100; decide) ?_
    intro r c or kr h13 tk13 hr0 st13 h5 hc0 hlo13 hc13 hd13 hC13
    refine absG ?_; intro PG hPG
    obtain ⟨u1, u2, u3, u4, orr, hor, hrest⟩ := id h5.is
    refine hPG ?_; clear hPG PG
    have F13 := frStays F12 st13
    have N13 := newsAdd F12 (newsAdd F12 (newsStays N12 st13) hc0 hc13) hr0 hor
    have hrF := freshBack F12 (ot := listOf its' m1') (oc := listOf cts' m2') (op := op') (fun p hp => N12 p (.tail _ (.tail _ (.tail _ (.tail _ hp))))) hs8 hr0
    have hcF := freshBack F12 (ot := listOf its' m1') (oc := listOf cts' m2') (op := op') (fun p hp => N12 p (.tail _ (.tail _ (.tail _ (.tail _ hp))))) hs8 hc0
    have hne : ∀ {x : Addr}, (∀ p ∈ k.nu (listOf its' m1') (listOf cts' m2') op' R', p.1 ≠ x) → x ≠ k.told ∧ x ≠ k.costs ∧ x ≠ k.prof := fun h => ⟨(h _ (.head _)).symm, (h _ (.tail _ (.head _))).symm, (h _ (.tail _ (.tail _ (.head _)))).symm⟩
    have r1 := hne fun p hp => fresh_ne N12 hr0 p (.tail _ (.tail _ (.tail _ (.tail _ hp))))
    have c1 := hne fun p hp => fresh_ne N12 hc0 p (.tail _ (.tail _ (.tail _ (.tail _ hp))))
    have N14 : News (k.hid R s.heap) s.heap.objs.size h13 ([(r, orr), (c, or), (k.told, listOf its' m1'), (k.costs, listOf cts' m2')] ++ (k.prof, op') :: R') := fun p hp => N13 p (by
      simp only [List.mem_append, List.mem_cons, List.not_mem_nil, or_false] at hp ⊢
      grind)
    clear N13 N12 F12
    repeat' walk1
    refine setN (knd := strKind _ _) (own := [(r, orr), (c, or), (k.told, listOf its' m1'), (k.costs, listOf cts' m2')]) (rest := R') (by assumption) (by assumption) hkvs' (strKind_is _ _ _ _) ?_ (fun p hp => (hno8 p hp).2.2) ?_ (by have := hrel'.len; rw [sizeLine]; omega)
    · intro p hp
      simp only [List.mem_cons, List.not_mem_nil, or_false] at hp
      rcases hp with rfl | rfl | rfl | rfl
      · exact r1.2.2
      · exact c1.2.2
      · exact W.n2
      · exact W.n3
    intro h15 op2 F15 N15 hkv15
    repeat' walk1
    refine hret _ _ (errEnd (ot := listOf its' m1') (oc := listOf cts' m2') (op := op2) (oa := orr) (ocd := or) F15 ?_ hno8 back hs8 hrF hcF r1 c1 ⟨_, _, rfl, hits'⟩ ⟨_, _, rfl, hcts'⟩ hkv15 hrel' ⟨u1, u2, u3, u4, orr, (N15 _ (.head _)).1, hrest⟩ hlo13 hd13 hC13 ?_)
    · intro p hp
      refine N15 p ?_
      simp only [List.mem_append, List.mem_cons, List.not_mem_nil, or_false] at hp ⊢
      grind
    · unfold entryOf addRow
      first
      | rw [if_pos (by assumption)]
      | rw [if_neg (by assumption)]
      rw [hg]
      rfl
end
section
theorem err_of {prog : Program} {w : World} {k : Wk} {n : Nat} (hh : ∀ n', n = n' + 1 → HttpOk prog w k n') : ErrOk prog w k n := by
  intro A s Q E i M req t t' u hd_ ot oc op R T W hA hM hn hS hi hP hH hret
  refine absG ?_; intro PG hPG
  obtain ⟨dx, es, n', tc, inf, gI, g1, g2, g3, gF⟩ := hP.x
  refine hPG ?_; clear hPG PG
  refine absG ?_; intro PG hPG
  obtain ⟨px, pes, pn, pI, pl1, pl2⟩ := W.proc
  refine hPG ?_; clear hPG PG
  refine absG ?_; intro PG hPG
  obtain ⟨doc, pm, c', ctv, cc, cg, cp, cf, ct, e1, e2, e3, e4, e5, e6, e7⟩ := W.ef
  refine hPG ?_; clear hPG PG
  obtain ⟨pkv, hpk, hpv⟩ := W.P.pages
  obtain ⟨hc0, hc1⟩ := W.cst i hi
  have hpf := hpv _ (W.far i hi)
  refine absG ?_; intro PG hPG
  obtain ⟨hkv, th, uh, hhd, hto, hcost⟩ := hH.x
  refine hPG ?_; clear hPG PG
  refine absG ?_; intro PG hPG
  obtain ⟨its, n1, rfl, hits⟩ := hM.of_.told
  refine hPG ?_; clear hPG PG
  refine absG ?_; intro PG hPG
  obtain ⟨cts, n2, rfl, hcts⟩ := hM.of_.costs
  refine hPG ?_; clear hPG PG
  obtain ⟨kvs, hkvs, hrel⟩ := hM.of_.prof
  refine wpAny_call (enterX (d := 2 * n + 10) (u := 6 * n + 100) (binds := [(Str.ofString "proto", .str (Str.ofString "http") t), (Str.ofString "request", .str req t'), (Str.ofString "page", .ref (k.pg i)), (Str.ofString "code", .int (k.D.code i) u), (Str.ofString "msg", .ref (k.fn i)), (Str.ofString "heads", .ref hd_)]) (news := k.nu _ _ op R)
    T (hA.le (by omega) (by omega)) (of_hid _ _ e1) rfl (e2.keeps of_hid) rfl (locs rfl) hM.in_ ?_)
  intro h₁ A' hA' F N st
  have eB : errB = [_, _, _, _, _, _, _, _, _, _, _, _, _] := rfl
  rw [eB]
  repeat' walk1
  · rename_i hne; exact absurd rfl hne
  refine fss_any (T.keeps (Fr.keep (by assumption))) (hA'.le (by omega) (by omega)) ((W.P.func i hi).keeps (Fr.keep (by assumption))) ?_
  intro tn h2 tk2 st2 _
  have F2 := frStays F st2
  have N2 := newsStays N st2
  clear F N
  repeat' walk1
  refine notInL (listMem (n := n1) (‹News _ _ _ (k.nu _ _ _ R)›) (.head _)) hits ?_
  repeat' walk1
  refine sumL ‹_› (‹News _ _ _ (k.nu _ _ _ R)›) hA'.hd (listMem (n := n2) (‹News _ _ _ (k.nu _ _ _ R)›) (.tail _ (.head _))) hcts ?_
  intro ts h3 tk3 F3 N3 st3
  repeat' walk1
  have hno1 : ∀ (a b : Obj), ∀ p ∈ (k.costs, a) :: (k.prof, b) :: R, p.1 ≠ k.told := by
    intro a b p hp
    rcases List.mem_cons.mp hp with rfl | hp
    · exact W.n1.symm
    rcases List.mem_cons.mp hp with rfl | hp
    · exact W.n2.symm
    · exact (hM.no p hp).1
  have hno2 : ∀ (b : Obj), ∀ p ∈ (k.prof, b) :: R, p.1 ≠ k.costs := by
    intro b p hp
    rcases List.mem_cons.mp hp with rfl | hp
    · exact W.n3.symm
    · exact (hM.no p hp).2.1
  have hsz1 : its.size = M.told.length := by have := hits.len; simpa using this
  have hsz2 : cts.size = M.told.length := by have := hcts.length; rw [hS.costs] at this; simpa using this
  refine appendN (n := n1) (own := []) ‹_› (‹News _ _ _ (k.nu _ _ _ R)›) (fun _ h => nomatch h) (hno1 _ _) (by rw [hsz1, sizeLine]; omega) ?_
  intro h4 F4 N4
  repeat' walk1
  rename Fr _ _ _ _ => F4
  rename News _ _ _ _ => N4
  refine appendN (n := n2) (own := [(k.told, _)]) F4 N4 (fun p hp => by cases hp with | head => exact W.n1 | tail _ h => cases h) (hno2 _) (by rw [hsz2, sizeLine]; omega) ?_
  intro h5 F5 N5
  repeat' walk1
  rename News _ _ _ _ => N5
  have hz : (its.push (Value.str (k.D.nm i) tn)).size = M.told.length + 1 := by rw [Array.size_push, hsz1]
  refine lenL (its := its.push (.str (k.D.nm i) tn)) (listMem (n := n1 + 1) N5 (.head _)) (by rw [Array.size_push, hsz1]; omega) ?_
  repeat' ((fail_if_success (with_reducible show wpAny _ _ (execs [_, _, _, _] _) _ _ _)); walk1)
  all_goals
    rename Fr _ _ _ _ => F6
    rename News _ _ _ _ => N6
    have N7 : News (k.hid R s.heap) s.heap.objs.size _ (k.nu _ _ op R) := N6
    clear N6 N5 F4 F3
  · obtain ⟨n', rfl⟩ : ∃ n', n = n' + 1 := ⟨n - 1, by omega⟩
    have hM1 := mem1 N7 hM.no hits hcts hkvs hrel
    refine hh n' rfl _ _ _ _ (k.D.far i) (M1of k.D i M) (k.D.nm i) _ _ _ op R ?a1 ?a2 (hA'.le (by omega) (by omega)) hM1 ?a4 ?a5 (W.far i hi) ?_
    case a1 => exact T.keeps (hidIn F6 N7)
    case a2 => exact W.keeps (hidIn F6 N7)
    case a4 => simp [M1of]; omega
    case a5 => exact ⟨by simp [M1of, hS.costs], hS.rows, hS.prof⟩
    intro h8 tk8 hl
    have F8 := hl.fr F6 N7
    refine absG ?_; intro PG hPG
    obtain ⟨ot', oc', op', R', hM8, N8, hno8, hR8, hs8⟩ := hl.nws F6 N7 News.nil (fun _ h => nomatch h)
    refine hPG ?_; clear hPG PG
    have back := fun p (hp : p ∈ R') => (hR8 p hp).imp id (freshBack F6 N7 (fun p hp => hp))
    have hbd := http_bd k.D n' (k.D.nm i) (k.D.far i) (M1of k.D i M) 50 50 ⟨hS.rows, hS.prof⟩
    have hE := errS_succ k.D n' req i M
    generalize hr2 : http k.D n' (k.D.nm i) (k.D.far i) (M1of k.D i M) = r2 at hM8 hE hbd ⊢
    obtain ⟨ans, M2⟩ := r2
    dsimp only at hM8 hE hbd
    refine absG ?_; intro PG hPG
    obtain ⟨its', m1', rfl, hits'⟩ := hM8.told
    refine hPG ?_; clear hPG PG
    refine absG ?_; intro PG hPG
    obtain ⟨cts', m2', rfl, hcts'⟩ := hM8.costs
    refine hPG ?_; clear hPG PG
    obtain ⟨kvs', hkvs', hrel'⟩ := hM8.prof
    have hb1 : ∀ r ∈ M2.prof, r.2.2.2.2.2.length ≤ 60 := fun r hr => Nat.le_trans (hbd.1 r hr) (by omega)
    have hb2 : M2.prof.length ≤ 60 := Nat.le_trans hbd.2 (by omega)
    have N9 : News (k.hid R s.heap) s.heap.objs.size _ (k.nu _ _ op' R') := N8
    clear F6 N7 N8 hl hM8 hR8 hr2
    repeat' ((fail_if_success (with_reducible show wpAny _ _ (execs [_, _, _, _] _) _ _ _)); walk1)
    refine err_tail (k := k) (i := i) (ans := ans) (M := M) (M2 := M2) (req := req) (R' := R') T W (hA'.le (by omega) (by omega)) hi e3 e6 (by assumption) (by assumption) hits' hcts' hkvs' hrel' hno8 back hs8 hb1 hb2 (by rfl) (by rfl) (by rfl) (by rfl) (by rfl) (by rfl) ?_
    rw [hE] at hret
    exact hret
  · obtain rfl : n = 0 := by omega
    have hM1 := mem1s N7 hits hcts
    rw [errS_zero] at hret
    refine err_tail (k := k) (i := i) (ans := i) (M := M) (M2 := M1of k.D i M) (req := req) (R' := R) T W (hA'.le (by omega) (by omega)) hi e3 e6 F6 N7 hM1.1 hM1.2 hkvs hrel hM.no (fun p hp => .inl hp) (fun p hp => hp) (fun r hr => Nat.le_trans (hS.rows r hr) (by decide)) (Nat.le_trans hS.prof (by decide)) (by rfl) (by rfl) (by rfl) (by rfl) (by rfl) (by rfl) ?_
    exact hret
theorem http_all {prog : Program} {w : World} {k : Wk} : ∀ n, ErrOk prog w k n
  | 0 => err_of fun n' h => by omega
  | n + 1 => err_of fun n' h => by obtain rfl : n = n' := by omega
                                   exact http_of (http_all n)
theorem http_ok {prog : Program} {w : World} {k : Wk} (n : Nat) : HttpOk prog w k n := http_of (http_all n)
end
section
theorem http_list {prog : Program} {w : World} {A : Around} {s : Shared} {Q E : Value → Shared → Prop} {X : Str} {t : Tok} (T : TF w s.heap) (hA : Rm A 5 60) (hX : X.length ≤ 200)
  (hret : ∀ r its h' tk', s.heap.StaysIn h' → s.heap.get? r = none → h'.IsList r its → StrsAre its.toList ((phRes X.cps.toList).map PySem.Txt.strip) → Q (.ref r) (St s h' tk')) :
  wpAny (model prog w) A (call (.ref 80) [.str X t]) Q E s := by
  refine wpAny_call (enter (d := 4) (u := 57) (binds := [(Str.ofString "s", .str X t)]) T hA (by k_is) rfl (by k_is) rfl (locs rfl) ?_)
  intro h₁ A' hA' F N
  repeat' walk1
  rename_i a0 h0 F0 N0 hn0 lo0 st0 h1 F1 N1 h2 F2 N2 h3 F3 N3 h4 F4 N4
  have hf0 : s.heap.get? a0 = none := (N4 _ (.head _)).2.2
  refine it_str (fun i m nx => ∃ its n tp, nx = [(a0, listOf its n)] ∧ StrsAre its.toList (phRun (X.cps.toList.take i)).res ∧ (phRun (X.cps.toList.take i)).res.length ≤ i ∧ (∀ y ∈ (phRun (X.cps.toList.take i)).res, y.length ≤ i) ∧ (phRun (X.cps.toList.take i)).part.length ≤ i ∧ m (Str.ofString "part") = some (.str (phRun (X.cps.toList.take i)).part tp) ∧
      m (Str.ofString "escape") = some (.bool (phRun (X.cps.toList.take i)).esc) ∧ m (Str.ofString "quote") = some (.bool (phRun (X.cps.toList.take i)).quo) ∧ m (Str.ofString "res") = some (.ref a0)) hA'.hd F4 N4 (by rw [phRun_zero]; exact ⟨#[], 0, _, rfl, .nil, Nat.le_refl _, (fun _ h => nomatch h), Nat.le_refl _, rfl, rfl, rfl, rfl⟩) ?_ ?_
  · intro i c u m₁ news₁ h tk own hc ha ho hXG F5 N5
    refine absG ?_; intro PG hPG
    obtain ⟨its, n, tp, rfl, hL, hlen, hres, hpl, k1, k2, k3, k4⟩ := hXG
    refine hPG ?_; clear hPG PG
    have hnext : phRun (X.cps.toList.take (i + 1)) = phStep (phRun (X.cps.toList.take i)) c := phRun_next (by simpa using hc)
    rw [hnext]
    have hi : i < 200 := by
      have := (Array.getElem?_eq_some_iff.mp hc).1
      have h2 : X.cps.size = X.length := rfl
      omega
    have hs1 : (Str.mk #[c]).length = 1 := rfl
    have hpl' := phStep_len (phRun (X.cps.toList.take i)) c
    generalize phRun (X.cps.toList.take i) = st at hL hlen hres hpl hpl' k1 k2 k3 k4 ⊢
    refine absG ?_; intro PG hPG
    obtain ⟨P, e, q, L⟩ := st
    refine hPG ?_; clear hPG PG
    dsimp only at hL hlen hres hpl k1 k2 k3 k4
    have hown := ho.ne (.head _)
    have hlL : its.size = L.length := by have := hL.len; simpa using this
    cases e with
    | true =>
      rw [ph_esc] at hpl' ⊢
      repeat' walk1
      · rename Fr _ _ _ _ => Fz
        rename News _ _ _ _ => Nz
        exact invEnd Fz Nz (nx := [(a0, listOf its (n))]) (fun p hp => List.mem_append_left _ hp) (fun p hp => List.mem_append_right _ hp) rfl ⟨_, _, _, rfl, hL, Nat.le_succ_of_le hlen, (fun y hy => Nat.le_succ_of_le (hres y hy)), Nat.le_trans hpl' (Nat.succ_le_succ hpl), rfl, rfl, k3, k4⟩
    | false =>
      cases q with
      | true =>
        by_cases c1 : c = 92
        · subst c1
          rw [ph_q92] at hpl' ⊢
          repeat' walk1
          all_goals first | (exfalso; exact absurd (by decide +kernel) (by assumption)) | skip
          rename Fr _ _ _ _ => Fz
          rename News _ _ _ _ => Nz
          exact invEnd Fz Nz (nx := [(a0, listOf its (n))]) (fun p hp => List.mem_append_left _ hp) (fun p hp => List.mem_append_right _ hp) rfl ⟨_, _, _, rfl, hL, Nat.le_succ_of_le hlen, (fun y hy => Nat.le_succ_of_le (hres y hy)), Nat.le_trans hpl' (Nat.succ_le_succ hpl), k1, rfl, k3, k4⟩
        by_cases c2 : c = 34
        · subst c2
          have d3 : Str.mk #[34] ≠ Str.ofString "\\" := by decide +kernel
          rw [ph_q34] at hpl' ⊢
          repeat' walk1
          all_goals first | (exfalso; exact d3 (by assumption)) | (exfalso; exact absurd (by decide +kernel) (by assumption)) | skip
          rename Fr _ _ _ _ => Fz
          rename News _ _ _ _ => Nz
          exact invEnd Fz Nz (nx := [(a0, listOf its (n))]) (fun p hp => List.mem_append_left _ hp) (fun p hp => List.mem_append_right _ hp) rfl ⟨_, _, _, rfl, hL, Nat.le_succ_of_le hlen, (fun y hy => Nat.le_succ_of_le (hres y hy)), Nat.le_trans hpl' (Nat.succ_le_succ hpl), rfl, k2, rfl, k4⟩
        have d1 : Str.mk #[c] ≠ Str.ofString "\\" := by rw [show Str.ofString "\\" = Str.mk #[92] from by decide +kernel]; exact sgn_ne c1
        have d2 : Str.mk #[c] ≠ Str.ofString "\"" := by rw [show Str.ofString "\"" = Str.mk #[34] from by decide +kernel]; exact sgn_ne c2
        rw [ph_q _ _ _ c1 c2] at hpl' ⊢
        repeat' walk1
        all_goals first | (exfalso; exact d1 (by assumption)) | (exfalso; exact d2 (by assumption)) | skip
        rename Fr _ _ _ _ => Fz
        rename News _ _ _ _ => Nz
        exact invEnd Fz Nz (nx := [(a0, listOf its (n))]) (fun p hp => List.mem_append_left _ hp) (fun p hp => List.mem_append_right _ hp) rfl ⟨_, _, _, rfl, hL, Nat.le_succ_of_le hlen, (fun y hy => Nat.le_succ_of_le (hres y hy)), Nat.le_trans hpl' (Nat.succ_le_succ hpl), rfl, k2, k3, k4⟩
      | false =>
        by_cases c1 : c = 44
        · subst c1
          rw [ph_44] at hpl' ⊢
          repeat' walk1
          rename Fr _ _ _ _ => Fz
          rename News _ _ _ _ => Nz
          exact invEnd Fz Nz (nx := [(a0, listOf (its.push (.str P tp)) (n + 1))]) (fun p hp => by cases hp with | head => exact .head _ | tail _ hp => cases hp) (fun p hp => .tail _ hp) rfl ⟨_, _, _, rfl, by rw [Array.toList_push]; exact hL.append _ _, by rw [List.length_append]; exact Nat.succ_le_succ hlen, (fun y hy => by rcases List.mem_append.mp hy with hy | hy; exact Nat.le_succ_of_le (hres y hy); rw [List.mem_singleton.mp hy]; exact Nat.le_succ_of_le hpl), Nat.zero_le _, rfl, k2, k3, k4⟩
        by_cases c2 : c = 34
        · subst c2
          have d3 : Str.mk #[34] ≠ Str.ofString "," := by decide +kernel
          rw [ph_34] at hpl' ⊢
          repeat' walk1
          all_goals first | (exfalso; exact d3 (by assumption)) | (exfalso; exact absurd (by decide +kernel) (by assumption)) | skip
          rename Fr _ _ _ _ => Fz
          rename News _ _ _ _ => Nz
          exact invEnd Fz Nz (nx := [(a0, listOf its (n))]) (fun p hp => List.mem_append_left _ hp) (fun p hp => List.mem_append_right _ hp) rfl ⟨_, _, _, rfl, hL, Nat.le_succ_of_le hlen, (fun y hy => Nat.le_succ_of_le (hres y hy)), Nat.le_trans hpl' (Nat.succ_le_succ hpl), rfl, k2, rfl, k4⟩
        have d1 : Str.mk #[c] ≠ Str.ofString "," := by rw [show Str.ofString "," = Str.mk #[44] from by decide +kernel]; exact sgn_ne c1
        have d2 : Str.mk #[c] ≠ Str.ofString "\"" := by rw [show Str.ofString "\"" = Str.mk #[34] from by decide +kernel]; exact sgn_ne c2
        rw [ph_ _ _ _ c1 c2] at hpl' ⊢
        repeat' walk1
        all_goals first | (exfalso; exact d1 (by assumption)) | (exfalso; exact d2 (by assumption)) | skip
        rename Fr _ _ _ _ => Fz
        rename News _ _ _ _ => Nz
        exact invEnd Fz Nz (nx := [(a0, listOf its (n))]) (fun p hp => List.mem_append_left _ hp) (fun p hp => List.mem_append_right _ hp) rfl ⟨_, _, _, rfl, hL, Nat.le_succ_of_le hlen, (fun y hy => Nat.le_succ_of_le (hres y hy)), Nat.le_trans hpl' (Nat.succ_le_succ hpl), rfl, k2, k3, k4⟩
  · intro m₁ news₁ h tk hXG F5 N5
    refine absG ?_; intro PG hPG
    obtain ⟨its, n, tp, rfl, hL, hlen, hres, hpl, k1, k2, k3, k4⟩ := hXG
    refine hPG ?_; clear hPG PG
    have e : X.cps.toList.take X.cps.size = X.cps.toList := List.take_of_length_le (by simp)
    rw [e] at hL hlen hres hpl k1 k2 k3
    have hxs : X.cps.size ≤ 200 := hX
    have hown : ∀ p ∈ ([] : List (Addr × Obj)), p.1 ≠ a0 := fun _ h => nomatch h
    have hlL : its.size = (phRun X.cps.toList).res.length := by have := hL.len; simpa using this
    repeat' walk1
    all_goals
      rename Fr _ _ _ _ => Fz
      rename News _ _ _ _ => Nz
    · have hL' : StrsAre (its.push (Value.str (phRun X.cps.toList).part tp)).toList (phRes X.cps.toList) := by
        rw [phRes_some (by assumption), Array.toList_push]; exact hL.append _ _
      refine comp_list hA'.hd Fz Nz (listMem (n := n + 1) Nz (.head _)) (by rw [Array.size_push]; rw [sizeLine]; omega) (fun v y => ∃ x t u, v = .str x t ∧ y = .str (PySem.Txt.strip x) u) ?_ ?_
      · intro C i v s₃ m₃ hv F7 hm
        refine absG ?_; intro PG hPG
        obtain ⟨x, tx, rfl, hx⟩ := hL'.at i v (by rw [Array.getElem?_toList]; exact hv)
        refine hPG ?_; clear hPG PG
        have hxl : x.length ≤ sizeLine := by
          have h1 := List.mem_of_getElem? hx
          rw [phRes_some (by assumption)] at h1
          rw [sizeLine]
          rcases List.mem_append.mp h1 with h1 | h1
          · have := hres x h1; omega
          · rw [List.mem_singleton.mp h1]; omega
        repeat' walk1
      · intro D ys nD h' tk F8 N8 st8 hD hp
        exact hret D ys _ _ F8.keep (N8 _ (.head _)).2.2 (listMem N8 (.head _)) (paired_strs hL' hp)
    · have hL' : StrsAre its.toList (phRes X.cps.toList) := by
        rw [phRes_none (by omega)]; exact hL
      refine comp_list hA'.hd Fz Nz (listMem (n := n) Nz (.head _)) (by rw [sizeLine]; omega) (fun v y => ∃ x t u, v = .str x t ∧ y = .str (PySem.Txt.strip x) u) ?_ ?_
      · intro C i v s₃ m₃ hv F7 hm
        refine absG ?_; intro PG hPG
        obtain ⟨x, tx, rfl, hx⟩ := hL'.at i v (by rw [Array.getElem?_toList]; exact hv)
        refine hPG ?_; clear hPG PG
        have hxl : x.length ≤ sizeLine := by
          have h1 := List.mem_of_getElem? hx
          rw [phRes_none (by omega)] at h1
          rw [sizeLine]
          have := hres x h1; omega
        repeat' walk1
      · intro D ys nD h' tk F8 N8 st8 hD hp
        exact hret D ys _ _ F8.keep (N8 _ (.head _)).2.2 (listMem N8 (.head _)) (paired_strs hL' hp)
end
section
theorem keqv {prog : Program} {w : World} {A : Around} {s : Shared} {Q E : Value → Shared → Prop} {l : Addr} {its : Array Value} {ys : List Str} {ps : List (Str × Str)} (T : TF w s.heap) (hA : Rm A 5 60)
  (hl : s.heap.IsList l its) (hys : StrsAre its.toList ys) (hlen : ys.length ≤ 100) (hk : ∀ (i : Nat) y, ys[i]? = some y → y.length ≤ 1000 ∧ ∃ a b c, KV y a b c ∧ ps[i]? = some (a, c)) (hps : ps.length = ys.length)
  (hret : ∀ r o kv h' tk', s.heap.StaysIn h' → s.heap.get? r = none → (r == sysModules) = false → h'.get? r = some o → o.IsDictOf (strKind prog w) kv → Rel StrIs kv (ps.foldl (fun d p => putB d p.1 p.2) []) → Q (.ref r) (St s h' tk')) :
  wpAny (model prog w) A (call (.ref 75) [.ref l]) Q E s := by
  refine wpAny_call (enter (d := 4) (u := 57) (binds := [(Str.ofString "l", .ref l)]) T hA (by k_is) rfl (by k_is) rfl (locs rfl) ?_)
  intro h₁ A' hA' F N
  repeat' walk1
  rename_i a0 h0 F0 N0 hn0 lo0 st0 h1 F1 N1
  have hf0 : s.heap.get? a0 = none := (N1 _ (.head _)).2.2
  obtain ⟨vs, rfl⟩ : ∃ vs : List Value, its = vs.toArray := ⟨its.toList, by simp⟩
  refine it_list (fun i m nx => ∃ o kv, nx = [(a0, o)] ∧ o.IsDictOf (strKind prog w) kv ∧ Rel StrIs kv ((ps.take i).foldl (fun d p => putB d p.1 p.2) []) ∧ kv.length ≤ i ∧ m (Str.ofString "parsed") = some (.ref a0)) hA'.hd hl F1 N1 ⟨_, [], rfl, emptyIs, .nil, Nat.le_refl _, rfl⟩ ?_ ?_
  · intro i v m₁ news₁ h tk own hv ha ho hXG F3 N3
    refine absG ?_; intro PG hPG
    obtain ⟨o, kv, rfl, hO, hR, hkl, hm1⟩ := hXG
    refine hPG ?_; clear hPG PG
    refine absG ?_; intro PG hPG
    obtain ⟨y, ty, rfl, hy⟩ := hys.at i v (by simpa using hv)
    refine hPG ?_; clear hPG PG
    refine absG ?_; intro PG hPG
    obtain ⟨hyl, a, b, c, hKV, hpi⟩ := hk i y hy
    refine hPG ?_; clear hPG PG
    have hil : i < 100 := by
      have := (List.getElem?_eq_some_iff.mp hy).1
      omega
    have hb1 := hKV.pos
    have hb2 := hKV.len
    repeat' walk1
    all_goals
      rename Fr _ _ _ _ => Fz
      rename News _ _ _ _ => Nz
      have hc := hKV.val
      first
      | rw [if_pos ⟨by assumption, by assumption⟩] at hc
      | rw [if_neg (fun q => Bool.noConfusion (q.1.symm.trans (by assumption)))] at hc
      | rw [if_neg (fun q => Bool.noConfusion (q.2.symm.trans (by assumption)))] at hc
      have N5 : News s.heap s.heap.objs.size _ ((a0, o) :: own) := fun p hp => Nz p (.tail _ hp)
      refine setN0 (knd := strKind _ _) (rest := own) Fz N5 hO (strKind_is _ _ _ _) (ho.ne (.head _)) ?_ (by simp only [sizeLine]; omega)
      intro h' o' F' N' hO'
      clear Fz Nz N5
      repeat' walk1
      refine invEnd F' N' (nx := [(a0, o')]) (fun p hp => by cases hp with | head => exact .head _ | tail _ hp => cases hp) (fun p hp => .tail _ hp) rfl ⟨o', _, rfl, hO', ?_, Nat.le_trans (stored_len _ _ _) (Nat.succ_le_succ hkl), hm1⟩
      rw [List.take_add_one, hpi, Option.toList_some, List.foldl_append]
      exact hR.put _ ⟨_, by first | rfl | (rw [hc])⟩
  · intro m₁ news₁ h tk hXG F3 N3
    refine absG ?_; intro PG hPG
    obtain ⟨o, kv, rfl, hO, hR, hkl, hm1⟩ := hXG
    refine hPG ?_; clear hPG PG
    rw [List.take_of_length_le (by have := hys.len; simp at this; omega)] at hR
    repeat' walk1
    exact hret a0 o kv _ _ F3.keep hf0 lo0 (N3 _ (.head _)).1 hO hR
end
section
noncomputable def KeepsBut (C : Addr) (s s' : Shared) : Prop := ∃ h' tk' m', s' = { s with heap := h', toks := tk' } ∧ h'.Ns C m' ∧ ∀ b o, b ≠ C → s.heap.get? b = some o → h'.get? b = some o
section
variable {prog : Program} {w : World} {A : Around} {E : Value → Shared → Prop} {s : Shared} {env : Env} {h₀ : Heap} {L : Addr} {m : Str → Option Value} {news : List (Addr × Obj)} {scope : Scope} {cl : List (Str × Addr)} {C : Addr} {target elt iter : Expr} {pos : Pos} {Q : Value → Shared → Prop}
/-- the comprehension's loop, any target -/
theorem comp_turns {s₂ : Shared} {I : Addr} {fp wr : List Addr} {n : Nat} {P Md : Nat → Value → Heap → Prop} {St' : Nat → Heap → Prop} {G : Nat → Value → Prop} {RR : Value → Addr → Result → Shared → Prop} (W : KTurns prog w A target I fp wr n P Md St')
    (hself : ∀ (s : Shared) (Q : Value → Shared → Prop) (E : Value → Shared → Prop), St' 0 s.heap → Q (.ref I) s → wpAny (model prog w) A (pyIter (.ref I)) Q E s) (hsz : n ≤ sizeLine) (hst : St' 0 s₂.heap) (hfp : ∀ b ∈ fp, b < s₂.heap.objs.size)
    (hcell : ∀ y ∈ scope.names, y.2 ≠ .cell) (hkind : scope.kind = .function)
    (turn : ∀ C i v (s₃ : Shared) m₃, i < n → s₂.heap.objs.size ≤ C → P i v s₃.heap → s₃.heap.Ns C m₃ → (∀ b o, b ∉ wr → s₂.heap.get? b = some o → s₃.heap.get? b = some o) →
      wpAny (model prog w) A (assign target (compEnvC scope cl C env) v) (fun _ s₄ => wpAny (model prog w) A (eval elt (compEnvC scope cl C env)) (fun y s₅ => G i y ∧ KeepsBut C s₃ s₅) (fun _ _ => False) s₄) (fun _ _ => False) s₃)
    (hRR : ∀ D C h' tk m' ys, s₂.heap.get? D = none → s₂.heap.get? C = none → D ≠ C → h'.Ns C m' → h'.PlainList D ys → ys.size = n → (∀ i y, ys[i]? = some y → G i y) →
      (∀ b o, b ∉ wr → s₂.heap.get? b = some o → h'.get? b = some o) → RR (.ref D) C (.ok .next) { s₂ with heap := h', toks := tk }) :
    wpAny (model prog w) A (newList []) (fun acc s₃ => wpAny (model prog w) A (newFunctionEnv scope env.globals cl [] env.qual none .none (some env)) (fun cenv s₄ =>
      codeAny (model prog w) A (.compStart (.ListComp elt [⟨target, iter, [], 0⟩] scope pos) 0 (.ref I) acc { cenv with scope := relabel scope env }) (RR acc cenv.locals) s₄) E s₃) E s₂ := by
  refine wpAny_newObj_type (wpAny_newFunctionEnv hcell (by intro y hy; simp at hy) (fun h₁ hns₁ hsb₁ => ?_) hkind)
  dsimp only at hns₁ hsb₁ ⊢
  generalize hH2 : s₂.heap.push { cls := .type "list", dict := none, data := .seq ([] : List Value).toArray } = H2 at hns₁ hsb₁ ⊢
  have hC : H2.objs.size = s₂.heap.objs.size + 1 := by rw [← hH2, Heap.size_push]
  have hDC : s₂.heap.objs.size ≠ H2.objs.size := by rw [hC]; exact Nat.ne_of_lt (Nat.lt_succ_self _)
  have hCle : s₂.heap.objs.size ≤ H2.objs.size := by rw [hC]; exact Nat.le_succ _
  have below : ∀ b, b < s₂.heap.objs.size → b ≠ H2.objs.size ∧ b ≠ s₂.heap.objs.size := fun b hb => ⟨by rw [hC]; exact Nat.ne_of_lt (Nat.lt_succ_of_lt hb), Nat.ne_of_lt hb⟩
  have hDf : s₂.heap.objs.size ∉ fp := fun hm => Nat.lt_irrefl _ (hfp _ hm)
  have hCf : H2.objs.size ∉ fp := fun hm => by have := hfp _ hm; rw [hC] at this; exact Nat.lt_irrefl _ (Nat.lt_of_succ_lt this)
  have hDw : s₂.heap.objs.size ∉ wr := fun h => hDf (W.sub _ h)
  have hCw : H2.objs.size ∉ wr := fun h => hCf (W.sub _ h)
  have old : ∀ b o, s₂.heap.get? b = some o → h₁.get? b = some o := fun b o e => hsb₁.extBut b o (below b (Heap.lt_size e)).1 (Heap.get?_push_of_some _ (hH2 ▸ Heap.get?_push_of_some _ e))
  have hacc : h₁.PlainList s₂.heap.objs.size #[] := ⟨_, hsb₁.extBut _ _ hDC (Heap.get?_push_of_some _ (hH2 ▸ Heap.get?_push_size _ rfl))⟩
  have hst₁ : St' 0 h₁ := W.frame _ _ _ hst fun b _ o e => old b o e
  have fresh : ∀ a, s₂.heap.objs.size ≤ a → s₂.heap.get? a = none := fun a ha => Heap.get?_none_of_le ha
  have never : ∀ {α : Type} {env' : Env} {R : Result → Shared → Prop} {t : Sem α} {Q : α → Shared → Prop} {s' : Shared}, wpAny (model prog w) A t Q (fun _ _ => False) s' → wpAny (model prog w) A t Q (notedBy (model prog w) A env' fun e s' => R (.error e) s') s' :=
    fun h => wpAny_mono h (fun _ _ x => x) fun _ _ x => x.elim
  have loop : ∀ s₃ : Shared, s₃ = { s₂ with heap := h₁, toks := s₂.toks + ([] : List (Str × Value)).length } →
      codeAny (model prog w) A (.compLoop (.ListComp elt [⟨target, iter, [], 0⟩] scope pos) 0 (.ref I) (.ref s₂.heap.objs.size) (compEnvC scope cl H2.objs.size env))
        (RR (.ref s₂.heap.objs.size) H2.objs.size) s₃ := by
    rintro s₃ rfl
    refine kcp_loop
      (fun k s' => ∃ h' tk m' ys, s' = { s₂ with heap := h', toks := tk } ∧ ys.size ≤ n ∧ k = n + 1 - ys.size ∧ St' ys.size h' ∧ h'.Ns H2.objs.size m' ∧ h'.PlainList s₂.heap.objs.size ys ∧ (∀ i y, ys[i]? = some y → G i y) ∧ (∀ b o, b ∉ wr → s₂.heap.get? b = some o → h'.get? b = some o)) ?_ (n + 1)
      ⟨h₁, _, _, #[], rfl, Nat.zero_le _, rfl, hst₁, hns₁, hacc, fun i y e => by simp at e, fun b o _ e => old b o e⟩
    rintro k s' ⟨h', tk, m', ys, rfl, hle, rfl, hst', hn', hp', hG, hk'⟩
    by_cases hlt : ys.size < n
    · refine W.item ys.size _ _ _ hlt hst' fun v h₂ tk₂ hMd hk₂ => ?_
      refine W.go ys.size v _ _ _ hMd fun h₃ hP hst₃ hk₃ => ?_
      have up₃ : ∀ c o, c ∉ wr → h'.get? c = some o → h₃.get? c = some o := fun c o hc e => hk₃ c o hc (hk₂ c o hc e)
      refine wpAny_mono (never (turn H2.objs.size ys.size v _ m' hlt hCle hP (hn'.at' fun o e => up₃ _ o hCw e) fun b o hb e => up₃ b o hb (hk' b o hb e))) (fun _ s₄ h₄ => wpAny_mono (never h₄) (fun y s₅ h₅ => ?_) fun _ _ e => e) fun _ _ e => e
      obtain ⟨hGy, h₅', tk₅, m₅, rfl, hn₅, hk₅⟩ := h₅
      refine wpAny_list_append_plain (hsz := by omega) (hp'.at fun o e => hk₅ _ o hDC (up₃ _ o hDw e)) fun h₆ hl₆ hs₆ => ?_
      refine ⟨n + 1 - (ys.push y).size, by rw [Array.size_push]; omega, h₆, tk₅, m₅, ys.push y, rfl, by rw [Array.size_push]; omega, rfl, ?_, hn₅.sameBut hs₆ (Ne.symm hDC), hl₆, ?_, fun b o hb e => ?_⟩
      · rw [Array.size_push]
        exact W.frame _ _ h₆ hst₃ fun b hb o e => hs₆.extBut b o (fun h => hDf (h ▸ hb)) (hk₅ b o (fun h => hCf (h ▸ hb)) e)
      · intro i z e
        rw [Array.getElem?_push] at e
        split at e
        · rename_i hi
          cases e
          rw [hi]; exact hGy
        · exact hG i z e
      · exact hs₆.extBut b o (below b (Heap.lt_size e)).2 (hk₅ b o (below b (Heap.lt_size e)).1 (up₃ b o hb (hk' b o hb e)))
    · have hin : ys.size = n := by omega
      refine W.done _ _ _ (hin ▸ hst') fun h₂ tk₂ hk₂ => ?_
      exact hRR _ _ h₂ tk₂ m' ys (fresh _ (Nat.le_refl _)) (fresh _ hCle) hDC (hn'.at' fun o e => hk₂ _ o hCw e) (hp'.at fun o e => hk₂ _ o hDw e) hin hG fun b o hb e => hk₂ b o hb (hk' b o hb e)
  exact codeAny_compStart_list (loop _ rfl) (hself _ _ _ hst₁ (loop _ rfl))
/-- what is to be shown of the iterator for a comprehension, any target -/
noncomputable def CompG (prog : Program) (w : World) (A : Around) (env : Env) (scope : Scope) (cl : List (Str × Addr)) (target elt : Expr) (K : Shared → List Addr → Nat → (Nat → Value → Prop) → Prop) (it : Value) (s₂ : Shared) : Prop :=
  ∃ (I : Addr) (fp wr : List Addr) (n : Nat) (P Md : Nat → Value → Heap → Prop) (St' : Nat → Heap → Prop) (G : Nat → Value → Prop), it = .ref I ∧ KTurns prog w A target I fp wr n P Md St' ∧ (∀ (s : Shared) (Q : Value → Shared → Prop) (E : Value → Shared → Prop), St' 0 s.heap → Q (.ref I) s → wpAny (model prog w) A (pyIter (.ref I)) Q E s) ∧ n ≤ sizeLine ∧ St' 0 s₂.heap ∧ (∀ b ∈ fp, b < s₂.heap.objs.size) ∧
    (∀ C i v (s₃ : Shared) m₃, i < n → s₂.heap.objs.size ≤ C → P i v s₃.heap → s₃.heap.Ns C m₃ → (∀ b o, b ∉ wr → s₂.heap.get? b = some o → s₃.heap.get? b = some o) →
      wpAny (model prog w) A (assign target (compEnvC scope cl C env) v) (fun _ s₄ => wpAny (model prog w) A (eval elt (compEnvC scope cl C env)) (fun y s₅ => G i y ∧ KeepsBut C s₃ s₅) (fun _ _ => False) s₄) (fun _ _ => False) s₃) ∧
    K s₂ wr n G
noncomputable def KT (Q : Value → Shared → Prop) (s₂ : Shared) (wr : List Addr) (n : Nat) (G : Nat → Value → Prop) : Prop :=
  ∀ D h' tk ys, s₂.heap.get? D = none → h'.PlainList D ys → ys.size = n → (∀ i y, ys[i]? = some y → G i y) → (∀ b o, b ∉ wr → s₂.heap.get? b = some o → h'.get? b = some o) → Q (.ref D) { s₂ with heap := h', toks := tk }
noncomputable def KA (L : Addr) (y : Str) (Q : Flow → Shared → Prop) (s₂ : Shared) (wr : List Addr) (n : Nat) (G : Nat → Value → Prop) : Prop :=
  ∃ m, L ∉ wr ∧ s₂.heap.Ns L m ∧ ∀ D h' tk ys, s₂.heap.get? D = none → h'.PlainList D ys → ys.size = n → (∀ i y, ys[i]? = some y → G i y) → h'.Ns L (fun z => if z = y then some (.ref D) else m z) → (∀ b o, b ≠ L → b ∉ wr → s₂.heap.get? b = some o → h'.get? b = some o) → Q .next { s₂ with heap := h', toks := tk }
theorem compT (hclos : closureFor scope env = pure cl) (hcell : ∀ y ∈ scope.names, y.2 ≠ .cell) (hkind : scope.kind = .function)
    (hnames : ∀ y ∈ scope.names, y.2 = .local → scope.names.lookup y.1 = some .local)
    (h : wpAny (model prog w) A (eval iter env) (fun xv s₁ => wpAny (model prog w) A (pyIter xv) (fun it s₂ => CompG prog w A env scope cl target elt (KT Q) it s₂) E s₁) E s)
    (hs : ∀ x, foldedSetIterable iter env x = pure x := by intro _; rfl) :
    wpAny (model prog w) A (eval (.ListComp elt [⟨target, iter, [], 0⟩] scope pos) env) Q E s := by
  rw [eval_ListComp]
  refine wpAny_comprehension_free (use := none) rfl hs hclos hkind hnames (wpAny_mono h (fun xv s₁ h₁ => wpAny_mono h₁ (fun it s₂ h₂ => ?_) fun _ _ e => e) fun _ _ e => e)
  obtain ⟨I, fp, wr, n, P, Md, St', G, rfl, W, hself, hsz, hst, hfp, turn, hQ⟩ := h₂
  refine comp_turns (RR := fun acc C => compPost (model prog w) A E none Q acc C) W hself hsz hst hfp hcell hkind turn ?_
  intro D C h' tk m' ys hD hC hDC hn hpl hlen hG hk
  exact ⟨m', hn, fun h'' hs'' => hQ D h'' tk ys hD (hpl.extBut hs''.extBut hDC) hlen hG fun b o hbf e => hs''.extBut b o (by rintro rfl; rw [hC] at e; cases e) (hk b o hbf e)⟩
theorem compA {y : Str} {py spos : Pos} {Q : Flow → Shared → Prop} (hsw : swapsWith (.ListComp elt [⟨target, iter, [], 0⟩] scope pos) (some (.Name y py)) spos.line env = pure true)
    (hclos : closureFor scope env = pure cl) (hcell : ∀ y ∈ scope.names, y.2 ≠ .cell) (hkind : scope.kind = .function)
    (hnames : ∀ y ∈ scope.names, y.2 = .local → scope.names.lookup y.1 = some .local)
    (hy : env.kindOf y = some .local) (hp : (env.scope.kind == .class || (env.scope.kind == .module && env.locals != env.globals)) = false)
    (h : wpAny (model prog w) A (eval iter env) (fun xv s₁ => wpAny (model prog w) A (pyIter xv) (fun it s₂ => CompG prog w A env scope cl target elt (KA env.locals y Q) it s₂) E s₁) E s)
    (hs : ∀ x, foldedSetIterable iter env x = pure x := by intro _; rfl) :
    wpAny (model prog w) A (exec (.Assign [.Name y py] (.ListComp elt [⟨target, iter, [], 0⟩] scope pos) spos) env) Q E s := by
  rw [exec_Assign_Name_used _ _ _ _ hsw]
  refine wpAny_bind (wpAny_standAt (wpAny_bind ?_))
  show wpAny _ A (do let _ ← comprehension (.ListComp elt [⟨target, iter, [], 0⟩] scope pos) scope env _ (newList []) false (eval iter env) (some (assign (.Name y py) env))) _ _ s
  refine wpAny_bind (wpAny_mono (wpAny_comprehension_free (use := some (assign (.Name y py) env)) (Q := fun _ s' => Q .next s') rfl hs hclos hkind hnames
    (wpAny_mono h (fun xv s₁ h₁ => wpAny_mono h₁ (fun it s₂ h₂ => ?_) fun _ _ e => e) fun _ _ e => e)) (fun _ s' hq => wpAny_pure (wpAny_pure hq)) fun _ _ e => e)
  obtain ⟨I, fp, wr, n, P, Md, St', G, rfl, W, hself, hsz, hst, hfp, turn, m, hLf, hn, hQ⟩ := h₂
  refine comp_turns (RR := fun acc C => compPost (model prog w) A E (some (assign (.Name y py) env)) (fun _ s' => Q .next s') acc C) W hself hsz hst hfp hcell hkind turn ?_
  intro D C h' tk m' ys hD hC hDC hnC hplD hlen hG hk
  have hLC : env.locals ≠ C := by rintro rfl; obtain ⟨o, _, _, ho, _⟩ := hn; rw [hC] at ho; cases ho
  have hLD : env.locals ≠ D := by rintro rfl; obtain ⟨o, _, _, ho, _⟩ := hn; rw [hD] at ho; cases ho
  show wpAny _ A (assign (.Name y py) env (.ref D)) _ _ _
  refine wpAny_assign_Name (wpAny_storeName_local hy (hn.at' fun o e => hk _ o hLf e) (fun h₂ hn₂ hs₂ => ?_) hp)
  refine ⟨m', hnC.sameBut hs₂ (Ne.symm hLC), fun h₃ hs₃ => ?_⟩
  exact hQ D h₃ _ ys hD ((hplD.extBut hs₂.extBut (Ne.symm hLD)).extBut hs₃.extBut hDC) hlen hG (hn₂.sameBut hs₃ hLC) fun b o hbL hbf e =>
    hs₃.extBut b o (by rintro rfl; rw [hC] at e; cases e) (hs₂.extBut b o hbL (hk b o hbf e))
/-- how the loop's start stands to the state ahead of it -/
structure From (s s₂ : Shared) (wr : List Addr) : Prop where
  up : s.heap.StaysIn s₂.heap
  hw : ∀ b ∈ wr, s.heap.get? b = none
  sh : ∃ h, s₂ = { s with heap := h }
theorem kT {s₂ : Shared} {wr : List Addr} {n : Nat} {G : Nat → Value → Prop} (F : Fr h₀ L s.heap m) (N : News h₀ L s.heap news) (X : From s s₂ wr)
    (hd : ∀ D ys k h' tk, Fr h₀ L h' m → News h₀ L h' ((D, listOf ys k) :: news) → s.heap.StaysIn h' → s.heap.get? D = none → ys.size = n → (∀ i y, ys[i]? = some y → G i y) → Q (.ref D) (St s h' tk)) : KT Q s₂ wr n G := by
  intro D h' tk ys hD hpl hlen hG hk
  obtain ⟨h, rfl⟩ := X.sh
  have st : s.heap.StaysIn h' := fun b o e => hk b o (fun q => by rw [X.hw b q] at e; cases e) (X.up _ _ e)
  obtain ⟨k, hpl⟩ := hpl
  have hD' : s.heap.get? D = none := by
    cases q : s.heap.get? D with
    | none => rfl
    | some o => rw [X.up _ _ q] at hD; cases hD
  exact hd D ys k h' tk (frStays F st) (newsAdd F (newsStays N st) hD' hpl) st hD' hlen hG
theorem kA {y : Str} {Q : Flow → Shared → Prop} {s₂ : Shared} {wr : List Addr} {n : Nat} {G : Nat → Value → Prop} (F : Fr h₀ L s.heap m) (N : News h₀ L s.heap news) (X : From s s₂ wr)
    (hd : ∀ D ys k h' tk, Fr h₀ L h' (fun z => if z = y then some (.ref D) else m z) → News h₀ L h' ((D, listOf ys k) :: news) → s.heap.get? D = none → ys.size = n → (∀ i y, ys[i]? = some y → G i y) → Q .next (St s h' tk)) : KA L y Q s₂ wr n G := by
  obtain ⟨h, rfl⟩ := X.sh
  have hLs : ∃ o, s.heap.get? L = some o := by obtain ⟨o, _, _, ho, _⟩ := F.ns; exact ⟨o, ho⟩
  refine ⟨m, fun q => (by obtain ⟨o, ho⟩ := hLs; rw [X.hw _ q] at ho; cases ho), F.ns.keeps X.up, fun D h' tk ys hD hpl hlen hG hn hk => ?_⟩
  have st : ∀ b o, b ≠ L → s.heap.get? b = some o → h'.get? b = some o := fun b o hb e => hk b o hb (fun q => by rw [X.hw b q] at e; cases e) (X.up _ _ e)
  obtain ⟨k, hpl⟩ := hpl
  have hD' : s.heap.get? D = none := by
    cases q : s.heap.get? D with
    | none => rfl
    | some o => rw [X.up _ _ q] at hD; cases hD
  have hL₀ : h₀.get? L = none := Heap.get?_none_of_le F.above
  refine hd D ys k h' tk ⟨hn, fun b o e => st b o (fun q => by rw [q, hL₀] at e; cases e) (F.keep b o e), F.above⟩ ?_ hD' hlen hG
  intro p hp
  rcases List.mem_cons.mp hp with rfl | hp
  · refine ⟨hpl, fun q => ?_, ?_⟩
    · obtain ⟨o, ho⟩ := hLs
      have q : D = L := q
      rw [← q, hD'] at ho; cases ho
    · cases q : h₀.get? D with
      | none => rfl
      | some o => rw [F.keep _ _ q] at hD'; cases hD'
  · exact ⟨st _ _ (N p hp).2.1 (N p hp).1, (N p hp).2⟩
theorem asg3 {env : Env} {a b c : Str} {pa pb pc tp : Pos} {kk : Nat} {T : Addr} {x y z : Value} {m : Str → Option Value} {Q : Unit → Shared → Prop} (hh : A.handled = none) (ht : s.heap.IsTuple T #[x, y, z])
    (ha : env.kindOf a = some .local) (hb : env.kindOf b = some .local) (hc : env.kindOf c = some .local) (hp : (env.scope.kind == .class || (env.scope.kind == .module && env.locals != env.globals)) = false) (hn : s.heap.Ns env.locals m)
    (h : ∀ (h' : Heap) (tk : Nat), h'.Ns env.locals (fun q => if q = c then some z else if q = b then some y else if q = a then some x else m q) → (∀ c o, c ≠ env.locals → s.heap.get? c = some o → h'.get? c = some o) → Q () { s with heap := h', toks := tk }) :
    wpAny (model prog w) A (assign (.Tuple [.Name a pa, .Name b pb, .Name c pc] kk tp) env (.ref T)) Q E s := by
  refine wpAny_assign_Tuple hh ht rfl rfl fun h₁ he₁ => ?_
  have hL : env.locals ≠ s.heap.objs.size := Nat.ne_of_lt hn.lt
  have hn₁ : h₁.Ns env.locals m := hn.at' fun o e => he₁ _ o hL e
  have up₁ : ∀ c o, s.heap.get? c = some o → h₁.get? c = some o := fun c o e => he₁ c o (Nat.ne_of_lt (Heap.lt_size e)) e
  show wpAny _ _ (assignInOrder [assign (.Name a pa) env, assign (.Name b pb) env, assign (.Name c pc) env] [x, y, z]) _ _ _
  refine aioCons ?_
  refine wpAny_assign_Name (wpAny_storeName_local ha hn₁ (fun h₂ hn₂ hs₂ => ?_) hp)
  refine aioCons ?_
  refine wpAny_assign_Name (wpAny_storeName_local hb hn₂ (fun h₃ hn₃ hs₃ => ?_) hp)
  refine aioCons ?_
  refine wpAny_assign_Name (wpAny_storeName_local hc hn₃ (fun h₄ hn₄ hs₄ => ?_) hp)
  refine aioNil ?_
  exact h h₄ _ hn₄ fun c o hc e => hs₄.extBut c o hc (hs₃.extBut c o hc (hs₂.extBut c o hc (up₁ c o e)))
/-- .. over a list of tuples of three -/
theorem comp_tup3 {l : Addr} {a b c : Str} {pa pb pc tp : Pos} {kk : Nat} {vs : List Value} {x y z : Nat → Value} {G : Nat → Value → Prop} {K : Shared → List Addr → Nat → (Nat → Value → Prop) → Prop} (hh : A.handled = none) (hl : s.heap.IsList l vs.toArray) (hsz : vs.length ≤ sizeLine)
    (ht : ∀ i v, vs[i]? = some v → ∃ T, v = .ref T ∧ s.heap.IsTuple T #[x i, y i, z i])
    (he : ∀ (C : Addr) (i : Nat) (s₃ : Shared) (m₃ : Str → Option Value), i < vs.length → Fr s.heap C s₃.heap (fun q => if q = c then some (z i) else if q = b then some (y i) else if q = a then some (x i) else m₃ q) →
      wpAny (model prog w) A (eval elt (compEnvC scope cl C env)) (fun v s₄ => G i v ∧ Keeps s₃ s₄) (fun _ _ => False) s₃)
    (hd : ∀ s₂ wr, From s s₂ wr → K s₂ wr vs.toArray.size G)
    (hk : scope.kind = .function := by rfl) (ha : scope.names.lookup a = some .local := by rfl) (hb : scope.names.lookup b = some .local := by rfl) (hc : scope.names.lookup c = some .local := by rfl) :
    wpAny (model prog w) A (pyIter (.ref l)) (fun it s₂ => CompG prog w A env scope cl (.Tuple [.Name a pa, .Name b pb, .Name c pc] kk tp) elt K it s₂) E s := by
  refine wpAny_pyIter_list hl ?_
  obtain ⟨ol, hol, _⟩ := id hl
  have ne : l ≠ s.heap.objs.size := Nat.ne_of_lt (Heap.lt_size hol)
  have up : s.heap.StaysIn (s.heap.push { cls := .type "list_iterator", data := .fields #[.ref l, .int 0 0] }) := fun _ _ e => Heap.get?_push_of_some _ e
  have hw : ∀ b ∈ [s.heap.objs.size], s.heap.get? b = none := fun b hb => by rw [List.mem_singleton.mp hb]; exact Heap.get?_none_of_le (Nat.le_refl _)
  refine ⟨_, _, _, _, _, _, _, G, rfl, KTurns.ofWalks (Walks.list hh s.heap.objs.size l ne vs.toArray) fun i v s Q E st q => letGo_listiter st.1 q, fun s Q E st q => (Walks.list hh _ l ne vs.toArray).self 0 s Q E st q, by simpa using hsz, ⟨⟨_, Heap.get?_push_size _ rfl, rfl, rfl⟩, hl.at fun o e => Heap.get?_push_of_some _ e⟩, ?_, ?_, ?_⟩
  · intro b hb
    simp only [List.mem_cons, List.not_mem_nil, or_false] at hb
    rw [Heap.size_push]
    rcases hb with rfl | rfl
    · exact Nat.lt_succ_self _
    · exact Nat.lt_succ_of_lt (Heap.lt_size hol)
  · intro C i v s₃ m₃ hi hC hP hn hk'
    have st : s.heap.StaysIn s₃.heap := fun b o e => hk' b o (fun q => by rw [hw b q] at e; cases e) (up _ _ e)
    have hv : vs[i]? = some v := by simpa using hP
    obtain ⟨T, rfl, hT⟩ := ht i v hv
    refine asg3 (env := compEnvC scope cl C env) hh (tupStay st hT) (lookup_relabel_local ha) (lookup_relabel_local hb) (lookup_relabel_local hc) (by simp [compEnvC, relabel, hk]) hn fun h₄ tk₄ hn₄ hs₄ => ?_
    refine wpAny_mono (he C i _ m₃ (by simpa using hi) ⟨hn₄, fun b o e => hs₄ b o (fun q => ?_) (st b o e), Nat.le_trans (by rw [Heap.size_push]; exact Nat.le_succ _) hC⟩) (fun v' s₅ h₅ => ?_) fun _ _ e => e
    · have h1 := Heap.lt_size e
      have h2 : s.heap.objs.size + 1 ≤ C := by rw [← Heap.size_push]; exact hC
      have h3 : b = C := q
      rw [h3] at h1
      exact absurd (Nat.lt_of_lt_of_le (Nat.lt_succ_of_lt h1) h2) (Nat.lt_irrefl _)
    · obtain ⟨g, h₅', tk₅, rfl, hk₅⟩ := h₅
      exact ⟨g, h₅', tk₅, _, rfl, hn₄.keeps hk₅, fun b o hb e => hk₅ b o (hs₄ b o hb e)⟩
  · exact hd _ _ ⟨up, hw, ⟨_, rfl⟩⟩
/-- .. over a range from 0 -/
theorem comp_range {r : Addr} {x : Str} {px : Pos} {n : Nat} {t u v : Tok} {G : Nat → Value → Prop} {K : Shared → List Addr → Nat → (Nat → Value → Prop) → Prop} (hh : A.handled = none) (hr : IsRange s.heap r 0 n 1 t u v) (hsz : n ≤ 1000)
    (he : ∀ (C : Addr) (i : Nat) (t : Tok) (s₃ : Shared) (m₃ : Str → Option Value), i < n → Fr s.heap C s₃.heap (fun q => if q = x then some (.int i t) else m₃ q) →
      wpAny (model prog w) A (eval elt (compEnvC scope cl C env)) (fun v s₄ => G i v ∧ Keeps s₃ s₄) (fun _ _ => False) s₃)
    (hd : ∀ s₂ wr, From s s₂ wr → K s₂ wr n G)
    (hk : scope.kind = .function := by rfl) (ha : scope.names.lookup x = some .local := by rfl) :
    wpAny (model prog w) A (pyIter (.ref r)) (fun it s₂ => CompG prog w A env scope cl (.Name x px) elt K it s₂) E s := by
  have hn : Builtin.Range.rangeSize 0 (n : Int) 1 = (n : Int) := by
    simp [Builtin.Range.rangeSize]
    omega
  refine wpAny_pyIter_range hr ?_ ?_
  · exact small_one (by decide) (by decide) (by omega) (by omega)
  have up : s.heap.StaysIn (s.heap.push { cls := .type "range_iterator", data := .fields #[rawInt 0, rawInt (Builtin.Range.rangeSize 0 n 1), rawInt 1] }) := fun _ _ e => Heap.get?_push_of_some _ e
  have hw : ∀ b ∈ [s.heap.objs.size], s.heap.get? b = none := fun b hb => by rw [List.mem_singleton.mp hb]; exact Heap.get?_none_of_le (Nat.le_refl _)
  refine ⟨s.heap.objs.size, _, _, _, _, _, _, G, rfl, KTurns.ofWalks (Walks.range hh s.heap.objs.size 0 1 n) fun i v s Q E st q => ?_, fun s Q E st q => (Walks.range hh _ 0 1 n).self 0 s Q E st q, Nat.le_trans hsz (by decide), ?_, ?_, ?_, ?_⟩
  · unfold letOwnedTupleGo
    exact wpAny_pure q
  · show IsRangeIter _ _ _ _ _
    rw [hn]; simpa using Heap.get?_push_size _ rfl
  · intro b hb
    rw [Heap.size_push, List.mem_singleton.mp hb]
    exact Nat.lt_succ_self _
  · intro C i v s₃ m₃ hi hC hP hn hk'
    have st : s.heap.StaysIn s₃.heap := fun b o e => hk' b o (fun q => by rw [hw b q] at e; cases e) (up _ _ e)
    obtain ⟨t, rfl⟩ := hP
    rw [show (0 : Int) + (i : Int) * 1 = i from by omega]
    refine wpAny_assign_Name (wpAny_storeName_local (env := compEnvC scope cl C env) (lookup_relabel_local ha) hn (fun h₄ hn₄ hs₄ => ?_) (by simp [compEnvC, relabel, hk]))
    refine wpAny_mono (he C i t _ m₃ hi ⟨hn₄, fun b o e => hs₄.extBut b o (fun q => ?_) (st b o e), Nat.le_trans (by rw [Heap.size_push]; exact Nat.le_succ _) hC⟩) (fun v' s₅ h₅ => ?_) fun _ _ e => e
    · have h1 := Heap.lt_size e
      have h2 : s.heap.objs.size + 1 ≤ C := by rw [← Heap.size_push]; exact hC
      have h3 : b = C := q
      rw [h3] at h1
      exact absurd (Nat.lt_of_lt_of_le (Nat.lt_succ_of_lt h1) h2) (Nat.lt_irrefl _)
    · obtain ⟨g, h₅', tk₅, rfl, hk₅⟩ := h₅
      exact ⟨g, h₅', tk₅, _, rfl, hn₄.keeps hk₅, fun b o hb e => hk₅ b o (hs₄.extBut b o hb e)⟩
  · exact hd _ _ ⟨up, hw, ⟨_, rfl⟩⟩
/-- .. over a zip of two lists -/
theorem comp_zip {l1 l2 : Addr} {a b : Str} {pa pb tp : Pos} {kk : Nat} {xs ys : List Value} {G : Nat → Value → Prop} {K : Shared → List Addr → Nat → (Nat → Value → Prop) → Prop} (hh : A.handled = none) (hl1 : s.heap.IsList l1 xs.toArray) (hl2 : s.heap.IsList l2 ys.toArray) (hlen : ys.length = xs.length) (hsz : xs.length ≤ sizeLine)
    (he : ∀ (C : Addr) (i : Nat) (x y : Value) (s₃ : Shared) (m₃ : Str → Option Value), xs[i]? = some x → ys[i]? = some y → Fr s.heap C s₃.heap (fun q => if q = b then some y else if q = a then some x else m₃ q) →
      wpAny (model prog w) A (eval elt (compEnvC scope cl C env)) (fun v s₄ => G i v ∧ Keeps s₃ s₄) (fun _ _ => False) s₃)
    (hd : ∀ s₂ wr, From s s₂ wr → K s₂ wr (min xs.toArray.size ys.toArray.size) G)
    (hk : scope.kind = .function := by rfl) (ha : scope.names.lookup a = some .local := by rfl) (hb : scope.names.lookup b = some .local := by rfl) :
    wpAny (model prog w) A (call (.type "zip") [.ref l1, .ref l2]) (fun xv s₁ => wpAny (model prog w) A (pyIter xv) (fun it s₂ => CompG prog w A env scope cl (.Tuple [.Name a pa, .Name b pb] kk tp) elt K it s₂) E s₁) E s := by
  obtain ⟨ol1, hol1, _⟩ := id hl1
  obtain ⟨ol2, hol2, _⟩ := id hl2
  have hlt1 : l1 < s.heap.objs.size := Heap.lt_size hol1
  have hlt2 : l2 < s.heap.objs.size := Heap.lt_size hol2
  have D : ZipApart (s.heap.objs.size + 4) (s.heap.objs.size + 2) (s.heap.objs.size + 3) s.heap.objs.size (s.heap.objs.size + 1) l1 l2 := ktu_apart _ _ _ hlt1 hlt2
  refine call_zip_2 hl1 hl2 fun h' hz hTI hTO hi1 hi2 hsz' up => ?_
  refine wpAny_pyIter_zip hz ?_
  have W := WalksT.zip2 (prog := prog) (w := w) hh _ _ _ _ _ _ _ D xs.toArray ys.toArray
  have hwr : ∀ b ∈ [s.heap.objs.size + 4, s.heap.objs.size + 3, s.heap.objs.size, s.heap.objs.size + 1], s.heap.get? b = none := fun b hb => by
    have hb' : b = s.heap.objs.size + 4 ∨ b = s.heap.objs.size + 3 ∨ b = s.heap.objs.size ∨ b = s.heap.objs.size + 1 := by simpa using hb
    refine Heap.get?_none_of_le ?_
    rcases hb' with rfl | rfl | rfl | rfl
    · exact Nat.le_add_right _ _
    · exact Nat.le_add_right _ _
    · exact Nat.le_refl _
    · exact Nat.le_add_right _ _
  refine ⟨_, _, _, _, _, _, _, G, rfl, KTurns.ofWalksU W.toU, fun s Q E st q => W.toU.self 0 s Q E st q, by simpa [hlen] using hsz, ⟨hz, hTI, ⟨_, _, hTO⟩, hi1, hi2, hl1.at fun o e => up _ o e, hl2.at fun o e => up _ o e⟩, ?_, ?_, ?_⟩
  · intro b hb
    have hb' : b = s.heap.objs.size + 4 ∨ b = s.heap.objs.size + 2 ∨ b = s.heap.objs.size + 3 ∨ b = s.heap.objs.size ∨ b = s.heap.objs.size + 1 ∨ b = l1 ∨ b = l2 := by simpa using hb
    show b < h'.objs.size
    rw [hsz']
    rcases hb' with rfl | rfl | rfl | rfl | rfl | rfl | rfl
    · exact Nat.lt_succ_self _
    · exact Nat.add_lt_add_left (by decide) _
    · exact Nat.add_lt_add_left (by decide) _
    · exact Nat.lt_add_of_pos_right (by decide)
    · exact Nat.add_lt_add_left (by decide) _
    · exact Nat.lt_of_lt_of_le hlt1 (Nat.le_add_right _ _)
    · exact Nat.lt_of_lt_of_le hlt2 (Nat.le_add_right _ _)
  · rintro C i v s₃ m₃ hi hC ⟨T, vals, rfl, ⟨x, y, hx, hy, rfl⟩, hT⟩ hn hk'
    have st : s.heap.StaysIn s₃.heap := fun b o e => hk' b o (fun q => by rw [hwr b q] at e; cases e) (up _ _ e)
    refine kcp_assign (env := compEnvC scope cl C env) hh hT (lookup_relabel_local ha) (lookup_relabel_local hb) (by simp [compEnvC, relabel, hk]) hn fun h₄ tk₄ hn₄ hs₄ => ?_
    have hle : s.heap.objs.size ≤ C := by
      have h2 : h'.objs.size ≤ C := hC
      rw [hsz'] at h2
      exact Nat.le_trans (Nat.le_add_right _ _) h2
    refine wpAny_mono (he C i x y _ m₃ (by simpa using hx) (by simpa using hy) ⟨hn₄, fun b o e => hs₄ b o (fun q => ?_) (st b o e), hle⟩) (fun v' s₅ h₅ => ?_) fun _ _ e => e
    · have h1 := Heap.lt_size e
      have h3 : b = C := q
      rw [h3] at h1
      exact absurd (Nat.lt_of_lt_of_le h1 hle) (Nat.lt_irrefl _)
    · obtain ⟨g, h₅', tk₅, rfl, hk₅⟩ := h₅
      exact ⟨g, h₅', tk₅, _, rfl, hn₄.keeps hk₅, fun b o hb e => hk₅ b o (hs₄ b o hb e)⟩
  · exact hd _ _ ⟨up, hwr, ⟨_, rfl⟩⟩
/-- .. over a list -/
theorem comp_listT {l : Addr} {x : Str} {px : Pos} {vs : List Value} {G : Nat → Value → Prop} {K : Shared → List Addr → Nat → (Nat → Value → Prop) → Prop} (hh : A.handled = none) (hl : s.heap.IsList l vs.toArray) (hsz : vs.length ≤ sizeLine)
    (he : ∀ (C : Addr) (i : Nat) (v : Value) (s₃ : Shared) (m₃ : Str → Option Value), vs[i]? = some v → Fr s.heap C s₃.heap (fun q => if q = x then some v else m₃ q) →
      wpAny (model prog w) A (eval elt (compEnvC scope cl C env)) (fun v s₄ => G i v ∧ Keeps s₃ s₄) (fun _ _ => False) s₃)
    (hd : ∀ s₂ wr, From s s₂ wr → K s₂ wr vs.toArray.size G)
    (hk : scope.kind = .function := by rfl) (ha : scope.names.lookup x = some .local := by rfl) :
    wpAny (model prog w) A (pyIter (.ref l)) (fun it s₂ => CompG prog w A env scope cl (.Name x px) elt K it s₂) E s := by
  refine wpAny_pyIter_list hl ?_
  obtain ⟨ol, hol, _⟩ := id hl
  have ne : l ≠ s.heap.objs.size := Nat.ne_of_lt (Heap.lt_size hol)
  have up : s.heap.StaysIn (s.heap.push { cls := .type "list_iterator", data := .fields #[.ref l, .int 0 0] }) := fun _ _ e => Heap.get?_push_of_some _ e
  have hw : ∀ b ∈ [s.heap.objs.size], s.heap.get? b = none := fun b hb => by rw [List.mem_singleton.mp hb]; exact Heap.get?_none_of_le (Nat.le_refl _)
  refine ⟨_, _, _, _, _, _, _, G, rfl, KTurns.ofWalks (Walks.list hh s.heap.objs.size l ne vs.toArray) fun i v s Q E st q => letGo_listiter st.1 q, fun s Q E st q => (Walks.list hh _ l ne vs.toArray).self 0 s Q E st q, by simpa using hsz, ⟨⟨_, Heap.get?_push_size _ rfl, rfl, rfl⟩, hl.at fun o e => Heap.get?_push_of_some _ e⟩, ?_, ?_, ?_⟩
  · intro b hb
    simp only [List.mem_cons, List.not_mem_nil, or_false] at hb
    rw [Heap.size_push]
    rcases hb with rfl | rfl
    · exact Nat.lt_succ_self _
    · exact Nat.lt_succ_of_lt (Heap.lt_size hol)
  · intro C i v s₃ m₃ hi hC hP hn hk'
    have st : s.heap.StaysIn s₃.heap := fun b o e => hk' b o (fun q => by rw [hw b q] at e; cases e) (up _ _ e)
    have hv : vs[i]? = some v := by simpa using hP
    refine wpAny_assign_Name (wpAny_storeName_local (env := compEnvC scope cl C env) (lookup_relabel_local ha) hn (fun h₄ hn₄ hs₄ => ?_) (by simp [compEnvC, relabel, hk]))
    refine wpAny_mono (he C i v _ m₃ hv ⟨hn₄, fun b o e => hs₄.extBut b o (fun q => ?_) (st b o e), Nat.le_trans (by rw [Heap.size_push]; exact Nat.le_succ _) hC⟩) (fun v' s₅ h₅ => ?_) fun _ _ e => e
    · have h1 := Heap.lt_size e
      have h2 : s.heap.objs.size + 1 ≤ C := by rw [← Heap.size_push]; exact hC
      have h3 : b = C := q
      rw [h3] at h1
      exact absurd (Nat.lt_of_lt_of_le (Nat.lt_succ_of_lt h1) h2) (Nat.lt_irrefl _)
    · obtain ⟨g, h₅', tk₅, rfl, hk₅⟩ := h₅
      exact ⟨g, h₅', tk₅, _, rfl, hn₄.keeps hk₅, fun b o hb e => hk₅ b o (hs₄.extBut b o hb e)⟩
  · exact hd _ _ ⟨up, hw, ⟨_, rfl⟩⟩
end
/-- five pages as drawn -/
structure DrawnAt (far : Nat → Nat) (code cost : Nat → Int) (l : Addr) (h : Heap) : Prop where
  x : ∃ vs : List Value, h.IsList l vs.toArray ∧ vs.length = 5 ∧ ∃ t1 t2 t3 : Nat → Tok, ∀ i v, vs[i]? = some v → ∃ T, v = .ref T ∧ h.IsTuple T #[.int (far i : Int) (t1 i), .int (code i) (t2 i), .int (cost i) (t3 i)]
/-- the names of five pages -/
noncomputable def nmOf (code : Nat → Int) (i : Nat) : Str :=
  if i = 0 then Str.ofString "w:" ++ Str.ofString (toString (code 0)) ++ Str.ofString "(f)"
  else if i = 1 then Str.ofString "a,b:" ++ Str.ofString (toString (code 1)) ++ Str.ofString "(g)"
  else if i = 2 then Str.ofString "{h}"
  else if i = 3 then Str.ofString "c\"\\:" ++ Str.ofString (toString (code 3)) ++ Str.ofString "(i=)"
  else Str.ofString "k, l"
structure NamesAt (nm : Nat → Str) (l : Addr) (h : Heap) : Prop where
  x : ∃ vs : List Value, h.IsList l vs.toArray ∧ StrsAre vs [nm 0, nm 1, nm 2, nm 3, nm 4]
  nd : ∃ o, h.get? l = some o ∧ o.dict = none
structure FuncsAt (nm : Nat → Str) (fn : Nat → Addr) (l : Addr) (h : Heap) : Prop where
  l : h.IsList l #[.ref (fn 0), .ref (fn 1), .ref (fn 2), .ref (fn 3), .ref (fn 4)]
  f : ∀ i, i < 5 → FnOf h (fn i) (nm i)
theorem arr5 {ys : Array Value} {f : Nat → Value} (h : ys.size = 5) (g : ∀ i y, ys[i]? = some y → y = f i) : ys = #[f 0, f 1, f 2, f 3, f 4] := by
  apply Array.ext
  · rw [h]; rfl
  · intro i h1 h2
    have e := g i ys[i] (Array.getElem?_eq_getElem h1)
    rw [e]
    have : i = 0 ∨ i = 1 ∨ i = 2 ∨ i = 3 ∨ i = 4 := by rw [h] at h1; omega
    rcases this with rfl | rfl | rfl | rfl | rfl <;> rfl
theorem str_assoc (a b c : Str) : a ++ b ++ c = a ++ (b ++ c) := by
  show Str.mk _ = Str.mk _
  congr 1
  exact Array.append_assoc
theorem nm_plain (x y xs ys c : Str) (hx : x ++ Str.mk #[58] = xs) (hy : Str.mk #[40] ++ (y ++ Str.mk #[41]) = ys) : x ++ Str.mk #[58] ++ c ++ Str.mk #[40] ++ y ++ Str.mk #[41] = xs ++ c ++ ys := by
  rw [hx, str_assoc, str_assoc, hy]
end
section
theorem listStay {h h' : Heap} {a : Addr} {its : Array Value} (st : h.StaysIn h') (x : h.IsList a its) : h'.IsList a its := x.at fun o e => st a o e
section
variable {h h' : Heap}
theorem DrawnAt.keeps {far : Nat → Nat} {code cost : Nat → Int} {l : Addr} (x : DrawnAt far code cost l h) (k : h.StaysIn h') : DrawnAt far code cost l h' :=
  ⟨(by obtain ⟨vs, a, b, t1, t2, t3, c⟩ := x.x; exact ⟨vs, listStay k a, b, t1, t2, t3, fun i v e => (by obtain ⟨T, q, r⟩ := c i v e; exact ⟨T, q, tupStay k r⟩)⟩)⟩
theorem NamesAt.keeps {nm : Nat → Str} {l : Addr} (x : NamesAt nm l h) (k : h.StaysIn h') : NamesAt nm l h' := ⟨(by obtain ⟨vs, a, b⟩ := x.x; exact ⟨vs, listStay k a, b⟩), (by obtain ⟨o, a, b⟩ := x.nd; exact ⟨o, k _ _ a, b⟩)⟩
end
section
variable {base h h' : Heap} {L : Addr} {m : Str → Option Value} {news R : List (Addr × Obj)} {mus : List Addr}
theorem newsAddAll (F : Fr base L h m) (N : News base L h' news) (hR : ∀ p ∈ R, h'.get? p.1 = some p.2 ∧ h.get? p.1 = none) : News base L h' (R ++ news) := by
  intro p hp
  rcases List.mem_append.mp hp with hp | hp
  · exact newsAdd F N (hR p hp).2 (hR p hp).1 _ (.head _)
  · exact N p hp
theorem hid_up (st : (hideAll h mus).StaysIn h') : (hideAll h mus).StaysIn (hideAll h' mus) := fun b o e => hideAll_get _ (st _ _ e) fun q => by rw [hideAll_none _ q] at e; cases e
/-- back from a call that may change what is hidden -/
theorem backF (F : Fr base L h m) (hL : L ∉ mus) (hm : ∀ b ∈ mus, base.get? b = none) (st : (hideAll h mus).StaysIn h') : Fr base L h' m := frHid F hL hm (hid_up st)
end
section
variable {prog : Program} {w : World} {A : Around} {E : Value → Shared → Prop} {s : Shared}
theorem subL {value slice : Expr} {l : Addr} {vs : List Value} {k : Int} {u : Tok} {v : Value} {Q : Value → Shared → Prop}
    (hl : s.heap.IsList l vs.toArray) (h0 : 0 ≤ k) (hhi : k < 1000) (hx : vs[k.toNat]? = some v) (h : Q v s)
    (hs : subscripted slice false (.ref l) (.int k u) = operate [.ref l, .int k u] (getItem (.ref l) (.int k u)) := by with_unfolding_all rfl) :
    wpAny (model prog w) A (subscriptTail value slice (.ref l) (.int k u)) Q E s :=
  tail_any hl.typeIs slot_list_getitem.lookup (wpAny_getItem_list hl h0 (by omega) (by simpa using hx) h) hs
end
end
section
theorem valueAt_stored {K : Type} [DecidableEq K] (l : List (K × Value)) (k k' : K) (v : Value) : valueAt (stored l k v) k' = if k = k' then some v else valueAt l k' := by
  unfold stored valueAt
  split
  · rename_i h
    induction l with
    | nil => simp at h
    | cons p r ih =>
      by_cases e : p.1 = k
      · by_cases e2 : k = k'
        · subst e2
          simp [e]
        · simp only [List.map_cons, e, if_true]
          rw [List.find?_cons_of_neg (by simpa using e2), List.find?_cons_of_neg (by simpa [e] using e2), if_neg e2]
          by_cases hr : r.any (fun kv => decide (kv.1 = k)) = true
          · have := ih hr
            rw [if_neg e2] at this
            exact this
          · have this : r.map (fun kv => if kv.1 = k then (kv.1, v) else kv) = r := by
              refine (List.map_congr_left fun q hq => ?_).trans (List.map_id r)
              rw [if_neg fun e3 => hr (List.any_eq_true.mpr ⟨q, hq, by simpa using e3⟩)]; rfl
            rw [this]
      · simp only [List.map_cons, if_neg e]
        have hr : r.any (fun kv => decide (kv.1 = k)) = true := by simpa [e] using h
        by_cases e3 : p.1 = k'
        · rw [List.find?_cons_of_pos (by simpa using e3), List.find?_cons_of_pos (by simpa using e3)]
          rw [if_neg (fun q => e (e3.trans q.symm))]
        · rw [List.find?_cons_of_neg (by simpa using e3), List.find?_cons_of_neg (by simpa using e3)]
          exact ih hr
  · rename_i h
    rw [List.find?_append]
    by_cases e : k = k'
    · subst e
      rw [if_pos rfl]
      have : l.find? (fun kv => decide (kv.1 = k)) = none := by
        rw [List.find?_eq_none]
        intro x hx hxk
        exact h (List.any_eq_true.mpr ⟨x, hx, hxk⟩)
      rw [this]
      simp
    · rw [if_neg e]
      cases q : l.find? (fun kv => decide (kv.1 = k')) with
      | some x => simp
      | none => simp [e]
theorem nm_first (code : Nat → Int) (i : Nat) (hi : i < 5) : (nmOf code i).cps[0]? = some ([119, 97, 123, 99, 107].getD i 0) := by
  have hd : ∀ (a b c : Str) (x : Nat), a.cps[0]? = some x → (a ++ b ++ c).cps[0]? = some x := fun a b c x h => by
    show ((a.cps ++ b.cps) ++ c.cps)[0]? = some x
    have : 0 < a.cps.size := (Array.getElem?_eq_some_iff.mp h).1
    rw [Array.getElem?_append_left (by rw [Array.size_append]; omega), Array.getElem?_append_left this, h]
  have : i = 0 ∨ i = 1 ∨ i = 2 ∨ i = 3 ∨ i = 4 := five (by omega)
  rcases this with rfl | rfl | rfl | rfl | rfl
  · exact hd _ _ _ _ (by decide +kernel)
  · exact hd _ _ _ _ (by decide +kernel)
  · show (Str.ofString "{h}").cps[0]? = _
    decide +kernel
  · exact hd _ _ _ _ (by decide +kernel)
  · show (Str.ofString "k, l").cps[0]? = _
    decide +kernel
theorem nm_inj (code : Nat → Int) {i j : Nat} (hi : i < 5) (hj : j < 5) (h : nmOf code i = nmOf code j) : i = j := by
  have h1 := nm_first code i hi
  rw [h, nm_first code j hj] at h1
  have h2 := Option.some.inj h1
  have a : i = 0 ∨ i = 1 ∨ i = 2 ∨ i = 3 ∨ i = 4 := five (by omega)
  have b : j = 0 ∨ j = 1 ∨ j = 2 ∨ j = 3 ∨ j = 4 := five (by omega)
  rcases a with rfl | rfl | rfl | rfl | rfl <;> rcases b with rfl | rfl | rfl | rfl | rfl <;> first | rfl | (exfalso; revert h2; decide)
end
section
section
variable {M : Model} {A : Around} {E : Value → Shared → Prop} {s : Shared} {h₀ : Heap} {L a c P : Addr} {m mg mb : Str → Option Value} {cn : Str} {cs : Scope} {ccd : Value} {cl : List (Str × Addr)} {own R : List (Addr × Obj)}
  {p : Program} {loose : List Str} {mean : ExcName → Option Value} {name qual : Str} {params : Arguments} {body : List Stmt} {scope : Scope} {ps : Array Value} {pos : Pos} {firstLine : Nat} {clos : List (Str × Addr)}
/-- a def that a call makes: its code is new, or was made before -/
theorem nestB {Q : Value → Shared → Prop} (F : Fr h₀ L s.heap m) (N : News h₀ L s.heap (own ++ [(P, tabObj ps)])) (ND : ((own ++ [(P, tabObj ps)]).map (·.1)).Nodup) (T : Top p loose mean mg mb h₀) (C : CodeHd h₀ c P) (hcd : ccd = .ref c) (hps : TabSt pos qual R ps)
    (hcl : closureFor scope (envX cn cs L a ccd cl) = pure clos)
    (h : ∀ f c' X ps' ctv doc pm h' tk, Fr h₀ L h' m → News h₀ L h' ((f, fnMade name qual params body scope clos doc pm c' ctv) :: own ++ (P, tabObj ps') :: X) → (((f, default) :: own ++ (P, tabObj ps') :: X).map (·.1)).Nodup →
      TabSt pos qual (R ++ X) ps' → (∃ oc vs t, (c', oc) ∈ R ++ X ∧ oc.data = .fields vs ∧ vs[1]? = some (.str qual t)) → Q (.ref f) { s with heap := h', toks := tk }) :
    wpAny M A (makeFunction name qual params (.stmts body) scope (envX cn cs L a ccd cl) [] [] [] pos firstLine) Q E s := by
  rcases hps with rfl | ⟨c', oc, vs, t, rfl, hcR, hd, hv⟩
  · refine nest_K F N T C hcd (UpdF.of (rest := []) ND) trivial rfl hcl ?_
    intro f c' oc vs t ctv doc h' tk F' N' hd hv ltc ltf
    rw [show (#[] ++ #[rawInt pos.line, rawInt pos.col, Value.ref c'] : Array Value) = #[rawInt pos.line, rawInt pos.col, Value.ref c'] from by simp] at N'
    refine h f c' [(c', oc)] #[rawInt pos.line, rawInt pos.col, .ref c'] ctv doc ((mg (Str.ofString "__name__")).getD Value.none) h' tk F' ?_ ?_ (.inr ⟨c', oc, vs, t, rfl, List.mem_append_right _ (.head _), hd, hv⟩) ⟨oc, vs, t, List.mem_append_right _ (.head _), hd, hv⟩
    · intro q hq
      refine N' q ?_
      simp only [List.mem_append, List.mem_cons, List.not_mem_nil, or_false, List.cons_append] at hq ⊢
      rcases hq with h | h | h | h
      · exact .inl h
      · exact .inr (.inr (.inl h))
      · exact .inr (.inr (.inr h))
      · exact .inr (.inl h)
    · have e : (((f, default) :: own ++ (P, tabObj #[rawInt pos.line, rawInt pos.col, .ref c']) :: [(c', oc)]).map (·.1)) = f :: ((own ++ [(P, tabObj #[])]).map (·.1) ++ [c']) := by simp
      rw [e]
      have hlt : ∀ b ∈ (own ++ [(P, tabObj #[])]).map (·.1), b < c' := fun b hb => by
        obtain ⟨q, hq, rfl⟩ := List.mem_map.mp hb
        exact ltc q hq
      refine List.nodup_cons.mpr ⟨fun hm => ?_, List.nodup_append.mpr ⟨ND, by simp, fun x hx y hy e => ?_⟩⟩
      · rcases List.mem_append.mp hm with hm | hm
        · exact Nat.lt_irrefl _ (Nat.lt_trans (hlt f hm) ltf)
        · rw [List.mem_singleton.mp hm] at ltf; exact Nat.lt_irrefl _ ltf
      · rw [List.mem_singleton.mp hy] at e
        exact Nat.ne_of_lt (hlt x hx) e
  · refine nestHit_K (c' := c') F N T C hcd (List.mem_append_right _ (.head _)) trivial ?_ hcl ?_
    · show (if ((pos.line : Int) == pos.line && (pos.col : Int) == pos.col) = true then some (Value.ref c') else _) = _
      rw [if_pos (by simp)]
    · intro f ctv doc h' tk F' N' ltf
      refine h f c' [] _ ctv doc _ h' tk F' N' ?_ (.inr ⟨c', oc, vs, t, rfl, List.mem_append_left _ hcR, hd, hv⟩) ⟨oc, vs, t, List.mem_append_left _ hcR, hd, hv⟩
      refine List.nodup_cons.mpr ⟨fun hm => ?_, ND⟩
      obtain ⟨q, hq, e⟩ := List.mem_map.mp hm
      exact Nat.ne_of_lt (ltf q hq) e
end
/-- back from a call that changes one object -/
theorem backSet {base h h' : Heap} {L d : Addr} {own rest : List (Addr × Obj)} {o o' : Obj} (N : News base L h (own ++ (d, o) :: rest)) (ND : ((own ++ (d, o) :: rest).map (·.1)).Nodup) (st : (hideAll h [d]).StaysIn h') (hd : h'.get? d = some o') : News base L h' (own ++ (d, o') :: rest) := by
  obtain ⟨h1, h2⟩ := ndOwn ND
  intro p hp
  rcases List.mem_append.mp hp with hp | hp
  · have n := N p (List.mem_append_left _ hp)
    exact ⟨st _ _ (hideAll_get _ n.1 (by simpa using h1 p hp)), n.2⟩
  rcases List.mem_cons.mp hp with rfl | hp
  · exact ⟨hd, (N (d, o) (List.mem_append_right _ (.head _))).2⟩
  · have n := N p (List.mem_append_right _ (.tail _ hp))
    exact ⟨st _ _ (hideAll_get _ n.1 (by simpa using h2 p hp)), n.2⟩
end
section
-- a walk, whatever its names and costs are
abbrev RowG (κ α : Type) := Int × Int × α × α × List (κ × Int)
structure MemG (κ α : Type) where
  told : List κ
  costs : List α
  prof : List (κ × RowG κ α)
structure Ops (α : Type) where
  ad : α → α → α
  sb : α → α → α
  z : α
section
variable {κ : Type} [DecidableEq κ] {α β : Type}
noncomputable def putG (l : List (κ × β)) (k : κ) (b : β) : List (κ × β) := if l.any (fun q => decide (q.1 = k)) then l.map (fun q => if q.1 = k then (q.1, b) else q) else l ++ [(k, b)]
noncomputable def getG (l : List (κ × β)) (k : κ) : Option β := (l.find? fun q => decide (q.1 = k)).map (·.2)
noncomputable def addG (acc : List (κ × Int)) (p : κ × Int) : List (κ × Int) := if acc.any (fun q => decide (q.1 = p.1)) then acc.map (fun q => if q.1 = p.1 then (q.1, q.2 + p.2) else q) else acc ++ [p]
noncomputable def sumG (O : Ops α) (l : List α) : α := l.foldr O.ad O.z
noncomputable def addRowG (O : Ops α) (t s : RowG κ α) : RowG κ α := (s.1 + t.1, s.2.1 + t.2.1, O.ad s.2.2.1 t.2.2.1, O.ad s.2.2.2.1 t.2.2.2.1, s.2.2.2.2.foldl addG t.2.2.2.2)
noncomputable def runG (O : Ops α) (nm : Nat → κ) (cost : Nat → α) : κ → List Nat → MemG κ α → MemG κ α
  | _, [], M => M
  | req, i :: rest, M =>
    let M2 := runG O nm cost (nm i) rest ⟨M.told ++ [nm i], M.costs ++ [cost i], M.prof⟩
    let entry : RowG κ α := if nm i ∈ M.told then (0, 1, cost i, O.z, [(req, 1)]) else (1, 1, cost i, O.sb (sumG O M2.costs) (sumG O M.costs), [(req, 1)])
    ⟨M2.told, M2.costs, putG M2.prof (nm i) (addRowG O ((getG M2.prof (nm i)).getD (0, 0, O.z, O.z, [])) entry)⟩
end
noncomputable def intOps : Ops Int := ⟨(· + ·), (· - ·), 0⟩
noncomputable def toG (M : Mem) : MemG Str Int := ⟨M.told, M.costs, M.prof⟩
noncomputable def trace (D : Pg) : Nat → Nat → List Nat
  | 0, i => if isGood (D.code i) then [] else [i]
  | n + 1, i => if isGood (D.code i) then [] else i :: trace D n (D.far i)
noncomputable def ansOf (D : Pg) : Nat → Nat → Nat
  | 0, i => i
  | n + 1, i => if isGood (D.code i) then i else ansOf D n (D.far i)
theorem sumG_int (l : List Int) : sumG intOps l = l.sum := by
  induction l with
  | nil => rfl
  | cons a r ih => show a + sumG intOps r = _; rw [ih, List.sum_cons]
theorem http_run (D : Pg) : ∀ n req i M, (http D n req i M).1 = ansOf D n i ∧ toG (http D n req i M).2 = runG intOps D.nm D.cost req (trace D n i) (toG M) := by
  intro n
  induction n with
  | zero =>
    intro req i M
    rw [http_eq]
    cases hg : isGood (D.code i) with
    | true => simp [ansOf, trace, hg, runG]
    | false =>
      rw [if_neg (by simp)]
      refine ⟨by simp [errS', ansOf], ?_⟩
      simp only [trace, hg, runG, errS', toG, Bool.false_eq_true, if_false, sumG_int]
      rfl
  | succ n ih =>
    intro req i M
    rw [http_eq]
    cases hg : isGood (D.code i) with
    | true => simp [ansOf, trace, hg, runG]
    | false =>
      rw [if_neg (by simp)]
      have h1 := ih (D.nm i) (D.far i) { M with told := M.told ++ [D.nm i], costs := M.costs ++ [D.cost i] }
      refine ⟨by simp only [errS', ansOf, hg]; exact h1.1, ?_⟩
      simp only [trace, hg, Bool.false_eq_true, if_false, runG]
      have h2 : runG intOps D.nm D.cost (D.nm i) (trace D n (D.far i)) ⟨(toG M).told ++ [D.nm i], (toG M).costs ++ [D.cost i], (toG M).prof⟩ = toG (http D n (D.nm i) (D.far i) { M with told := M.told ++ [D.nm i], costs := M.costs ++ [D.cost i] }).2 := h1.2.symm
      rw [h2]
      simp only [errS', sumG_int]
      rfl
-- names and costs are turned
section
variable {κ κ' : Type} [DecidableEq κ] [DecidableEq κ'] {α α' β β' : Type} {f : κ → κ'} {g : α → α'} {ψ : β → β'}
noncomputable def mapRow (f : κ → κ') (g : α → α') (r : RowG κ α) : RowG κ' α' := (r.1, r.2.1, g r.2.2.1, g r.2.2.2.1, r.2.2.2.2.map fun q => (f q.1, q.2))
noncomputable def mapM (f : κ → κ') (g : α → α') (M : MemG κ α) : MemG κ' α' := ⟨M.told.map f, M.costs.map g, M.prof.map fun q => (f q.1, mapRow f g q.2)⟩
theorem dec_inj (hf : ∀ x y, f x = f y → x = y) (x y : κ) : decide (f x = f y) = decide (x = y) := by
  by_cases h : x = y
  · subst h; simp
  · rw [decide_eq_false h, decide_eq_false fun e => h (hf _ _ e)]
theorem putG_map (hf : ∀ x y, f x = f y → x = y) (l : List (κ × β)) (k : κ) (b : β) : putG (l.map fun q => (f q.1, ψ q.2)) (f k) (ψ b) = (putG l k b).map fun q => (f q.1, ψ q.2) := by
  unfold putG
  have h1 : (l.map fun q => (f q.1, ψ q.2)).any (fun q => decide (q.1 = f k)) = l.any (fun q => decide (q.1 = k)) := by
    rw [List.any_map]
    congr 1
    funext q
    exact dec_inj hf _ _
  rw [h1]
  split
  · rw [List.map_map, List.map_map]
    refine List.map_congr_left fun q _ => ?_
    by_cases e : q.1 = k
    · simp [e]
    · have : ¬ f q.1 = f k := fun h => e (hf _ _ h)
      simp [e, this]
  · simp
theorem getG_map (hf : ∀ x y, f x = f y → x = y) (l : List (κ × β)) (k : κ) : getG (l.map fun q => (f q.1, ψ q.2)) (f k) = (getG l k).map ψ := by
  unfold getG
  induction l with
  | nil => rfl
  | cons q r ih =>
    simp only [List.map_cons, List.find?_cons]
    rw [dec_inj hf]
    cases decide (q.1 = k) with
    | true => rfl
    | false => exact ih
theorem addG_map (hf : ∀ x y, f x = f y → x = y) (acc : List (κ × Int)) (p : κ × Int) : addG (acc.map fun q => (f q.1, q.2)) (f p.1, p.2) = (addG acc p).map fun q => (f q.1, q.2) := by
  unfold addG
  have h1 : (acc.map fun q => (f q.1, q.2)).any (fun q => decide (q.1 = (f p.1, p.2).1)) = acc.any (fun q => decide (q.1 = p.1)) := by
    rw [List.any_map]
    congr 1
    funext q
    exact dec_inj hf _ _
  rw [h1]
  split
  · rw [List.map_map, List.map_map]
    refine List.map_congr_left fun q _ => ?_
    by_cases e : q.1 = p.1
    · simp [e]
    · have : ¬ f q.1 = f p.1 := fun h => e (hf _ _ h)
      simp [e, this]
  · simp
theorem addGs_map (hf : ∀ x y, f x = f y → x = y) (ps : List (κ × Int)) : ∀ acc : List (κ × Int), (ps.map fun q => (f q.1, q.2)).foldl addG (acc.map fun q => (f q.1, q.2)) = (ps.foldl addG acc).map fun q => (f q.1, q.2) := by
  induction ps with
  | nil => intro acc; rfl
  | cons p r ih => intro acc; simp only [List.map_cons, List.foldl_cons]; rw [addG_map hf acc p]; exact ih _
/-- a homomorphism -/
structure Hom (O : Ops α) (O' : Ops α') (g : α → α') : Prop where
  ad : ∀ x y, g (O.ad x y) = O'.ad (g x) (g y)
  sb : ∀ x y, g (O.sb x y) = O'.sb (g x) (g y)
  z : g O.z = O'.z
theorem sumG_map {O : Ops α} {O' : Ops α'} (H : Hom O O' g) (l : List α) : sumG O' (l.map g) = g (sumG O l) := by
  induction l with
  | nil => exact H.z.symm
  | cons a r ih => show O'.ad (g a) (sumG O' (r.map g)) = _; rw [ih, ← H.ad]; rfl
theorem addRowG_map {O : Ops α} {O' : Ops α'} (hf : ∀ x y, f x = f y → x = y) (H : Hom O O' g) (t s : RowG κ α) : addRowG O' (mapRow f g t) (mapRow f g s) = mapRow f g (addRowG O t s) := by
  simp only [addRowG, mapRow, H.ad, addGs_map hf]
theorem runG_map {O : Ops α} {O' : Ops α'} (hf : ∀ x y, f x = f y → x = y) (H : Hom O O' g) {nm : Nat → κ} {cost : Nat → α} {nm' : Nat → κ'} {cost' : Nat → α'} : ∀ (tr : List Nat) (tr' : List Nat) (req : κ) (M : MemG κ α), tr'.length = tr.length → (∀ (j : Nat) i i', tr[j]? = some i → tr'[j]? = some i' → nm' i' = f (nm i) ∧ cost' i' = g (cost i)) →
    runG O' nm' cost' (f req) tr' (mapM f g M) = mapM f g (runG O nm cost req tr M) := by
  intro tr
  induction tr with
  | nil =>
    intro tr' req M hl _
    obtain rfl : tr' = [] := List.length_eq_zero_iff.mp hl
    rfl
  | cons i r ih =>
    intro tr' req M hl hc
    cases tr' with
    | nil => simp at hl
    | cons i' r' =>
      obtain ⟨h1, h2⟩ := hc 0 i i' rfl rfl
      have h3 := ih r' (nm i) ⟨M.told ++ [nm i], M.costs ++ [cost i], M.prof⟩ (by simpa using hl) fun j a b ha hb => hc (j + 1) a b (by simpa using ha) (by simpa using hb)
      have h4 : mapM f g ⟨M.told ++ [nm i], M.costs ++ [cost i], M.prof⟩ = ⟨(mapM f g M).told ++ [nm' i'], (mapM f g M).costs ++ [cost' i'], (mapM f g M).prof⟩ := by
        simp [mapM, h1, h2]
      rw [h4] at h3
      simp only [runG]
      rw [h1, h2] at h3 ⊢
      rw [h3]
      generalize runG O nm cost (nm i) r ⟨M.told ++ [nm i], M.costs ++ [cost i], M.prof⟩ = M2
      have hmem : (f (nm i) ∈ (mapM f g M).told) = (nm i ∈ M.told) := by
        simp only [mapM, List.mem_map, eq_iff_iff]
        exact ⟨fun ⟨a, ha, e⟩ => hf _ _ e ▸ ha, fun h => ⟨_, h, rfl⟩⟩
      have he : (if f (nm i) ∈ (mapM f g M).told then ((0, 1, g (cost i), O'.z, [(f req, 1)]) : RowG κ' α') else (1, 1, g (cost i), O'.sb (sumG O' (mapM f g M2).costs) (sumG O' (mapM f g M).costs), [(f req, 1)])) =
          mapRow f g (if nm i ∈ M.told then (0, 1, cost i, O.z, [(req, 1)]) else (1, 1, cost i, O.sb (sumG O M2.costs) (sumG O M.costs), [(req, 1)])) := by
        simp only [hmem]
        split
        · simp [mapRow, H.z]
        · simp [mapRow, mapM, sumG_map H, H.sb]
      have hget : (getG (mapM f g M2).prof (f (nm i))).getD (0, 0, O'.z, O'.z, []) = mapRow f g ((getG M2.prof (nm i)).getD (0, 0, O.z, O.z, [])) := by
        have := getG_map (ψ := mapRow f g) hf M2.prof (nm i)
        show (getG (M2.prof.map fun q => (f q.1, mapRow f g q.2)) (f (nm i))).getD _ = _
        rw [this]
        cases getG M2.prof (nm i) with
        | some _ => rfl
        | none => simp [mapRow, H.z]
      rw [he, hget, addRowG_map hf H]
      show MemG.mk _ _ _ = MemG.mk _ _ _
      congr 1
      exact putG_map hf _ _ _
end
end
section
section
variable {prog : Program} {w : World} {A : Around} {E : Value → Shared → Prop} {s : Shared} {env : Env} {h₀ : Heap} {target : Expr} {body : List Stmt} {Q : Flow → Shared → Prop} {K : Type} [DecidableEq K] {knd : KeyKind prog w K}
/-- a loop over a dict's items; the dict stands in the base -/
theorem turnsItems {elts : List Expr} {kk : Nat} {pos : Pos} {v d : Addr} {kvs : List (K × Value)} {m : Str → Option Value} {news : List (Addr × Obj)} (hh : A.handled = none) (F : Fr h₀ env.locals s.heap m) (N : News h₀ env.locals s.heap news) (hv : s.heap.IsItemsView v d) (hd : h₀.DictOf knd d kvs)
    (J : Nat → (Str → Option Value) → List (Addr × Obj) → Prop) (h0 : J 0 m news)
    (turn : ∀ i T k key x m₁ news₁ h tk own, kvs[i]? = some (k, x) → knd.is k key = true → h.IsTuple T #[key, x] → J i m₁ news₁ → (∀ p ∈ own, ∀ q ∈ news₁, p.1 = q.1 → False) → Fr h₀ env.locals h m₁ → News h₀ env.locals h (news₁ ++ own) →
      wpAny (model prog w) A (assign (.Tuple elts kk pos) env (.ref T)) (fun _ s₃ => wpAny (model prog w) A (execs body env) (TurnEnd h₀ env.locals (J (i + 1)) own news₁ (St s h tk) Q) E s₃) E (St s h tk))
    (done : ∀ m₁ news₁ h tk, J kvs.length m₁ news₁ → Fr h₀ env.locals h m₁ → News h₀ env.locals h news₁ → Q .next (St s h tk)) :
    wpAny (model prog w) A (pyIter (.ref v)) (fun it s₂ => TurnsAt prog w A h₀ env (.Tuple elts kk pos) body Q E it s₂) E s := by
  obtain ⟨ep, ha⟩ := DictOf.at hd
  have ha' : s.heap.DictAt knd d kvs ep := ha.at' fun o e => F.keep d o e
  obtain ⟨od, _, hod, _⟩ := id ha
  refine wpAny_pyIter_items hv ha' ?_
  have ne : d ≠ s.heap.objs.size := old_ne_top F hod
  refine turnsK (s := { s with heap := s.heap.push _ }) (lst := [d]) (kti_itemsTurns (knd := knd) hh s.heap.objs.size d ne kvs ep) ?_ ?_ ?_ ?_ ?_ ⟨⟨_, _, Heap.get?_push_size _ rfl⟩, ha'.at' fun o e => Heap.get?_push_of_some _ e⟩ (F.push _) (fun p hp => ⟨Heap.get?_push_of_some _ (N p hp).1, (N p hp).2⟩) J h0 ?_ ?_
  · intro b hb
    simp only [List.mem_cons, List.not_mem_nil, or_false] at hb ⊢
    exact hb
  · rintro b hb h i ⟨⟨ok, ov, e⟩, _⟩
    rw [List.mem_singleton.mp hb]
    exact ⟨_, e⟩
  · intro hm
    rcases List.mem_cons.mp hm with e | hm
    · exact L_ne_top F e
    · exact old_ne_L F hod (List.mem_singleton.mp hm)
  · intro b hb
    rw [List.mem_singleton.mp hb]; exact next_is_new F
  · intro p hp hI
    exact absurd (Heap.lt_size (N p hp).1) ((List.mem_singleton.mp hI) ▸ Nat.lt_irrefl _)
  · rintro i v m₁ news₁ h tk own hi ⟨T, key, k, x, rfl, hx, hkey, hT⟩ hJ ho F₁ N₁
    refine turn i T k key x m₁ news₁ h tk own hx hkey hT hJ (fun p hp q hq e => ?_) F₁ N₁
    have h1 := List.mem_singleton.mp (ho p hp q hq e)
    have h2 := (N₁ q (List.mem_append_left _ hq)).2.2
    rw [← e, h1, hod] at h2; cases h2
  · intro m₁ news₁ h tk hJ F₁ N₁
    exact done m₁ news₁ h tk hJ F₁ N₁
end
section
variable {prog : Program} {w : World} {A : Around} {s : Shared}
theorem gmInsert {l : Addr} {its : Array Value} {n : Nat} {pl : Sem Bool} {Q : Value × List Value → Shared → Prop} {E : Value → Shared → Prop} (ho : s.heap.get? l = some (listOf its n)) (h : Q (.builtin "list.insert", [.ref l]) s) :
    wpAny (model prog w) A (getMethod (.ref l) "insert" pl) Q E s :=
  getMethod_builtin (T := "list") ⟨_, ho, rfl⟩ PySem.F.plainAttrs_list PySem.F.slot_list_insert PySem.F.type_list_insert (fun a e => by cases e; exact ⟨_, ho, rfl⟩) h
end
theorem Rm.tcall {A : Around} {d u : Nat} (R : Rm A (d + 1) (u + 5)) (C : Addr) (pos : List Value) (kw : List (Str × Value)) : Rm (A.under (.builtin "type.__call__" ⟨.ref C :: pos, kw⟩)) d u := by
  have hw : Code.weight (.builtin "type.__call__" ⟨.ref C :: pos, kw⟩) ≤ 1 := Nat.le_of_eq rfl
  have hu : Code.cUnits (.builtin "type.__call__" ⟨.ref C :: pos, kw⟩) ≤ 5 := by
    show (1 : Nat) ≤ 5
    decide
  refine ⟨R.hd, ?_, ?_⟩
  · have := R.dp; show A.depth + Code.weight (.builtin "type.__call__" ⟨.ref C :: pos, kw⟩) + d ≤ 900; omega
  · have := R.un; show A.units + Code.cUnits (.builtin "type.__call__" ⟨.ref C :: pos, kw⟩) + u ≤ 9000; omega
noncomputable def RowAt (prog : Program) (w : World) (g : Heap) (v : Value) (r : Row) : Prop :=
  ∃ a c kv t1 t2 t3 t4, v = .ref a ∧ g.IsTuple a #[.int r.1 t1, .int r.2.1 t2, .int r.2.2.1 t3, .int r.2.2.2.1 t4, .ref c] ∧ (c == sysModules) = false ∧ g.DictOf (strKind prog w) c kv ∧ Cnt kv r.2.2.2.2
structure ProfAt (prog : Program) (w : World) (P : List (Str × Row)) (pr : Addr) (g : Heap) : Prop where
  lo : (pr == sysModules) = false
  x : ∃ kvs, g.DictOf (strKind prog w) pr kvs ∧ Rel (RowAt prog w g) kvs P
/-- a list of texts -/
structure StrsAt (ys : List Str) (l : Addr) (h : Heap) : Prop where
  x : ∃ vs : List Value, h.IsList l vs.toArray ∧ StrsAre vs ys
/-- the place of a row among those before it -/
noncomputable def insAt (line : List (Str × Row)) (ct : Int) : Nat → Nat
  | 0 => 0
  | p + 1 => match line[p]? with
    | some r => if r.2.2.2.2.1 < ct then insAt line ct p else p + 1
    | none => p + 1
noncomputable def insRow (line : List (Str × Row)) (r : Str × Row) : List (Str × Row) := line.take (insAt line r.2.2.2.2.1 line.length) ++ r :: line.drop (insAt line r.2.2.2.2.1 line.length)
noncomputable def byTime (P : List (Str × Row)) : List Str := (P.foldl insRow []).map (·.1)
theorem insAt_le (line : List (Str × Row)) (ct : Int) : ∀ p, insAt line ct p ≤ p
  | 0 => Nat.le_refl _
  | p + 1 => by
    unfold insAt
    split
    · split
      · exact Nat.le_succ_of_le (insAt_le line ct p)
      · exact Nat.le_refl _
    · exact Nat.le_refl _
/-- the line of rows, by the objects it is made of -/
structure LineIs (Rn : List (Addr × Obj)) (its : List Value) (line : List (Str × Row)) : Prop where
  len : its.length = line.length
  at' : ∀ (j : Nat) r, line[j]? = some r → ∃ T vs t t', its[j]? = some (.ref T) ∧ Kept Rn (fun g => g.IsTuple T (List.toArray vs)) ∧ vs.length = 6 ∧ vs[3]? = some (.int r.2.2.2.2.1 t) ∧ vs[5]? = some (.str r.1 t')
theorem LineIs.more {Rn Rn' : List (Addr × Obj)} {its : List Value} {line : List (Str × Row)} (x : LineIs Rn its line) (s : ∀ p ∈ Rn, p ∈ Rn') : LineIs Rn' its line :=
  ⟨x.len, fun j r h => (by obtain ⟨T, vs, t, t', h1, h2, h3⟩ := x.at' j r h; exact ⟨T, vs, t, t', h1, h2.more s, h3⟩)⟩
theorem LineIs.ins {Rn : List (Addr × Obj)} {its : List Value} {line : List (Str × Row)} (x : LineIs Rn its line) (p : Nat) (hp : p ≤ line.length) {T : Addr} {vs : List Value} {t t' : Tok} {r : Str × Row} (h1 : Kept Rn (fun g => g.IsTuple T (List.toArray vs))) (h2 : vs.length = 6) (h3 : vs[3]? = some (.int r.2.2.2.2.1 t)) (h4 : vs[5]? = some (.str r.1 t')) :
    LineIs Rn (its.take p ++ .ref T :: its.drop p) (line.take p ++ r :: line.drop p) := by
  have hl := x.len
  refine ⟨by simp [hl], fun j r' h => ?_⟩
  have ht : (line.take p).length = p := by simp; omega
  have ht' : (its.take p).length = p := by simp; omega
  rcases Nat.lt_trichotomy j p with hj | hj | hj
  · rw [List.getElem?_append_left (by omega), List.getElem?_take_of_lt hj] at h
    obtain ⟨T', vs', u, u', q1, q2⟩ := x.at' j r' h
    exact ⟨T', vs', u, u', by rw [List.getElem?_append_left (by omega), List.getElem?_take_of_lt hj]; exact q1, q2⟩
  · subst hj
    rw [List.getElem?_append_right (by omega), ht] at h
    simp at h
    subst h
    exact ⟨T, vs, t, t', by rw [List.getElem?_append_right (by omega), ht']; simp, h1, h2, h3, h4⟩
  · rw [List.getElem?_append_right (by omega), ht] at h
    obtain ⟨q, rfl⟩ : ∃ q, j = p + (q + 1) := ⟨j - p - 1, by omega⟩
    rw [show p + (q + 1) - p = q + 1 from by omega, List.getElem?_cons_succ, List.getElem?_drop] at h
    obtain ⟨T', vs', u, u', q1, q2⟩ := x.at' _ r' h
    exact ⟨T', vs', u, u', by rw [List.getElem?_append_right (by omega), ht', show p + (q + 1) - p = q + 1 from by omega, List.getElem?_cons_succ, List.getElem?_drop]; exact q1, q2⟩
/-- a fact that the walk does not open -/
structure Opq (P : Prop) : Prop where
  out : P
theorem insAt_stop {line : List (Str × Row)} {ct : Int} {q : Nat} {r : Str × Row} (h : line[q]? = some r) (c : ¬ r.2.2.2.2.1 < ct) : insAt line ct (q + 1) = q + 1 := by
  show (match line[q]? with | some r => if r.2.2.2.2.1 < ct then insAt line ct q else q + 1 | none => q + 1) = _
  rw [h]
  exact if_neg c
theorem insAt_go {line : List (Str × Row)} {ct : Int} {q : Nat} {r : Str × Row} (h : line[q]? = some r) (c : r.2.2.2.2.1 < ct) : insAt line ct (q + 1) = insAt line ct q := by
  show (match line[q]? with | some r => if r.2.2.2.2.1 < ct then insAt line ct q else q + 1 | none => q + 1) = _
  rw [h]
  exact if_pos c
theorem kl_ins_at (l : List Value) (q : Nat) (y : Value) (h : q ≤ l.length) : kl_ins l (q : Int) y = l.take q ++ y :: l.drop q := by
  unfold kl_ins
  rw [if_neg (by omega)]
  rw [show min (q : Int).toNat l.length = q from by omega]
theorem strsOf : ∀ {l : List Value} {xs : List Str}, l.length = xs.length → (∀ (i : Nat) v, l[i]? = some v → ∃ x t, xs[i]? = some x ∧ v = .str x t) → StrsAre l xs
  | [], [], _, _ => .nil
  | [], _ :: _, h, _ => nomatch h
  | _ :: _, [], h, _ => nomatch h
  | v :: r, x :: xs, h, g => by
    obtain ⟨x', t, e, rfl⟩ := g 0 v rfl
    cases e
    exact .cons _ t (strsOf (Nat.succ.inj h) fun i v hv => g (i + 1) v hv)
end
section
/-- the way from a page on -/
structure WayOf (far : Nat → Nat) (code : Nat → Int) (start : Nat) (way : List Nat) (place : Nat) : Prop where
  lt : ∀ a ∈ way, a < 5
  plt : place < 5
  nodup : way.Nodup
  bad : ∀ a ∈ way, isGood (code a) = false
  chain : ∀ j a, way[j]? = some a → (way ++ [place])[j + 1]? = some (far a)
  first : (way ++ [place])[0]? = some start
theorem WayOf.nil {far : Nat → Nat} {code : Nat → Int} {start : Nat} (h : start < 5) : WayOf far code start [] start :=
  ⟨(fun _ h => nomatch h), h, .nil, (fun _ h => nomatch h), (fun j a h => by simp at h), rfl⟩
theorem WayOf.next {far : Nat → Nat} {code : Nat → Int} {start : Nat} {way : List Nat} {place : Nat} (x : WayOf far code start way place) (hn : place ∉ way) (hb : isGood (code place) = false) (hf : far place < 5) : WayOf far code start (way ++ [place]) (far place) := by
  refine ⟨fun a ha => ?_, hf, ?_, fun a ha => ?_, fun j a h => ?_, ?_⟩
  · rcases List.mem_append.mp ha with ha | ha
    · exact x.lt a ha
    · rw [List.mem_singleton.mp ha]; exact x.plt
  · exact List.nodup_append.mpr ⟨x.nodup, by simp, fun a ha b hb e => hn (by rw [List.mem_singleton.mp hb] at e; exact e ▸ ha)⟩
  · rcases List.mem_append.mp ha with ha | ha
    · exact x.bad a ha
    · rw [List.mem_singleton.mp ha]; exact hb
  · have hj : j < (way ++ [place]).length := (List.getElem?_eq_some_iff.mp h).1
    simp only [List.length_append, List.length_singleton] at hj
    by_cases e : j < way.length
    · rw [List.getElem?_append_left e] at h
      have := x.chain j a h
      rw [List.getElem?_append_left (by simp; omega)]
      exact this
    · obtain rfl : j = way.length := by omega
      simp at h
      subst h
      rw [List.getElem?_append_right (by simp)]
      simp
  · have := x.first
    rw [List.getElem?_append_left (by simp)]
    exact this
theorem WayOf.len {far : Nat → Nat} {code : Nat → Int} {start : Nat} {way : List Nat} {place : Nat} (x : WayOf far code start way place) : way.length ≤ 5 := by
  have := List.Nodup.length_le_of_subset (l₁ := way) (l₂ := List.range 5) x.nodup (fun a ha => List.mem_range.mpr (x.lt a ha))
  simpa using this
/-- the ints of a way -/
noncomputable def wInts (way : List Nat) : List Int := way.map (fun (a : Nat) => (a : Int))
section
variable {prog : Program} {w : World} {A : Around} {E : Value → Shared → Prop} {s : Shared}
/-- an item of what is drawn -/
theorem subDrawn {value slice : Expr} {l : Addr} {far : Nat → Nat} {code cost : Nat → Int} {p : Nat} {u : Tok} {Q : Value → Shared → Prop} (hd : DrawnAt far code cost l s.heap) (hp : p < 5)
    (h : ∀ T t1 t2 t3, s.heap.IsTuple T (List.toArray [.int (far p : Int) t1, .int (code p) t2, .int (cost p) t3]) → Q (.ref T) s)
    (hs : subscripted slice false (.ref l) (.int (p : Int) u) = operate [.ref l, .int (p : Int) u] (getItem (.ref l) (.int (p : Int) u)) := by with_unfolding_all rfl) :
    wpAny (model prog w) A (subscriptTail value slice (.ref l) (.int (p : Int) u)) Q E s := by
  obtain ⟨vs, hl, hlen, t1, t2, t3, ht⟩ := hd.x
  obtain ⟨v, hv⟩ : ∃ v, vs[p]? = some v := ⟨_, List.getElem?_eq_getElem (by omega)⟩
  obtain ⟨T, rfl, hT⟩ := ht p v hv
  exact subL hl (Int.natCast_nonneg p) (by omega) (by simpa using hv) (h T _ _ _ hT) hs
end
theorem any_w (way : List Nat) (p : Nat) : ((wInts way).any fun x => x == (p : Int)) = decide (p ∈ way) := by
  induction way with
  | nil => rfl
  | cons a r ih =>
    show ((a : Int) == (p : Int) || (wInts r).any fun x => x == (p : Int)) = _
    rw [ih]
    simp only [List.mem_cons, Bool.decide_or]
    congr 1
    by_cases e : a = p
    · subst e; simp
    · simp [Ne.symm e]; omega
theorem in_of_any {way : List Nat} {p : Nat} (h : ((wInts way).any fun x => x == (p : Int)) = true) : p ∈ way := by
  rw [any_w] at h; simpa using h
theorem out_of_any {way : List Nat} {p : Nat} (h : ((wInts way).any fun x => x == (p : Int)) = false) : p ∉ way := by
  rw [any_w] at h; simpa using h
theorem nd4 (n : Nat) : [n + 4, n + 3, n + 2, n + 1].Nodup := by
  simp only [List.nodup_cons, List.mem_cons, List.not_mem_nil, or_false, not_or, List.nodup_nil, and_true, not_false_eq_true]
  omega
theorem mem_w {way : List Nat} {p : Nat} (h : p ∈ way) : (p : Int) ∈ wInts way := List.mem_map_of_mem (f := fun (a : Nat) => (a : Int)) h
theorem idx_w (way : List Nat) (p : Nat) : (wInts way).idxOf (p : Int) = way.idxOf p := by
  induction way with
  | nil => rfl
  | cons a r ih =>
    show ((a : Int) :: wInts r).idxOf (p : Int) = _
    rw [List.idxOf_cons, List.idxOf_cons, ih]
    by_cases e : a = p
    · subst e; simp
    · have : ((a : Int) == (p : Int)) = false := by simp; omega
      rw [this, beq_eq_false_iff_ne.mpr e]
theorem wAll_w (way : List Nat) (h : ∀ a ∈ way, a < 5) : PyData.weightAll ((wInts way).map PyData.int) ≤ 6 * way.length := by
  induction way with
  | nil => simp [PyData.weightAll, wInts]
  | cons a r ih =>
    have h1 := ih fun b hb => h b (.tail _ hb)
    have h2 := h a (.head _)
    have h3 : PyData.weight (.int (a : Int)) ≤ 5 := by
      have : a = 0 ∨ a = 1 ∨ a = 2 ∨ a = 3 ∨ a = 4 := five (by omega)
      rcases this with rfl | rfl | rfl | rfl | rfl <;> decide
    show PyData.weightAll (PyData.int (a : Int) :: (wInts r).map PyData.int) ≤ _
    simp only [PyData.weightAll, List.length_cons]
    omega
theorem lay_w (way : List Nat) (h : way.length ≤ 5) (h5 : ∀ a ∈ way, a < 5) : PyData.layable0 (.list ((wInts way).map .int)) = true := by
  show (PyData.canLay0 _ && decide (PyData.depth _ ≤ 64) && decide (PyData.weight _ ≤ 2 ^ 20)) = true
  rw [Bool.and_eq_true, Bool.and_eq_true]
  have hw := wAll_w way h5
  refine ⟨⟨?_, ?_⟩, decide_eq_true ?_⟩
  · simp only [PyData.canLay0, canLayAll_ints]
  · simp only [PyData.depth, PyProof.Rows.depthAll_ints]
    decide
  · have hl : ((wInts way).map PyData.int).length ≤ 5 := by simpa [wInts] using h
    simp only [PyData.weight]
    omega
end
section
noncomputable def mtDef : Stmt := match PySem.Challenge.pw_pg0151_01.main.body.drop 18 with
  | x :: _ => x
  | [] => .Pass ⟨0, 0, 0, 0⟩
noncomputable def mtB : List Stmt := match mtDef with | .FunctionDef _ _ b _ _ _ _ _ _ _ => b | _ => []
noncomputable def mtS : Scope := match mtDef with | .FunctionDef _ _ _ _ _ _ s _ _ _ => s | _ => default
noncomputable def mtT : List Stmt := mtB.drop 6
noncomputable def turnAt (ring size p : Nat) : Int := if p < ring then 1 else ((8 - p) / size + 1 : Nat)
noncomputable def costsW (cost : Nat → Int) (way : List Nat) (ring size : Nat) : List Int := (List.range way.length).map fun p => turnAt ring size p * cost (way.getD p 0)
theorem turn_lo {ring size i : Nat} (h : i < ring) : (1 : Int) = turnAt ring size i := by unfold turnAt; rw [if_pos h]
theorem turn_hi {ring size i : Nat} (h : ¬ i < ring) (hi : i ≤ 8) : ((8 - (i : Int)).fdiv (size : Int) + 1) = turnAt ring size i := by
  unfold turnAt
  rw [if_neg h, Int.fdiv_eq_ediv_of_nonneg _ (Int.natCast_nonneg _), show (8 : Int) - (i : Int) = ((8 - i : Nat) : Int) from by omega]
  push_cast
  rfl
theorem turn_bd {ring size i : Nat} (hs : 1 ≤ size) : 1 ≤ turnAt ring size i ∧ turnAt ring size i ≤ 9 := by
  unfold turnAt
  split
  · decide
  · have h1 : (8 - i) / size ≤ 8 - i := Nat.div_le_self _ _
    generalize (8 - i) / size = q at h1 ⊢
    constructor <;> omega
theorem intsAt {f : Nat → Int} {n : Nat} {ys : Array Value} (hn : ys.size = n) (h : ∀ i y, ys[i]? = some y → Opq (∃ t, y = Value.int (f i) t)) : IntsAre ys.toList ((List.range n).map f) := by
  suffices hs : ∀ (l : List Value) (k : Nat), (∀ i y, l[i]? = some y → ∃ t, y = Value.int (f (k + i)) t) → IntsAre l ((List.range' k l.length).map f) by
    have := hs ys.toList 0 fun i y e => by
      rw [Array.getElem?_toList] at e
      rw [Nat.zero_add]
      exact (h i y e).out
    rw [Array.length_toList, hn, ← List.range_eq_range'] at this
    exact this
  intro l
  induction l with
  | nil => intro k _; exact .nil
  | cons v r ih =>
    intro k g
    obtain ⟨t, rfl⟩ := g 0 v rfl
    rw [List.length_cons, List.range'_succ, List.map_cons]
    refine .cons _ t (ih (k + 1) fun i y e => ?_)
    obtain ⟨t', ht'⟩ := g (i + 1) y e
    exact ⟨t', by rw [ht', show k + (i + 1) = k + 1 + i from by omega]⟩
noncomputable def mtR : List Stmt := mtB.drop 9
/-- who called, and how often: as the law tells it -/
noncomputable def mcOf (nm : Nat → Str) (way : List Nat) (ring size p : Nat) : List (Str × Int) :=
  let base : List (Str × Int) := [(if p = 0 then Str.ofString "start" else nm (way.getD (p - 1) 0), if ring < p then turnAt ring size p else 1)]
  if p = ring then putB base (nm (way.getD (way.length - 1) 0)) (turnAt ring size p - 1) else base
noncomputable def leftAt (cost : Nat → Int) (way : List Nat) (left0 : Int) (p : Nat) : Int := left0 - ((way.take p).map cost).sum
noncomputable def rowM (nm : Nat → Str) (cost : Nat → Int) (way : List Nat) (ring size : Nat) (left0 : Int) (p : Nat) : Row :=
  (1, turnAt ring size p, cost (way.getD p 0) * turnAt ring size p, leftAt cost way left0 p, mcOf nm way ring size p)
theorem Cnt.mapPut {kv : List (Str × Value)} {cs : List (Str × Int)} (h : Cnt kv cs) (k : Str) (n : Int) (t : Tok) : Cnt (kv.map (fun q => if q.1 = k then (q.1, .int n t) else q)) (cs.map (fun q => if q.1 = k then (q.1, n) else q)) := by
  induction h with
  | nil => exact .nil
  | cons k' n' t' hr ih =>
    simp only [List.map_cons]
    by_cases e : k' = k
    · simp only [e, if_true]; exact .cons _ _ _ ih
    · simp only [if_neg e]; exact .cons _ _ _ ih
theorem Cnt.put {kv : List (Str × Value)} {cs : List (Str × Int)} (h : Cnt kv cs) (k : Str) (n : Int) (t : Tok) : Cnt (stored kv k (.int n t)) (putB cs k n) := by
  unfold stored putB
  rw [← h.any k]
  split
  · exact h.mapPut k n t
  · exact h.append k n t
end
section
section
variable {prog : Program} {w : World} {A : Around} {E : Value → Shared → Prop} {s : Shared} {value slice : Expr} {l : Addr} {k : Int} {u : Tok} {Q : Value → Shared → Prop}
theorem subInts {its : Array Value} {zs : List Int} {j : Nat} {b : Int} (hl : s.heap.IsList l its) (hi : IntsAre its.toList zs) (hj : zs[j]? = some b) (hk : k = (j : Int)) (hj1 : j < 1000) (h : ∀ t, Q (.int b t) s)
    (hs : subscripted slice false (.ref l) (.int k u) = operate [.ref l, .int k u] (getItem (.ref l) (.int k u)) := by with_unfolding_all rfl) :
    wpAny (model prog w) A (subscriptTail value slice (.ref l) (.int k u)) Q E s := by
  have hlen := hi.length
  obtain ⟨v, hv⟩ : ∃ v, its.toList[j]? = some v := ⟨_, List.getElem?_eq_getElem (by have := (List.getElem?_eq_some_iff.mp hj).1; omega)⟩
  obtain ⟨z, t, rfl, hz⟩ := hi.at j v hv
  rw [hj] at hz
  cases hz
  subst hk
  exact subL (vs := its.toList) (by rw [Array.toArray_toList]; exact hl) (by omega) (by omega) (by simpa using hv) (h t) hs
theorem subNames {nm : Nat → Str} {b : Nat} (hn : NamesAt nm l s.heap) (hb : b < 5) (hk : k = (b : Int)) (h : ∀ t, Q (.str (nm b) t) s)
    (hs : subscripted slice false (.ref l) (.int k u) = operate [.ref l, .int k u] (getItem (.ref l) (.int k u)) := by with_unfolding_all rfl) :
    wpAny (model prog w) A (subscriptTail value slice (.ref l) (.int k u)) Q E s := by
  obtain ⟨vs, hl, hv⟩ := hn.x
  subst hk
  have hlen := hv.len
  obtain ⟨v, hvb⟩ : ∃ v, vs[b]? = some v := ⟨_, List.getElem?_eq_getElem (by simp at hlen; omega)⟩
  obtain ⟨x, t, rfl, hx⟩ := hv.at b v hvb
  have : x = nm b := by
    have : b = 0 ∨ b = 1 ∨ b = 2 ∨ b = 3 ∨ b = 4 := five (by omega)
    rcases this with rfl | rfl | rfl | rfl | rfl <;> exact (Option.some.inj hx).symm
  subst this
  exact subL hl (by omega) (by omega) (by simpa using hvb) (h t) hs
theorem subIntsLast {its : Array Value} {zs : List Int} {j : Nat} {b : Int} (hl : s.heap.IsList l its) (hi : IntsAre its.toList zs) (hj : zs[j]? = some b) (hlast : j + 1 = zs.length) (h : ∀ t, Q (.int b t) s)
    (hs : subscripted slice false (.ref l) (.int (-1) u) = operate [.ref l, .int (-1) u] (getItem (.ref l) (.int (-1) u)) := by with_unfolding_all rfl) :
    wpAny (model prog w) A (subscriptTail value slice (.ref l) (.int (-1) u)) Q E s := by
  have hlen := hi.length
  obtain ⟨v, hv⟩ : ∃ v, its.toList[j]? = some v := ⟨_, List.getElem?_eq_getElem (by have := (List.getElem?_eq_some_iff.mp hj).1; omega)⟩
  obtain ⟨z, t, rfl, hz⟩ := hi.at j v hv
  rw [hj] at hz
  cases hz
  have hsz : its.size = j + 1 := by rw [← Array.length_toList]; omega
  refine tail_any hl.typeIs slot_list_getitem.lookup ?_ hs
  exact wpAny_getItem_list_neg (x := .int b t) hl (by decide) (by omega) (by decide) (by rw [hsz, show ((-1 : Int) + ((j + 1 : Nat) : Int)).toNat = j from by omega]; simpa using hv) (h t)
end
/-- what the law tells of a walk -/
structure MeantAt (prog : Program) (w : World) (nm : Nat → Str) (cost : Nat → Int) (way : List Nat) (ring size last : Nat) (left0 : Int) (x lw lr : Addr) (g : Heap) : Prop where
  tup : ∃ t, g.IsTuple x #[.ref lw, .ref lr, .str (nm last) t]
  ways : StrsAt (way.map nm) lw g
  rows : ∃ vs : List Value, g.IsList lr vs.toArray ∧ vs.length = way.length ∧ ∀ (j : Nat) v, vs[j]? = some v → RowAt prog w g v (rowM nm cost way ring size left0 j)
end
section
abbrev V5 := Int × Int × Int × Int × Int
noncomputable def v5Ops : Ops V5 := ⟨fun x y => (x.1 + y.1, x.2.1 + y.2.1, x.2.2.1 + y.2.2.1, x.2.2.2.1 + y.2.2.2.1, x.2.2.2.2 + y.2.2.2.2), fun x y => (x.1 - y.1, x.2.1 - y.2.1, x.2.2.1 - y.2.2.1, x.2.2.2.1 - y.2.2.2.1, x.2.2.2.2 - y.2.2.2.2), (0, 0, 0, 0, 0)⟩
noncomputable def unitV (p : Nat) (k : Int) : V5 := (if p = 0 then k else 0, if p = 1 then k else 0, if p = 2 then k else 0, if p = 3 then k else 0, if p = 4 then k else 0)
/-- the next place on a way of n with its ring at r -/
noncomputable def nextP (n r p : Nat) : Nat := if p + 1 < n then p + 1 else r
noncomputable def placesFrom (n r : Nat) : Nat → Nat → List Nat
  | 0, _ => []
  | k + 1, p => p :: placesFrom n r k (nextP n r p)
/-- the places that a walk comes by -/
noncomputable def places (n r : Nat) : List Nat := if r = n then List.range n else placesFrom n r 9 0
noncomputable def sizeOf' (n r : Nat) : Nat := max (n - r) 1
noncomputable def leftV (n r p : Nat) : V5 := sumG v5Ops ((List.range n).map fun q => unitV q (turnAt r (sizeOf' n r) q - if q < p then 1 else 0))
noncomputable def mcP (n r p : Nat) : List (Nat × Int) :=
  let base : List (Nat × Int) := [(if p = 0 then 5 else p - 1, if r < p then turnAt r (sizeOf' n r) p else 1)]
  if p = r then putG base (n - 1) (turnAt r (sizeOf' n r) p - 1) else base
noncomputable def profP (n r : Nat) : List (Nat × RowG Nat V5) := (runG v5Ops (fun i => i) (fun p => unitV p 1) 5 (places n r) ⟨[], [], []⟩).prof
noncomputable def sameC (a b : List (Nat × Int)) : Bool := a.length == b.length && a.all fun q => getG b q.1 == some q.2
noncomputable def checkP (n r : Nat) : Bool := (profP n r).length == n && (List.range n).all fun p => match getG (profP n r) p with
  | some (a, b, t, c, cs) => a == 1 && b == turnAt r (sizeOf' n r) p && t == unitV p (turnAt r (sizeOf' n r) p) && c == leftV n r p && sameC cs (mcP n r p) && (cs.map (·.2)).sum == turnAt r (sizeOf' n r) p
  | none => false
theorem check_all : ∀ n, n < 6 → ∀ r, r < n + 1 → checkP n r = true := by decide +kernel
end
section
noncomputable def ev (c : Nat → Int) (x : V5) : Int := x.1 * c 0 + x.2.1 * c 1 + x.2.2.1 * c 2 + x.2.2.2.1 * c 3 + x.2.2.2.2 * c 4
theorem ev_hom (c : Nat → Int) : Hom v5Ops intOps (ev c) := by
  refine ⟨fun x y => ?_, fun x y => ?_, ?_⟩
  · simp only [ev, v5Ops, intOps, Int.add_mul]; omega
  · simp only [ev, v5Ops, intOps, Int.sub_mul]; omega
  · simp [ev, v5Ops, intOps]
theorem ev_unit (c : Nat → Int) (p : Nat) (hp : p < 5) (k : Int) : ev c (unitV p k) = k * c p := by
  have : p = 0 ∨ p = 1 ∨ p = 2 ∨ p = 3 ∨ p = 4 := five (by omega)
  rcases this with rfl | rfl | rfl | rfl | rfl <;> simp [ev, unitV]
/-- the key of a place -/
noncomputable def keyOf (code : Nat → Int) (way : List Nat) (p : Nat) : Str :=
  if p < way.length then nmOf code (way.getD p 0) else if p = 5 then Str.ofString "start" else Str.mk #[126, p]
theorem key_first (code : Nat → Int) (way : List Nat) (h5 : ∀ a ∈ way, a < 5) (p : Nat) : ∃ x, (keyOf code way p).cps[0]? = some x ∧ (p < way.length → x ∈ [119, 97, 123, 99, 107]) ∧ (¬ p < way.length → p = 5 → x = 115) ∧ (¬ p < way.length → p ≠ 5 → x = 126) := by
  unfold keyOf
  by_cases h : p < way.length
  · rw [if_pos h]
    have ha : way.getD p 0 < 5 := by
      rw [List.getD_eq_getElem?_getD, List.getElem?_eq_getElem h]
      exact h5 _ (List.getElem_mem h)
    refine ⟨_, nm_first code _ ha, fun _ => ?_, fun q => absurd h q, fun q => absurd h q⟩
    generalize way.getD p 0 = a at ha
    have : a = 0 ∨ a = 1 ∨ a = 2 ∨ a = 3 ∨ a = 4 := five (by omega)
    rcases this with rfl | rfl | rfl | rfl | rfl <;> decide
  · rw [if_neg h]
    by_cases e : p = 5
    · rw [if_pos e]
      exact ⟨115, by decide +kernel, fun q => absurd q h, fun _ _ => rfl, fun _ q => absurd e q⟩
    · rw [if_neg e]
      exact ⟨126, rfl, fun q => absurd q h, fun _ q => absurd q e, fun _ _ => rfl⟩
theorem key_inj (code : Nat → Int) (way : List Nat) (h5 : ∀ a ∈ way, a < 5) (hn : way.Nodup) (x y : Nat) (e : keyOf code way x = keyOf code way y) : x = y := by
  obtain ⟨a, ha, a1, a2, a3⟩ := key_first code way h5 x
  obtain ⟨b, hb, b1, b2, b3⟩ := key_first code way h5 y
  have hab : a = b := by rw [e, hb] at ha; exact (Option.some.inj ha).symm
  subst hab
  by_cases hx : x < way.length <;> by_cases hy : y < way.length
  · unfold keyOf at e
    rw [if_pos hx, if_pos hy] at e
    have gx : way.getD x 0 = way[x] := by rw [List.getD_eq_getElem?_getD, List.getElem?_eq_getElem hx]; rfl
    have gy : way.getD y 0 = way[y] := by rw [List.getD_eq_getElem?_getD, List.getElem?_eq_getElem hy]; rfl
    have := nm_inj code (by rw [gx]; exact h5 _ (List.getElem_mem hx)) (by rw [gy]; exact h5 _ (List.getElem_mem hy)) e
    rw [gx, gy] at this
    exact (List.getElem_inj hn).mp this
  · exfalso
    have h1 := a1 hx
    by_cases q : y = 5
    · rw [b2 hy q] at h1; revert h1; decide
    · rw [b3 hy q] at h1; revert h1; decide
  · exfalso
    have h1 := b1 hy
    by_cases q : x = 5
    · rw [a2 hx q] at h1; revert h1; decide
    · rw [a3 hx q] at h1; revert h1; decide
  · by_cases q1 : x = 5 <;> by_cases q2 : y = 5
    · omega
    · exfalso
      have h1 := a2 hx q1
      rw [b3 hy q2] at h1; revert h1; decide
    · exfalso
      have h1 := a3 hx q1
      rw [b2 hy q2] at h1; revert h1; decide
    · unfold keyOf at e
      rw [if_neg hx, if_neg q1, if_neg hy, if_neg q2] at e
      simpa using e
end
section
section
variable {far : Nat → Nat} {code cost : Nat → Int} {nm : Nat → Str} {start place : Nat} {way : List Nat}
theorem getD_of {l : List Nat} {j a : Nat} (h : l[j]? = some a) : l.getD j 0 = a := by rw [List.getD_eq_getElem?_getD, h]; rfl
theorem WayOf.step (x : WayOf far code start way place) (hin : place ∈ way) {p : Nat} (hp : p < way.length) : far (way.getD p 0) = way.getD (nextP way.length (way.idxOf place) p) 0 := by
  have h1 : way[p]? = some (way.getD p 0) := by rw [List.getD_eq_getElem?_getD, List.getElem?_eq_getElem hp]; rfl
  have h2 := x.chain p _ h1
  unfold nextP
  by_cases h : p + 1 < way.length
  · rw [if_pos h]
    rw [List.getElem?_append_left h] at h2
    exact (getD_of h2).symm
  · rw [if_neg h]
    have e : p + 1 = way.length := by omega
    rw [e, List.getElem?_append_right (Nat.le_refl _)] at h2
    rw [Nat.sub_self] at h2
    have h3 : place = far (way.getD p 0) := Option.some.inj h2
    rw [← h3]
    have hl : way.idxOf place < way.length := List.idxOf_lt_length_iff.mpr hin
    rw [List.getD_eq_getElem?_getD, List.getElem?_eq_getElem hl]
    exact (List.getElem_idxOf hl).symm
theorem WayOf.head (x : WayOf far code start way place) (h : 0 < way.length) : way.getD 0 0 = start := by
  have := x.first
  rw [List.getElem?_append_left h] at this
  exact getD_of this
theorem WayOf.badAt (x : WayOf far code start way place) {p : Nat} (hp : p < way.length) : isGood (code (way.getD p 0)) = false := by
  refine x.bad _ ?_
  rw [List.getD_eq_getElem?_getD, List.getElem?_eq_getElem hp]
  exact List.getElem_mem hp
theorem nextP_lt {n r p : Nat} (hr : r < n) : nextP n r p < n := by unfold nextP; split <;> omega
theorem trace_ring (x : WayOf far code start way place) (hin : place ∈ way) : ∀ m p, p < way.length → trace ⟨nm, code, far, cost⟩ m (way.getD p 0) = (placesFrom way.length (way.idxOf place) (m + 1) p).map (way.getD · 0) := by
  have hl : way.idxOf place < way.length := List.idxOf_lt_length_iff.mpr hin
  intro m
  induction m with
  | zero =>
    intro p hp
    show (if isGood (code (way.getD p 0)) = true then [] else [way.getD p 0]) = _
    rw [x.badAt hp]; rfl
  | succ m ih =>
    intro p hp
    show (if isGood (code (way.getD p 0)) = true then [] else way.getD p 0 :: trace ⟨nm, code, far, cost⟩ m (far (way.getD p 0))) = _
    rw [x.badAt hp, x.step hin hp, ih _ (nextP_lt hl)]
    rfl
theorem ans_ring (x : WayOf far code start way place) (hin : place ∈ way) : ∀ m p, p < way.length → some (ansOf ⟨nm, code, far, cost⟩ m (way.getD p 0)) = ((placesFrom way.length (way.idxOf place) (m + 1) p).map (way.getD · 0))[m]? := by
  have hl : way.idxOf place < way.length := List.idxOf_lt_length_iff.mpr hin
  intro m
  induction m with
  | zero => intro p hp; rfl
  | succ m ih =>
    intro p hp
    show some (if isGood (code (way.getD p 0)) = true then way.getD p 0 else ansOf ⟨nm, code, far, cost⟩ m (far (way.getD p 0))) = _
    rw [x.badAt hp, x.step hin hp]
    rw [if_neg (by simp), ih _ (nextP_lt hl)]
    rfl
theorem trace_good (x : WayOf far code start way place) (hg : isGood (code place) = true) : ∀ m p, p ≤ way.length → way.length - p ≤ m → trace ⟨nm, code, far, cost⟩ m ((way ++ [place]).getD p 0) = way.drop p ∧ ansOf ⟨nm, code, far, cost⟩ m ((way ++ [place]).getD p 0) = place := by
  have last : (way ++ [place]).getD way.length 0 = place := by rw [List.getD_eq_getElem?_getD, List.getElem?_append_right (Nat.le_refl _)]; simp
  intro m
  induction m with
  | zero =>
    intro p hp hm
    obtain rfl : p = way.length := by omega
    rw [last]
    refine ⟨?_, rfl⟩
    show (if isGood (code place) = true then [] else [place]) = _
    rw [hg]; simp
  | succ m ih =>
    intro p hp hm
    by_cases e : p = way.length
    · subst e
      rw [last]
      refine ⟨?_, ?_⟩
      · show (if isGood (code place) = true then [] else _) = _
        rw [hg]; simp
      · show (if isGood (code place) = true then place else _) = _
        rw [hg]; rfl
    · have hp' : p < way.length := by omega
      have g1 : (way ++ [place]).getD p 0 = way.getD p 0 := by rw [List.getD_eq_getElem?_getD, List.getElem?_append_left hp', ← List.getD_eq_getElem?_getD]
      have h1 : way[p]? = some (way.getD p 0) := by rw [List.getD_eq_getElem?_getD, List.getElem?_eq_getElem hp']; rfl
      have h2 := getD_of (x.chain p _ h1)
      obtain ⟨i1, i2⟩ := ih (p + 1) (by omega) (by omega)
      rw [h2] at i1 i2
      rw [g1]
      refine ⟨?_, ?_⟩
      · show (if isGood (code (way.getD p 0)) = true then [] else way.getD p 0 :: trace ⟨nm, code, far, cost⟩ m (far (way.getD p 0))) = _
        rw [x.badAt hp', if_neg (by simp), i1]
        rw [List.drop_eq_getElem_cons hp']
        congr 1
        rw [List.getD_eq_getElem?_getD, List.getElem?_eq_getElem hp']; rfl
      · show (if isGood (code (way.getD p 0)) = true then _ else ansOf ⟨nm, code, far, cost⟩ m (far (way.getD p 0))) = _
        rw [x.badAt hp', if_neg (by simp), i2]
end
end
section
theorem places_lt : ∀ n, n < 6 → ∀ r, r < n + 1 → (places n r).all (fun p => p < n) = true := by decide +kernel
theorem places_last : ∀ n, n < 6 → ∀ r, r < n → (placesFrom n r 9 0)[8]? = some (r + (8 - r) % max (n - r) 1) := by decide +kernel
section
variable {far : Nat → Nat} {code cost : Nat → Int} {start place : Nat} {way : List Nat}
theorem idx_le : way.idxOf place ≤ way.length := List.idxOf_le_length
theorem trace_places (x : WayOf far code start way place) (hend : place ∈ way ∨ isGood (code place) = true) : trace ⟨nmOf code, code, far, cost⟩ 8 start = (places way.length (way.idxOf place)).map (way.getD · 0) := by
  by_cases hin : place ∈ way
  · have hl : way.idxOf place < way.length := List.idxOf_lt_length_iff.mpr hin
    unfold places
    rw [if_neg (by omega), ← x.head (by omega)]
    exact trace_ring x hin 8 0 (by omega)
  · have hg : isGood (code place) = true := hend.resolve_left hin
    have hr : way.idxOf place = way.length := List.idxOf_eq_length hin
    unfold places
    rw [hr, if_pos rfl]
    have h0 : (way ++ [place]).getD 0 0 = start := getD_of x.first
    have := (trace_good (nm := nmOf code) (cost := cost) x hg 8 0 (Nat.zero_le _) (by have := x.len; omega)).1
    rw [h0] at this
    rw [this, List.drop_zero]
    apply List.ext_getElem?
    intro i
    rw [List.getElem?_map]
    by_cases h : i < way.length
    · rw [List.getElem?_range h, List.getElem?_eq_getElem h]
      show _ = some (way.getD i 0)
      rw [List.getD_eq_getElem?_getD, List.getElem?_eq_getElem h]; rfl
    · rw [List.getElem?_eq_none (by omega), List.getElem?_eq_none (by simp; omega)]; rfl
/-- the page that the walk ends with -/
theorem ans_is (x : WayOf far code start way place) (hend : place ∈ way ∨ isGood (code place) = true) : ansOf ⟨nmOf code, code, far, cost⟩ 8 start = (if place ∈ way then way.getD (way.idxOf place + (8 - way.idxOf place) % max (way.length - way.idxOf place) 1) 0 else place) := by
  by_cases hin : place ∈ way
  · have hl : way.idxOf place < way.length := List.idxOf_lt_length_iff.mpr hin
    rw [if_pos hin]
    have h1 := ans_ring (nm := nmOf code) (cost := cost) x hin 8 0 (by omega)
    rw [x.head (by omega), List.getElem?_map, places_last _ (by have := x.len; omega) _ hl] at h1
    exact Option.some.inj h1
  · have hg : isGood (code place) = true := hend.resolve_left hin
    rw [if_neg hin]
    have h0 : (way ++ [place]).getD 0 0 = start := getD_of x.first
    have := (trace_good (nm := nmOf code) (cost := cost) x hg 8 0 (Nat.zero_le _) (by have := x.len; omega)).2
    rw [h0] at this
    exact this
/-- the profile, by places -/
theorem prof_is (x : WayOf far code start way place) (hend : place ∈ way ∨ isGood (code place) = true) :
    (http ⟨nmOf code, code, far, cost⟩ 8 (Str.ofString "start") start ⟨[], [], []⟩).2.prof = (profP way.length (way.idxOf place)).map fun q => (keyOf code way q.1, mapRow (keyOf code way) (ev fun p => cost (way.getD p 0)) q.2) := by
  have h5 := x.len
  have h1 := (http_run ⟨nmOf code, code, far, cost⟩ 8 (Str.ofString "start") start ⟨[], [], []⟩).2
  have hk : Str.ofString "start" = keyOf code way 5 := by
    unfold keyOf
    rw [if_neg (by omega), if_pos rfl]
  have hpl := places_lt way.length (by omega) (way.idxOf place) (by have := @idx_le place way; omega)
  rw [trace_places x hend] at h1
  have h2 := runG_map (f := keyOf code way) (g := ev fun p => cost (way.getD p 0)) (O := v5Ops) (O' := intOps) (key_inj code way x.lt x.nodup) (ev_hom _) (nm := fun i => i) (cost := fun p => unitV p 1) (nm' := nmOf code) (cost' := cost) (places way.length (way.idxOf place)) ((places way.length (way.idxOf place)).map (way.getD · 0)) 5 ⟨[], [], []⟩ (by simp) (fun j i i' hi hi' => by
    rw [List.getElem?_map, hi] at hi'
    cases hi'
    have hin : i < way.length := by
      have := List.all_eq_true.mp hpl i (List.mem_of_getElem? hi)
      simpa using this
    refine ⟨?_, ?_⟩
    · show nmOf code (way.getD i 0) = keyOf code way i
      unfold keyOf; rw [if_pos hin]
    · show cost (way.getD i 0) = ev _ (unitV i 1)
      rw [ev_unit _ _ (by omega), Int.one_mul])
  rw [← hk] at h2
  have h3 : toG (http ⟨nmOf code, code, far, cost⟩ 8 (Str.ofString "start") start ⟨[], [], []⟩).2 = _ := h1.trans h2
  exact congrArg MemG.prof h3
end
end
section
section
variable {code cost : Nat → Int} {way : List Nat}
theorem sum_split (f g : Nat → Int) : ∀ l : List Nat, (l.map fun q => f q - g q).sum = (l.map f).sum - (l.map g).sum
  | [] => by simp
  | a :: r => by simp only [List.map_cons, List.sum_cons, sum_split f g r]; omega
theorem ind_sum (c : Nat → Int) (p : Nat) : ∀ n, p ≤ n → ((List.range n).map fun q => if q < p then c q else 0).sum = ((List.range p).map c).sum := by
  intro n
  induction n with
  | zero =>
    intro h
    obtain rfl : p = 0 := Nat.le_zero.mp h
    rfl
  | succ n ih =>
    intro h
    rw [List.range_succ, List.map_append, List.sum_append]
    by_cases e : p = n + 1
    · subst e
      rw [List.range_succ, List.map_append, List.sum_append]
      congr 1
      · congr 1
        refine List.map_congr_left fun q hq => ?_
        have := List.mem_range.mp hq
        rw [if_pos (by omega)]
      · simp
    · rw [ih (by omega)]
      simp
      omega
theorem take_costs (p : Nat) (hp : p ≤ way.length) : ((List.range p).map fun q => cost (way.getD q 0)) = (way.take p).map cost := by
  apply List.ext_getElem?
  intro i
  rw [List.getElem?_map, List.getElem?_map]
  by_cases h : i < p
  · rw [List.getElem?_range h, List.getElem?_take_of_lt h, List.getElem?_eq_getElem (by omega)]
    show some (cost (way.getD i 0)) = some _
    rw [List.getD_eq_getElem?_getD, List.getElem?_eq_getElem (by omega)]; rfl
  · rw [List.getElem?_eq_none (by simp; omega), List.getElem?_eq_none (by simp; omega)]; rfl
/-- what is left, from the coefficients -/
theorem left_is (r p : Nat) (h5 : way.length ≤ 5) (hp : p ≤ way.length) :
    ev (fun q => cost (way.getD q 0)) (leftV way.length r p) = leftAt cost way (costsW cost way r (sizeOf' way.length r)).sum p := by
  unfold leftV leftAt costsW
  rw [← sumG_map (ev_hom _), List.map_map, sumG_int, ← take_costs p hp, ← ind_sum (fun q => cost (way.getD q 0)) p way.length hp, ← sum_split]
  congr 1
  refine List.map_congr_left fun q hq => ?_
  have hq' := List.mem_range.mp hq
  show ev _ (unitV q _) = _
  rw [ev_unit _ _ (by omega), Int.sub_mul]
  split <;> simp
/-- the callers that are meant, from the places -/
theorem mc_is (h5 : ∀ a ∈ way, a < 5) (hn : way.Nodup) (hw : way.length ≤ 5) (r p : Nat) (hp : p < way.length) : mcOf (nmOf code) way r (sizeOf' way.length r) p = (mcP way.length r p).map fun q => (keyOf code way q.1, q.2) := by
  have hk : ∀ q, q < way.length → keyOf code way q = nmOf code (way.getD q 0) := fun q hq => by unfold keyOf; rw [if_pos hq]
  have hs : keyOf code way 5 = Str.ofString "start" := by unfold keyOf; rw [if_neg (by omega), if_pos rfl]
  have hb : (if p = 0 then Str.ofString "start" else nmOf code (way.getD (p - 1) 0)) = keyOf code way (if p = 0 then 5 else p - 1) := by
    by_cases e : p = 0
    · rw [if_pos e, if_pos e, hs]
    · rw [if_neg e, if_neg e, hk _ (by omega)]
  unfold mcOf mcP
  dsimp only
  rw [hb]
  by_cases e : p = r
  · rw [if_pos e, if_pos e, ← hk (way.length - 1) (by omega)]
    exact putG_map (ψ := fun z : Int => z) (key_inj code way h5 hn) [(if p = 0 then 5 else p - 1, if r < p then turnAt r (sizeOf' way.length r) p else 1)] (way.length - 1) (turnAt r (sizeOf' way.length r) p - 1)
  · rw [if_neg e, if_neg e]
    rfl
end
end
section
/-- two lists of counts say the same -/
noncomputable def SameCnt (a b : List (Str × Int)) : Prop := a.length = b.length ∧ ∀ q ∈ a, getB b q.1 = some q.2
section
variable {far : Nat → Nat} {code cost : Nat → Int} {start place : Nat} {way : List Nat}
theorem row_is (x : WayOf far code start way place) (hend : place ∈ way ∨ isGood (code place) = true) (p : Nat) (hp : p < way.length) :
    ∃ cs, getB (http ⟨nmOf code, code, far, cost⟩ 8 (Str.ofString "start") start ⟨[], [], []⟩).2.prof (nmOf code (way.getD p 0)) =
      some (1, turnAt (way.idxOf place) (sizeOf' way.length (way.idxOf place)) p, turnAt (way.idxOf place) (sizeOf' way.length (way.idxOf place)) p * cost (way.getD p 0),
        leftAt cost way (costsW cost way (way.idxOf place) (sizeOf' way.length (way.idxOf place))).sum p, cs) ∧
      SameCnt cs (mcOf (nmOf code) way (way.idxOf place) (sizeOf' way.length (way.idxOf place)) p) ∧ (cs.map (·.2)).sum = turnAt (way.idxOf place) (sizeOf' way.length (way.idxOf place)) p := by
  have h5 := x.len
  have hr : way.idxOf place ≤ way.length := idx_le
  have hc := check_all way.length (by omega) (way.idxOf place) (by omega)
  unfold checkP at hc
  rw [Bool.and_eq_true] at hc
  have hp' := List.all_eq_true.mp hc.2 p (List.mem_range.mpr hp)
  have hg := getG_map (f := keyOf code way) (ψ := mapRow (keyOf code way) (ev fun p => cost (way.getD p 0))) (key_inj code way x.lt x.nodup) (profP way.length (way.idxOf place)) p
  rw [← prof_is x hend] at hg
  have hk : keyOf code way p = nmOf code (way.getD p 0) := by unfold keyOf; rw [if_pos hp]
  rw [hk] at hg
  cases q : getG (profP way.length (way.idxOf place)) p with
  | none => rw [q] at hp'; cases hp'
  | some row =>
    obtain ⟨a, b, t, c, cs⟩ := row
    rw [q] at hp' hg
    simp only [Bool.and_eq_true, beq_iff_eq] at hp'
    obtain ⟨⟨⟨⟨⟨h1, h2⟩, h3⟩, h4⟩, h6⟩, h7⟩ := hp'
    subst h1 h2 h3 h4
    refine ⟨cs.map fun q => (keyOf code way q.1, q.2), ?_, ?_, ?_⟩
    · refine hg.trans ?_
      show some (_, _, _, _, _) = some (_, _, _, _, _)
      rw [ev_unit _ _ (by omega), left_is _ _ h5 (by omega)]
    · rw [mc_is x.lt x.nodup h5 _ _ hp]
      unfold sameC at h6
      rw [Bool.and_eq_true, beq_iff_eq] at h6
      refine ⟨by simp [h6.1], fun q hq => ?_⟩
      obtain ⟨q', hq', rfl⟩ := List.mem_map.mp hq
      have := List.all_eq_true.mp h6.2 q' hq'
      have hgm := getG_map (f := keyOf code way) (ψ := fun z : Int => z) (key_inj code way x.lt x.nodup) (mcP way.length (way.idxOf place) p) q'.1
      rw [beq_iff_eq] at this
      rw [this] at hgm
      exact hgm
    · rw [List.map_map]
      exact h7
theorem prof_len (x : WayOf far code start way place) (hend : place ∈ way ∨ isGood (code place) = true) : (http ⟨nmOf code, code, far, cost⟩ 8 (Str.ofString "start") start ⟨[], [], []⟩).2.prof.length = way.length := by
  have h5 := x.len
  have hr : way.idxOf place ≤ way.length := idx_le
  have hc := check_all way.length (by omega) (way.idxOf place) (by omega)
  unfold checkP at hc
  rw [Bool.and_eq_true, beq_iff_eq] at hc
  rw [prof_is x hend, List.length_map]
  exact hc.1
end
end
section
/-- insertion by place -/
noncomputable def insAtP (line : List Nat) (ct : Nat) : Nat → Nat
  | 0 => 0
  | p + 1 => match line[p]? with
    | some r => if ct < r then insAtP line ct p else p + 1
    | none => p + 1
noncomputable def insP (line : List Nat) (r : Nat) : List Nat := line.take (insAtP line r line.length) ++ r :: line.drop (insAtP line r line.length)
theorem sortP : ∀ n, n < 6 → ∀ r, r < n + 1 → ((profP n r).map (·.1)).foldl insP [] = List.range n := by decide +kernel
/-- a row's key falls as its place grows -/
theorem insAt_places {f : Nat → Str × Row} {g : Nat → Prop} (h : ∀ a b, g a → g b → ((f b).2.2.2.2.1 < (f a).2.2.2.2.1 ↔ a < b)) (a : Nat) (ha : g a) : ∀ (line : List Nat) p, (∀ b ∈ line, g b) → insAt (line.map f) (f a).2.2.2.2.1 p = insAtP line a p := by
  intro line p hl
  induction p with
  | zero => rfl
  | succ p ih =>
    unfold insAt insAtP
    rw [List.getElem?_map]
    cases q : line[p]? with
    | none => rfl
    | some b =>
      show (if (f b).2.2.2.2.1 < (f a).2.2.2.2.1 then insAt (line.map f) _ p else p + 1) = if a < b then insAtP line a p else p + 1
      have hb := hl b (List.mem_of_getElem? q)
      by_cases c : a < b
      · rw [if_pos c, if_pos ((h a b ha hb).mpr c), ih]
      · rw [if_neg c, if_neg fun z => c ((h a b ha hb).mp z)]
theorem insP_mem {line : List Nat} {r b : Nat} (h : b ∈ insP line r) : b ∈ line ∨ b = r := by
  unfold insP at h
  rcases List.mem_append.mp h with h | h
  · exact .inl (List.mem_of_mem_take h)
  rcases List.mem_cons.mp h with h | h
  · exact .inr h
  · exact .inl (List.mem_of_mem_drop h)
theorem ins_places {f : Nat → Str × Row} {g : Nat → Prop} (h : ∀ a b, g a → g b → ((f b).2.2.2.2.1 < (f a).2.2.2.2.1 ↔ a < b)) : ∀ (l line : List Nat), (∀ b ∈ l, g b) → (∀ b ∈ line, g b) → (l.map f).foldl insRow (line.map f) = (l.foldl insP line).map f := by
  intro l
  induction l with
  | nil => intro line _ _; rfl
  | cons a r ih =>
    intro line hl hline
    have ha := hl a (.head _)
    have e : insRow (line.map f) (f a) = (insP line a).map f := by
      unfold insRow insP
      rw [List.length_map, insAt_places h a ha line _ hline, List.map_append, List.map_cons, List.map_take, List.map_drop]
    simp only [List.map_cons, List.foldl_cons]
    rw [e]
    exact ih _ (fun b hb => hl b (.tail _ hb)) fun b hb => (insP_mem hb).elim (hline b) fun q => q ▸ ha
end
section
theorem keysP : ∀ n, n < 6 → ∀ r, r < n + 1 → (profP n r).all (fun q => decide (q.1 < n) && (getG (profP n r) q.1 == some q.2)) = true := by decide +kernel
section
variable {far : Nat → Nat} {code cost : Nat → Int} {start place : Nat} {way : List Nat}
theorem take_grow (hc : ∀ a ∈ way, 1 ≤ cost a) : ∀ d a, a + d < way.length → 0 ≤ d → ((way.take a).map cost).sum + d ≤ ((way.take (a + d)).map cost).sum := by
  intro d
  induction d with
  | zero => intro a _ _; simp
  | succ d ih =>
    intro a h _
    have h1 := ih a (by omega) (Nat.zero_le _)
    have e : way.take (a + (d + 1)) = way.take (a + d) ++ [way[a + d]] := by
      rw [← Nat.add_assoc, List.take_succ_eq_append_getElem (by omega)]
    rw [e, List.map_append, List.sum_append]
    have := hc way[a + d] (List.getElem_mem _)
    simp only [List.map_cons, List.map_nil, List.sum_cons, List.sum_nil]
    omega
theorem left_falls (hc : ∀ a ∈ way, 1 ≤ cost a) (S : Int) (a b : Nat) (ha : a < way.length) (hb : b < way.length) : leftAt cost way S b < leftAt cost way S a ↔ a < b := by
  unfold leftAt
  constructor
  · intro h
    rcases Nat.lt_or_ge a b with q | q
    · exact q
    · exfalso
      have := take_grow (cost := cost) hc (a - b) b (by omega) (Nat.zero_le _)
      rw [show b + (a - b) = a by omega] at this
      omega
  · intro h
    have := take_grow (cost := cost) hc (b - a) a (by omega) (Nat.zero_le _)
    rw [show a + (b - a) = b by omega] at this
    omega
/-- the rows stand by their time as on the way -/
theorem time_is (x : WayOf far code start way place) (hend : place ∈ way ∨ isGood (code place) = true) (hc : ∀ a ∈ way, 1 ≤ cost a) :
    byTime (http ⟨nmOf code, code, far, cost⟩ 8 (Str.ofString "start") start ⟨[], [], []⟩).2.prof = way.map (nmOf code) := by
  have h5 := x.len
  have hr : way.idxOf place ≤ way.length := idx_le
  have hk := keysP way.length (by omega) (way.idxOf place) (by omega)
  have hcl := check_all way.length (by omega) (way.idxOf place) (by omega)
  unfold checkP at hcl
  rw [Bool.and_eq_true] at hcl
  let dflt : RowG Nat V5 := (0, 0, (0, 0, 0, 0, 0), (0, 0, 0, 0, 0), [])
  let f : Nat → Str × Row := fun p => (keyOf code way p, mapRow (keyOf code way) (ev fun p => cost (way.getD p 0)) ((getG (profP way.length (way.idxOf place)) p).getD dflt))
  have e : (http ⟨nmOf code, code, far, cost⟩ 8 (Str.ofString "start") start ⟨[], [], []⟩).2.prof = ((profP way.length (way.idxOf place)).map (·.1)).map f := by
    rw [prof_is x hend, List.map_map]
    refine List.map_congr_left fun q hq => ?_
    have := List.all_eq_true.mp hk q hq
    rw [Bool.and_eq_true, beq_iff_eq] at this
    show _ = (keyOf code way q.1, mapRow _ _ ((getG (profP way.length (way.idxOf place)) q.1).getD dflt))
    rw [this.2]; rfl
  have hf : ∀ p, p < way.length → (f p).2.2.2.2.1 = leftAt cost way (costsW cost way (way.idxOf place) (sizeOf' way.length (way.idxOf place))).sum p := by
    intro p hp
    have hp' := List.all_eq_true.mp hcl.2 p (List.mem_range.mpr hp)
    show ev (fun p => cost (way.getD p 0)) ((getG (profP way.length (way.idxOf place)) p).getD dflt).2.2.2.1 = leftAt cost way (costsW cost way (way.idxOf place) (sizeOf' way.length (way.idxOf place))).sum p
    cases q : getG (profP way.length (way.idxOf place)) p with
    | none => rw [q] at hp'; cases hp'
    | some row =>
      obtain ⟨a, b, t, c, cs⟩ := row
      rw [q] at hp'
      simp only [Bool.and_eq_true, beq_iff_eq] at hp'
      obtain ⟨⟨⟨⟨⟨h1, h2⟩, h3⟩, h4⟩, h6⟩, h7⟩ := hp'
      subst h4
      exact left_is _ _ h5 (by omega)
  have hlt : ∀ b ∈ (profP way.length (way.idxOf place)).map (·.1), b < way.length := by
    intro b hb
    obtain ⟨q, hq, rfl⟩ := List.mem_map.mp hb
    have := List.all_eq_true.mp hk q hq
    rw [Bool.and_eq_true, decide_eq_true_eq] at this
    exact this.1
  have hins := ins_places (f := f) (g := fun p => p < way.length) (fun a b ha hb => by
    rw [hf a ha, hf b hb]
    exact left_falls hc _ a b ha hb) ((profP way.length (way.idxOf place)).map (·.1)) [] hlt (fun _ h => nomatch h)
  unfold byTime
  rw [e]
  have hins' : (((profP way.length (way.idxOf place)).map (·.1)).map f).foldl insRow [] = _ := hins
  rw [hins', sortP way.length (by omega) (way.idxOf place) (by omega), List.map_map]
  apply List.ext_getElem?
  intro i
  rw [List.getElem?_map, List.getElem?_map]
  by_cases h : i < way.length
  · rw [List.getElem?_range h, List.getElem?_eq_getElem h]
    show some (keyOf code way i) = some (nmOf code way[i])
    unfold keyOf
    rw [if_pos h, List.getD_eq_getElem?_getD, List.getElem?_eq_getElem h]; rfl
  · rw [List.getElem?_eq_none (by simp; omega), List.getElem?_eq_none (by omega)]; rfl
end
end
section
/-- two rows say the same -/
structure SameRow (r r' : Row) : Prop where
  a : r.1 = r'.1
  b : r.2.1 = r'.2.1
  c : r.2.2.1 = r'.2.2.1
  d : r.2.2.2.1 = r'.2.2.2.1
  e : SameCnt r.2.2.2.2 r'.2.2.2.2
section
variable {far : Nat → Nat} {code cost : Nat → Int} {start place : Nat} {way : List Nat}
theorem row_of (x : WayOf far code start way place) (hend : place ∈ way ∨ isGood (code place) = true) (q : Str × Row) (hq : q ∈ (http ⟨nmOf code, code, far, cost⟩ 8 (Str.ofString "start") start ⟨[], [], []⟩).2.prof) :
    ∃ p, p < way.length ∧ q.1 = nmOf code (way.getD p 0) ∧ getB (http ⟨nmOf code, code, far, cost⟩ 8 (Str.ofString "start") start ⟨[], [], []⟩).2.prof q.1 = some q.2 := by
  have h5 := x.len
  have hr : way.idxOf place ≤ way.length := idx_le
  have hk := keysP way.length (by omega) (way.idxOf place) (by omega)
  rw [prof_is x hend] at hq ⊢
  obtain ⟨z, hz, rfl⟩ := List.mem_map.mp hq
  have hz' := List.all_eq_true.mp hk z hz
  rw [Bool.and_eq_true, beq_iff_eq, decide_eq_true_eq] at hz'
  refine ⟨z.1, hz'.1, ?_, ?_⟩
  · show keyOf code way z.1 = _
    unfold keyOf
    rw [if_pos hz'.1]
  · have hg := getG_map (f := keyOf code way) (ψ := mapRow (keyOf code way) (ev fun p => cost (way.getD p 0))) (key_inj code way x.lt x.nodup) (profP way.length (way.idxOf place)) z.1
    rw [hz'.2] at hg
    exact hg
/-- each row of the profile is as meant -/
theorem meant_is (x : WayOf far code start way place) (hend : place ∈ way ∨ isGood (code place) = true) (q : Str × Row) (hq : q ∈ (http ⟨nmOf code, code, far, cost⟩ 8 (Str.ofString "start") start ⟨[], [], []⟩).2.prof) :
    ∃ p, p < way.length ∧ q.1 = nmOf code (way.getD p 0) ∧ SameRow q.2 (rowM (nmOf code) cost way (way.idxOf place) (max (way.length - way.idxOf place) 1) (costsW cost way (way.idxOf place) (max (way.length - way.idxOf place) 1)).sum p) := by
  obtain ⟨p, hp, he, hg⟩ := row_of x hend q hq
  obtain ⟨cs, hg', hs, _⟩ := row_is (cost := cost) x hend p hp
  rw [← he, hg] at hg'
  have e := Option.some.inj hg'
  refine ⟨p, hp, he, ?_⟩
  rw [e]
  exact ⟨rfl, rfl, Int.mul_comm _ _, rfl, hs⟩
/-- the counts of a page on the way -/
theorem counts_is (x : WayOf far code start way place) (hend : place ∈ way ∨ isGood (code place) = true) (p : Nat) (hp : p < way.length) :
    ∃ row, getB (http ⟨nmOf code, code, far, cost⟩ 8 (Str.ofString "start") start ⟨[], [], []⟩).2.prof (nmOf code (way.getD p 0)) = some row ∧ (row.2.2.2.2.map (·.2)).sum = turnAt (way.idxOf place) (max (way.length - way.idxOf place) 1) p := by
  obtain ⟨cs, hg', _, hs⟩ := row_is (cost := cost) x hend p hp
  exact ⟨_, hg', hs⟩
end
end
section
/-- a zip that has handed out a tuple, and was not told that it came back -/
abbrev IsZipO (h : Heap) (z TI TO T : Addr) (f : Bool) : Prop :=
  h.get? z = some { cls := .type "zip", dict := none, data := .fields #[rawInt T, .bool f, .bool false, .ref TI, .ref TO], slots := #[] }
section
variable {prog : Program} {w : World} {A : Around} {E : Value → Shared → Prop} {s : Shared}
theorem zipo_free {z TI TO T : Addr} {f : Bool} {oT : Obj} {Q : Bool → Shared → Prop} (hz : IsZipO s.heap z TI TO T f) (hT : s.heap.get? T = some oT)
    (hQ : ∀ h', IsZipO h' z TI TO T true → Heap.SameBut z s.heap h' → Q false { s with heap := h' }) :
    wpAny (model prog w) A (Builtin.SmallTypes.ownedTupleIsFree (.ref z)) Q E s := by
  unfold Builtin.SmallTypes.ownedTupleIsFree
  refine wpAny_bind (wpAny_field hz rfl (x := rawInt T) rfl ?_)
  show wpAny _ _ (loadIfAlive ((T : Int).toNat) >>= _) _ _ _
  rw [Int.toNat_natCast]
  refine wpAny_bind (kdx_alive hT ?_)
  simp only [Option.isNone_some, Bool.false_eq_true, if_false]
  refine wpAny_bind (wpAny_field hz rfl (x := .bool f) rfl ?_)
  cases f with
  | true =>
    rw [if_neg (show ¬ ((Value.bool true != Value.bool true) = true) from Bool.false_ne_true)]
    exact wpAny_pure (hQ _ hz (Heap.SameBut.refl _ _))
  | false =>
    rw [if_pos (show (Value.bool false != Value.bool true) = true from rfl)]
    refine wpAny_bind (wpAny_setField_rec hz (by simp) fun h₃ he₃ hs₃ => ?_)
    exact wpAny_pure (hQ _ he₃ hs₃)
theorem zipo_item {z TI TO T i1 i2 l1 l2 : Addr} {k1 k2 : Nat} {xs ys : Array Value} {x y : Value} {f : Bool} {oT : Obj} {Q : Option Value → Shared → Prop} (D : ZipApart z TI TO i1 i2 l1 l2)
    (hz : IsZipO s.heap z TI TO T f) (hT : s.heap.get? T = some oT) (hTI : IsPair s.heap TI (.ref i1) (.ref i2))
    (h1 : s.heap.IsListIter i1 l1 k1) (h2 : s.heap.IsListIter i2 l2 k2) (hl1 : s.heap.IsList l1 xs) (hl2 : s.heap.IsList l2 ys) (hx : xs[k1]? = some x) (hy : ys[k2]? = some y)
    (hQ : ∀ h', IsZipO h' z TI TO T true → h'.IsListIter i1 l1 (k1 + 1) → h'.IsListIter i2 l2 (k2 + 1) → IsPair h' s.heap.objs.size x y →
      (∀ c o, c ≠ z → c ≠ i1 → c ≠ i2 → s.heap.get? c = some o → h'.get? c = some o) → Q (some (.ref s.heap.objs.size)) { s with heap := h' }) :
    wpAny (model prog w) A (pyNext (.ref z)) Q E s := by
  have hTy : s.TypeIs (.ref z) "zip" := ⟨_, hz, rfl⟩
  unfold pyNext
  refine wpAny_bind (wpAny_attempt (wpAny_callSpecial?_slot (name := Str.ofString "__next__") hTy F.slot_zip_next
    (wpAny_call_entry F.slot_zip_next hTy F.entry_zip_next ?_ (F.args_zip_next_1 _))))
  show wpAny _ _ (field (.ref z) 2 >>= _) _ _ _
  refine wpAny_bind (wpAny_field hz rfl (x := .bool false) rfl ?_)
  show wpAny _ _ (field (.ref z) 3 >>= _) _ _ _
  refine wpAny_bind (wpAny_field hz rfl (x := .ref TI) rfl ?_)
  refine wpAny_bind (wpAny_seqItems hTI rfl ?_)
  show wpAny _ _ (Builtin.SmallTypes.ownedTupleIsFree (.ref z) >>= _) _ _ _
  refine wpAny_bind (zipo_free hz hT fun h₁ hz₁ hs₁ => ?_)
  simp only [Bool.false_eq_true, if_false]
  simp only [List.forIn_toArray, List.forIn_cons, List.forIn_nil]
  refine wpAny_bind (wpAny_bind (wpAny_bind (wpAny_holding ?_)))
  show wpAny _ _ (Builtin.SmallTypes.nextOf (.ref i1) >>= _) _ _ _
  refine wpAny_bind (wpAny_nextOf_list_item (h1.extBut hs₁.extBut D.i1z) (hl1.extBut hs₁.extBut D.l1z) hx fun h₂ h1₂ hs₂ => wpAny_pure (wpAny_pure ?_))
  refine wpAny_bind (wpAny_bind (wpAny_holding ?_))
  show wpAny _ _ (Builtin.SmallTypes.nextOf (.ref i2) >>= _) _ _ _
  refine wpAny_bind (wpAny_nextOf_list_item ((h2.extBut hs₁.extBut D.i2z).extBut hs₂.extBut D.i12.symm) ((hl2.extBut hs₁.extBut D.l2z).extBut hs₂.extBut D.l2i1) hy fun h₄ h2₄ hs₄ => wpAny_pure (wpAny_pure (wpAny_pure ?_)))
  show wpAny _ _ (newTuple [x, y] >>= _) _ _ _
  refine wpAny_bind (wpAny_newTuple (wpAny_pure ⟨_, rfl, wpAny_pure ?_⟩))
  have hsz : h₄.objs.size = s.heap.objs.size := by rw [hs₄.1, hs₂.1, hs₁.1]
  show Q (some (.ref h₄.objs.size)) _
  have e := hQ (h₄.push { cls := .type "tuple", data := .seq #[x, y] }) (Heap.get?_push_of_some _ (hs₄.extBut _ _ D.i2z.symm (hs₂.extBut _ _ D.i1z.symm hz₁)))
    ((h1₂.extBut hs₄.extBut D.i12).at fun o e => Heap.get?_push_of_some _ e) (h2₄.at fun o e => Heap.get?_push_of_some _ e) (by rw [← hsz]; exact Heap.get?_push_size _ rfl)
    (fun c o c1 c2 c3 e => Heap.get?_push_of_some _ (hs₄.extBut _ _ c3 (hs₂.extBut _ _ c2 (hs₁.extBut _ _ c1 e))))
  rw [hsz]
  exact e
theorem zipo_end {z TI TO T i1 i2 l1 l2 : Addr} {k1 : Nat} {xs : Array Value} {f : Bool} {oT : Obj} {Q : Option Value → Shared → Prop} (hh : A.handled = none) (D : ZipApart z TI TO i1 i2 l1 l2)
    (hz : IsZipO s.heap z TI TO T f) (hT : s.heap.get? T = some oT) (hTI : IsPair s.heap TI (.ref i1) (.ref i2))
    (h1 : s.heap.IsListIter i1 l1 k1) (hl1 : s.heap.IsList l1 xs) (hx : xs[k1]? = none)
    (hQ : ∀ h', (∀ c o, c ≠ z → c ≠ i1 → c ≠ i2 → s.heap.get? c = some o → h'.get? c = some o) → Q none { s with heap := h' }) :
    wpAny (model prog w) A (pyNext (.ref z)) Q E s := by
  have hTy : s.TypeIs (.ref z) "zip" := ⟨_, hz, rfl⟩
  unfold pyNext
  refine wpAny_bind (wpAny_attempt (wpAny_callSpecial?_slot (name := Str.ofString "__next__") hTy F.slot_zip_next
    (wpAny_call_entry F.slot_zip_next hTy F.entry_zip_next ?_ (F.args_zip_next_1 _))))
  show wpAny _ _ (field (.ref z) 2 >>= _) _ _ _
  refine wpAny_bind (wpAny_field hz rfl (x := .bool false) rfl ?_)
  show wpAny _ _ (field (.ref z) 3 >>= _) _ _ _
  refine wpAny_bind (wpAny_field hz rfl (x := .ref TI) rfl ?_)
  refine wpAny_bind (wpAny_seqItems hTI rfl ?_)
  show wpAny _ _ (Builtin.SmallTypes.ownedTupleIsFree (.ref z) >>= _) _ _ _
  refine wpAny_bind (zipo_free hz hT fun h₁ hz₁ hs₁ => ?_)
  simp only [Bool.false_eq_true, if_false]
  simp only [List.forIn_toArray, List.forIn_cons, List.forIn_nil]
  refine wpAny_bind (wpAny_bind (wpAny_bind (wpAny_holding ?_)))
  show wpAny _ _ (Builtin.SmallTypes.nextOf (.ref i1) >>= _) _ _ _
  refine wpAny_bind (wpAny_nextOf_list_end hh (h1.extBut hs₁.extBut D.i1z) (hl1.extBut hs₁.extBut D.l1z) hx fun h₂ e hs₂ he => ?_)
  obtain ⟨o, ho, hc⟩ := he
  refine wpAny_bind (wpAny_isInstance (T := "StopIteration") (b := true) ⟨o, ho, hc⟩ isSubtype_stop ?_)
  exact wpAny_pure (hQ _ fun c o c1 c2 _ e => hs₂ _ _ c2 (hs₁.extBut _ _ c1 e))
end
end
section
theorem zip_getattr_none : typeLookup (.type "zip") "__getattr__" = pure none := by rw [typeLookup_type, builtinLookup_eq_fast]; kernel_rfl
theorem zip_keys_none : typeLookup (.type "zip") "keys" = pure none := by rw [typeLookup_type, builtinLookup_eq_fast]; kernel_rfl
theorem zip_entry_ga : entryFor table "zip.__getattribute__" = some Builtin.«object.__getattribute__» :=
  entryFor_alias (id' := "object.__getattribute__") (by kernel_rfl) (by first | rfl | decide +kernel) (by decide +kernel) (by kernel_rfl)
theorem zip_ga_miss (a : Addr) (vs : Array Value) (u : Tok) :
    Meets (Builtin.«object.__getattribute__» ⟨[.ref a, .str "keys" u], []⟩) (fun A R s => s.heap.get? a = some { cls := .type "zip", dict := none, data := .fields vs, slots := #[] } ∧ raisesAttr (.ref a) "keys" A R s) :=
  Meets.of_wp fun prog w A R s hs => by
    obtain ⟨hp, g, d, tk, os⟩ := s
    obtain ⟨hx, hs⟩ := hs
    have hT : (⟨hp, g, d, tk, os⟩ : Shared).TypeIs (.ref a) "zip" := ⟨_, hx, rfl⟩
    have hmiss := zip_keys_none
    unfold Builtin.«object.__getattribute__»
    repeat (any_goals (first | assumption | wp_step))
    exact wpAny_raiseAttrError hs.1 hs.2 (attrMsg_fits (by decide +kernel) (by decide))
theorem zip_no_keys {prog : Program} {w : World} {A : Around} {E : Value → Shared → Prop} {s : Shared} {a : Addr} {vs : Array Value} {Q : Option Value → Shared → Prop}
    (hx : s.heap.get? a = some { cls := .type "zip", dict := none, data := .fields vs, slots := #[] }) (hA : A.handled = none)
    (h : ∀ h' tk, s.heap.StaysIn h' → Q none { s with heap := h', toks := tk }) : wpAny (model prog w) A (getAttr? (.ref a) "keys") Q E s := by
  obtain ⟨hp, g, d, tk, os⟩ := s
  have hT : ∀ tk', (⟨hp, g, d, tk', os⟩ : Shared).TypeIs (.ref a) "zip" := fun _ => ⟨_, hx, rfl⟩
  have f1 := sub_AttributeError
  have f3 := F.slot_zip_getattribute.lookup
  have f4 := F.slot_zip_getattribute.bind (.ref a)
  have f5 := zip_getattr_none
  unfold getAttr? getAttrBy? getAttrBy
  repeat (any_goals (first | assumption | exact hT _ | ((with_reducible show wpAny _ _ (call (Value.builtin "zip.__getattribute__") _ _) _ _ _); refine call_meets F.slot_zip_getattribute (hT _) zip_entry_ga (F.args_zip_getattribute_2 _ _) (zip_ga_miss a vs _) ⟨hx, hA, fun h' tk' e hx' => ?_⟩) | wp_step))
  obtain ⟨t', u', he⟩ := hx'.there
  show wpAny _ _ (getattributeRaised _ _ _ _ _ _ _) _ _ _
  unfold getattributeRaised
  repeat (any_goals (first | assumption | wp_step))
  exact h _ _ hx'.keeps
end
section
theorem plain_dul : plainId "dict.update.loop" = true := by decide +kernel
theorem entry_dul : entryFor table "dict.update.loop" = some Builtin.«dict.update.loop» := entryFor_of_tree (by kernel_rfl)
/-- a zip's state: never asked yet, or its last tuple lies about; d is another object -/
structure ZipSt (d z TI TO i1 i2 l1 l2 : Addr) (xs ys : Array Value) (k : Nat) (h : Heap) : Prop where
  z : IsZip h z TI TO .none ∨ ∃ T f oT, IsZipO h z TI TO T f ∧ h.get? T = some oT ∧ T ≠ z ∧ T ≠ i1 ∧ T ≠ i2 ∧ T ≠ d
  ti : IsPair h TI (.ref i1) (.ref i2)
  to_ : ∃ a b, IsPair h TO a b
  i1 : h.IsListIter i1 l1 k
  i2 : h.IsListIter i2 l2 k
  l1 : h.IsList l1 xs
  l2 : h.IsList l2 ys
theorem ZipSt.frame {d z TI TO i1 i2 l1 l2 : Addr} {xs ys : Array Value} {k : Nat} {h h' : Heap} (x : ZipSt d z TI TO i1 i2 l1 l2 xs ys k h) (hs : ∀ b o, b ≠ d → h.get? b = some o → h'.get? b = some o) (hd : ∀ b ∈ [z, TI, TO, i1, i2, l1, l2], b ≠ d) : ZipSt d z TI TO i1 i2 l1 l2 xs ys k h' where
  z := x.z.elim (fun e => .inl (hs _ _ (hd _ (by simp)) e)) fun ⟨T, f, oT, e, e1, e2, e3, e4, e5⟩ => .inr ⟨T, f, oT, hs _ _ (hd _ (by simp)) e, hs _ _ e5 e1, e2, e3, e4, e5⟩
  ti := hs _ _ (hd _ (by simp)) x.ti
  to_ := (by obtain ⟨a, b, e⟩ := x.to_; exact ⟨a, b, hs _ _ (hd _ (by simp)) e⟩)
  i1 := x.i1.at fun o e => hs _ o (hd _ (by simp)) e
  i2 := x.i2.at fun o e => hs _ o (hd _ (by simp)) e
  l1 := x.l1.at fun o e => hs _ o (hd _ (by simp)) e
  l2 := x.l2.at fun o e => hs _ o (hd _ (by simp)) e
section
variable {prog : Program} {w : World} {A : Around} {E : Value → Shared → Prop} {s : Shared}
theorem zs_item {d z TI TO i1 i2 l1 l2 : Addr} {k : Nat} {xs ys : Array Value} {x y : Value} {Q : Option Value → Shared → Prop} (D : ZipApart z TI TO i1 i2 l1 l2) (st : ZipSt d z TI TO i1 i2 l1 l2 xs ys k s.heap) (hdl : d < s.heap.objs.size) (hx : xs[k]? = some x) (hy : ys[k]? = some y)
    (hQ : ∀ h', ZipSt d z TI TO i1 i2 l1 l2 xs ys (k + 1) h' → IsPair h' s.heap.objs.size x y →
      (∀ c o, c ≠ z → c ≠ TO → c ≠ i1 → c ≠ i2 → s.heap.get? c = some o → h'.get? c = some o) → Q (some (.ref s.heap.objs.size)) { s with heap := h' }) :
    wpAny (model prog w) A (pyNext (.ref z)) Q E s := by
  obtain ⟨hz, hTI, ⟨a, b, hTO⟩, h1, h2, hl1, hl2⟩ := st
  have lt : ∀ {c o}, s.heap.get? c = some o → s.heap.objs.size ≠ c := fun e => Nat.ne_of_gt (Heap.lt_size e)
  have n1 : s.heap.objs.size ≠ i1 := by obtain ⟨_, e, _⟩ := h1; exact lt e
  have n2 : s.heap.objs.size ≠ i2 := by obtain ⟨_, e, _⟩ := h2; exact lt e
  rcases hz with hz | ⟨T, f, oT, hz, hT, hTz, hT1, hT2, hTd⟩
  · refine wpAny_pyNext_zip_item D hz hTI hTO h1 h2 hl1 hl2 hx hy fun h' a1 a2 a3 a4 a5 a6 hk => ?_
    exact hQ h' ⟨.inr ⟨_, false, _, a1, a5, lt hz, n1, n2, Nat.ne_of_gt hdl⟩, hk _ _ D.TIz D.TITO D.TIi1 D.TIi2 hTI, ⟨_, _, a2⟩, a3, a4, hl1.at fun o e => hk _ o D.l1z D.l1TO D.l1i1 D.l1i2 e, hl2.at fun o e => hk _ o D.l2z D.l2TO D.l2i1 D.l2i2 e⟩ a5 hk
  · refine zipo_item D hz hT hTI h1 h2 hl1 hl2 hx hy fun h' a1 a3 a4 a5 hk => ?_
    exact hQ h' ⟨.inr ⟨T, true, oT, a1, hk _ _ hTz hT1 hT2 hT, hTz, hT1, hT2, hTd⟩, hk _ _ D.TIz D.TIi1 D.TIi2 hTI, ⟨a, b, hk _ _ D.TOz D.TOi1 D.TOi2 hTO⟩, a3, a4, hl1.at fun o e => hk _ o D.l1z D.l1i1 D.l1i2 e, hl2.at fun o e => hk _ o D.l2z D.l2i1 D.l2i2 e⟩ a5
      fun c o c1 _ c3 c4 e => hk c o c1 c3 c4 e
theorem zs_end {d z TI TO i1 i2 l1 l2 : Addr} {k : Nat} {xs ys : Array Value} {Q : Option Value → Shared → Prop} (hh : A.handled = none) (D : ZipApart z TI TO i1 i2 l1 l2) (st : ZipSt d z TI TO i1 i2 l1 l2 xs ys k s.heap) (hx : xs[k]? = none)
    (hQ : ∀ h', (∀ c o, c ≠ z → c ≠ TO → c ≠ i1 → c ≠ i2 → s.heap.get? c = some o → h'.get? c = some o) → Q none { s with heap := h' }) :
    wpAny (model prog w) A (pyNext (.ref z)) Q E s := by
  obtain ⟨hz, hTI, ⟨a, b, hTO⟩, h1, h2, hl1, hl2⟩ := st
  rcases hz with hz | ⟨T, f, oT, hz, hT, hTz, hT1, hT2, hTd⟩
  · exact wpAny_pyNext_zip_end hh D hz hTI hTO h1 h2 hl1 hl2 (.inl hx) hQ
  · exact zipo_end hh D hz hT hTI h1 hl1 hx fun h' hk => hQ h' fun c o c1 _ c3 c4 e => hk c o c1 c3 c4 e
/-- what a dict is filled with from a zip -/
theorem zip_loop {K : Type} [DecidableEq K] {knd : KeyKind prog w K} {d z TI TO i1 i2 l1 l2 : Addr} {xs ys : Array Value} {kvs : List (K × Value)} {R : Result → Shared → Prop} (hh : A.handled = none) (D : ZipApart z TI TO i1 i2 l1 l2) (hd : ∀ b ∈ [z, TI, TO, i1, i2, l1, l2], b ≠ d)
    (hlen : xs.size = kvs.length) (hlen' : ys.size = kvs.length) (hkv : ∀ (j : Nat) k v, kvs[j]? = some (k, v) → ∃ key, xs[j]? = some key ∧ knd.is k key = true ∧ ys[j]? = some v) (hn : (kvs.map (·.1)).Nodup) (hsz : kvs.length ≤ 1000) :
    ∀ (n j : Nat), n + j = kvs.length → ∀ s : Shared, ZipSt d z TI TO i1 i2 l1 l2 xs ys j s.heap → s.heap.DictOf knd d (kvs.take j) →
      (∀ h' tk, h'.DictOf knd d kvs → (∀ c o, c ≠ z → c ≠ TO → c ≠ i1 → c ≠ i2 → c ≠ d → s.heap.get? c = some o → h'.get? c = some o) → R (.ok (.ret .none)) { s with heap := h', toks := tk }) →
      codeAny (model prog w) A (.builtin "dict.update.loop" ⟨[.ref d, .ref z, rawInt j, .none], []⟩) R s := by
  intro n
  induction n with
  | zero =>
    intro j hj s st hdict hR
    refine codeAny_builtin entry_dul ?_
    rw [Around.under_plainId plain_dul]
    unfold Builtin.«dict.update.loop»
    show wpAny _ _ (pyNext (.ref z) >>= _) _ _ s
    refine wpAny_bind (zs_end hh D st (Array.getElem?_eq_none (by omega)) fun h' hk => ?_)
    refine wpAny_bind (m := Builtin.Dict.addKeywords d []) (wpAny_pure (wpAny_pure ?_))
    rw [List.take_of_length_le (by omega)] at hdict
    exact hR h' s.toks (hdict.at fun o e => hk d o (Ne.symm (hd _ (by simp))) (Ne.symm (hd _ (by simp))) (Ne.symm (hd _ (by simp))) (Ne.symm (hd _ (by simp))) e) fun c o c1 c2 c3 c4 _ e => hk c o c1 c2 c3 c4 e
  | succ n ih =>
    intro j hj s st hdict hR
    have hjl : j < kvs.length := by omega
    obtain ⟨⟨k, v⟩, hkvj⟩ : ∃ p, kvs[j]? = some p := ⟨kvs[j], List.getElem?_eq_getElem hjl⟩
    obtain ⟨key, hx, hkey, hy⟩ := hkv j k v hkvj
    refine codeAny_builtin entry_dul ?_
    rw [Around.under_plainId plain_dul]
    unfold Builtin.«dict.update.loop»
    show wpAny _ _ (pyNext (.ref z) >>= _) _ _ s
    have hdl : d < s.heap.objs.size := by obtain ⟨_, _, _, e, _⟩ := hdict; exact Heap.lt_size e
    refine wpAny_bind (zs_item D st hdl hx hy fun h' st' hP hk => ?_)
    refine wpAny_bind (wpAny_holding ?_)
    refine wpAny_bind (wpAny_tryCatch ?_)
    unfold Builtin.Dict.pairItems
    refine wpAny_bind (wpAny_typeOf (T := "tuple") ⟨_, hP, rfl⟩ ?_)
    rw [if_pos (by decide)]
    refine wpAny_bind (wpAny_seqItems hP rfl (wpAny_pure ?_))
    show wpAny _ _ (holding [key, v] (dictSet d key v)) _ _ _
    have hdict' : h'.DictOf knd d (kvs.take j) := hdict.at fun o e => hk d o (Ne.symm (hd _ (by simp))) (Ne.symm (hd _ (by simp))) (Ne.symm (hd _ (by simp))) (Ne.symm (hd _ (by simp))) e
    refine wpAny_holding (wpAny_dictSet_pairs hkey hdict' (fun h₂ hd₂ hs₂ => ?_) (by simp only [List.length_take, sizeLine]; omega))
    rw [stored_take hn hkvj] at hd₂
    refine wpAny_pure ⟨plainId_quiet plain_dul _, ?_⟩
    have hc : ((j : Int) + 1) = ((j + 1 : Nat) : Int) := by push_cast; rfl
    rw [hc]
    refine ih (j + 1) (by omega) _ (st'.frame (fun b o hb e => hs₂.extBut b o hb e) hd) hd₂ fun h₃ tk hd₃ hk₃ => hR h₃ tk hd₃ fun c o c1 c2 c3 c4 c5 e => hk₃ c o c1 c2 c3 c4 c5 (hs₂.extBut c o c5 (hk c o c1 c2 c3 c4 e))
theorem zip_apart (n a b m : Nat) (ha : a < n) (hb : b < n) (hm : m = n + 5) : ∀ x ∈ [n + 4, n + 2, n + 3, n, n + 1, a, b], x ≠ m := by
  intro x hx
  simp only [List.mem_cons, List.not_mem_nil, or_false] at hx
  rcases hx with rfl | rfl | rfl | rfl | rfl | rfl | rfl <;> omega
theorem zip_under (n b m : Nat) (hb : b < n) (hm : m = n + 5) : b ≠ n + 4 ∧ b ≠ n + 3 ∧ b ≠ n ∧ b ≠ n + 1 ∧ b ≠ m := by omega
/-- dict(zip(xs, ys)) -/
theorem dict_zip {K : Type} [DecidableEq K] {knd : KeyKind prog w K} {l1 l2 : Addr} {xs ys : Array Value} {kvs : List (K × Value)} {Q : Value → Shared → Prop} (hh : A.handled = none) (hl1 : s.heap.IsList l1 xs) (hl2 : s.heap.IsList l2 ys)
    (hlen : xs.size = kvs.length) (hlen' : ys.size = kvs.length) (hkv : ∀ (j : Nat) k v, kvs[j]? = some (k, v) → ∃ key, xs[j]? = some key ∧ knd.is k key = true ∧ ys[j]? = some v) (hn : (kvs.map (·.1)).Nodup) (hsz : kvs.length ≤ 1000)
    (h : ∀ d h' tk, h'.DictOf knd d kvs → s.heap.objs.size ≤ d → s.heap.get? d = none → s.heap.StaysIn h' → Q (.ref d) { s with heap := h', toks := tk }) :
    wpAny (model prog w) A (call (.type "zip") [.ref l1, .ref l2]) (fun v s₁ => wpAny (model prog w) A (call (.type "dict") [v]) Q E s₁) E s := by
  refine call_zip_2 hl1 hl2 fun h₁ hz hTI hTO h1 h2 hsz₁ hk₁ => ?_
  have lt1 : l1 < s.heap.objs.size := by obtain ⟨_, e, _⟩ := hl1; exact Heap.lt_size e
  have lt2 : l2 < s.heap.objs.size := by obtain ⟨_, e, _⟩ := hl2; exact Heap.lt_size e
  have D := zipApart_new lt1 lt2
  refine callType_codes (Q₁ := fun obj s₁ => obj = .ref h₁.objs.size ∧ s₁ = { s with heap := h₁.push { cls := .type "dict", data := .dict #[] } }) F.kt_called_dict (F.kt_typeCall_dict_1 _) F.entry_dict_init (kt_code_dict_new _ ⟨rfl, rfl⟩) ?_
  rintro obj s₁ ⟨rfl, rfl⟩
  have hnew : (h₁.push { cls := .type "dict", data := .dict #[] }).DictOf knd h₁.objs.size [] := Heap.DictOf.new h₁
  have up : ∀ b o, h₁.get? b = some o → (h₁.push { cls := .type "dict", data := .dict #[] }).get? b = some o := fun _ _ e => Heap.get?_push_of_some _ e
  refine ⟨hnew.typeIs, F.args_dict_init_2 _ _, ?_⟩
  unfold Builtin.«dict.__init__»
  refine wpAny_bind ?_
  unfold Builtin.Dict.selfAndRest
  refine wpAny_bind (wpAny_notOrdered_dict hnew.typeIs ?_)
  show wpAny _ _ (pure (h₁.objs.size, [Value.ref (s.heap.objs.size + 4)])) _ _ _
  refine wpAny_pure ?_
  show wpAny _ _ (Builtin.Dict.updateFrom "dict.__init__" h₁.objs.size (.ref (s.heap.objs.size + 4)) [] .none) _ _ _
  unfold Builtin.Dict.updateFrom
  refine wpAny_bind (wpAny_typeOf (T := "zip") ⟨_, up _ _ hz, rfl⟩ ?_)
  rw [if_pos (by decide)]
  refine wpAny_bind (zip_no_keys (up _ _ hz) hh fun h₂ tk st => ?_)
  rw [if_pos (show (none : Option Value).isNone = true from rfl)]
  refine wpAny_bind (wpAny_rule ?_)
  have hz₂ := st _ _ (up _ _ hz)
  refine wpAny_bind (wpAny_pyIter_zip hz₂ ?_)
  refine wpAny_pure ⟨plainId_quiet plain_dul _, ?_⟩
  have up2 : ∀ b o, h₁.get? b = some o → h₂.get? b = some o := fun b o e => st _ _ (up _ _ e)
  refine zip_loop (A := A.in1) (s := { s with heap := h₂, toks := tk }) (knd := knd) (n := kvs.length) (j := 0) (show A.in1.handled = none from hh) D ?_ hlen hlen' hkv hn hsz rfl
    ⟨.inl hz₂, up2 _ _ hTI, ⟨_, _, up2 _ _ hTO⟩, h1.at fun o e => up2 _ o e, h2.at fun o e => up2 _ o e, hl1.at fun o e => up2 _ o (hk₁ _ o e), hl2.at fun o e => up2 _ o (hk₁ _ o e)⟩ (hnew.keep st) ?_
  · exact zip_apart _ _ _ _ lt1 lt2 hsz₁
  · intro h' tk' hd' hk'
    refine ⟨rfl, h _ _ _ hd' (by rw [hsz₁]; exact Nat.le_add_right _ _) (Heap.get?_none_of_le (by rw [hsz₁]; exact Nat.le_add_right _ _)) fun b o e => ?_⟩
    obtain ⟨q1, q2, q3, q4, q5⟩ := zip_under _ b _ (Heap.lt_size e) hsz₁
    exact hk' b o q1 q2 q3 q4 q5 (up2 _ _ (hk₁ _ _ e))
end
end
section
open PySem.SeqAt
theorem valueAt_cnt {kv : List (Str × Value)} {cs : List (Str × Int)} (h : Cnt kv cs) (k : Str) {n : Int} : getB cs k = some n → ∃ t, valueAt kv k = some (.int n t) := by
  induction h with
  | nil => intro hk; cases hk
  | @cons k' n' t r r' _ ih =>
    intro hk
    by_cases e : k' = k
    · subst e
      unfold getB at hk
      rw [List.find?_cons_of_pos (by simp)] at hk
      obtain rfl : n' = n := Option.some.inj hk
      exact ⟨t, by unfold valueAt; rw [List.find?_cons_of_pos (by simp)]; rfl⟩
    · have hk' : getB r' k = some n := by
        unfold getB at hk ⊢
        rw [List.find?_cons_of_neg (by simpa using e)] at hk
        exact hk
      obtain ⟨t', ht⟩ := ih hk'
      refine ⟨t', ?_⟩
      unfold valueAt at ht ⊢
      rw [List.find?_cons_of_neg (by simpa using e)]
      exact ht
section
variable {prog : Program} {w : World} {A : Around} {E : Value → Shared → Prop} {s : Shared}
/-- two values are equal, by this program in this world -/
noncomputable def EqW (prog : Program) (w : World) (A : Around) (s : Shared) (v y : Value) : Prop := ∀ (E : Value → Shared → Prop) (Q : Bool → Shared → Prop), Q true s → wpAny (model prog w) A (eqBool v y) Q E s
theorem EqW.of_at {v y : Value} (h : EqAt A s v y true) : EqW prog w A s v y := fun E Q hq => h prog w E Q hq
theorem EqW.of_refs {a b : Addr} (h : a ≠ b → ∀ (E : Value → Shared → Prop) (Q : Value → Shared → Prop), Q (.bool true) s → wpAny (model prog w) A (richCompare .Eq (.ref a) (.ref b)) Q E s) : EqW prog w A s (.ref a) (.ref b) := by
  by_cases e : a = b
  · subst e; exact .of_at (EqAt.same _)
  · intro E Q hq
    unfold eqBool
    refine wpAny_holding ?_
    refine wpAny_ite_split (fun hab => absurd (by have := eq_of_beq hab; injection this) e) (fun _ => ?_)
    exact wpAny_bind (h e E _ (wpAny_truthy_bool hq))
theorem EqW.int (n : Int) (t u : Tok) : EqW prog w A s (.int n t) (.int n u) := by
  have := EqAt.int_int (A := A) (s := s) n t n u
  rw [beq_self_eq_true] at this
  exact .of_at this
theorem tup_eqW {a b : Addr} {xs ys : Array Value} (ha : s.heap.IsTuple a xs) (hb : s.heap.IsTuple b ys) (hsz : xs.size = ys.size) (hu : A.units < cLine)
    (he : ∀ (j : Nat) x y, xs[j]? = some x → ys[j]? = some y → EqW prog w A.in1 s x y) : EqW prog w A s (.ref a) (.ref b) := by
  refine .of_refs fun _ E Q hq => ?_
  obtain ⟨⟨cls, dd, data, sl⟩, ho, hc, n, hd⟩ := id ha
  obtain ⟨⟨cls2, dd2, data2, sl2⟩, ho2, hc2, n2, hd2⟩ := id hb
  simp only at hc hd hc2 hd2
  subst hc hd hc2 hd2
  refine wpAny_richCompare_same_room (op := .Eq) (T := "tuple") ⟨_, ho, rfl⟩ ⟨_, ho2, rfl⟩ F.slot_tuple_eq (wpAny_call_entry F.slot_tuple_eq ⟨_, ho, rfl⟩ F.entry_tuple_eq ?_ (F.args_tuple_eq_2 _ _)) hu
  obtain ⟨hp, g, d, tk, os⟩ := s
  have f2 := AutoSeq1.sub_tuple_tuple
  have he' : ∀ p ∈ xs.toList.zip ys.toList, EqW prog w A.in1 ⟨hp, g, d, tk, os⟩ p.1 p.2 := by
    intro p hp
    obtain ⟨j, hj⟩ := List.mem_iff_getElem?.mp hp
    obtain ⟨h1, h2⟩ := List.getElem?_zip_eq_some.mp hj
    exact he j _ _ (by rw [← Array.getElem?_toList]; exact h1) (by rw [← Array.getElem?_toList]; exact h2)
  wp_walk using AutoSeq1.wpAny_loadPart' ho, AutoSeq1.wpAny_loadPart' ho2, wpAny_forIn_list _ (fun rest b s' => b.1 = none ∧ s' = ⟨hp, g, d, tk, os⟩ ∧ ∀ p ∈ rest, EqW prog w A.in1 ⟨hp, g, d, tk, os⟩ p.1 p.2) _
  case turn =>
    rintro ⟨y, x⟩ rest b s' ⟨hb', rfl, hall⟩
    refine wpAny_bind (hall _ (.head _) _ _ ?_)
    rw [if_neg (show ¬ ((!true) = true) from Bool.false_ne_true)]
    exact wpAny_pure ⟨rfl, rfl, fun p hp => hall p (.tail _ hp)⟩
  case fin =>
    rintro ⟨b1, b2⟩ s' ⟨hb', rfl, _⟩
    simp only at hb'
    subst hb'
    refine wpAny_pure ⟨_, rfl, (fun x => nomatch x), ?_⟩
    show Q (.bool (xs.size == ys.size)) _
    rw [hsz, beq_self_eq_true]; exact hq
  case h => exact ⟨rfl, rfl, he'⟩
/-- two dicts that hold the same -/
theorem same_pairsW {K : Type} [DecidableEq K] {knd : KeyKind prog w K} {nm : String} {a b : Addr} {ka kb : List (K × Value)} {Q : Bool → Shared → Prop} (la : (a == sysModules) = false) (lb : (b == sysModules) = false) (da : s.heap.DictOf knd a ka) (db : s.heap.DictOf knd b kb)
    (hlen : ka.length = kb.length) (hits : ∀ (j : Nat) k v, ka[j]? = some (k, v) → ∃ y, valueAt kb k = some y ∧ EqW prog w A s v y) (h : Q true s) : wpAny (model prog w) A (Builtin.Dict.samePairs nm a b) Q E s := by
  obtain ⟨oa, es, ep, hoa, _, hda, hka, hpa, _⟩ := da
  obtain ⟨ob, es', ep', hob, _, hdb, hkb, hpb, _⟩ := db
  have hla : ka.length = es.size := by rw [← hpa.length]; exact Array.length_toList
  have hlb : kb.length = es'.size := by rw [← hpb.length]; exact Array.length_toList
  have hfind : ∀ k, findBy knd.is es' k = valueAt kb k := fun k => by
    rw [← hpb.find k]
    clear hlb hpb hkb hdb hob
    obtain ⟨l⟩ := es'
    simp [findBy]
  unfold Builtin.Dict.samePairs Builtin.Dict.showsAll
  rw [if_neg (show ¬ (a == sysModules) = true by rw [la]; exact Bool.false_ne_true), if_neg (show ¬ (b == sysModules) = true by rw [lb]; exact Bool.false_ne_true)]
  refine wpAny_bind (wpAny_pure (wpAny_bind (wpAny_pure ?_)))
  refine wpAny_bind (wpAny_dictEntries hoa hda ?_)
  dsimp only
  refine wpAny_bind (wpAny_dictEntries hob hdb ?_)
  rw [if_neg (by rw [← hla, ← hlb, hlen]; simp)]
  refine wpAny_bind (wpAny_dictEpoch hoa hda ?_)
  refine wpAny_bind ?_
  rw [Std.Legacy.Range.forIn_eq_forIn_range']
  simp only [Std.Legacy.Range.size, Nat.sub_zero, Nat.add_sub_cancel, Nat.div_one]
  refine wpAny_forIn_list _ (fun rest q s' => s' = s ∧ q = (none, ()) ∧ ∀ x ∈ rest, x < es.size) _ ?_ ?_ _ _ ⟨rfl, rfl, fun x hx => by simpa using hx⟩
  · rintro x rest q s' ⟨rfl, rfl, hall⟩
    have hlt : x < es.size := hall x (.head _)
    refine wpAny_bind (wpAny_dictEntries hoa hda ?_)
    rw [Array.getElem?_eq_getElem hlt]
    have hlt' : x < ka.length := by rw [hla]; exact hlt
    obtain ⟨k, v, hkv⟩ : ∃ k v, ka[x] = (k, v) := ⟨_, _, rfl⟩
    have hkv' : ka[x]? = some (k, v) := by rw [List.getElem?_eq_getElem hlt', hkv]
    obtain ⟨hkey, hval⟩ := hpa.get? (i := x) (e := es[x]) (k := k) (v := v) (by rw [Array.getElem?_toList]; exact Array.getElem?_eq_getElem hlt) hkv'
    obtain ⟨k', hk', hh⟩ := hka es[x] (Array.getElem_mem hlt)
    obtain rfl : k' = k := knd.inj _ _ _ hk' hkey
    obtain ⟨y, hy, he⟩ := hits x k' v hkv'
    show wpAny _ _ (holding [es[x].key, es[x].val] _ >>= _) _ _ _
    rw [hh]
    refine wpAny_bind (wpAny_holding (wpAny_bind (wpAny_dictFind_of hkey hob hdb hkb ?_)))
    cases hj : es'.findIdx? fun e => knd.is k' e.key with
    | none =>
      exfalso
      have hn : valueAt kb k' = none := by rw [← hfind k', findBy_of_findIdx?, hj]
      rw [hn] at hy; cases hy
    | some j =>
      obtain ⟨hjlt, _, _⟩ := Array.findIdx?_eq_some_iff_getElem.mp hj
      have hv' : valueAt kb k' = some es'[j].val := by
        rw [← hfind k', findBy_of_findIdx?, hj]
        simp [Array.getElem?_eq_getElem hjlt]
      obtain rfl : es'[j].val = y := Option.some.inj (hv'.symm.trans hy)
      refine wpAny_bind (wpAny_dictEntries hob hdb ?_)
      rw [Array.getElem?_eq_getElem hjlt]
      rw [← hval] at he
      refine wpAny_holding (he _ _ ?_)
      show wpAny _ _ (if (!true) = true then _ else _) _ _ _
      rw [if_neg (by decide)]
      refine wpAny_bind (wpAny_dictEpoch hoa hda ?_)
      rw [if_neg (by simp)]
      exact wpAny_pure ⟨rfl, rfl, fun z hz => hall z (.tail _ hz)⟩
  · rintro q s' ⟨rfl, rfl, _⟩
    exact wpAny_pure h
theorem dict_eqW {K : Type} [DecidableEq K] {knd : KeyKind prog w K} {a b : Addr} {ka kb : List (K × Value)} {Q : Value → Shared → Prop} (la : (a == sysModules) = false) (lb : (b == sysModules) = false) (da : s.heap.DictOf knd a ka) (db : s.heap.DictOf knd b kb) (hu : A.units < cLine)
    (hlen : ka.length = kb.length) (hits : ∀ (j : Nat) k v, ka[j]? = some (k, v) → ∃ y, valueAt kb k = some y ∧ EqW prog w A.in1 s v y) (h : Q (.bool true) s) : wpAny (model prog w) A (richCompare .Eq (.ref a) (.ref b)) Q E s := by
  refine wpAny_richCompare_same_room (op := .Eq) da.typeIs db.typeIs PySem.F.slot_dict_eq (wpAny_call_entry PySem.F.slot_dict_eq da.typeIs PySem.F.entry_dict_eq ?_ (PySem.F.args_dict_eq_2 _ _)) hu
  show wpAny _ _ (Builtin.Dict.dictSlotArgs "__eq__" ⟨[.ref a, .ref b], []⟩ >>= _) _ _ s
  refine wpAny_bind ?_
  unfold Builtin.Dict.dictSlotArgs
  refine wpAny_bind (wpAny_notOrdered_dict da.typeIs ?_)
  show wpAny _ _ (pure (Value.ref a, Value.ref b)) _ _ s
  refine wpAny_pure ?_
  refine wpAny_bind (wpAny_isInstance (T := "dict") db.typeIs PySem.F.sub_dict_dict ?_)
  simp only [Bool.not_true, Bool.false_eq_true, if_false]
  refine wpAny_bind (wpAny_pure (wpAny_bind (wpAny_pure ?_)))
  refine wpAny_bind (same_pairsW la lb da db hlen hits ?_)
  exact wpAny_pure ⟨_, rfl, (fun x => nomatch x), h⟩
theorem dict_neW {K : Type} [DecidableEq K] {knd : KeyKind prog w K} {a b : Addr} {ka kb : List (K × Value)} {Q : Value → Shared → Prop} (la : (a == sysModules) = false) (lb : (b == sysModules) = false) (da : s.heap.DictOf knd a ka) (db : s.heap.DictOf knd b kb) (hu : A.units < cLine)
    (hlen : ka.length = kb.length) (hits : ∀ (j : Nat) k v, ka[j]? = some (k, v) → ∃ y, valueAt kb k = some y ∧ EqW prog w A.in1 s v y) (h : Q (.bool false) s) : wpAny (model prog w) A (compareOp .NotEq (.ref a) (.ref b)) Q E s := by
  refine wpAny_richCompare_same_room (op := .NotEq) da.typeIs db.typeIs PySem.F.slot_dict_ne (wpAny_call_entry PySem.F.slot_dict_ne da.typeIs PySem.F.entry_dict_ne ?_ (PySem.F.args_dict_ne_2 _ _)) hu
  show wpAny _ _ (Builtin.Dict.dictSlotArgs "__ne__" ⟨[.ref a, .ref b], []⟩ >>= _) _ _ s
  refine wpAny_bind ?_
  unfold Builtin.Dict.dictSlotArgs
  refine wpAny_bind (wpAny_notOrdered_dict da.typeIs ?_)
  show wpAny _ _ (pure (Value.ref a, Value.ref b)) _ _ s
  refine wpAny_pure ?_
  refine wpAny_bind (wpAny_isInstance (T := "dict") db.typeIs PySem.F.sub_dict_dict ?_)
  simp only [Bool.not_true, Bool.false_eq_true, if_false]
  refine wpAny_bind (wpAny_pure (wpAny_bind (wpAny_pure ?_)))
  refine wpAny_bind (same_pairsW la lb da db hlen hits ?_)
  exact wpAny_pure ⟨_, rfl, (fun x => nomatch x), h⟩
theorem cnt_pairs {ka : List (Str × Value)} {cs : List (Str × Int)} (ha : Cnt ka cs) {kb : List (Str × Value)} {cs' : List (Str × Int)} (hb : Cnt kb cs') (h : ∀ q ∈ cs, getB cs' q.1 = some q.2) (j : Nat) (k : Str) (v : Value) (hj : ka[j]? = some (k, v)) : ∃ y, valueAt kb k = some y ∧ EqW prog w A s v y := by
  obtain ⟨n, t, rfl, hn⟩ := ha.at j k v hj
  obtain ⟨u, hu⟩ := valueAt_cnt hb k (h _ (List.mem_of_getElem? hn))
  exact ⟨_, hu, EqW.int n t u⟩
/-- two rows that say the same are equal -/
theorem row_eqW {v y : Value} {r r' : Row} (hv : RowAt prog w s.heap v r) (hy : RowAt prog w s.heap y r') (h : SameRow r r') (hu : A.in1.units < cLine) (hu0 : A.units < cLine) : EqW prog w A s v y := by
  obtain ⟨a, c, kv, t1, t2, t3, t4, rfl, ha, lo, hd, hc⟩ := hv
  obtain ⟨a', c', kv', u1, u2, u3, u4, rfl, ha', lo', hd', hc'⟩ := hy
  refine tup_eqW ha ha' rfl hu0 fun j x z hx hz => ?_
  have hj : j < 5 := (Array.getElem?_eq_some_iff.mp hx).1
  have : j = 0 ∨ j = 1 ∨ j = 2 ∨ j = 3 ∨ j = 4 := five (by omega)
  rcases this with rfl | rfl | rfl | rfl | rfl
  · obtain rfl := Option.some.inj hx
    obtain rfl := Option.some.inj hz
    rw [h.a]; exact .int _ _ _
  · obtain rfl := Option.some.inj hx
    obtain rfl := Option.some.inj hz
    rw [h.b]; exact .int _ _ _
  · obtain rfl := Option.some.inj hx
    obtain rfl := Option.some.inj hz
    rw [h.c]; exact .int _ _ _
  · obtain rfl := Option.some.inj hx
    obtain rfl := Option.some.inj hz
    rw [h.d]; exact .int _ _ _
  · obtain rfl := Option.some.inj hx
    obtain rfl := Option.some.inj hz
    refine .of_refs fun _ E Q hq => dict_eqW lo lo' hd hd' hu (by rw [hc.len, hc'.len]; exact h.e.1) (cnt_pairs hc hc' h.e.2) hq
end
end
section
open PySem.SeqAt
section
variable {prog : Program} {w : World} {A : Around} {E : Value → Shared → Prop} {s : Shared}
/-- two lists that are equal, place by place -/
theorem ne_listF {a b : Addr} {xs ys : Array Value} {Q : Value → Shared → Prop} (ha : s.heap.IsList a xs) (hb : s.heap.IsList b ys) (hsz : xs.size = ys.size) (hu : A.units < cLine)
    (he : ∀ (j : Nat) (h1 : j < xs.size) (h2 : j < ys.size), EqAt A.in1 s xs[j] ys[j] true) (h : Q (.bool false) s) : wpAny (model prog w) A (compareOp .NotEq (.ref a) (.ref b)) Q E s := by
  refine RcNeAt.lists (e := fun _ => true) ha hb hsz hu he prog w E Q ?_
  have : (List.range xs.size).all (fun _ => true) = true := by simp
  rw [this]; exact h
theorem ne_strsF {a b : Addr} {xs ys : Array Value} {zs : List Str} {Q : Value → Shared → Prop} (ha : s.heap.IsList a xs) (hb : s.heap.IsList b ys) (hx : StrsAre xs.toList zs) (hy : StrsAre ys.toList zs) (hu : A.units < cLine)
    (h : Q (.bool false) s) : wpAny (model prog w) A (compareOp .NotEq (.ref a) (.ref b)) Q E s := by
  refine ne_listF ha hb ?_ hu (fun j h1 h2 => ?_) h
  · have h1 := hx.len
    have h2 := hy.len
    simp only [Array.length_toList] at h1 h2
    omega
  · obtain ⟨x, t, e1, h3⟩ := hx.at j xs[j] (by rw [Array.getElem?_toList]; exact Array.getElem?_eq_getElem h1)
    obtain ⟨y, u, e2, h4⟩ := hy.at j ys[j] (by rw [Array.getElem?_toList]; exact Array.getElem?_eq_getElem h2)
    rw [e1, e2]
    rw [h3] at h4
    obtain rfl := Option.some.inj h4
    have := EqAt.str_str (A := A.in1) (s := s) x t x u
    rw [beq_self_eq_true] at this
    exact this
theorem ne_intsF {a b : Addr} {xs ys : Array Value} {zs : List Int} {Q : Value → Shared → Prop} (ha : s.heap.IsList a xs) (hb : s.heap.IsList b ys) (hx : IntsAre xs.toList zs) (hy : IntsAre ys.toList zs) (hu : A.units < cLine)
    (h : Q (.bool false) s) : wpAny (model prog w) A (compareOp .NotEq (.ref a) (.ref b)) Q E s := by
  refine ne_listF ha hb ?_ hu (fun j h1 h2 => ?_) h
  · have h1 := hx.length
    have h2 := hy.length
    simp only [Array.length_toList] at h1 h2
    omega
  · obtain ⟨x, t, e1, h3⟩ := hx.at j xs[j] (by rw [Array.getElem?_toList]; exact Array.getElem?_eq_getElem h1)
    obtain ⟨y, u, e2, h4⟩ := hy.at j ys[j] (by rw [Array.getElem?_toList]; exact Array.getElem?_eq_getElem h2)
    rw [e1, e2]
    rw [h3] at h4
    obtain rfl := Option.some.inj h4
    have := EqAt.int_int (A := A.in1) (s := s) x t x u
    rw [beq_self_eq_true] at this
    exact this
/-- the place of a text in a list of texts -/
theorem idxStr {l : Addr} {its : Array Value} {ys : List Str} {j : Nat} {x : Str} {t : Tok} {Q : Value → Shared → Prop} (hl : s.heap.IsList l its) (hs : StrsAre its.toList ys) (hj : ys[j]? = some x) (hno : ∀ m, m < j → ys[m]? ≠ some x) (hj1 : j < 1000)
    (h : ∀ t', Q (.int (j : Int) t') (St s s.heap (s.toks + 1))) : wpAny (model prog w) A (call (.builtin "list.index") [.ref l, .str x t]) Q E s := by
  obtain ⟨⟨cls, dd, data, sl⟩, ho, hc, n, hd⟩ := id hl
  simp only at hc hd
  subst hc hd
  have hlen := hs.len
  rw [Array.length_toList] at hlen
  have hjl : j < its.size := by have := (List.getElem?_eq_some_iff.mp hj).1; omega
  have at' : ∀ (m : Nat) (hm : m < its.size), ∃ z u, its[m] = .str z u ∧ ys[m]? = some z := fun m hm => hs.at m its[m] (by rw [Array.getElem?_toList]; exact Array.getElem?_eq_getElem hm)
  refine call_meets (T := "list") F.slot_list_index ⟨_, ho, rfl⟩ F.entry_list_index (F.args_list_index_2 _ _) (list_indexAt l its n dd sl (.str x t) (isStrB x) j hjl (by omega) ?_ ?_) ⟨ho, ?_, h _⟩
  · obtain ⟨z, u, e, hz⟩ := at' j hjl
    rw [e]
    rw [hj] at hz
    obtain rfl := Option.some.inj hz
    exact beq_self_eq_true _
  · intro m hm hmj
    obtain ⟨z, u, e, hz⟩ := at' m hm
    rw [e]
    refine beq_eq_false_iff_ne.mpr fun e2 => hno m hmj ?_
    rw [hz, e2]
  · intro y hy
    obtain ⟨z, u, rfl, _⟩ := hs.mem y (Array.mem_toList_iff.mpr hy)
    exact EqAt.str_str _ _ _ _
theorem gmIndex {l : Addr} {its : Array Value} {pl : Sem Bool} {Q : Value × List Value → Shared → Prop} (ho : s.heap.IsList l its) (hd : ∀ o, s.heap.get? l = some o → o.dict = none) (h : Q (.builtin "list.index", [.ref l]) s) :
    wpAny (model prog w) A (getMethod (.ref l) "index" pl) Q E s := by
  obtain ⟨o, h1, h2, _⟩ := id ho
  exact getMethod_builtin (T := "list") ⟨_, h1, h2⟩ PySem.F.plainAttrs_list PySem.F.slot_list_index PySem.F.type_list_index (fun a e => by cases e; exact ⟨_, h1, hd _ h1⟩) h
end
/-- what is found under a key -/
theorem Rel.valueAt {β : Type} {R : Value → β → Prop} {l : List (Str × Value)} {l' : List (Str × β)} (x : Rel R l l') (k : Str) {b : β} : getB l' k = some b → ∃ v, valueAt l k = some v ∧ R v b := by
  induction x with
  | nil => intro h; cases h
  | @cons k' v b' r r' hv _ ih =>
    intro h
    by_cases e : k' = k
    · subst e
      unfold getB at h
      rw [List.find?_cons_of_pos (by simp)] at h
      obtain rfl : b' = b := Option.some.inj h
      exact ⟨v, by unfold PySem.valueAt; rw [List.find?_cons_of_pos (by simp)]; rfl, hv⟩
    · have h' : getB r' k = some b := by
        unfold getB at h ⊢
        rw [List.find?_cons_of_neg (by simpa using e)] at h
        exact h
      obtain ⟨v', h1, h2⟩ := ih h'
      refine ⟨v', ?_, h2⟩
      unfold PySem.valueAt at h1 ⊢
      rw [List.find?_cons_of_neg (by simpa using e)]
      exact h1
end
section
noncomputable def menu' : List Int := [404, 300, 199, 500, 302, 100, 299, 200]
/-- a page's name by its place and code -/
noncomputable def nmT (i : Nat) (k : Int) : Str :=
  if i = 0 then Str.ofString "w:" ++ Str.ofString (toString k) ++ Str.ofString "(f)"
  else if i = 1 then Str.ofString "a,b:" ++ Str.ofString (toString k) ++ Str.ofString "(g)"
  else if i = 2 then Str.ofString "{h}"
  else if i = 3 then Str.ofString "c\"\\:" ++ Str.ofString (toString k) ++ Str.ofString "(i=)"
  else Str.ofString "k, l"
noncomputable def escT (X : Str) : Str := Txt.replace (Txt.replace X (Str.ofString "\\") (Str.ofString "\\\\")) (Str.ofString "\"") (Str.ofString "\\\"")
noncomputable def preT (X : Str) : Str := Str.ofString "cost=0, to=\"" ++ escT X ++ Str.ofString "\", cost=\""
noncomputable def toT (X : Str) : Str := Str.ofString " to=\"" ++ X ++ Str.ofString "\""
noncomputable def quoT (X : Str) : Str := Str.ofString "\"" ++ X ++ Str.ofString "\""
noncomputable def costT (c : Nat) : Str := Str.ofString " cost=\"" ++ Str.ofString (toString (c : Int)) ++ Str.ofString "\""
theorem tx1 : ∀ i, i < 5 → ∀ k ∈ menu', (phRun (preT (nmT i k)).cps.toList).part = Str.ofString " cost=\"" ∧ (phRun (preT (nmT i k)).cps.toList).esc = false ∧ (phRun (preT (nmT i k)).cps.toList).quo = true ∧
   (phRun (preT (nmT i k)).cps.toList).res = [Str.ofString "cost=0", toT (nmT i k)] := by decide +kernel
theorem tx2 : ∀ i, i < 5 → ∀ k ∈ menu', (nmT i k).length ≤ 20 ∧ (Txt.replace (nmT i k) (Str.ofString "\\") (Str.ofString "\\\\")).length ≤ 30 ∧ (escT (nmT i k)).length ≤ 40 ∧ (Txt.strip (toT (nmT i k))).length ≤ 50 := by decide +kernel
theorem tx3 : ∀ i, i < 5 → ∀ k ∈ menu', Txt.splitMax (Txt.strip (toT (nmT i k))) (Str.ofString "=") 1 = [Str.ofString "to", quoT (nmT i k)] ∧ (0 < (quoT (nmT i k)).length ∧ (quoT (nmT i k)).length ≤ 1000) ∧
   nmT i k = if (Txt.item (quoT (nmT i k)) 0 == Str.ofString "\"") = true ∧ (Txt.item (quoT (nmT i k)) (-1) == Str.ofString "\"") = true then Txt.slice (quoT (nmT i k)) (some 1) (some (-1)) else quoT (nmT i k) := by decide +kernel
theorem tc1 : ∀ c : Nat, c < 100 → ((Str.ofString (toString (c : Int))).cps.toList.all fun d => decide (d ≠ 92) && decide (d ≠ 34)) = true ∧ (Str.ofString (toString (c : Int))).length ≤ 3 := by decide +kernel
theorem tc2 : ∀ c : Nat, c < 100 → Txt.splitMax (Txt.strip (costT c)) (Str.ofString "=") 1 = [Str.ofString "cost", quoT (Str.ofString (toString (c : Int)))] ∧ (Txt.strip (costT c)).length ≤ 50 := by decide +kernel
theorem tc3 : ∀ c : Nat, c < 100 → (0 < (quoT (Str.ofString (toString (c : Int)))).length ∧ (quoT (Str.ofString (toString (c : Int)))).length ≤ 1000) ∧
   Str.ofString (toString (c : Int)) = if (Txt.item (quoT (Str.ofString (toString (c : Int)))) 0 == Str.ofString "\"") = true ∧ (Txt.item (quoT (Str.ofString (toString (c : Int)))) (-1) == Str.ofString "\"") = true then Txt.slice (quoT (Str.ofString (toString (c : Int)))) (some 1) (some (-1)) else quoT (Str.ofString (toString (c : Int))) := by decide +kernel
theorem tz : KV (Str.ofString "cost=0") (Str.ofString "cost") (Str.ofString "0") (Str.ofString "0") := ⟨by decide +kernel, by decide +kernel, by decide +kernel, by decide +kernel⟩
theorem tz' : Txt.strip (Str.ofString "cost=0") = Str.ofString "cost=0" := by decide +kernel
/-- signs within quotes -/
theorem run_quo (P : Str) (L : List Str) : ∀ ds : List Nat, (∀ d ∈ ds, d ≠ 92 ∧ d ≠ 34) → ds.foldl phStep ⟨P, false, true, L⟩ = ⟨P ++ Str.mk ds.toArray, false, true, L⟩
  | [], _ => by
    obtain ⟨p⟩ := P
    show (⟨Str.mk p, false, true, L⟩ : PS) = ⟨Str.mk (p ++ #[]), false, true, L⟩
    rw [Array.append_empty]
  | d :: r, h => by
    have h1 := h d (.head _)
    rw [List.foldl_cons, ph_q P L d h1.1 h1.2, run_quo (P ++ sgn d) L r fun x hx => h x (.tail _ hx)]
    congr 1
    obtain ⟨p⟩ := P
    show Str.mk ((p ++ #[d]) ++ r.toArray) = Str.mk (p ++ (d :: r).toArray)
    congr 1
    simp
theorem cps_app (a b : Str) : (a ++ b).cps.toList = a.cps.toList ++ b.cps.toList := by
  obtain ⟨a⟩ := a
  obtain ⟨b⟩ := b
  show (a ++ b).toList = _
  rw [Array.toList_append]
theorem head_is (X : Str) (c : Int) : headText X c = preT X ++ Str.ofString (toString c) ++ Str.ofString "\"" := by
  unfold headText preT escT
  rfl
/-- what the header's parts are -/
theorem head_res {i : Nat} (hi : i < 5) {k : Int} (hk : k ∈ menu') {c : Nat} (hc : c < 100) : phRes (headText (nmT i k) (c : Int)).cps.toList = [Str.ofString "cost=0", toT (nmT i k), costT c] := by
  obtain ⟨h1, h2, h3, h4⟩ := tx1 i hi k hk
  have hd := (tc1 c hc).1
  have e : phRun (headText (nmT i k) (c : Int)).cps.toList = ⟨costT c, false, false, [Str.ofString "cost=0", toT (nmT i k)]⟩ := by
    rw [head_is, cps_app, cps_app]
    unfold phRun at h1 h2 h3 h4 ⊢
    rw [List.foldl_append, List.foldl_append]
    generalize List.foldl phStep _ (preT (nmT i k)).cps.toList = S at h1 h2 h3 h4 ⊢
    obtain ⟨P, es, qu, L⟩ := S
    obtain rfl : P = Str.ofString " cost=\"" := h1
    obtain rfl : es = false := h2
    obtain rfl : qu = true := h3
    obtain rfl : L = [Str.ofString "cost=0", toT (nmT i k)] := h4
    rw [run_quo _ _ _ (fun d hd' => by
      have := List.all_eq_true.mp hd d hd'
      rw [Bool.and_eq_true, decide_eq_true_eq, decide_eq_true_eq] at this
      exact this)]
    rw [show (Str.ofString "\"").cps.toList = [34] from by decide +kernel, List.foldl_cons, List.foldl_nil, ph_q34]
    rw [show Str.mk (Str.ofString (toString (c : Int))).cps.toList.toArray = Str.ofString (toString (c : Int)) from by rw [Array.toArray_toList]]
    rfl
  unfold phRes
  rw [e]
  dsimp only
  rw [if_neg]
  · rfl
  · intro q
    have h0 : 0 < (costT c).length := by
      unfold costT
      rw [PySem.strLen_append, PySem.strLen_append]
      exact Nat.lt_of_lt_of_le (by decide +kernel : 0 < (Str.ofString " cost=\"").length) (Nat.le_trans (Nat.le_add_right _ _) (Nat.le_add_right _ _))
    rw [q] at h0
    exact absurd h0 (by decide +kernel)
/-- a header reads as what was written -/
theorem heads_ok {i : Nat} (hi : i < 5) {k : Int} (hk : k ∈ menu') {c : Nat} (hc : c < 100) : (nmT i k).length ≤ 300 ∧ (Txt.replace (nmT i k) (Str.ofString "\\") (Str.ofString "\\\\")).length ≤ 300 ∧ (Txt.replace (Txt.replace (nmT i k) (Str.ofString "\\") (Str.ofString "\\\\")) (Str.ofString "\"") (Str.ofString "\\\"")).length ≤ 100 ∧
    ∃ pps, Parses (headText (nmT i k) c) pps ∧ getB (dictOfPs pps) (Str.ofString "to") = some (nmT i k) ∧ getB (dictOfPs pps) (Str.ofString "cost") = some (Str.ofString (toString (c : Int))) := by
  obtain ⟨a1, a2, a3, a4⟩ := tx2 i hi k hk
  obtain ⟨b1, b2, b3⟩ := tx3 i hi k hk
  obtain ⟨d1, d2⟩ := tc2 c hc
  obtain ⟨e1, e2⟩ := tc3 c hc
  have hr := head_res hi hk hc
  refine ⟨by omega, by omega, Nat.le_trans a3 (by decide), [(Str.ofString "cost", Str.ofString "0"), (Str.ofString "to", nmT i k), (Str.ofString "cost", Str.ofString (toString (c : Int)))], ⟨?_, ?_, ?_, ?_⟩, ?_, ?_⟩
  · rw [head_is]
    unfold preT
    rw [PySem.strLen_append, PySem.strLen_append, PySem.strLen_append, PySem.strLen_append]
    have h1 : (Str.ofString "cost=0, to=\"").length = 12 := by decide +kernel
    have h2 : (Str.ofString "\", cost=\"").length = 9 := by decide +kernel
    have h3 : (Str.ofString "\"").length = 1 := by decide +kernel
    have h4 := (tc1 c hc).2
    omega
  · rw [hr]; exact (by decide : 3 ≤ 100)
  · rw [hr]; rfl
  · intro j y hy
    rw [hr] at hy
    have hj : j < 3 := by have := (List.getElem?_eq_some_iff.mp hy).1; simpa using this
    have : j = 0 ∨ j = 1 ∨ j = 2 := by omega
    rcases this with rfl | rfl | rfl
    · obtain rfl := Option.some.inj hy
      rw [tz']
      exact ⟨by decide +kernel, _, _, _, tz, rfl⟩
    · obtain rfl := Option.some.inj hy
      exact ⟨by omega, _, _, _, ⟨b1, b2.1, b2.2, b3⟩, rfl⟩
    · obtain rfl := Option.some.inj hy
      exact ⟨by omega, _, _, _, ⟨d1, e1.1, e1.2, e2⟩, rfl⟩
  · have h1 : Str.ofString "cost" ≠ Str.ofString "to" := by decide +kernel
    have h2 : Str.ofString "to" ≠ Str.ofString "cost" := by decide +kernel
    simp [dictOfPs, putB, getB, h1, h2]
  · have h1 : Str.ofString "cost" ≠ Str.ofString "to" := by decide +kernel
    have h2 : Str.ofString "to" ≠ Str.ofString "cost" := by decide +kernel
    simp [dictOfPs, putB, getB, h1, h2]
end
local macro_rules | `(tactic| walk_at "eval ListComp") => `(tactic| (with_unfolding_all refine compT (by rfl) (by decide) (by rfl) (by decide) ?_))
local macro_rules | `(tactic| walk_at "exec For Tuple Call") => `(tactic| (with_unfolding_all refine For_turns (by assumption) ?_ (by intro _; rfl) (by passes_own)))
local macro_rules | `(tactic| walk_at "exec For Name Name") => `(tactic| (with_unfolding_all refine For_turns (by assumption) ?_ (by intro _; rfl) (by passes_own)))
local macro_rules | `(tactic| walk_at "exec Assign cons ListComp") => `(tactic| (with_unfolding_all refine compA (by rfl) (by rfl) (by decide) (by rfl) (by decide) (by rfl) (by rfl) ?_))
local macro_rules | `(tactic| walk_at "exec For Tuple") => `(tactic| (with_unfolding_all refine For_turns (by assumption) ?_ (by intro _; rfl) (by passes_own)))
section
noncomputable def lamPos : Pos := match pgLam with | .Lambda _ _ _ p => p | _ => ⟨0, 0, 0, 0⟩
noncomputable def lawS : Scope := match PySem.Challenge.pw_pg0151_01.main.body.drop 15 with
  | .FunctionDef _ _ _ _ _ _ s _ _ _ :: _ => s
  | _ => default
theorem law_page {prog : Program} {w : World} {A : Around} {s : Shared} {Q E : Value → Shared → Prop} {code cost : Int} {fn ff : Addr} {name : Str} {t1 t2 : Tok} {ps : Array Value} {R : List (Addr × Obj)} {pps : List (Str × Str)} (T : TF w (hideAll s.heap [153])) (hA : Rm A 8 80)
  (htab : s.heap.get? 153 = some (tabObj ps)) (hps : TabSt lamPos lamQ R ps) (hR : ∀ p ∈ R, (hideAll s.heap [153]).get? p.1 = some p.2) (hf : FnOf (hideAll s.heap [153]) ff name) (hnl : name.length ≤ 300) (hn1 : (Txt.replace name (Str.ofString "\\") (Str.ofString "\\\\")).length ≤ 300) (hn2 : (Txt.replace (Txt.replace name (Str.ofString "\\") (Str.ofString "\\\\")) (Str.ofString "\"") (Str.ofString "\\\"")).length ≤ 100) (hc0 : 0 ≤ cost) (hc1 : cost < 1000)
  (hp : Parses (headText name cost) pps) (hto : getB (dictOfPs pps) (Str.ofString "to") = some name) (hco : getB (dictOfPs pps) (Str.ofString "cost") = some (Str.ofString (toString cost)))
  (hret : ∀ x R' ps' h' tk', (hideAll s.heap [153]).StaysIn h' → h'.get? 153 = some (tabObj ps') → TabSt lamPos lamQ R' ps' → (∀ p ∈ R', h'.get? p.1 = some p.2) → (∀ p ∈ R', p ∈ R ∨ s.heap.get? p.1 = none) → (∀ p ∈ R, p ∈ R') →
    (∃ hd_, Kept R' fun g => Page g x code fn hd_ ∧ Heads prog w g hd_ name cost) → Q (.ref x) (St s h' tk')) :
  wpAny (model prog w) A (call (.ref 158) [.int code t1, .ref fn, .ref ff, .int cost t2]) Q E s := by
  refine wpAny_call (enterC (d := 7) (u := 77) (mus := [153]) (news := [(153, tabObj ps)]) (binds := [(Str.ofString "code", .int code t1), (Str.ofString "function", .ref fn), (Str.ofString "further", .ref ff), (Str.ofString "cost", .int cost t2)])
    T hA (of_hid _ _ (T.k _ _ (by k_is))) rfl ((codeRec_of T.k (by k_is)).keeps of_hid) rfl rfl (by decide) (fun p hp => by rw [List.mem_singleton.mp hp]; exact ⟨.head _, htab⟩) ?_)
  intro h₁ tk1 A' cells hA' F N Y st htk
  obtain ⟨oc, rfl, hoc⟩ := CellsAre.one Y
  repeat' walk1
  refine fss_any (T.keeps (Fr.keep (by assumption))) (hA'.le (by omega) (by omega)) (hf.keeps (Fr.keep (by assumption))) ?_
  intro tn h2 tk2 st2 htk2
  replace htk2 : 1 ≤ tk2 := htk2
  have F2 := frStays F st2
  have N2 := newsStays N st2
  clear F N
  repeat' walk1
  refine wpAny_with_toks (n := 1) (by show 1 ≤ tk2 + 1 + 1; omega) ?_
  refine SC.replaceW (Nat.pos_iff_ne_zero.mp htk2) (Nat.succ_ne_zero _) (Nat.ne_of_lt (Nat.lt_succ_self _)) (by decide +kernel) (by omega) (by decide +kernel) ?_
  intro t3 k3 htk3
  replace htk3 : 1 ≤ k3 := htk3
  have hl1 : (Txt.replace name (Str.ofString "\\") (Str.ofString "\\\\")).length ≤ 300 := hn1
  repeat' walk1
  refine SC.replaceW (Nat.pos_iff_ne_zero.mp htk3) (Nat.succ_ne_zero _) (Nat.ne_of_lt (Nat.lt_succ_self _)) (by decide +kernel) (by omega) (by decide +kernel) ?_
  intro t4 k4
  repeat' walk1
  refine http_list (T.keeps (Fr.keep (by assumption))) (hA'.le (by omega) (by omega)) hp.len ?_
  intro r5 its5 h5 tk5 st5 hn5 hl5 hs5
  rename Fr _ _ _ _ => F4
  rename News _ _ _ _ => N4
  refine absG ?_; intro PG hPG
  obtain ⟨o5, ho5, hc5, n5, hd5⟩ := id hl5
  refine hPG ?_; clear hPG PG
  have F5 := frStays F4 st5
  have N5 := newsStays N4 st5
  clear F2 N2
  repeat' walk1
  have hlt153 : 153 < s.heap.objs.size := Heap.lt_size htab
  refine keqv (T.keeps (Fr.keep (by assumption))) (hA'.le (by omega) (by omega)) hl5 hs5 (by rw [List.length_map]; exact hp.few) hp.kv (by rw [List.length_map]; exact hp.same) ?_
  intro r6 o6 kv6 h6 tk6 st6 hn6 lo6 ho6 hO6 hR6
  have F6 := frStays F5 st6
  have hrc := fresh_ne N5 hn6 _ (.head _)
  have hr3 := fresh_ne N5 hn6 _ (.tail _ (.head _))
  have N6 := newsAdd F5 (newsStays N5 st6) hn6 ho6
  clear F4 N4 F5 N5
  repeat' walk1
  refine stCell (own := [(r6, o6)]) F6 N6 (by rfl) (fun p hp => by rw [List.mem_singleton.mp hp]; exact hrc.symm) (fun p hp => by rw [List.mem_singleton.mp hp]; exact Nat.ne_of_lt (Nat.lt_succ_of_lt hlt153)) hoc ?_ (by rfl) (by rfl)
  intro h7 oc7 F7 N7 hoc7
  clear F6 N6
  repeat' walk1
  refine call_cls0 (C := 45) F7 T.k N7 (by k_is) (by k_is) ?_
  intro x8 dx8 h8 F8 N8 lt8 lt8'
  clear F7 N7
  repeat' walk1
  rename News _ _ _ _ => N9
  refine setA (own := [(x8, instObj 45 dx8)]) (by assumption) T N9 (C := 45) (N9 _ (.head _)).1 (fun p hp => by rw [List.mem_singleton.mp hp]; exact Nat.ne_of_gt lt8') (fun p hp => Nat.ne_of_lt (lt8 p hp)) (by k_is) (by k_is) (by k_is) (by k_is) (by rfl) ?_ (by show (1 : Nat) ≤ 1000; decide)
  intro h10 tq10 F10 N10
  repeat' walk1
  rename Fr _ _ _ _ => F11
  refine setA (own := [(x8, instObj 45 dx8)]) F11 T N10 (C := 45) (N10 _ (.head _)).1 (fun p hp => by rw [List.mem_singleton.mp hp]; exact Nat.ne_of_gt lt8') (fun p hp => Nat.ne_of_lt (lt8 p hp)) (by k_is) (by k_is) (by k_is) (by k_is) (by rfl) ?_ (by show (2 : Nat) ≤ 1000; decide)
  intro h12 tq12 F12 N12
  clear N10 F11 N9
  repeat' walk1
  refine kla_eval (by rfl) ?_
  rename Fr _ _ _ _ => F13
  refine absG ?_; intro PG hPG
  obtain ⟨tp, tl, tm, tmg, tmb, hTop⟩ := T.top
  refine hPG ?_; clear hPG PG
  have lt3 : 153 < dx8 := lt8 (153, _) (.tail _ (.tail _ (.head _)))
  have fin : ∀ (R' : List (Addr × Obj)) (ps' : Array Value) (h : Heap) (tk : Nat) (f c' : Addr) (ctv pm : Value) (dd : List DictEntry) (nn : Nat),
      getL "code" dd = some (some (.int code t1)) → getL "msg" dd = some (some (.ref fn)) → getL "info" dd = some (some (.ref f)) →
      (hideAll s.heap [153]).StaysIn h → h.get? 153 = some (tabObj ps') → TabSt lamPos lamQ R' ps' → (∀ p ∈ R', h.get? p.1 = some p.2) → (∀ p ∈ R', p ∈ R ∨ s.heap.get? p.1 = none) → (∀ p ∈ R, p ∈ R') →
      (x8, instObj 45 dx8) ∈ R' → (dx8, dictOf dd nn) ∈ R' → (f, kla_obj (Str.ofString "<lambda>") lamQ lamA lamB lamS [(Str.ofString "heads", s.heap.objs.size + 1)] pm c' ctv) ∈ R' → (∃ o vs t, (c', o) ∈ R' ∧ o.data = .fields vs ∧ vs[1]? = some (.str lamQ t)) →
      (s.heap.objs.size + 1, oc7) ∈ R' → (r6, o6) ∈ R' → Q (.ref x8) (St s h tk) := by
    intro R' ps' h tk f c' ctv pm dd nn g1 g2 g3 k1 k2 k3 k4 k5 k6 m1 m2 m3 m4 m5 m6
    refine hret x8 R' ps' h tk k1 k2 k3 k4 k5 k6 ⟨r6, fun g hg => ⟨⟨dx8, dd, nn, t1, f, ⟨hg _ m1, hg _ m2⟩, g1, g2, g3, ⟨pm, c', ctv, s.heap.objs.size + 1, hg _ m3, ?_, ⟨oc7, hg _ m5, hoc7⟩⟩⟩, ⟨lo6, ?_⟩⟩⟩
    · refine absG ?_; intro PG hPG
      obtain ⟨o, vs, t, h1, h2, h3⟩ := m4
      refine hPG ?_; clear hPG PG
      exact ⟨c', o, vs, t, rfl, hg _ h1, h2, h3⟩
    · replace hR6 : Rel StrIs kv6 (dictOfPs pps) := hR6
      rcases hR6.get (Str.ofString "to") with ⟨hv, hg'⟩ | ⟨v, b, hv, hg', u, hu⟩
      · exact nomatch hto.symm.trans hg'
      rcases hR6.get (Str.ofString "cost") with ⟨hv2, hg2'⟩ | ⟨v2, b2, hv2, hg2', u2, hu2⟩
      · exact nomatch hco.symm.trans hg2'
      obtain rfl : name = b := Option.some.inj (hto.symm.trans hg')
      obtain rfl : Str.ofString (toString cost) = b2 := Option.some.inj (hco.symm.trans hg2')
      subst hu; subst hu2
      exact ⟨kv6, u, u2, Heap.dictOf_iff.mpr ⟨o6, hg _ m6, hO6⟩, hv, hv2⟩
  rcases hps with rfl | ⟨c, oc', vs, t, rfl, hcR, hcd, hcv⟩
  · with_unfolding_all refine kla_nest (qual := lamQ) (params := lamA) (body := lamB) (scope := lamS) (pos := lamPos) (clos := [(Str.ofString "heads", s.heap.objs.size + 1)]) (c := 157) (P := 153) F13 N12 hTop T.cod1 rfl (.tail (Nat.ne_of_gt (Nat.lt_trans lt3 lt8')) (.tail (Nat.ne_of_gt lt3) (.tail (Ne.symm hr3) (.tail (Nat.ne_of_gt (Nat.lt_succ_of_lt hlt153)) (.head (fun _ h => nomatch h)))))) trivial rfl rfl ?_
    intro f c' oc2 vs t ctv h14 tk14 F14 N14 hoc2 hvs ltc ltf
    repeat' walk1
    have ex : x8 < c' := ltc _ (.head _)
    have ed : dx8 < c' := ltc _ (.tail _ (.head _))
    refine setA (own := [(f, _), (c', oc2), (x8, instObj 45 dx8)]) (by assumption) T N14 (C := 45) (N14 _ (.tail _ (.tail _ (.head _)))).1 ?_ (fun p hp => Nat.ne_of_lt (by rcases List.mem_cons.mp hp with rfl | hp; exact lt8 (r6, o6) (.head _); rcases List.mem_cons.mp hp with rfl | hp; exact lt8 (s.heap.objs.size + 1, oc7) (.tail _ (.head _)); rw [List.mem_singleton.mp hp]; exact lt3)) (by k_is) (by k_is) (by k_is) (by k_is) (by rfl) ?_ (by show (3 : Nat) ≤ 1000; decide)
    · intro p hp
      simp only [List.mem_cons, List.not_mem_nil, or_false] at hp
      rcases hp with rfl | rfl | rfl
      · exact Nat.ne_of_gt (Nat.lt_trans ed ltf)
      · exact Nat.ne_of_gt ed
      · exact Nat.ne_of_gt lt8'
    intro h16 tq16 F16 N16
    repeat' walk1
    rename Fr _ _ _ _ => Fz
    rename News _ _ _ _ => Nz
    have b := tabOut (l := [(f, _), (c', _), (x8, _), (dx8, _), (r6, _), (s.heap.objs.size + 1, _)]) Fz Nz hR (fun p hp => List.mem_append_left [(153, _)] hp) (by
      intro p hp
      simp only [List.mem_cons, List.not_mem_nil, or_false] at hp ⊢
      rcases hp with rfl | rfl | rfl | rfl | rfl | rfl
      · exact Nat.ne_of_gt (Nat.lt_trans lt3 (Nat.lt_trans ed ltf))
      · exact Nat.ne_of_gt (Nat.lt_trans lt3 ed)
      · exact Nat.ne_of_gt (Nat.lt_trans lt3 lt8')
      · exact Nat.ne_of_gt lt3
      · exact Ne.symm hr3
      · exact Nat.ne_of_gt (Nat.lt_succ_of_lt hlt153))
    refine fin _ _ _ _ f c' ctv _ _ _ ?g1 ?g2 ?g3 Fz.keep ?a1 (.inr ⟨c', oc2, vs, t, rfl, List.mem_append_right _ (.tail _ (.head _)), hoc2, hvs⟩) b.1 b.2 (fun p hp => List.mem_append_left _ hp) (List.mem_append_right _ (.tail _ (.tail _ (.head _)))) (List.mem_append_right _ (.tail _ (.tail _ (.tail _ (.head _))))) (List.mem_append_right _ (.head _)) ⟨oc2, vs, t, List.mem_append_right _ (.tail _ (.head _)), hoc2, hvs⟩ (List.mem_append_right _ (.tail _ (.tail _ (.tail _ (.tail _ (.tail _ (.head _))))))) (List.mem_append_right _ (.tail _ (.tail _ (.tail _ (.tail _ (.head _))))))
    case a1 => exact (Nz _ (.tail _ (.tail _ (.tail _ (.tail _ (.tail _ (.tail _ (.head _)))))))).1
    all_goals rfl
  · with_unfolding_all refine kla_hit (qual := lamQ) (params := lamA) (body := lamB) (scope := lamS) (pos := lamPos) (clos := [(Str.ofString "heads", s.heap.objs.size + 1)]) (c := 157) (P := 153) F13 N12 hTop T.cod1 rfl (.tail _ (.tail _ (.tail _ (.tail _ (.head _))))) trivial rfl rfl ?_
    intro f ctv h14 tk14 F14 N14 ltc
    repeat' walk1
    have ex : x8 < f := ltc _ (.head _)
    have ed : dx8 < f := ltc _ (.tail _ (.head _))
    refine setA (own := [(f, _), (x8, instObj 45 dx8)]) (by assumption) T N14 (C := 45) (N14 _ (.tail _ (.head _))).1 ?_ (fun p hp => Nat.ne_of_lt (by rcases List.mem_cons.mp hp with rfl | hp; exact lt8 (r6, o6) (.head _); rcases List.mem_cons.mp hp with rfl | hp; exact lt8 (s.heap.objs.size + 1, oc7) (.tail _ (.head _)); rw [List.mem_singleton.mp hp]; exact lt3)) (by k_is) (by k_is) (by k_is) (by k_is) (by rfl) ?_ (by show (3 : Nat) ≤ 1000; decide)
    · intro p hp
      simp only [List.mem_cons, List.not_mem_nil, or_false] at hp
      rcases hp with rfl | rfl
      · exact Nat.ne_of_gt ed
      · exact Nat.ne_of_gt lt8'
    intro h16 tq16 F16 N16
    repeat' walk1
    rename Fr _ _ _ _ => Fz
    rename News _ _ _ _ => Nz
    have b := tabOut (l := [(f, _), (x8, _), (dx8, _), (r6, _), (s.heap.objs.size + 1, _)]) Fz Nz hR (fun p hp => List.mem_append_left [(153, _)] hp) (by
      intro p hp
      simp only [List.mem_cons, List.not_mem_nil, or_false] at hp ⊢
      rcases hp with rfl | rfl | rfl | rfl | rfl
      · exact Nat.ne_of_gt (Nat.lt_trans lt3 ed)
      · exact Nat.ne_of_gt (Nat.lt_trans lt3 lt8')
      · exact Nat.ne_of_gt lt3
      · exact Ne.symm hr3
      · exact Nat.ne_of_gt (Nat.lt_succ_of_lt hlt153))
    refine fin _ _ _ _ f c ctv _ _ _ ?d1 ?d2 ?d3 Fz.keep ?b1 (.inr ⟨c, oc', vs, t, rfl, List.mem_append_left _ hcR, hcd, hcv⟩) b.1 b.2 (fun p hp => List.mem_append_left _ hp) (List.mem_append_right _ (.tail _ (.head _))) (List.mem_append_right _ (.tail _ (.tail _ (.head _)))) (List.mem_append_right _ (.head _)) ⟨oc', vs, t, List.mem_append_left _ hcR, hcd, hcv⟩ (List.mem_append_right _ (.tail _ (.tail _ (.tail _ (.tail _ (.head _)))))) (List.mem_append_right _ (.tail _ (.tail _ (.tail _ (.head _)))))
    case b1 => exact (Nz _ (.tail _ (.tail _ (.tail _ (.tail _ (.tail _ (.head _))))))).1
    all_goals rfl
end
section
theorem law_functions {prog : Program} {w : World} {A : Around} {s : Shared} {Q E : Value → Shared → Prop} {l : Addr} {far : Nat → Nat} {code cost : Nat → Int} (T : TF w s.heap) (hA : Rm A 5 60)
  (hd : DrawnAt far code cost l s.heap) (hc : ∀ i, i < 5 → 0 ≤ code i ∧ code i < 1000)
  (hret : ∀ x R fn h' tk', s.heap.StaysIn h' → (∀ p ∈ R, h'.get? p.1 = some p.2 ∧ s.heap.get? p.1 = none) → Kept R (FuncsAt (nmOf code) fn x) → Q (.ref x) (St s h' tk')) :
  wpAny (model prog w) A (call (.ref 146) [.ref l]) Q E s := by
  refine wpAny_call (enter (d := 4) (u := 57) (binds := [(Str.ofString "drawn", .ref l)]) T hA (by k_is) rfl (by k_is) rfl (locs rfl) ?_)
  intro h₁ A' hA' F N
  repeat' walk1
  refine absG ?_; intro PG hPG
  obtain ⟨vs, hl, hlen, t1, t2, t3, ht⟩ := hd.x
  refine hPG ?_; clear hPG PG
  rename Fr _ _ _ _ => F1
  rename News _ _ _ _ => N1
  have ht' : ∀ i v, vs[i]? = some v → ∃ T, v = .ref T ∧ Heap.IsTuple _ T #[.int (far i : Int) (t1 i), .int (code i) (t2 i), .int (cost i) (t3 i)] := fun i v e => (by obtain ⟨T, a, b⟩ := ht i v e; exact ⟨T, a, tupKeep F1 b⟩)
  with_unfolding_all refine comp_tup3 (G := fun i v => v = .int (code i) (t2 i)) hA'.hd (listKeep F1 hl) (by rw [hlen]; decide) ht' ?_ (fun _ _ X => kA F1 N1 X ?_)
  · intro C i s₃ m₃ hi F2
    repeat' walk1
  · intro D ys k h2 tk2 F2 N2 hD hys hG
    have e : ys = #[.int (code 0) (t2 0), .int (code 1) (t2 1), .int (code 2) (t2 2), .int (code 3) (t2 3), .int (code 4) (t2 4)] := by
      exact arr5 (f := fun i => .int (code i) (t2 i)) (hys.trans (by simpa using hlen)) hG
    subst e
    clear hG hys F1 N1 ht'
    repeat' walk1
    rename_i u0 a0 _ _ _ _ _ _ u1 a1 _ _ _ _ _ _ a2 _ _ _ _ _ _ u3 a3 _ _ _ _ _ _ a4 _ _ _ _ _ _ a5 h5 F5 N5 _ _ _
    refine hret a5 _ (fun i => [a0, a1, a2, a3, a4].getD i 0) _ _ F5.keep (fun p hp => ⟨(N5 p hp).1, (N5 p hp).2.2⟩) fun g hg => ⟨⟨_, hg _ (.head _), rfl, _, rfl⟩, ?_⟩
    intro i hi
    have c0 := hc 0 (by decide)
    have c1 := hc 1 (by decide)
    have c3 := hc 3 (by decide)
    have : i = 0 ∨ i = 1 ∨ i = 2 ∨ i = 3 ∨ i = 4 := five (by omega)
    rcases this with rfl | rfl | rfl | rfl | rfl
    · have := FnOf.plain (h := g) (a := a0) (Str.ofString "w") (Str.ofString "f") (code 0) _ _ _ ⟨_, hg _ (.tail _ (.tail _ (.tail _ (.tail _ (.tail _ (.head _)))))), rfl, _, rfl⟩ (by decide +kernel) (by decide +kernel) (by decide +kernel) c0.1 c0.2
      rw [nm_plain _ _ (Str.ofString "w:") (Str.ofString "(f)") _ (by decide +kernel) (by decide +kernel)] at this
      exact this
    · have := FnOf.plain (h := g) (a := a1) (Str.ofString "a,b") (Str.ofString "g") (code 1) _ _ _ ⟨_, hg _ (.tail _ (.tail _ (.tail _ (.tail _ (.head _))))), rfl, _, rfl⟩ (by decide +kernel) (by decide +kernel) (by decide +kernel) c1.1 c1.2
      rw [nm_plain _ _ (Str.ofString "a,b:") (Str.ofString "(g)") _ (by decide +kernel) (by decide +kernel)] at this
      exact this
    · exact .h _ _ _ ⟨_, hg _ (.tail _ (.tail _ (.tail _ (.head _)))), rfl, _, rfl⟩
    · have := FnOf.plain (h := g) (a := a3) (Str.ofString "c\"\\") (Str.ofString "i=") (code 3) _ _ _ ⟨_, hg _ (.tail _ (.tail _ (.head _))), rfl, _, rfl⟩ (by decide +kernel) (by decide +kernel) (by decide +kernel) c3.1 c3.2
      rw [nm_plain _ _ (Str.ofString "c\"\\:") (Str.ofString "(i=)") _ (by decide +kernel) (by decide +kernel)] at this
      exact this
    · exact .k _ _ _ ⟨_, hg _ (.tail _ (.head _)), rfl, _, rfl⟩
theorem law_names {prog : Program} {w : World} {A : Around} {s : Shared} {Q E : Value → Shared → Prop} {l : Addr} {far : Nat → Nat} {code cost : Nat → Int} (T : TF w s.heap) (hA : Rm A 5 60)
  (hd : DrawnAt far code cost l s.heap) (hc : ∀ i, i < 5 → 0 ≤ code i ∧ code i < 1000)
  (hret : ∀ x R h' tk', s.heap.StaysIn h' → (∀ p ∈ R, h'.get? p.1 = some p.2 ∧ s.heap.get? p.1 = none) → Kept R (NamesAt (nmOf code) x) → Q (.ref x) (St s h' tk')) :
  wpAny (model prog w) A (call (.ref 151) [.ref l]) Q E s := by
  refine wpAny_call (enter (d := 4) (u := 57) (binds := [(Str.ofString "drawn", .ref l)]) T hA (by k_is) rfl (by k_is) rfl (locs rfl) ?_)
  intro h₁ A' hA' F N
  repeat' walk1
  refine absG ?_; intro PG hPG
  obtain ⟨vs, hl, hlen, t1, t2, t3, ht⟩ := hd.x
  refine hPG ?_; clear hPG PG
  rename Fr _ _ _ _ => F1
  rename News _ _ _ _ => N1
  have ht' : ∀ i v, vs[i]? = some v → ∃ T, v = .ref T ∧ Heap.IsTuple _ T #[.int (far i : Int) (t1 i), .int (code i) (t2 i), .int (cost i) (t3 i)] := fun i v e => (by obtain ⟨T, a, b⟩ := ht i v e; exact ⟨T, a, tupKeep F1 b⟩)
  with_unfolding_all refine comp_tup3 (G := fun i v => ∃ t, v = .str (Str.ofString (toString (code i))) t) hA'.hd (listKeep F1 hl) (by rw [hlen]; decide) ht' ?_ (fun _ _ X => kA F1 N1 X ?_)
  · intro C i s₃ m₃ hi F2
    have hci := hc i (by simpa [hlen] using hi)
    have T2 := T.keeps F1.keep
    dsimp only at F2
    repeat' walk1
  · intro D ys k h2 tk2 F2 N2 hD hys hG
    have e : ∃ u : Nat → Tok, ys = #[.str (Str.ofString (toString (code 0))) (u 0), .str (Str.ofString (toString (code 1))) (u 1), .str (Str.ofString (toString (code 2))) (u 2), .str (Str.ofString (toString (code 3))) (u 3), .str (Str.ofString (toString (code 4))) (u 4)] := by
      have h5 : ys.size = 5 := hys.trans (by simpa using hlen)
      have : ∀ i, i < 5 → ∃ t, ys[i]? = some (.str (Str.ofString (toString (code i))) t) := fun i hi => by
        have h1 : ys[i]? = some ys[i] := Array.getElem?_eq_getElem (by omega)
        obtain ⟨t, ht⟩ := hG i _ h1
        exact ⟨t, by rw [h1, ht]⟩
      refine ⟨fun i => if h : i < 5 then (this i h).choose else 0, arr5 (f := fun i => .str (Str.ofString (toString (code i))) (if h : i < 5 then (this i h).choose else 0)) h5 fun i y e => ?_⟩
      have hi : i < 5 := by have := (Array.getElem?_eq_some_iff.mp e).1; omega
      have h2 := (this i hi).choose_spec
      rw [dif_pos hi]
      exact Option.some.inj (e.symm.trans h2)
    obtain ⟨u, rfl⟩ := e
    clear hG hys F1 N1 ht'
    have c0 := hc 0 (by decide)
    have c1 := hc 1 (by decide)
    have c3 := hc 3 (by decide)
    repeat' walk1
    rename Fr _ _ _ _ => F5
    rename News _ _ _ _ => N5
    refine hret _ _ _ _ F5.keep (fun p hp => ⟨(N5 p hp).1, (N5 p hp).2.2⟩) fun g hg => ⟨⟨_, ⟨_, hg _ (.head _), rfl, _, rfl⟩, ?_⟩, _, hg _ (.head _), rfl⟩
    exact .cons _ _ (.cons _ _ (.cons _ _ (.cons _ _ (.cons _ _ .nil))))
end
section
noncomputable def pgOf (far : Nat → Nat) (code cost : Nat → Int) : Pg := ⟨nmOf code, code, far, cost⟩
/-- the bounds of what is drawn -/
structure Fine (far : Nat → Nat) (code cost : Nat → Int) : Prop where
  fars : ∀ i, i < 5 → far i < 5
  codes : ∀ i, i < 5 → 100 ≤ code i ∧ code i < 1000
  costs : ∀ i, i < 5 → 1 ≤ cost i ∧ cost i < 100
  heads : ∀ i c, i < 5 → 1 ≤ c → c < 100 → (nmOf code i).length ≤ 300 ∧ (Txt.replace (nmOf code i) (Str.ofString "\\") (Str.ofString "\\\\")).length ≤ 300 ∧ (Txt.replace (Txt.replace (nmOf code i) (Str.ofString "\\") (Str.ofString "\\\\")) (Str.ofString "\"") (Str.ofString "\\\"")).length ≤ 100 ∧
    ∃ pps, Parses (headText (nmOf code i) c) pps ∧ getB (dictOfPs pps) (Str.ofString "to") = some (nmOf code i) ∧ getB (dictOfPs pps) (Str.ofString "cost") = some (Str.ofString (toString c))
theorem law_pages {prog : Program} {w : World} {A : Around} {s : Shared} {Q E : Value → Shared → Prop} {l ln : Addr} {far : Nat → Nat} {code cost : Nat → Int} {ps : Array Value} {R : List (Addr × Obj)} (T : TF w (hideAll s.heap [153])) (hA : Rm A 10 100)
  (htab : s.heap.get? 153 = some (tabObj ps)) (hps : TabSt lamPos lamQ R ps) (hR : ∀ p ∈ R, (hideAll s.heap [153]).get? p.1 = some p.2)
  (hd : DrawnAt far code cost l (hideAll s.heap [153])) (hn : NamesAt (nmOf code) ln (hideAll s.heap [153])) (fine : Fine far code cost)
  (hret : ∀ x R' ps' fn pg h' tk', (hideAll s.heap [153]).StaysIn h' → h'.get? 153 = some (tabObj ps') → TabSt lamPos lamQ R' ps' → (∀ p ∈ R', h'.get? p.1 = some p.2) → (∀ p ∈ R', p ∈ R ∨ s.heap.get? p.1 = none) → (∀ p ∈ R, p ∈ R') →
    Kept R' (Pages prog w (pgOf far code cost) pg fn x) → Q (.ref x) (St s h' tk')) :
  wpAny (model prog w) A (call (.ref 165) [.ref l, .ref ln]) Q E s := by
  refine wpAny_call (enterX (d := 9) (u := 97) (mus := [153]) (news := [(153, tabObj ps)]) (binds := [(Str.ofString "drawn", .ref l), (Str.ofString "names", .ref ln)])
    T hA (of_hid _ _ (T.k _ _ (by k_is))) rfl ((codeRec_of T.k (by k_is)).keeps of_hid) rfl (locs rfl) (fun p hp => by rw [List.mem_singleton.mp hp]; exact ⟨.head _, htab⟩) ?_)
  intro h₁ A' hA' F N st
  repeat' walk1
  rename Fr _ _ _ _ => F1
  rename News _ _ _ _ => N1
  refine law_functions (T.keeps F1.keep) (hA'.le (by omega) (by omega)) (hd.keeps F1.keep) (fun i hi => ⟨by have := (fine.codes i hi).1; omega, (fine.codes i hi).2⟩) ?_
  intro lf Rf fn h2 tk2 st2 hRf hF2
  have F2 := frStays F1 st2
  have N2 := newsAddAll F1 (newsStays N1 st2) hRf
  clear F1 N1
  repeat' walk1
  rename_i h3 F3 N3 a0 h4 F4 N4 hn4 lo4 st4 h5 F5 N5
  obtain ⟨nvs, hln, hsn⟩ := hn.x
  refine absG ?_; intro PG hPG
  obtain ⟨vs, hl, hlen, t1, t2, t3, ht⟩ := hd.x
  refine hPG ?_; clear hPG PG
  have hb153 : (hideAll s.heap [153]).get? 153 = none := hideAll_none _ (.head _)
  have hlt153 : 153 < s.heap.objs.size := Heap.lt_size htab
  have ha0 := fresh_ne N3 hn4
  obtain ⟨ol, hol, _⟩ := id hl
  refine turnsEnum hA'.hd F5 (news := (153, tabObj ps) :: (a0, dictOf [] 0) :: Rf) ?_ (listKeep F5 hl) (old_ne_L F5 hol).symm
    (fun i m nx => ∃ (o : Obj) (kvs : List (Str × Value)) (ps1 : Array Value) (Rn : List (Addr × Obj)) (pg : Nat → Addr), nx = (153, tabObj ps1) :: (a0, o) :: Rn ∧ (∀ p ∈ Rf, p ∈ Rn) ∧ (∀ p ∈ Rn, p.1 ≠ 153 ∧ p.1 ≠ a0) ∧ TabSt lamPos lamQ (R ++ Rn) ps1 ∧ o.IsDictOf (strKind prog w) kvs ∧ kvs.length ≤ i ∧ (∀ j, j < i → valueAt kvs (nmOf code j) = some (.ref (pg j))) ∧
      (∀ j, j < i → ∃ hd_, Kept (R ++ Rn) fun g => Page g (pg j) (code j) (fn j) hd_ ∧ Heads prog w g hd_ (nmOf code (far j)) (cost j)) ∧ m (Str.ofString "pages") = some (.ref a0) ∧ m (Str.ofString "functions") = some (.ref lf) ∧ m (Str.ofString "names") = some (.ref ln)) ?_ ?_ ?_
  · intro p hp
    refine N5 p ?_
    simp only [List.mem_cons, List.mem_append, List.not_mem_nil, or_false] at hp ⊢
    rcases hp with h | h | h
    · exact .inr (.inr h)
    · exact .inl h
    · exact .inr (.inl h)
  · refine ⟨_, [], ps, Rf, fun _ => 0, rfl, fun p hp => hp, ?_, hps.more fun p hp => List.mem_append_left _ hp, emptyIs, Nat.le_refl _, fun j hj => absurd hj (Nat.not_lt_zero _), fun j hj => absurd hj (Nat.not_lt_zero _), rfl, rfl, rfl⟩
    intro p hp
    refine ⟨fun e => ?_, ha0 p (List.mem_append_left _ hp)⟩
    have h1 := (hRf p hp).2
    rw [e] at h1
    have h2 := st _ _ htab
    exact nomatch h1.symm.trans h2
  · intro i T3 t v m₁ news₁ h tk own hv hT hXG hown F6 N6
    refine absG ?_; intro PG hPG
    obtain ⟨o, kvs, ps1, Rn, pg, rfl, hRf1, hap, htab1, hO, hkl, hpg, hPg, k1, k2, k3⟩ := hXG
    refine hPG ?_; clear hPG PG
    refine absA ?_
    intro TQ hTQ
    have hi : i < 5 := by have := (List.getElem?_eq_some_iff.mp hv).1; omega
    obtain ⟨T4, rfl, hT4⟩ := ht i v hv
    repeat' walk1
    rename Fr _ _ _ _ => F7
    rename News _ _ _ _ => N7
    with_unfolding_all refine asT (k := 0) F7 N7 hA'.hd (tupKeep F7 hT4) (by rfl) (by rfl) ?_
    intro h8 F8 N8 st8
    clear F6 N6 F7 N7
    repeat' walk1
    rename Fr _ _ _ _ => F9
    rename News _ _ _ _ => N9
    have hfs := fun (q : Heap) (hq : ∀ p ∈ Rf, q.get? p.1 = some p.2) => (hF2 q hq).l
    refine subL (vs := [.ref (fn 0), .ref (fn 1), .ref (fn 2), .ref (fn 3), .ref (fn 4)]) (v := .ref (fn i)) (hfs _ fun p hp => (N9 p (List.mem_append_left _ (.tail _ (.tail _ (hRf1 p hp))))).1) (Int.natCast_nonneg i) (by omega) ?g1 ?_
    case g1 =>
      have : i = 0 ∨ i = 1 ∨ i = 2 ∨ i = 3 ∨ i = 4 := five (by omega)
      rcases this with rfl | rfl | rfl | rfl | rfl <;> rfl
    repeat' walk1
    rename Fr _ _ _ _ => F9
    rename News _ _ _ _ => N9
    have hfar := fine.fars i hi
    refine subL (vs := [.ref (fn 0), .ref (fn 1), .ref (fn 2), .ref (fn 3), .ref (fn 4)]) (v := .ref (fn (far i))) (hfs _ fun p hp => (N9 p (List.mem_append_left _ (.tail _ (.tail _ (hRf1 p hp))))).1) (Int.natCast_nonneg _) (by omega) ?g2 ?_
    case g2 =>
      have : far i = 0 ∨ far i = 1 ∨ far i = 2 ∨ far i = 3 ∨ far i = 4 := five (by omega)
      generalize far i = q at this
      rcases this with rfl | rfl | rfl | rfl | rfl <;> rfl
    repeat' walk1
    rename Fr _ _ _ _ => F9
    rename News _ _ _ _ => N9
    refine absG ?_; intro PG hPG
    obtain ⟨hd1, hd2, hd3, pps, hd4, hd5, hd6⟩ := fine.heads (far i) (cost i) hfar (fine.costs i hi).1 (fine.costs i hi).2
    refine hPG ?_; clear hPG PG
    have hcost := fine.costs i hi
    have hmus : ∀ b ∈ [153], (hideAll s.heap [153]).get? b = none := fun b hb => by rw [List.mem_singleton.mp hb]; exact hb153
    have hbase := hidOf F9 hmus
    have hRn : ∀ p ∈ Rn, (hideAll _ [153]).get? p.1 = some p.2 := fun p hp => hideAll_get _ (N9 p (List.mem_append_left _ (.tail _ (.tail _ hp)))).1 (by simpa using (hap p hp).1)
    refine law_page (R := R ++ Rn) (T.keeps hbase) (hA'.le (by omega) (by omega)) (N9 _ (.head _)).1 htab1 ?g3 ((hF2 _ fun p hp => hRn p (hRf1 p hp)).f _ hfar) hd1 hd2 hd3 (by omega) (by omega) hd4 hd5 hd6 ?_
    case g3 =>
      intro p hp
      rcases List.mem_append.mp hp with hp | hp
      · exact hbase _ _ (hR p hp)
      · exact hRn p hp
    rintro x R' ps' h10 tk10 st10 ht10 hps' hR' hR'' hsub ⟨hdx, hK⟩
    have hL153 : s.heap.objs.size ∉ [153] := by simpa using Nat.ne_of_gt hlt153
    have F10 := backF F9 hL153 hmus st10
    have hoff : ∀ p ∈ own, ∀ q ∈ (153, tabObj ps1) :: (a0, o) :: Rn, p.1 ≠ q.1 := fun p hp q hq e => by
      have h1 := hown p hp q hq e
      have h2 := (N9 q (List.mem_append_left _ hq)).2.2
      rw [← e, h1, hol] at h2; cases h2
    have ha153 : 153 ≠ a0 := ha0 (153, _) (List.mem_append_right _ (.head _))
    have hnew : ∀ p ∈ R', ((hideAll s.heap [153]).get? p.1).isNone = true → p.1 ≠ s.heap.objs.size ∧ p.1 ≠ 153 ∧ p.1 ≠ a0 := fun p hp hb => by
      rcases hR'' p hp with h1 | h1
      · rcases List.mem_append.mp h1 with h1 | h1
        · rw [hR p h1] at hb; cases hb
        · exact ⟨(N9 p (List.mem_append_left _ (.tail _ (.tail _ h1)))).2.1, hap p h1⟩
      · refine ⟨fun e => ?_, fun e => ?_, fun e => ?_⟩
        · refine absG ?_; intro PG hPG
          obtain ⟨oL, _, _, hL, _⟩ := F9.ns
          refine hPG ?_; clear hPG PG
          rw [e] at h1; exact nomatch h1.symm.trans hL
        · rw [e] at h1; exact nomatch h1.symm.trans (N9 _ (.head _)).1
        · rw [e] at h1; exact nomatch h1.symm.trans (N9 _ (.tail _ (.head _))).1
    have N10 : News (hideAll s.heap [153]) s.heap.objs.size h10 ([(153, tabObj ps')] ++ (a0, o) :: (R'.filter (fun p => ((hideAll s.heap [153]).get? p.1).isNone) ++ own)) := by
      intro p hp
      have keep : ∀ {q : Addr × Obj}, q ∈ (153, tabObj ps1) :: (a0, o) :: Rn ++ own → q.1 ≠ 153 → h10.get? q.1 = some q.2 := fun {q} hq hne => st10 _ _ (hideAll_get _ (N9 q hq).1 (by simpa using hne))
      rcases List.mem_cons.mp hp with rfl | hp
      · exact ⟨ht10, (N9 _ (.head _)).2⟩
      rcases List.mem_cons.mp hp with rfl | hp
      · exact ⟨keep (.tail _ (.head _)) (Ne.symm ha153), (N9 _ (.tail _ (.head _))).2⟩
      rcases List.mem_append.mp hp with hp | hp
      · obtain ⟨h1, h2⟩ := List.mem_filter.mp hp
        exact ⟨hR' p h1, (hnew p h1 h2).1, by simpa using h2⟩
      · exact ⟨keep (List.mem_append_right _ hp) (hoff p hp _ (.head _)), (N9 _ (List.mem_append_right _ hp)).2⟩
    obtain ⟨nv, hnv⟩ : ∃ nv, nvs[i]? = some nv := ⟨nvs[i]'(by have := hsn.len; simp at this; omega), List.getElem?_eq_getElem _⟩
    refine absG ?_; intro PG hPG
    obtain ⟨nx, nt, rfl, hnx⟩ := hsn.at i nv hnv
    refine hPG ?_; clear hPG PG
    have hnx' : nx = nmOf code i := by
      have : i = 0 ∨ i = 1 ∨ i = 2 ∨ i = 3 ∨ i = 4 := five (by omega)
      rcases this with rfl | rfl | rfl | rfl | rfl <;> exact (Option.some.inj hnx).symm
    subst hnx'
    have hbn : ∀ p ∈ Rn, ((hideAll s.heap [153]).get? p.1).isNone = true := fun p hp => by
      have : (hideAll s.heap [153]).get? p.1 = none := (N9 p (List.mem_append_left _ (.tail _ (.tail _ hp)))).2.2
      rw [this]; rfl
    have hsplit : ∀ p ∈ R', p ∈ R ++ R'.filter (fun p => ((hideAll s.heap [153]).get? p.1).isNone) := fun p hp => by
      by_cases hb : ((hideAll s.heap [153]).get? p.1).isNone = true
      · exact List.mem_append_right _ (List.mem_filter.mpr ⟨hp, hb⟩)
      · refine List.mem_append_left _ ?_
        rcases hR'' p hp with h1 | h1
        · rcases List.mem_append.mp h1 with h1 | h1
          · exact h1
          · exact absurd (hbn p h1) hb
        · exfalso
          apply hb
          cases q : (hideAll s.heap [153]).get? p.1 with
          | none => rfl
          | some o => exact nomatch h1.symm.trans (F9.keep _ _ q)
    have hfresh : ∀ p ∈ R', p ∈ R ++ Rn ∨ ∀ q ∈ own, p.1 ≠ q.1 := fun p hp => by
      rcases hR'' p hp with h1 | h1
      · exact .inl h1
      · exact .inr fun q hq e => fresh_ne N9 h1 q (List.mem_append_right _ hq) e.symm
    clear N9 F9 F8 N8
    repeat' walk1
    rename Fr _ _ _ _ => F11
    refine subL (listKeep F11 hln) (Int.natCast_nonneg i) (by omega) hnv ?_
    repeat' walk1
    refine setN (knd := strKind _ _) (own := [(153, tabObj ps')]) (by assumption) (by assumption) hO (strKind_is _ _ _ _) (fun p hp => by rw [List.mem_singleton.mp hp]; exact ha153) (fun p hp => ?_) ?_ (by rw [sizeLine]; omega)
    · rcases List.mem_append.mp hp with hp | hp
      · obtain ⟨h1, h2⟩ := List.mem_filter.mp hp
        exact (hnew p h1 h2).2.2
      · exact hoff p hp _ (.tail _ (.head _))
    intro h12 o12 F12 N12 hO12
    repeat' walk1
    refine hTQ _ _ (turnEnd F12 N12 (nx := (153, tabObj ps') :: (a0, o12) :: R'.filter (fun p => ((hideAll s.heap [153]).get? p.1).isNone)) ?e1 ?e2 ?e3 ⟨o12, stored kvs (nmOf code i) (.ref x), ps', _, fun j => if j = i then x else pg j, rfl, ?e4, ?e5, ?e6, hO12, Nat.le_trans (stored_len _ _ _) (Nat.succ_le_succ hkl), ?e7, ?e8, k1, k2, k3⟩)
    case e1 =>
      intro p hp
      simp only [List.mem_append, List.mem_cons, List.not_mem_nil, or_false] at hp ⊢
      rcases hp with h | h | h
      · exact .inl h
      · exact .inr (.inl h)
      · exact .inr (.inr (.inl h))
    case e2 => exact fun p hp => List.mem_append_right _ (.tail _ (List.mem_append_right _ hp))
    case e3 =>
      intro p hp
      rcases List.mem_cons.mp hp with rfl | hp
      · exact .inl (.head _)
      rcases List.mem_cons.mp hp with rfl | hp
      · exact .inl (.tail _ (.head _))
      obtain ⟨h1, h2⟩ := List.mem_filter.mp hp
      rcases hfresh p h1 with h3 | h3
      · rcases List.mem_append.mp h3 with h3 | h3
        · rw [hR p h3] at h2; cases h2
        · exact .inl (.tail _ (.tail _ (List.mem_map_of_mem h3)))
      · exact .inr h3
    case e4 => exact fun p hp => List.mem_filter.mpr ⟨hsub p (List.mem_append_right _ (hRf1 p hp)), hbn p (hRf1 p hp)⟩
    case e5 => exact fun p hp => (by obtain ⟨h1, h2⟩ := List.mem_filter.mp hp; exact (hnew p h1 h2).2)
    case e6 => exact hps'.more hsplit
    case e7 =>
      intro j hj
      rw [valueAt_stored]
      dsimp only
      by_cases e : j = i
      · subst e; rw [if_pos rfl, if_pos rfl]
      · rw [if_neg fun q => e (nm_inj code (by omega) (by omega) q).symm, if_neg e]
        exact hpg j (by omega)
    case e8 =>
      intro j hj
      dsimp only
      by_cases e : j = i
      · subst e
        rw [if_pos rfl]
        exact ⟨hdx, hK.more hsplit⟩
      · rw [if_neg e]
        obtain ⟨hdj, hKj⟩ := hPg j (by omega)
        exact ⟨hdj, hKj.more fun p hp => hsplit p (hsub p hp)⟩
  · intro m₁ news₁ h tk hXG F6 N6
    refine absG ?_; intro PG hPG
    obtain ⟨o, kvs, ps1, Rn, pg, rfl, hRf1, hap, htab1, hO, hkl, hpg, hPg, k1, k2, k3⟩ := hXG
    refine hPG ?_; clear hPG PG
    repeat' walk1
    have b := tabOut (s := s.heap) (mus := [153]) (R := R) (l := (a0, o) :: Rn) F6 N6 hR (fun p hp => List.mem_cons_of_mem _ hp) (by
      intro p hp
      have : p.1 ≠ 153 := by
        rcases List.mem_cons.mp hp with rfl | hp
        · exact Ne.symm (ha0 (153, _) (List.mem_append_right _ (.head _)))
        · exact (hap p hp).1
      simpa using this)
    have hsub : ∀ p ∈ R ++ Rn, p ∈ R ++ (a0, o) :: Rn := fun p hp => by
      rcases List.mem_append.mp hp with h | h
      · exact List.mem_append_left _ h
      · exact List.mem_append_right _ (.tail _ h)
    refine hret a0 (R ++ (a0, o) :: Rn) ps1 fn pg _ _ F6.keep (N6 _ (.head _)).1 (htab1.more hsub) b.1 b.2 (fun p hp => List.mem_append_left _ hp) fun g hg => ⟨lo4, ?_, ?_, ?_⟩
    · exact ⟨kvs, Heap.dictOf_iff.mpr ⟨o, hg _ (List.mem_append_right _ (.head _)), hO⟩, fun j hj => hpg j (by rw [hlen]; exact hj)⟩
    · intro j hj
      obtain ⟨hdj, hKj⟩ := hPg j (by rw [hlen]; exact hj)
      exact ⟨hdj, hKj g fun p hp => hg p (hsub p hp)⟩
    · exact (hF2 g fun p hp => hg p (List.mem_append_right _ (.tail _ (hRf1 p hp)))).f
end
section
theorem add_parent {prog : Program} {w : World} {A : Around} {s : Shared} {Q E : Value → Shared → Prop} {x dx par : Addr} (T : TF w (hideAll s.heap [dx])) (hA : Rm A 3 20)
  (hx : (hideAll s.heap [dx]).get? x = some (instObj 66 dx)) (hd : s.heap.get? dx = some (dictOf [] 0))
  (hret : ∀ h' t tk', (hideAll s.heap [dx]).StaysIn h' → h'.get? dx = some (dictOf (putL (Str.ofString "parent") (PyData.keyHash w.params (Str.ofString "parent")) (.str (Str.ofString "parent") t) (.ref par) []) (putN (Str.ofString "parent") [] 0)) → Q .none (St s h' tk')) :
  wpAny (model prog w) A (call (.ref 28) [.ref x, .ref par]) Q E s := by
  refine wpAny_call (enterX (d := 2) (u := 17) (mus := [dx]) (news := [(dx, dictOf [] 0)]) (binds := [(Str.ofString "self", .ref x), (Str.ofString "parent", .ref par)])
    T hA (of_hid _ _ (T.k _ _ (by k_is))) rfl ((codeRec_of T.k (by k_is)).keeps of_hid) rfl (locs rfl) (fun p hp => by rw [List.mem_singleton.mp hp]; exact ⟨.head _, hd⟩) ?_)
  intro h₁ A' hA' F N st
  repeat' walk1
  rename Fr _ _ _ _ => F1
  rename News _ _ _ _ => N1
  refine setA (own := []) F1 T N1 (C := 66) (F1.keep _ _ hx) (fun _ h => nomatch h) (fun _ h => nomatch h) (by k_is) (by k_is) (by k_is) (by k_is) (by rfl) ?_ (by show (1 : Nat) ≤ 1000; decide)
  intro h2 t2 F2 N2
  repeat' walk1
  rename Fr _ _ _ _ => F3
  rename News _ _ _ _ => N3
  exact hret _ _ _ F3.keep (N3 _ (.head _)).1
end
section
noncomputable def errPos : Pos := match wkDef with | .FunctionDef _ _ _ _ _ _ _ _ _ p => p | _ => ⟨0, 0, 0, 0⟩
noncomputable def M0 : Mem := ⟨[], [], []⟩
theorem law_walk {prog : Program} {w : World} {A : Around} {s : Shared} {Q E : Value → Shared → Prop} {D : Pg} {pg fn : Nat → Addr} {pages : Addr} {i : Nat} {t : Tok} {ps : Array Value} {R : List (Addr × Obj)} (T : TF w (hideAll s.heap [167])) (hA : Rm A 40 200)
  (htab : s.heap.get? 167 = some (tabObj ps)) (hps : TabSt errPos errQ R ps) (hR : ∀ p ∈ R, (hideAll s.heap [167]).get? p.1 = some p.2)
  (hP : Pages prog w D pg fn pages (hideAll s.heap [167])) (hfar : ∀ i, i < 5 → D.far i < 5) (hcst : ∀ i, i < 5 → 0 ≤ D.cost i ∧ D.cost i < 1000) (hi : i < 5)
  (hret : ∀ x pr R' ps' h' tk', (hideAll s.heap [167]).StaysIn h' → h'.get? 167 = some (tabObj ps') → TabSt errPos errQ R' ps' → (∀ p ∈ R', h'.get? p.1 = some p.2) → (∀ p ∈ R', p ∈ R ∨ s.heap.get? p.1 = none) → (∀ p ∈ R, p ∈ R') →
    Kept R' (fun g => g.IsTuple x #[.ref (pg (http D 8 (Str.ofString "start") i M0).1), .ref pr] ∧ ProfAt prog w (http D 8 (Str.ofString "start") i M0).2.prof pr g) → Q (.ref x) (St s h' tk')) :
  wpAny (model prog w) A (call (.ref 172) [.ref pages, .str (D.nm i) t]) Q E s := by
  refine wpAny_call (enterC (d := 39) (u := 197) (mus := [167]) (news := [(167, tabObj ps)]) (binds := [(Str.ofString "pages", .ref pages), (Str.ofString "start", .str (D.nm i) t)])
    T hA (of_hid _ _ (T.k _ _ (by k_is))) rfl ((codeRec_of T.k (by k_is)).keeps of_hid) rfl rfl (by decide) (fun p hp => by rw [List.mem_singleton.mp hp]; exact ⟨.head _, htab⟩) ?_)
  intro h₁ tk1 A' cells hA' F N Y st htk
  have Y' : CellsAre _ [(Str.ofString "told", s.heap.objs.size + 5), (Str.ofString "profile", s.heap.objs.size + 4), (Str.ofString "processor", s.heap.objs.size + 3), (Str.ofString "costs", s.heap.objs.size + 2), (Str.ofString "pages", s.heap.objs.size + 1)] cells := Y
  refine absG ?_; intro PG hPG
  obtain ⟨ot, of', op, oc, og, rfl, dt, df, dp, dc, dg⟩ := kc_five Y'
  refine hPG ?_; clear hPG PG
  clear Y' Y
  have hlt : 167 < s.heap.objs.size := Heap.lt_size htab
  have N0 : News (hideAll s.heap [167]) s.heap.objs.size h₁ [(s.heap.objs.size + 5, ot), (s.heap.objs.size + 4, of'), (s.heap.objs.size + 3, op), (s.heap.objs.size + 2, oc), (s.heap.objs.size + 1, og), (167, tabObj ps)] := N
  have nd0 := nd6 hlt
  clear N
  repeat' walk1
  rename_i aT h2 F2 N2 hnT loT stT
  have nd2 := ndCons N0 hnT nd0
  refine stCellN (own := [_]) (rest := [_, _, _, _, _]) F2 N2 nd2 (by rfl) dt ?_ (by rfl) (by rfl)
  intro h3 ot' F3 N3 dt'
  clear F2 N2 F N0
  repeat' walk1
  rename_i aC h4 F4 N4 hnC loC stC
  have nd4 := ndCons N3 hnC nd2
  refine stCellN (own := [_, _, _, _, _]) (rest := [_, _]) F4 N4 nd4 (by rfl) dc ?_ (by rfl) (by rfl)
  intro h5 oc' F5 N5 dc'
  clear F3 N3 F4 N4
  repeat' walk1
  rename_i aP h6 F6 N6 hnP loP stP
  have nd6 := ndCons N5 hnP nd4
  refine stCellN (own := [_, _, _, _]) (rest := [_, _, _, _]) F6 N6 nd6 (by rfl) df ?_ (by rfl) (by rfl)
  intro h7 of2 F7 N7 df'
  clear F5 N5 F6 N6
  repeat' walk1
  refine call_cls0 (C := 66) F7 T.k N7 (by k_is) (by k_is) ?_
  intro xR dR h8 F8 N8 ltR ltR'
  have nd8 : ((xR, instObj 66 dR) :: (dR, _) :: _ : List (Addr × Obj)).map (·.1) |>.Nodup := ndLt (a := xR) (news := (dR, dictOf [] 0) :: _) (fun p hp => by rcases List.mem_cons.mp hp with rfl | hp; exact ltR'; exact Nat.lt_trans (ltR p hp) ltR') (ndLt ltR nd6)
  clear F7 N7
  repeat' walk1
  refine stCellN (own := [_, _, _, _, _, _, _]) (rest := [_, _, _]) (by assumption) (by assumption) nd8 (by rfl) dp ?_ (by rfl) (by rfl)
  intro h9 op' F9 N9 dp'
  clear F8 N8
  repeat' walk1
  refine call_cls0 (C := 45) F9 T.k N9 (by k_is) (by k_is) ?_
  intro xB dB h10 F10 N10 ltB ltB'
  have nd10 : ((xB, instObj 45 dB) :: (dB, _) :: _ : List (Addr × Obj)).map (·.1) |>.Nodup := ndLt (a := xB) (news := (dB, dictOf [] 0) :: _) (fun p hp => by rcases List.mem_cons.mp hp with rfl | hp; exact ltB'; exact Nat.lt_trans (ltB p hp) ltB') (ndLt ltB nd8)
  clear F9 N9
  repeat' walk1
  rename Fr _ _ _ _ => F11
  rename News _ _ _ _ => N11
  refine absG ?_; intro PG hPG
  obtain ⟨tp, tl, tm, tmg, tmb, hTop⟩ := T.top
  refine hPG ?_; clear hPG PG
  refine nestDef_K rfl rfl rfl ?_
  with_unfolding_all refine nestB (own := [_, _, _, _, _, _, _, _, _, _, _, _]) (qual := errQ) (params := errA) (body := errB) (scope := errS) (pos := errPos) (clos := [(Str.ofString "told", s.heap.objs.size + 5), (Str.ofString "profile", s.heap.objs.size + 4), (Str.ofString "processor", s.heap.objs.size + 3), (Str.ofString "pages", s.heap.objs.size + 1), (Str.ofString "costs", s.heap.objs.size + 2)]) (c := 171) (P := 167) F11 N11 nd10 hTop T.cod2 rfl hps rfl ?_
  intro f c' X ps' ctv doc pm h12 tk12 F12 N12 nd12 hps' hcode
  clear F11 N11
  repeat' walk1
  rename Fr _ _ _ _ => F13
  rename News _ _ _ _ => N13
  have nd13 : (f :: xB :: dB :: xR :: dR :: aP :: aC :: aT :: (s.heap.objs.size + 5) :: (s.heap.objs.size + 4) :: (s.heap.objs.size + 3) :: (s.heap.objs.size + 2) :: (s.heap.objs.size + 1) :: 167 :: X.map (·.1)).Nodup := nd12
  clear nd12
  refine setAN (own := [(f, _), (xB, _)]) F13 T N13 nd13 (C := 45) (N13 _ (.tail _ (.head _))).1 (by k_is) (by k_is) (by k_is) (by k_is) (by rfl) ?_ (by show (1 : Nat) ≤ 1000; decide)
  intro h14 t14 F14 N14
  clear F12 N12 F13 N13
  repeat' walk1
  rename Fr _ _ _ _ => F15
  rename News _ _ _ _ => N15
  have IR : Inst _ xR 66 dR [] 0 := ⟨(N15 _ (.tail _ (.tail _ (.tail _ (.head _))))).1, (N15 _ (.tail _ (.tail _ (.tail _ (.tail _ (.head _)))))).1⟩
  have hgl : getL (Str.ofString "add_parent") ([] : List DictEntry) = some none := rfl
  repeat' walk1
  rename Fr _ _ _ _ => F16
  rename News _ _ _ _ => N16
  clear IR hgl
  have hbR : ∀ b ∈ [dR], (hideAll s.heap [167]).get? b = none := fun b hb => by rw [List.mem_singleton.mp hb]; exact (N16 (dR, dictOf [] 0) (.tail _ (.tail _ (.tail _ (.tail _ (.head _)))))).2.2
  have hRd : xR ≠ dR := by
    have := (List.nodup_cons.mp (List.nodup_cons.mp (List.nodup_cons.mp (List.nodup_cons.mp nd13).2).2).2).1
    exact fun e => this (e ▸ .head _)
  refine add_parent (dx := dR) (T.keeps (hidOf F16 hbR)) (hA'.le (by omega) (by omega)) (hideAll_get _ (N16 _ (.tail _ (.tail _ (.tail _ (.head _))))).1 (by simpa using hRd)) (N16 _ (.tail _ (.tail _ (.tail _ (.tail _ (.head _)))))).1 ?_
  intro h17 t17 tk17 st17 hd17
  have F17 := backF F16 (by simpa using fun e => (N16 (dR, dictOf [] 0) (.tail _ (.tail _ (.tail _ (.tail _ (.head _)))))).2.1 (show dR = s.heap.objs.size from e.symm)) hbR st17
  have N17 := backSet (own := [_, _, _, _]) (rest := (aP, _) :: (aC, _) :: (aT, _) :: (s.heap.objs.size + 5, _) :: (s.heap.objs.size + 4, _) :: (s.heap.objs.size + 3, _) :: (s.heap.objs.size + 2, _) :: (s.heap.objs.size + 1, _) :: (167, _) :: X) N16 nd13 st17 hd17
  clear N16 F16
  have IR2 : Inst h17 xR 66 dR _ _ := ⟨(N17 _ (.tail _ (.tail _ (.tail _ (.head _))))).1, hd17⟩
  have hgl2 : getL (Str.ofString "http_response") (putL (Str.ofString "parent") (PyData.keyHash w.params (Str.ofString "parent")) (.str (Str.ofString "parent") t17) (.ref xB) []) = some none := rfl
  have hgP : og.data = .cell (some (.ref pages)) := dg
  obtain ⟨pkv, hpk, hpv⟩ := hP.pages
  have hpi := hpv i hi
  show wpAny _ _ _ _ _ _
  repeat' walk1
  rename Fr _ _ _ _ => F18
  rename News _ _ _ _ => N18
  have ndA : ([f, xB, dB, xR, dR] ++ ([aP, aC, aT] ++ ([s.heap.objs.size + 5, s.heap.objs.size + 4, s.heap.objs.size + 3, s.heap.objs.size + 2, s.heap.objs.size + 1, 167] ++ X.map (·.1)))).Nodup := nd13
  obtain ⟨_, ndB, hA1⟩ := List.nodup_append.mp ndA
  obtain ⟨ndC, _, hA2⟩ := List.nodup_append.mp ndB
  have hsw : ∀ b, b ∈ [aT, aC, aP] → b ∈ [aP, aC, aT] := fun b hb => by
    simp only [List.mem_cons, List.not_mem_nil, or_false] at hb ⊢
    rcases hb with h | h | h
    · exact .inr (.inr h)
    · exact .inr (.inl h)
    · exact .inl h
  have hno1 : ∀ b ∈ [f, xB, dB, xR, dR], b ∉ [aT, aC, aP] := fun b hb hm => hA1 b hb b (List.mem_append_left _ (hsw b hm)) rfl
  have hno2 : ∀ b ∈ [s.heap.objs.size + 5, s.heap.objs.size + 4, s.heap.objs.size + 3, s.heap.objs.size + 2, s.heap.objs.size + 1, 167] ++ X.map (·.1), b ∉ [aT, aC, aP] := fun b hb hm => hA2 b (hsw b hm) b hb rfl
  have hCT : aC ≠ aT := fun e => (List.nodup_cons.mp (List.nodup_cons.mp ndC).2).1 (e ▸ .head _)
  have hPC : aP ≠ aC := fun e => (List.nodup_cons.mp ndC).1 (e ▸ .head _)
  have hPT : aP ≠ aT := fun e => (List.nodup_cons.mp ndC).1 (e ▸ .tail _ (.head _))
  have hm3 : ∀ b ∈ [aT, aC, aP], (hideAll s.heap [167]).get? b = none := fun b hb => by
    simp only [List.mem_cons, List.not_mem_nil, or_false] at hb
    rcases hb with rfl | rfl | rfl
    · exact (N18 _ (.tail _ (.tail _ (.tail _ (.tail _ (.tail _ (.tail _ (.tail _ (.head _))))))))).2.2
    · exact (N18 _ (.tail _ (.tail _ (.tail _ (.tail _ (.tail _ (.tail _ (.head _)))))))).2.2
    · exact (N18 _ (.tail _ (.tail _ (.tail _ (.tail _ (.tail _ (.head _))))))).2.2
  have hb3 := hidOf F18 hm3
  have hCR : (hideAll h17 [aT, aC, aP]).CodeRec (.ref c') errQ := by
    refine absG ?_; intro PG hPG
    obtain ⟨oc3, vs3, t3, hm, hd3, hv3⟩ := hcode
    refine hPG ?_; clear hPG PG
    refine ⟨c', oc3, vs3, t3, rfl, ?_, hd3, hv3⟩
    rcases List.mem_append.mp hm with hm | hm
    · exact hb3 _ _ (hR _ hm)
    · exact hideAll_get _ (N18 _ (.tail _ (.tail _ (.tail _ (.tail _ (.tail _ (.tail _ (.tail _ (.tail _ (.tail _ (.tail _ (.tail _ (.tail _ (.tail _ (.tail _ hm))))))))))))))).1 (hno2 _ (List.mem_append_right _ (List.mem_map_of_mem hm)))
  refine http_ok (k := ⟨D, pg, fn, xR, xB, f, pages, aT, aC, aP⟩) 8 _ _ _ _ i M0 (Str.ofString "start") _ (listOf #[] 0) (listOf #[] 0) (dictOf [] 0) [] (T.keeps hb3) ?w1 (hA'.le (by omega) (by omega)) ?w2 rfl ⟨rfl, (fun _ h => nomatch h), Nat.zero_le _⟩ hi ?_
  case w1 =>
    exact {
      P := hP.keeps hb3
      far := hfar
      cst := hcst
      proc := ⟨dR, _, _, ⟨hideAll_get _ IR2.x (hno1 _ (.tail _ (.tail _ (.tail _ (.head _))))), hideAll_get _ IR2.d (hno1 _ (.tail _ (.tail _ (.tail _ (.tail _ (.head _))))))⟩, rfl, rfl⟩
      par := ⟨dB, _, _, ⟨hideAll_get _ (N18 _ (.tail _ (.head _))).1 (hno1 _ (.tail _ (.head _))), hideAll_get _ (N18 _ (.tail _ (.tail _ (.head _)))).1 (hno1 _ (.tail _ (.tail _ (.head _))))⟩, rfl⟩
      ef := ⟨doc, pm, c', ctv, s.heap.objs.size + 2, s.heap.objs.size + 1, s.heap.objs.size + 3, s.heap.objs.size + 4, s.heap.objs.size + 5, hideAll_get _ (N18 _ (.head _)).1 (hno1 _ (.head _)), hCR,
        ⟨oc', hideAll_get _ (N18 _ (.tail _ (.tail _ (.tail _ (.tail _ (.tail _ (.tail _ (.tail _ (.tail _ (.tail _ (.tail _ (.tail _ (.head _))))))))))))).1 (hno2 _ (.tail _ (.tail _ (.tail _ (.head _))))), dc'⟩,
        ⟨og, hideAll_get _ (N18 _ (.tail _ (.tail _ (.tail _ (.tail _ (.tail _ (.tail _ (.tail _ (.tail _ (.tail _ (.tail _ (.tail _ (.tail _ (.head _)))))))))))))).1 (hno2 _ (.tail _ (.tail _ (.tail _ (.tail _ (.head _)))))), hgP⟩,
        ⟨op', hideAll_get _ (N18 _ (.tail _ (.tail _ (.tail _ (.tail _ (.tail _ (.tail _ (.tail _ (.tail _ (.tail _ (.tail _ (.head _)))))))))))).1 (hno2 _ (.tail _ (.tail _ (.head _)))), dp'⟩,
        ⟨of2, hideAll_get _ (N18 _ (.tail _ (.tail _ (.tail _ (.tail _ (.tail _ (.tail _ (.tail _ (.tail _ (.tail _ (.head _))))))))))).1 (hno2 _ (.tail _ (.head _))), df'⟩,
        ⟨ot', hideAll_get _ (N18 _ (.tail _ (.tail _ (.tail _ (.tail _ (.tail _ (.tail _ (.tail _ (.tail _ (.head _)))))))))).1 (hno2 _ (.head _)), dt'⟩⟩
      lo := loP
      n1 := Ne.symm hCT
      n2 := Ne.symm hPT
      n3 := Ne.symm hPC }
  case w2 =>
    refine ⟨fun p hp => ?_, (fun _ h => nomatch h), ⟨⟨#[], 0, rfl, .nil⟩, ⟨#[], 0, rfl, .nil⟩, ⟨[], emptyIs, .nil⟩⟩⟩
    rcases List.mem_cons.mp hp with rfl | hp
    · exact (N18 _ (.tail _ (.tail _ (.tail _ (.tail _ (.tail _ (.tail _ (.tail _ (.head _))))))))).1
    rcases List.mem_cons.mp hp with rfl | hp
    · exact (N18 _ (.tail _ (.tail _ (.tail _ (.tail _ (.tail _ (.tail _ (.head _)))))))).1
    rw [List.mem_singleton.mp hp]
    exact (N18 _ (.tail _ (.tail _ (.tail _ (.tail _ (.tail _ (.head _))))))).1
  intro h19 tk19 hl
  have hnuE : ∀ q ∈ ([(aT, listOf #[] 0), (aC, listOf #[] 0), (aP, dictOf [] 0)] : List (Addr × Obj)), q.1 ∈ [aT, aC, aP] := fun q hq => by
    simp only [List.mem_cons, List.not_mem_nil, or_false] at hq ⊢
    rcases hq with rfl | rfl | rfl
    · exact .inl rfl
    · exact .inr (.inl rfl)
    · exact .inr (.inr rfl)
  have Nnu : News (hideAll s.heap [167]) s.heap.objs.size h17 [(aT, listOf #[] 0), (aC, listOf #[] 0), (aP, dictOf [] 0)] := fun p hp => by
    rcases List.mem_cons.mp hp with rfl | hp
    · exact N18 _ (.tail _ (.tail _ (.tail _ (.tail _ (.tail _ (.tail _ (.tail _ (.head _))))))))
    rcases List.mem_cons.mp hp with rfl | hp
    · exact N18 _ (.tail _ (.tail _ (.tail _ (.tail _ (.tail _ (.tail _ (.head _)))))))
    rw [List.mem_singleton.mp hp]
    exact N18 _ (.tail _ (.tail _ (.tail _ (.tail _ (.tail _ (.head _))))))
  have No : News (hideAll s.heap [167]) s.heap.objs.size h17 ((s.heap.objs.size + 4, of2) :: (167, tabObj ps') :: X) := fun p hp => by
    rcases List.mem_cons.mp hp with rfl | hp
    · exact N18 _ (.tail _ (.tail _ (.tail _ (.tail _ (.tail _ (.tail _ (.tail _ (.tail _ (.tail _ (.head _))))))))))
    rcases List.mem_cons.mp hp with rfl | hp
    · exact N18 _ (.tail _ (.tail _ (.tail _ (.tail _ (.tail _ (.tail _ (.tail _ (.tail _ (.tail _ (.tail _ (.tail _ (.tail _ (.tail _ (.head _))))))))))))))
    · exact N18 _ (.tail _ (.tail _ (.tail _ (.tail _ (.tail _ (.tail _ (.tail _ (.tail _ (.tail _ (.tail _ (.tail _ (.tail _ (.tail _ (.tail _ hp))))))))))))))
  have F19 := hl.fr (ot := listOf #[] 0) (oc := listOf #[] 0) (op := dictOf [] 0) F18 Nnu
  refine absG ?_; intro PG hPG
  obtain ⟨ot9, oc9, op9, R9, hM9, N19, hno9, hR9, hs9⟩ := hl.nws (ot := listOf #[] 0) (oc := listOf #[] 0) (op := dictOf [] 0) F18 Nnu No (fun p hp q hq e => by
    have h1 := hnuE q hq
    rw [← e] at h1
    refine hno2 p.1 ?_ h1
    rcases List.mem_cons.mp hp with rfl | hp
    · exact .tail _ (.head _)
    rcases List.mem_cons.mp hp with rfl | hp
    · exact .tail _ (.tail _ (.tail _ (.tail _ (.tail _ (.head _)))))
    · exact List.mem_append_right _ (List.mem_map_of_mem hp))
  refine hPG ?_; clear hPG PG
  have h167 := (No _ (.tail _ (.head _))).1
  clear N18 F18 Nnu No
  repeat' walk1
  rename_i x h20 F20 N20 hn20 lo20 st20
  have b := tabOut (s := s.heap) (mus := [167]) (R := R) (l := (x, { cls := .type "tuple", data := .seq #[.ref (pg (http D 8 (Str.ofString "start") i M0).1), .ref aP] }) :: (X ++ Wk.nu ⟨D, pg, fn, xR, xB, f, pages, aT, aC, aP⟩ ot9 oc9 op9 R9)) F20 N20 hR (fun p hp => by
    rcases List.mem_cons.mp hp with rfl | hp
    · exact .head _
    rcases List.mem_append.mp hp with hp | hp
    · exact .tail _ (List.mem_append_left _ (.tail _ (.tail _ hp)))
    · exact .tail _ (List.mem_append_right _ hp)) (fun p hp => by
    have : p.1 ≠ 167 := by
      rcases List.mem_cons.mp hp with rfl | hp
      · exact (fresh_ne N19 hn20 (167, tabObj ps') (.tail _ (.head _))).symm
      rcases List.mem_append.mp hp with hp | hp
      · have h1 := (List.nodup_append.mp ndB).2.1
        intro e
        exact (List.nodup_append.mp h1).2.2 167 (.tail _ (.tail _ (.tail _ (.tail _ (.tail _ (.head _)))))) p.1 (List.mem_map_of_mem hp) e.symm
      rcases List.mem_cons.mp hp with rfl | hp
      · exact fun e => hno2 167 (List.mem_append_left _ (.tail _ (.tail _ (.tail _ (.tail _ (.tail _ (.head _))))))) (by rw [← e]; exact .head _)
      rcases List.mem_cons.mp hp with rfl | hp
      · exact fun e => hno2 167 (List.mem_append_left _ (.tail _ (.tail _ (.tail _ (.tail _ (.tail _ (.head _))))))) (by rw [← e]; exact .tail _ (.head _))
      rcases List.mem_cons.mp hp with rfl | hp
      · exact fun e => hno2 167 (List.mem_append_left _ (.tail _ (.tail _ (.tail _ (.tail _ (.tail _ (.head _))))))) (by rw [← e]; exact .tail _ (.tail _ (.head _)))
      rcases hR9 p hp with h1 | h1
      · exact nomatch h1
      · intro e
        rw [e] at h1
        exact nomatch h1.symm.trans h167
    simpa using this)
  have hmX : ∀ p ∈ R ++ X, p ∈ R ++ (x, { cls := .type "tuple", data := .seq #[.ref (pg (http D 8 (Str.ofString "start") i M0).1), .ref aP] }) :: (X ++ Wk.nu ⟨D, pg, fn, xR, xB, f, pages, aT, aC, aP⟩ ot9 oc9 op9 R9) := fun p hp => by
    rcases List.mem_append.mp hp with hp | hp
    · exact List.mem_append_left _ hp
    · exact List.mem_append_right _ (.tail _ (List.mem_append_left _ hp))
  obtain ⟨kvs9, hk9, hr9⟩ := hM9.prof
  refine hret x aP _ ps' _ _ F20.keep (N20 _ (.tail _ (List.mem_append_left _ (.tail _ (.head _))))).1 (hps'.more hmX) b.1 b.2 (fun p hp => List.mem_append_left _ hp) fun g hg => ⟨⟨_, hg _ (List.mem_append_right _ (.head _)), rfl, _, rfl⟩, ⟨loP, kvs9, Heap.dictOf_iff.mpr ⟨op9, hg (aP, op9) (List.mem_append_right _ (.tail _ (List.mem_append_right _ (.tail _ (.tail _ (.head _)))))), hk9⟩, hr9.mono ?_⟩⟩
  intro v r hXG 
  refine absG ?_; intro PG hPG
  obtain ⟨a, c, oa, oc, kv, n, t1, t2, t3, t4, rfl, h1, h2, h3, h4, h5, h6, h7⟩ := hXG
  refine hPG ?_; clear hPG PG
  have up : ∀ {q : Addr × Obj}, q ∈ R9 → g.get? q.1 = some q.2 := fun hq => hg _ (List.mem_append_right _ (.tail _ (List.mem_append_right _ (.tail _ (.tail _ (.tail _ hq))))))
  exact ⟨a, c, kv, t1, t2, t3, t4, rfl, ⟨oa, up h1, h2, n, h3⟩, h5, Heap.dictOf_iff.mpr ⟨oc, up h4, h6⟩, h7⟩
end
section
noncomputable def menu : List Int := [404, 300, 199, 500, 302, 100, 299, 200]
theorem subMenu {prog : Program} {w : World} {A : Around} {E : Value → Shared → Prop} {s : Shared} {value slice : Expr} {t : Addr} {k : Int} {u a0 a1 a2 a3 a4 a5 a6 a7 : Tok} {Q : Value → Shared → Prop} (ht : IsTup s.heap t #[.int 404 a0, .int 300 a1, .int 199 a2, .int 500 a3, .int 302 a4, .int 100 a5, .int 299 a6, .int 200 a7])
    (h0 : 0 ≤ k) (h8 : k < 8) (h : ∀ c t', c ∈ menu → Q (.int c t') s)
    (hs : subscripted slice false (.ref t) (.int k u) = operate [.ref t, .int k u] (getItem (.ref t) (.int k u)) := by with_unfolding_all rfl) :
    wpAny (model prog w) A (subscriptTail value slice (.ref t) (.int k u)) Q E s := by
  have hj : ∃ c t', [Value.int 404 a0, .int 300 a1, .int 199 a2, .int 500 a3, .int 302 a4, .int 100 a5, .int 299 a6, .int 200 a7][k.toNat]? = some (.int c t') ∧ c ∈ menu := by
    have : k.toNat = 0 ∨ k.toNat = 1 ∨ k.toNat = 2 ∨ k.toNat = 3 ∨ k.toNat = 4 ∨ k.toNat = 5 ∨ k.toNat = 6 ∨ k.toNat = 7 := by omega
    rcases this with e | e | e | e | e | e | e | e <;> rw [e] <;> exact ⟨_, _, rfl, by decide⟩
  refine absG ?_; intro PG hPG
  obtain ⟨c, t', hc, hm⟩ := hj
  refine hPG ?_; clear hPG PG
  exact item_tupleT (l := [Value.int 404 a0, .int 300 a1, .int 199 a2, .int 500 a3, .int 302 a4, .int 100 a5, .int 299 a6, .int 200 a7]) ht (by omega) (by omega) (seqIndex_of h0 (by simpa using h8)) hc (h c t' hm) hs
theorem intsOf {P : Int → Prop} : ∀ {l : List Value}, (∀ v ∈ l, ∃ k t, v = Value.int k t ∧ P k) → ∃ zs, IntsAre l zs ∧ zs.length = l.length ∧ ∀ z ∈ zs, P z
  | [], _ => ⟨[], .nil, rfl, fun _ h => nomatch h⟩
  | v :: r, h => by
    refine absG ?_; intro PG hPG
    obtain ⟨k, t, rfl, hk⟩ := h v (.head _)
    refine hPG ?_; clear hPG PG
    refine absG ?_; intro PG hPG
    obtain ⟨zs, h1, h2, h3⟩ := intsOf (l := r) fun v hv => h v (.tail _ hv)
    refine hPG ?_; clear hPG PG
    refine ⟨k :: zs, .cons k t h1, by simp [h2], fun z hz => ?_⟩
    rcases List.mem_cons.mp hz with rfl | hz
    · exact hk
    · exact h3 z hz
theorem sum_bound {b : Int} : ∀ {zs : List Int}, (∀ z ∈ zs, 0 ≤ z ∧ z < b) → 0 ≤ zs.sum ∧ zs.sum ≤ zs.length * b
  | [], _ => by simp
  | z :: r, h => by
    have h1 := h z (.head _)
    have h2 := sum_bound (zs := r) fun v hv => h v (.tail _ hv)
    rw [List.sum_cons, List.length_cons]
    push_cast
    rw [Int.add_mul]
    omega
theorem law_drawn {prog : Program} {w : World} {A : Around} {s : Shared} {Q E : Value → Shared → Prop} {l : Addr} {vs : List Value} {ns : List Int} (T : TF w s.heap) (hA : Rm A 8 80)
  (hl : s.heap.IsList l vs.toArray) (hi : IntsAre vs ns) (hlen : vs.length ≤ 63)
  (hret : ∀ x R far code cost h' tk', s.heap.StaysIn h' → (∀ p ∈ R, h'.get? p.1 = some p.2 ∧ s.heap.get? p.1 = none) → Kept R (DrawnAt far code cost x) → (∀ i, i < 5 → far i < 5 ∧ code i ∈ menu ∧ 1 ≤ cost i ∧ cost i ≤ 50) → Q (.ref x) (St s h' tk')) :
  wpAny (model prog w) A (call (.ref 141) [.ref l]) Q E s := by
  refine wpAny_call (enter (d := 7) (u := 77) (binds := [(Str.ofString "script", .ref l)]) T hA (by k_is) rfl (by k_is) rfl (locs rfl) ?_)
  intro h₁ A' hA' F N
  repeat' walk1
  rename_i a0 h2 F2 N2 hn2 lo2 st2 h3 F3 N3 a1 h4 F4 N4 hn4 lo4 st4
  have h10 : a1 ≠ a0 := (fresh_ne N3 hn4 _ (.head _)).symm
  obtain ⟨so, hso⟩ : ∃ so, (a1, so) ∈ ([(a1, so), (a0, { cls := .type "list", data := .seq #[] })] : List (Addr × Obj)) ∧ News s.heap s.heap.objs.size h4 [(a1, so), (a0, { cls := .type "list", data := .seq #[] })] := ⟨_, .head _, N4⟩
  refine turnsEnum hA'.hd F4 (news := [(a0, listOf #[] 0), (a1, so)]) (fun p hp => hso.2 p (by simp only [List.mem_cons, List.not_mem_nil, or_false] at hp ⊢; exact hp.symm)) (listMem N4 (.head _)) (N4 _ (.head _)).2.1
    (fun i m nx => ∃ (its : Array Value) (n : Nat) (Rn : List (Addr × Obj)) (far : Nat → Nat) (code cost : Nat → Int) (t1 t2 t3 : Nat → Tok) (Ts : Nat → Addr), nx = (a0, listOf its n) :: (a1, so) :: Rn ∧ (∀ p ∈ Rn, p.1 ≠ a0) ∧ its.size = i ∧
      (∀ j, j < i → its[j]? = some (.ref (Ts j)) ∧ Kept Rn (fun g => g.IsTuple (Ts j) #[.int (far j : Int) (t1 j), .int (code j) (t2 j), .int (cost j) (t3 j)]) ∧ far j < 5 ∧ code j ∈ menu ∧ 1 ≤ cost j ∧ cost j ≤ 50) ∧
      m (Str.ofString "drawn") = some (.ref a0) ∧ m (Str.ofString "script") = some (.ref l))
    ⟨#[], 0, [], fun _ => 0, fun _ => 0, fun _ => 0, fun _ => 0, fun _ => 0, fun _ => 0, fun _ => 0, rfl, (fun _ h => nomatch h), rfl, (fun j hj => absurd hj (Nat.not_lt_zero _)), rfl, rfl⟩ ?_ ?_
  · intro i T3 t v m₁ news₁ h tk own hv hT hXG hown F6 N6
    refine absG ?_; intro PG hPG
    obtain ⟨its, n, Rn, far, code, cost, t1, t2, t3, Ts, rfl, hap, hsz, hj, k1, k2⟩ := hXG
    refine hPG ?_; clear hPG PG
    refine absA ?_
    intro TQ hTQ
    have hi5 : i < 5 := by have := (List.getElem?_eq_some_iff.mp hv).1; simpa using this
    refine absG ?_; intro PG hPG
    obtain ⟨seed, ts, rfl, hs0, hs1⟩ : ∃ seed ts, v = .int seed ts ∧ 0 ≤ seed ∧ seed ≤ 200 := by
      have : i = 0 ∨ i = 1 ∨ i = 2 ∨ i = 3 ∨ i = 4 := five (by omega)
      rcases this with rfl | rfl | rfl | rfl | rfl <;> (cases hv; exact ⟨_, _, rfl, by decide, by decide⟩)
    refine hPG ?_; clear hPG PG
    repeat' walk1
    rename Fr _ _ _ _ => F8
    rename News _ _ _ _ => N8
    have hmem : ∀ (k : Nat) v, (slicePick vs.toArray (some (i : Int)) (some 10) (some 5)).toList[k]? = some v → ∃ n t, v = .int n t := fun k v hk => by
      have h1 := List.mem_of_getElem? hk
      unfold slicePick at h1
      rw [List.toList_toArray, List.mem_filterMap] at h1
      obtain ⟨q, _, hq⟩ := h1
      refine absG ?_; intro PG hPG
      obtain ⟨n, t, e, _⟩ := hi.at q v (by simpa using hq)
      refine hPG ?_; clear hPG PG
      exact ⟨n, t, e⟩
    have hsl : (slicePick vs.toArray (some (i : Int)) (some 10) (some 5)).toList.length ≤ 63 := by
      have := slicePick_size_le vs.toArray (some (i : Int)) (some 10) (some 5)
      rw [Array.length_toList]
      simp at this
      omega
    refine comp_listT (vs := (slicePick vs.toArray (some (i : Int)) (some 10) (some 5)).toList) (G := fun _ y => ∃ k t, y = .int k t ∧ 0 ≤ k ∧ k < 1000000) hA'.hd (by rw [Array.toArray_toList]; exact listMem (n := 0) N8 (.head _)) (by rw [sizeLine]; omega) ?_ (fun _ _ X => kT F8 N8 X ?_)
    · intro C k v s₃ m₃ hk F9
      obtain ⟨nv, tv, rfl⟩ := hmem k v hk
      have T9 := T.keeps F8.keep
      dsimp only at F9
      repeat' walk1
      all_goals
        rw [show (10 : Int) ^ Int.toNat 6 = 1000000 from by decide, Int.fmod_eq_emod_of_nonneg _ (by decide)]
      · exact Int.emod_nonneg _ (by decide)
      · exact Int.emod_lt_of_pos _ (by decide)
    · intro D ys k h9 tk9 F9 N9 st9 hD hys hG
      refine absG ?_; intro PG hPG
      obtain ⟨zs, hz, hzl, hzb⟩ := intsOf (l := ys.toList) (P := fun k => 0 ≤ k ∧ k < 1000000) fun v hv => by
        obtain ⟨q, hq⟩ := List.mem_iff_getElem?.mp hv
        exact hG q v (by rwa [Array.getElem?_toList] at hq)
      refine hPG ?_; clear hPG PG
      have hzs := sum_bound hzb
      have hys' : ys.size ≤ 63 := by rw [hys]; simpa using hsl
      have hzl' : (zs.length : Int) ≤ 63 := by rw [hzl]; simp; omega
      repeat' walk1
      rename Fr _ _ _ _ => F10
      rename News _ _ _ _ => N10
      refine sumL F10 N10 hA'.hd (listMem (n := k) N10 (.head _)) hz ?_
      intro t11 h11 tk11 F11 N11 st11
      generalize hsum : zs.sum = S at hzs ⊢
      have hS0 : 0 ≤ S := hzs.1
      have hS1 : S ≤ 63000000 := by have := hzs.2; omega
      have N11b : News s.heap s.heap.objs.size h11 ((a0, listOf its n) :: (a1, so) :: (Rn ++ own)) := fun p hp => N11 p (.tail _ (.tail _ hp))
      clear hzs F10 N10 F8 N8 N11
      repeat' walk1
      rename Fr _ _ _ _ => F12
      rename News _ _ _ _ => N12
      have hfd : ∀ x b : Int, 0 < b → x.fmod b = x % b := fun x b hb => Int.fmod_eq_emod_of_nonneg _ (by omega)
      have hdd : ∀ x b : Int, 0 < b → x.fdiv b = x / b := fun x b hb => Int.fdiv_eq_ediv_of_nonneg _ (by omega)
      dsimp only [St] at N12 F12 ⊢
      generalize hTk : (tk11 + 1) = tkk at N12 ⊢
      have hk0 : 0 ≤ ((seed + S).fdiv 5).fmod 8 := by rw [hfd _ _ (by decide)]; exact Int.emod_nonneg _ (by decide)
      have hk8 : ((seed + S).fdiv 5).fmod 8 < 8 := by rw [hfd _ _ (by decide)]; exact Int.emod_lt_of_pos _ (by decide)
      generalize ((seed + S).fdiv 5).fmod 8 = kk at hk0 hk8 ⊢
      refine subMenu (tupMem (n := 0) N12 (.head _)) hk0 hk8 ?_
      intro c tc hcm
      repeat' ((fail_if_success (with_reducible show wpAny _ _ (getMethod _ _ _) _ _ _)); walk1)
      rename Fr _ _ _ _ => F13
      rename News _ _ _ _ => N13
      dsimp only [St] at F13 N13 ⊢
      have N13b : News s.heap s.heap.objs.size _ ((a0, listOf its n) :: (a1, so) :: (Rn ++ own)) := fun p hp => N13 p (.tail _ hp)
      clear F12 N12 F11 N11b N13
      refine gmAppend (its := its) (n := n) (N13b _ (.head _)).1 ?_
      repeat' ((fail_if_success (with_reducible show wpAny _ _ (call (.builtin "list.append") _) _ _ _)); (fail_if_success (with_reducible show wpAny _ _ (newTuple _) _ _ _)); walk1)
      walk1
      rename_i a5 h15 F15 N15 hn15 lo15 st15
      have hoff : ∀ p ∈ own, p.1 ≠ a0 := fun p hp e => by
        have h1 := hown p hp _ (.head _) e
        rw [e] at h1
        exact h10 h1.symm
      have hf5 := fresh_ne N13b hn15
      repeat' ((fail_if_success (with_reducible show wpAny _ _ (call (.builtin "list.append") _) _ _ _)); walk1)
      refine appendN (own := [(a5, _)]) (its := its) (n := n) F15 N15 (fun p hp => by rw [List.mem_singleton.mp hp]; exact (hf5 _ (.head _)).symm) (fun p hp => by
        rcases List.mem_cons.mp hp with rfl | hp
        · exact h10
        rcases List.mem_append.mp hp with hp | hp
        · exact hap p hp
        · exact hoff p hp) (by rw [hsz, sizeLine]; omega) ?_
      intro h16 F16 N16
      repeat' walk1
      have b5 : 0 ≤ (seed + S).fmod 5 ∧ (seed + S).fmod 5 < 5 := by rw [hfd _ _ (by decide)]; exact ⟨Int.emod_nonneg _ (by decide), Int.emod_lt_of_pos _ (by decide)⟩
      have b50 : 0 ≤ ((seed + S).fdiv 40).fmod 50 ∧ ((seed + S).fdiv 40).fmod 50 < 50 := by rw [hfd _ _ (by decide)]; exact ⟨Int.emod_nonneg _ (by decide), Int.emod_lt_of_pos _ (by decide)⟩
      obtain ⟨fN, hfN⟩ : ∃ f : Nat, (seed + S).fmod 5 = f := ⟨_, (Int.toNat_of_nonneg b5.1).symm⟩
      rw [hfN] at N16 b5
      have bc : 1 ≤ 1 + ((seed + S).fdiv 40).fmod 50 ∧ 1 + ((seed + S).fdiv 40).fmod 50 ≤ 50 := by omega
      generalize 1 + ((seed + S).fdiv 40).fmod 50 = cN at N16 bc
      obtain ⟨u1, u3, N17⟩ : ∃ u1 u3 : Tok, News s.heap s.heap.objs.size h16 ((a5, ({ cls := .type "tuple", data := .seq #[.int (fN : Int) u1, .int c tc, .int cN u3] } : Obj)) :: (a0, listOf (its.push (.ref a5)) (n + 1)) :: (a1, so) :: (Rn ++ own)) := ⟨_, _, N16⟩
      clear N16
      refine hTQ _ _ (turnEnd F16 N17 (nx := (a0, listOf (its.push (.ref a5)) (n + 1)) :: (a1, so) :: (a5, ({ cls := .type "tuple", data := .seq #[.int (fN : Int) u1, .int c tc, .int cN u3] } : Obj)) :: Rn) ?e1 ?e2 ?e3 ⟨its.push (.ref a5), n + 1, (a5, ({ cls := .type "tuple", data := .seq #[.int (fN : Int) u1, .int c tc, .int cN u3] } : Obj)) :: Rn, fun j => if j = i then fN else far j, fun j => if j = i then c else code j, fun j => if j = i then cN else cost j, fun j => if j = i then u1 else t1 j, fun j => if j = i then tc else t2 j, fun j => if j = i then u3 else t3 j, fun j => if j = i then a5 else Ts j, rfl, ?e4, ?e5, ?e6, k1, k2⟩)
      case e1 =>
        intro p hp
        simp only [List.mem_append, List.mem_cons, List.not_mem_nil, or_false] at hp ⊢
        rcases hp with h | h | h | h
        · exact .inr (.inl h)
        · exact .inr (.inr (.inl h))
        · exact .inl h
        · exact .inr (.inr (.inr (.inl h)))
      case e2 => exact fun p hp => .tail _ (.tail _ (.tail _ (List.mem_append_right _ hp)))
      case e3 =>
        intro p hp
        rcases List.mem_cons.mp hp with rfl | hp
        · exact .inl (.head _)
        rcases List.mem_cons.mp hp with rfl | hp
        · exact .inl (.tail _ (.head _))
        rcases List.mem_cons.mp hp with rfl | hp
        · exact .inr fun q hq e => hf5 q (.tail _ (.tail _ (List.mem_append_right _ hq))) e.symm
        · exact .inl (.tail _ (.tail _ (List.mem_map_of_mem hp)))
      case e4 =>
        intro p hp
        rcases List.mem_cons.mp hp with rfl | hp
        · exact (hf5 _ (.head _)).symm
        · exact hap p hp
      case e5 => rw [Array.size_push, hsz]
      case e6 =>
        intro j hji
        dsimp only
        by_cases e : j = i
        · subst e
          simp only [if_true]
          refine ⟨by rw [Array.getElem?_push, if_pos hsz.symm], fun g hg => ⟨_, hg _ (.head _), rfl, _, rfl⟩, by omega, hcm, bc.1, bc.2⟩
        · simp only [if_neg e]
          obtain ⟨q1, q2, q3⟩ := hj j (by omega)
          exact ⟨by rw [Array.getElem?_push, if_neg (by omega)]; exact q1, q2.more fun p hp => .tail _ hp, q3⟩
  · intro m₁ news₁ h tk hXG F6 N6
    refine absG ?_; intro PG hPG
    obtain ⟨its, n, Rn, far, code, cost, t1, t2, t3, Ts, rfl, hap, hsz, hj, k1, k2⟩ := hXG
    refine hPG ?_; clear hPG PG
    repeat' walk1
    rename Fr _ _ _ _ => F7
    rename News _ _ _ _ => N7
    have hsz5 : its.size = 5 := hsz
    refine hret a0 ((a0, listOf its n) :: Rn) far code cost _ _ F7.keep (fun p hp => ?_) ?_ fun j hj5 => (hj j (by simpa using hj5)).2.2
    · have hp' : p ∈ (a0, listOf its n) :: (a1, so) :: Rn := by
        rcases List.mem_cons.mp hp with h | h
        · rw [h]; exact .head _
        · exact .tail _ (.tail _ h)
      exact ⟨(N7 p hp').1, (N7 p hp').2.2⟩
    · intro g hg
      refine ⟨its.toList, ?_, by simpa using hsz5, t1, t2, t3, fun j v hv => ?_⟩
      · rw [Array.toArray_toList]
        exact ⟨_, hg _ (.head _), rfl, n, rfl⟩
      · have hj5 : j < 5 := by have := (List.getElem?_eq_some_iff.mp hv).1; simpa [hsz5] using this
        obtain ⟨q1, q2, _⟩ := hj j (by simpa using hj5)
        rw [Array.getElem?_toList, q1] at hv
        exact ⟨Ts j, (Option.some.inj hv).symm, q2 g fun p hp => hg p (.tail _ hp)⟩
end
section
theorem compare {prog : Program} {w : World} {A : Around} {s : Shared} {Q E : Value → Shared → Prop} {x dx tc td a b : Addr} {es : List DictEntry} {n : Nat} {u1 u2 tp tq : Tok} {ls rs : List Value} {p q : Int} (T : TF w s.heap) (hA : Rm A 5 50)
  (hI : Inst s.heap x 104 dx es n) (hes : getL "comp_select_list" es = some (some (.ref tc))) (htc : s.heap.IsTuple tc #[.ref td]) (htd : s.heap.IsTuple td #[.int 3 u1, .int (-1) u2])
  (hl : s.heap.IsTuple a ls.toArray) (hr : s.heap.IsTuple b rs.toArray) (hp : ls[3]? = some (.int p tp)) (hq : rs[3]? = some (.int q tq)) (hll : ls.length ≤ 10) (hrl : rs.length ≤ 10)
  (hret : ∀ t h' tk', s.heap.StaysIn h' → Q (.int (if p < q then 1 else if q < p then -1 else 0) t) (St s h' tk')) :
  wpAny (model prog w) A (call (.ref 101) [.ref x, .ref a, .ref b]) Q E s := by
  have st0 : s.heap.StaysIn (hideAll s.heap []) := fun b o e => hideAll_get _ e (fun h => nomatch h)
  refine wpAny_call (enterX (d := 4) (u := 47) (mus := []) (news := []) (binds := [(Str.ofString "self", .ref x), (Str.ofString "left", .ref a), (Str.ofString "right", .ref b)])
    (T.keeps st0) hA (T.k _ _ (by k_is)) rfl (codeRec_of T.k (by k_is)) rfl (locs rfl) (fun _ h => nomatch h) ?_)
  intro h₁ A' hA' F N st
  replace F := Fr.mk F.ns st (Nat.le_trans (Nat.le_of_eq (hideAll_size _ _).symm) F.above)
  have N : News s.heap s.heap.objs.size h₁ [] := fun _ h => nomatch h
  repeat' walk1
  rename Fr _ _ _ _ => F1
  rename News _ _ _ _ => N1
  obtain ⟨oc, hoc, _⟩ := id htc
  refine turnsTup (vs := [.ref td]) hA'.hd F1 N1 (tupKeep F1 htc) (old_ne_L F1 hoc).symm (fun i m nx => nx = [] ∧ (i = 0 → m (Str.ofString "left") = some (.ref a) ∧ m (Str.ofString "right") = some (.ref b)) ∧ (i = 1 → ¬ p < q ∧ ¬ q < p)) ⟨rfl, fun _ => ⟨rfl, rfl⟩, fun h => nomatch h⟩ ?_ ?_
  · rintro i v m₁ news₁ h tk own hv ⟨rfl, k1, k2⟩ hown F2 N2
    obtain rfl : i = 0 := by have := (List.getElem?_eq_some_iff.mp hv).1; simpa using this
    obtain rfl : Value.ref td = v := by simpa using hv
    obtain ⟨k3, k4⟩ := k1 rfl
    repeat' walk1
    have hl3 : (3 : Int) < ls.length := by have := (List.getElem?_eq_some_iff.mp hp).1; omega
    have hr3 : (3 : Int) < rs.length := by have := (List.getElem?_eq_some_iff.mp hq).1; omega
    refine item_tupleT (l := ls) (j := 3) (tupKeep (by assumption) hl) (by decide) (by decide) (seqIndex_of (by decide) hl3) hp ?_
    repeat' walk1
    refine item_tupleT (l := rs) (j := 3) (tupKeep (by assumption) hr) (by decide) (by decide) (seqIndex_of (by decide) hr3) hq ?_
    repeat' walk1
    · rw [if_pos (by assumption)] at hret
      exact hret _ _ _ (Fr.keep (by assumption))
    · rw [if_neg (by omega), if_pos (by omega)] at hret
      exact hret _ _ _ (Fr.keep (by assumption))
    · rename Fr _ _ _ _ => Fz
      rename News _ _ _ _ => Nz
      exact turnEnd (nx := []) Fz Nz (fun _ h => nomatch h) (fun p hp => hp) (fun _ h => nomatch h) ⟨rfl, (fun h => nomatch h), fun _ => by omega⟩
  · rintro m₁ news₁ h tk ⟨rfl, k1, k2⟩ F2 N2
    repeat' walk1
    have := k2 rfl
    rw [if_neg this.1, if_neg this.2] at hret
    exact hret _ _ _ (Fr.keep (by assumption))
end
section
theorem tc_init {prog : Program} {w : World} {A : Around} {s : Shared} {R : Result → Shared → Prop} {x dx t : Addr} (T : TF w (hideAll s.heap [dx])) (hA : Rm A 3 20)
  (hx : (hideAll s.heap [dx]).get? x = some (instObj 104 dx)) (hd : s.heap.get? dx = some (dictOf [] 0))
  (hret : ∀ h' u tk', (hideAll s.heap [dx]).StaysIn h' → h'.get? dx = some (dictOf (putL (Str.ofString "comp_select_list") (PyData.keyHash w.params (Str.ofString "comp_select_list")) (.str (Str.ofString "comp_select_list") u) (.ref t) []) (putN (Str.ofString "comp_select_list") [] 0)) → R (.ok (.ret .none)) (St s h' tk')) :
  codeAny (model prog w) A (.call (.ref 94) ⟨[.ref x, .ref t], []⟩) R s := by
  refine enterX (d := 2) (u := 17) (mus := [dx]) (news := [(dx, dictOf [] 0)]) (binds := [(Str.ofString "self", .ref x), (Str.ofString "comp_select_list", .ref t)])
    T hA (of_hid _ _ (T.k _ _ (by k_is))) rfl ((codeRec_of T.k (by k_is)).keeps of_hid) rfl (locs rfl) (fun p hp => by rw [List.mem_singleton.mp hp]; exact ⟨.head _, hd⟩) ?_
  intro h₁ A' hA' F N st
  repeat' walk1
  rename Fr _ _ _ _ => F1
  rename News _ _ _ _ => N1
  refine setA (own := []) F1 T N1 (C := 104) (F1.keep _ _ hx) (fun _ h => nomatch h) (fun _ h => nomatch h) (by k_is) (by k_is) (by k_is) (by k_is) (by rfl) ?_ (by show (1 : Nat) ≤ 1000; decide)
  intro h2 t2 F2 N2
  repeat' walk1
  rename Fr _ _ _ _ => F3
  rename News _ _ _ _ => N3
  exact hret _ _ _ F3.keep (N3 _ (.head _)).1
end
section
theorem law_by_time {prog : Program} {w : World} {A : Around} {s : Shared} {Q E : Value → Shared → Prop} {pr : Addr} {P : List (Str × Row)} (T : TF w s.heap) (hA : Rm A 9 90) (hP : ProfAt prog w P pr s.heap) (hPl : P.length ≤ 10)
  (hret : ∀ x R h' tk', s.heap.StaysIn h' → (∀ p ∈ R, h'.get? p.1 = some p.2 ∧ s.heap.get? p.1 = none) → Kept R (StrsAt (byTime P) x) → Q (.ref x) (St s h' tk')) :
  wpAny (model prog w) A (call (.ref 182) [.ref pr]) Q E s := by
  obtain ⟨kvs, hk, hrel⟩ := hP.x
  have lo := hP.lo
  refine wpAny_call (enter (d := 8) (u := 87) (binds := [(Str.ofString "profile", .ref pr)]) T hA (by k_is) rfl (by k_is) rfl (locs rfl) ?_)
  intro h₁ A' hA' F N
  repeat' walk1
  rename_i td h2 F2 N2 hn2 lo2 st2 tc h3 F3 N3 hn3 lo3 st3
  have hdc : td ≠ tc := fresh_ne N2 hn3 _ (.head _)
  refine call_cls (C := 104) (fI := 94) F3 T.k N3 (by k_is) (by k_is) (by k_is) ?_
  intro x dx h4 F4 N4 lt4 lt4'
  have hm4 : ∀ b ∈ [dx], s.heap.get? b = none := fun b hb => by rw [List.mem_singleton.mp hb]; exact (N4 _ (.tail _ (.head _))).2.2
  have hL4 : s.heap.objs.size ∉ [dx] := fun hm => (N4 _ (.tail _ (.head _))).2.1 (List.mem_singleton.mp hm).symm
  refine tc_init (dx := dx) (T.keeps (hidOf F4 hm4)) ((hA'.le (by decide) (by decide) : Rm A' 4 25).tcall _ _ _) (hideAll_get _ (N4 _ (.head _)).1 (by simpa using Nat.ne_of_gt lt4')) (N4 _ (.tail _ (.head _))).1 ?_
  intro h5 u5 tk5 st5 hd5
  refine ⟨rfl, ?_⟩
  have F5 := backF F4 hL4 hm4 st5
  have N5 := backSet (own := [(x, _)]) (rest := [(tc, _), (td, _)]) N4 (by
    simp only [List.map_append, List.map_cons, List.map_nil, List.cons_append, List.nil_append, List.nodup_cons, List.mem_cons, List.not_mem_nil, or_false, not_or, List.nodup_nil, and_true, not_false_eq_true]
    exact ⟨⟨Nat.ne_of_gt lt4', Nat.ne_of_gt (Nat.lt_trans (lt4 _ (.head _)) lt4'), Nat.ne_of_gt (Nat.lt_trans (lt4 _ (.tail _ (.head _))) lt4')⟩, ⟨Nat.ne_of_gt (lt4 _ (.head _)), Nat.ne_of_gt (lt4 _ (.tail _ (.head _)))⟩, fun e => hdc e.symm⟩) st5 hd5
  clear F4 N4 F3 N3 F2 N2
  repeat' walk1
  rename_i hS FS NS aL h6 F6 N6 hn6 lo6 st6 h7 F7 N7 v7 h8 F8 N8 hV8
  have haL := fresh_ne NS hn6
  refine absG ?_; intro PG hPG
  obtain ⟨Z, es, nn, w1, w2, N9, hes, hes2, hZ, hZa⟩ : ∃ (Z : List (Addr × Obj)) (es : List DictEntry) (nn : Nat) (w1 w2 : Tok), News s.heap s.heap.objs.size h8 ((aL, listOf #[] 0) :: Z) ∧ getL "comp_select_list" es = some (some (.ref tc)) ∧ getL "compare" es = some none ∧
      Kept Z (fun g => Inst g x 104 dx es nn ∧ g.IsTuple tc #[.ref td] ∧ g.IsTuple td #[.int 3 w1, .int (-1) w2]) ∧ ∀ p ∈ Z, p.1 ≠ aL :=
    ⟨[_, _, _, _], _, _, _, _, N8, rfl, rfl, fun g hg => ⟨⟨hg _ (.head _), hg _ (.tail _ (.head _))⟩, ⟨_, hg _ (.tail _ (.tail _ (.head _))), rfl, _, rfl⟩, ⟨_, hg _ (.tail _ (.tail _ (.tail _ (.head _)))), rfl, _, rfl⟩⟩, haL⟩
  refine hPG ?_; clear hPG PG
  clear NS FS F6 N6 F7 N7 N8 N5 F5 haL
  refine turnsItems (knd := strKind _ _) hA'.hd F8 N9 hV8 hk
    (fun i m nx => ∃ (its : Array Value) (n : Nat) (Rn : List (Addr × Obj)), nx = (aL, listOf its n) :: (Z ++ Rn) ∧ (∀ p ∈ Rn, p.1 ≠ aL) ∧ LineIs Rn its.toList ((P.take i).foldl insRow []) ∧ ((P.take i).foldl insRow []).length = i ∧
      m (Str.ofString "line") = some (.ref aL) ∧ m (Str.ofString "downwards") = some (.ref x)) ?_ ?_ ?_
  · exact ⟨#[], 0, [], by rw [List.append_nil], (fun _ h => nomatch h), ⟨rfl, fun j r h => by simp at h⟩, rfl, rfl, rfl⟩
  · intro i T3 k key v m₁ news₁ h tk own hkv hkey hT hXG hown F10 N10
    refine absG ?_; intro PG hPG
    obtain ⟨its, n, Rn, rfl, hap, hline, hlen, k1, k2⟩ := hXG
    refine hPG ?_; clear hPG PG
    refine absA ?_
    intro TQ hTQ
    obtain ⟨tk', rfl⟩ := Value.isStrOf_shape hkey
    refine absG ?_; intro PG hPG
    obtain ⟨row, hrow, ra, rc, kvr, u1, u2, u3, u4, rfl, hra, hlo, hkd, hcnt⟩ := hrel.at i k v hkv
    refine hPG ?_; clear hPG PG
    repeat' walk1
    rename_i aN h11 F11 N11 hn11 lo11 st11
    refine add_tuples (vs := [.int row.1 u1, .int row.2.1 u2, .int row.2.2.1 u3, .int row.2.2.2.1 u4, .ref rc]) (ws := [.str k tk']) F11 N11 (tupKeep F11 hra) (tupMem N11 (.head _)) (fun h => nomatch h) (fun _ h => nomatch h) (fun _ _ h12 F12 N12 => ?_) (by show (6 : Nat) ≤ sizeLine; decide)
    have hn12 : h11.get? h11.objs.size = none := Heap.get?_none_of_le (Nat.le_refl _)
    have hfr := fresh_ne N11 hn12
    clear hn12
    dsimp only at N12 ⊢
    generalize h11.objs.size = aR at N12 hfr ⊢
    clear F10 N10
    obtain ⟨oR, hoR, N13⟩ : ∃ oR : Obj, Kept [(aR, oR)] (fun g => g.IsTuple aR (List.toArray [.int row.1 u1, .int row.2.1 u2, .int row.2.2.1 u3, .int row.2.2.2.1 u4, .ref rc, .str k tk'])) ∧ News s.heap s.heap.objs.size h12 ((aL, listOf its n) :: (aR, oR) :: (Z ++ (Rn ++ own))) :=
      ⟨_, fun g hg => ⟨_, hg _ (.head _), rfl, _, rfl⟩, fun p hp => by
        rcases List.mem_cons.mp hp with rfl | hp
        · exact N12 _ (.tail _ (.tail _ (.head _)))
        rcases List.mem_cons.mp hp with rfl | hp
        · exact N12 _ (.head _)
        · refine N12 _ (.tail _ (.tail _ (.tail _ ?_)))
          show p ∈ (Z ++ Rn) ++ own
          rw [List.append_assoc]; exact hp⟩
    have hfrL : aR ≠ aL := (hfr _ (.tail _ (.head _))).symm
    have hfrO : ∀ p ∈ own, p.1 ≠ aR := fun p hp => hfr p (.tail _ (List.mem_append_right _ hp))
    clear N12 hfr F11 N11
    have hsz : its.size = i := by have := hline.len; rw [hlen] at this; simpa using this
    have hi10 : i < 10 := by have := (List.getElem?_eq_some_iff.mp hrow).1; omega
    repeat' ((fail_if_success (with_reducible show wpAny _ _ (exec (.While _ _ _ _) _) _ _ _)); walk1)
    rename Fr _ _ _ _ => F15
    rename News _ _ _ _ => N15
    refine wpAny_mono (?w : wpAny _ _ _ (fun f s' => Opq (f = Flow.next ∧ ∃ (h' : Heap) (tk' : Nat) (m' : Str → Option Value) (t : Tok) (q : Nat), s' = St s h' tk' ∧ Fr s.heap s.heap.objs.size h' m' ∧ News s.heap s.heap.objs.size h' ((aL, listOf its n) :: (aR, oR) :: (Z ++ (Rn ++ own))) ∧ q ≤ i ∧ m' (Str.ofString "place") = some (.int q t) ∧ m' (Str.ofString "row") = some (.ref aR) ∧ m' (Str.ofString "line") = some (.ref aL) ∧ m' (Str.ofString "downwards") = some (.ref x) ∧
      insAt ((P.take i).foldl insRow []) row.2.2.2.1 i = q)) (fun _ _ => False) _) ?_ (fun _ _ x => x.elim)
    case w =>
      refine While_inv (n₀ := i) (fun q m nx => ∃ t, q ≤ i ∧ nx = (aL, listOf its n) :: (aR, oR) :: (Z ++ (Rn ++ own)) ∧ m (Str.ofString "place") = some (.int q t) ∧ m (Str.ofString "row") = some (.ref aR) ∧ m (Str.ofString "line") = some (.ref aL) ∧ m (Str.ofString "downwards") = some (.ref x) ∧
        insAt ((P.take i).foldl insRow []) row.2.2.2.1 i = insAt ((P.take i).foldl insRow []) row.2.2.2.1 q) F15 N15 ⟨_, Nat.le_refl _, rfl, by rw [← hsz]; rfl, rfl, k1, k2, rfl⟩ ?_ (by passes_own)
      intro q m₂ news₂ h16 tk16 F16 N16 hXG 
      refine absG ?_; intro PG hPG
      obtain ⟨tq, hq, rfl, k3, k4, k5, k6, k7⟩ := hXG
      refine hPG ?_; clear hPG PG
      have hIn := hZ.here N16 (fun p hp => .tail _ (.tail _ (List.mem_append_left _ hp)))
      obtain ⟨hIn1, hIn2, hIn3⟩ := hIn
      repeat' walk1
      · obtain ⟨q', rfl⟩ : ∃ q', q = q' + 1 := ⟨q - 1, by omega⟩
        obtain ⟨r, hr⟩ : ∃ r, ((P.take i).foldl insRow [])[q']? = some r := ⟨_, List.getElem?_eq_getElem (by rw [hlen]; omega)⟩
        refine absG ?_; intro PG hPG
        obtain ⟨Tq, vq, tq1, tq2, hTq, hKq, hvl, hv3, hv5⟩ := hline.at' q' r hr
        refine hPG ?_; clear hPG PG
        refine subL (vs := its.toList) (v := .ref Tq) (by rw [Array.toArray_toList]; exact listMem (n := n) N16 (.head _)) (by omega) (by omega) (by rw [show (((q' + 1 : Nat) : Int) - 1).toNat = q' from by omega]; exact hTq) ?_
        repeat' walk1
        refine compare (T.keeps F16.keep) (hA'.le (by omega) (by omega)) hIn1 hes hIn2 hIn3 (hoR.here N16 (fun p hp => by rw [List.mem_singleton.mp hp]; exact .tail _ (.head _))) (hKq.here N16 (fun p hp => .tail _ (.tail _ (List.mem_append_right _ (List.mem_append_left _ hp))))) rfl hv3 (by show (6 : Nat) ≤ 10; decide) (by omega) ?_
        intro tc1 h17 tk17 st17
        have F17 := frStays F16 st17
        have N17 := newsStays N16 st17
        clear F16 N16
        by_cases c1 : row.2.2.2.1 < r.2.2.2.2.1
        · rw [if_pos c1]
          repeat' walk1
          rename Fr _ _ _ _ => Fz
          rename News _ _ _ _ => Nz
          exact ⟨⟨by first | trivial | rfl, _, _, _, _, q' + 1, rfl, Fz, Nz, hq, k3, k4, k5, k6, k7.trans (insAt_stop hr (by omega))⟩⟩
        by_cases c2 : r.2.2.2.2.1 < row.2.2.2.1
        · rw [if_neg c1, if_pos c2]
          repeat' walk1
          rename Fr _ _ _ _ => Fz
          rename News _ _ _ _ => Nz
          exact WhileStep.intro Fz Nz (n' := q') (Nat.lt_succ_self _) ⟨_, by omega, rfl, congrArg (fun z => some (Value.int z _)) (by omega : (((q' + 1 : Nat) : Int) - 1) = (q' : Int)), k4, k5, k6, k7.trans (insAt_go hr c2)⟩
        · rw [if_neg c1, if_neg c2]
          repeat' walk1
          rename Fr _ _ _ _ => Fz
          rename News _ _ _ _ => Nz
          exact ⟨⟨by first | trivial | rfl, _, _, _, _, q' + 1, rfl, Fz, Nz, hq, k3, k4, k5, k6, k7.trans (insAt_stop hr c2)⟩⟩
      · obtain rfl : q = 0 := by omega
        rename Fr _ _ _ _ => Fz
        rename News _ _ _ _ => Nz
        exact ⟨⟨by first | trivial | rfl, _, _, _, _, 0, rfl, Fz, Nz, hq, k3, k4, k5, k6, k7⟩⟩
    · intro f s' hXG 
      refine absG ?_; intro PG hPG
      obtain ⟨⟨rfl, h18, tk18, m18, t18, q, rfl, F18, N18, hq, k3, k4, k5, k6, k7⟩⟩ := hXG
      refine hPG ?_; clear hPG PG
      dsimp only
      repeat' walk1
      refine gmInsert (its := its) (n := n) (N18 _ (.head _)).1 ?_
      repeat' ((fail_if_success (with_reducible show wpAny _ _ (call (.builtin "list.insert") _) _ _ _)); walk1)
      have hrest : ∀ p ∈ (aR, oR) :: (Z ++ (Rn ++ own)), p.1 ≠ aL := fun p hp => by
        rcases List.mem_cons.mp hp with rfl | hp
        · exact hfrL
        rcases List.mem_append.mp hp with hp | hp
        · exact hZa p hp
        rcases List.mem_append.mp hp with hp | hp
        · exact hap p hp
        · exact fun e => hown p hp _ (.head _) e
      have hql : q ≤ its.toList.length := by rw [hline.len, hlen]; exact hq
      refine kl_insert (its := its) (n := n) (by assumption) (by assumption) (by simp [Builtin.List.listFitsIndex]; omega) (kl_ins_at its.toList q (.ref aR) hql) (.head hrest) (by rw [hline.len, hlen, sizeLine]; omega) ?_
      intro h19 F19 N19
      repeat' walk1
      have hnext : (P.take (i + 1)).foldl insRow [] = insRow ((P.take i).foldl insRow []) (k, row) := by rw [List.take_add_one, hrow]; simp
      have hL : LineIs ((aR, oR) :: Rn) (its.toList.take q ++ .ref aR :: its.toList.drop q) ((P.take (i + 1)).foldl insRow []) := by
        rw [hnext]
        show LineIs _ _ (List.take (insAt _ row.2.2.2.1 _) _ ++ (k, row) :: List.drop (insAt _ row.2.2.2.1 _) _)
        rw [hlen, k7]
        exact (hline.more fun p hp => .tail _ hp).ins q (by rw [hlen]; exact hq) (hoR.more fun p hp => by rw [List.mem_singleton.mp hp]; exact .head _) rfl rfl rfl
      refine hTQ _ _ (turnEnd F19 N19 (nx := (aL, listOf (its.toList.take q ++ .ref aR :: its.toList.drop q).toArray (n + 1)) :: (Z ++ (aR, oR) :: Rn)) ?e1 ?e2 ?e3 ⟨_, n + 1, (aR, oR) :: Rn, rfl, ?e4, by rw [List.toList_toArray]; exact hL, ?e5, k5, k6⟩)
      case e1 =>
        intro p hp
        rcases List.mem_cons.mp hp with rfl | hp
        · exact .head _
        rcases List.mem_append.mp hp with hp | hp
        · exact .tail _ (.tail _ (List.mem_append_left _ hp))
        rcases List.mem_cons.mp hp with rfl | hp
        · exact .tail _ (.head _)
        · exact .tail _ (.tail _ (List.mem_append_right _ (List.mem_append_left _ hp)))
      case e2 => exact fun p hp => .tail _ (.tail _ (List.mem_append_right _ (List.mem_append_right _ hp)))
      case e3 =>
        intro p hp
        rcases List.mem_cons.mp hp with rfl | hp
        · exact .inl (.head _)
        rcases List.mem_append.mp hp with hp | hp
        · exact .inl (.tail _ (by rw [List.map_append]; exact List.mem_append_left _ (List.mem_map_of_mem hp)))
        rcases List.mem_cons.mp hp with rfl | hp
        · exact .inr fun q hq e => hfrO q hq e.symm
        · exact .inl (.tail _ (by rw [List.map_append]; exact List.mem_append_right _ (List.mem_map_of_mem hp)))
      case e4 =>
        intro p hp
        rcases List.mem_cons.mp hp with rfl | hp
        · exact hfrL
        · exact hap p hp
      case e5 =>
        rw [← hL.len]
        have h1 := hline.len
        rw [hlen] at h1
        simp only [List.length_append, List.length_cons, List.length_take, List.length_drop]
        omega
  · intro m₁ news₁ h tk hXG F10 N10
    refine absG ?_; intro PG hPG
    obtain ⟨its, n, Rn, rfl, hap, hline, hlen, k1, k2⟩ := hXG
    refine hPG ?_; clear hPG PG
    have hkl : kvs.length = P.length := hrel.len
    rw [List.take_of_length_le (Nat.le_of_eq hkl.symm)] at hline hlen
    repeat' walk1
    rename Fr _ _ _ _ => F11
    rename News _ _ _ _ => N11
    refine comp_listT (vs := its.toList) (G := fun j y => ∃ r t, (P.foldl insRow [])[j]? = some r ∧ y = .str r.1 t) hA'.hd (by rw [Array.toArray_toList]; exact listMem (n := n) N11 (.head _)) (by rw [hline.len, hlen, hkl, sizeLine]; omega) ?_ (fun _ _ X => kT F11 N11 X ?_)
    · intro C j v s₃ m₃ hj F12
      obtain ⟨r, hr⟩ : ∃ r, (P.foldl insRow [])[j]? = some r := ⟨_, List.getElem?_eq_getElem (by rw [← hline.len]; exact (List.getElem?_eq_some_iff.mp hj).1)⟩
      refine absG ?_; intro PG hPG
      obtain ⟨T5, vs5, u5', t5, q1, q2, q3, q4, q5⟩ := hline.at' j r hr
      refine hPG ?_; clear hPG PG
      obtain rfl : Value.ref T5 = v := Option.some.inj (q1.symm.trans hj)
      have hT5 := q2.here N11 (fun p hp => .tail _ (List.mem_append_right _ hp))
      dsimp only at F12
      repeat' walk1
      refine item_tupleT (l := vs5) (j := 5) (tupKeep F12 hT5) (by decide) (by decide) (seqIndex_of (by decide) (by omega)) q5 ?_
      exact ⟨⟨r, t5, hr, rfl⟩, ⟨_, _, rfl, stays_refl _⟩⟩
    · intro D ys kk h13 tk13 F13 N13 st13 hD hys hG
      refine hret D [(D, listOf ys kk)] _ _ F13.keep (fun p hp => by rw [List.mem_singleton.mp hp]; exact ⟨(N13 _ (.head _)).1, (N13 _ (.head _)).2.2⟩) fun g hg => ⟨ys.toList, by rw [Array.toArray_toList]; exact ⟨_, hg _ (.head _), rfl, kk, rfl⟩, ?_⟩
      refine strsOf (by rw [Array.length_toList, hys, byTime, List.length_map, ← hline.len]; simp) fun j v hv => ?_
      rw [Array.getElem?_toList] at hv
      refine absG ?_; intro PG hPG
      obtain ⟨r, t, hr, rfl⟩ := hG j v hv
      refine hPG ?_; clear hPG PG
      exact ⟨r.1, t, by rw [byTime, List.getElem?_map, hr]; rfl, rfl⟩
end
section
theorem meant_rows {prog : Program} {w : World} {A' : Around} {s s0 : Shared} {Q : Flow → Shared → Prop} {l ln aw aD ar : Addr} {far : Nat → Nat} {code cost : Nat → Int} {start place ring size last : Nat} {way : List Nat} {its ys : Array Value} {nn kk : Nat} {oS oR oN oD : Obj} {m : Str → Option Value} {tS tR tl tf : Tok} {left0 : Int}
  (T : TF w s.heap) (hA' : Rm A' 5 57) (hd : DrawnAt far code cost l s.heap) (hn : NamesAt (nmOf code) ln s.heap) (hcost : ∀ i, i < 5 → 1 ≤ cost i ∧ cost i ≤ 50) (hway : WayOf far code start way place) (hits : IntsAre its.toList (wInts way))
  (htz : IntsAre ys.toList ((List.range way.length).map (turnAt ring size)))
  (hri : ring ≤ way.length) (hz1 : 1 ≤ size) (hz5 : size ≤ 5) (hl5 : last < 5)
  (dS : oS.data = .cell (some (.int (size : Nat) tS))) (dR : oR.data = .cell (some (.int (ring : Nat) tR))) (dN : oN.data = .cell (some (.ref ln))) (dD : oD.data = .cell (some (.ref l)))
  (F : Fr s.heap s.heap.objs.size s0.heap m) (N : News s.heap s.heap.objs.size s0.heap [(ar, listOf #[] 0), (aD, listOf ys kk), (aw, listOf its nn), (s.heap.objs.size + 4, oS), (s.heap.objs.size + 3, oR), (s.heap.objs.size + 2, oN), (s.heap.objs.size + 1, oD)])
  (hra : ∀ p ∈ [(aD, listOf ys kk), (aw, listOf its nn), (s.heap.objs.size + 4, oS), (s.heap.objs.size + 3, oR), (s.heap.objs.size + 2, oN), (s.heap.objs.size + 1, oD)], p.1 ≠ ar)
  (k1 : m (Str.ofString "way") = some (.ref aw)) (k2 : m (Str.ofString "last") = some (.int (last : Nat) tl)) (k3 : m (Str.ofString "turns") = some (.ref aD)) (k4 : m (Str.ofString "rows") = some (.ref ar)) (k5 : m (Str.ofString "left") = some (.int left0 tf))
  (hret : ∀ x lw lr R h' tk', s.heap.StaysIn h' → (∀ p ∈ R, h'.get? p.1 = some p.2 ∧ s.heap.get? p.1 = none) → Kept R (MeantAt prog w (nmOf code) cost way ring size last left0 x lw lr) → Q (.ret (.ref x)) (St s0 h' tk')) :
  wpAny (model prog w) A' (execs mtR (envOfC (Str.ofString "_law_meant") mtS s.heap.objs.size 177 (.ref 176))) Q (fun _ _ => False) s0 := by
  have eT : mtR = [_, _] := rfl
  rw [eT]
  have hsz : its.size = way.length := by have := hits.length; simpa [wInts] using this
  have hw5 := hway.len
  repeat' walk1
  have hL := (N (aw, listOf its nn) (.tail _ (.tail _ (.head _)))).2.1
  refine turnsEnum (vs := its.toList) hA'.hd F N (by rw [Array.toArray_toList]; exact listMem (n := nn) N (.tail _ (.tail _ (.head _)))) hL
    (fun i m nx => ∃ (rits : Array Value) (rn : Nat) (Rn : List (Addr × Obj)) (tf : Tok), nx = (ar, listOf rits rn) :: (aD, listOf ys kk) :: (aw, listOf its nn) :: (s.heap.objs.size + 4, oS) :: (s.heap.objs.size + 3, oR) :: (s.heap.objs.size + 2, oN) :: (s.heap.objs.size + 1, oD) :: Rn ∧ (∀ p ∈ Rn, p.1 ≠ ar) ∧ rits.size = i ∧
      (∀ j, j < i → ∃ v, rits[j]? = some v ∧ Kept Rn (fun g => RowAt prog w g v (rowM (nmOf code) cost way ring size left0 j))) ∧
      m (Str.ofString "way") = some (.ref aw) ∧ m (Str.ofString "last") = some (.int (last : Nat) tl) ∧ m (Str.ofString "turns") = some (.ref aD) ∧ m (Str.ofString "rows") = some (.ref ar) ∧ m (Str.ofString "left") = some (.int (leftAt cost way left0 i) tf)) ?_ ?_ ?_
  · exact ⟨#[], 0, [], tf, rfl, (fun _ h => nomatch h), rfl, (fun j hj => absurd hj (Nat.not_lt_zero _)), k1, k2, k3, k4, by rw [k5]; simp [leftAt]⟩
  · intro i T3 t v m₁ news₁ h tk own hv hT hXG hown F6 N6
    refine absG ?_; intro PG hPG
    obtain ⟨rits, rn, Rn, tf, rfl, hap, hrs, hrj, k1, k2, k3, k4, k5⟩ := hXG
    refine hPG ?_; clear hPG PG
    refine absA ?_
    intro TQ hTQ
    have hiw : i < way.length := by have := (List.getElem?_eq_some_iff.mp hv).1; rw [Array.length_toList, hsz] at this; exact this
    refine absG ?_; intro PG hPG
    obtain ⟨zy, ty, rfl, hzy⟩ := hits.at i v hv
    refine hPG ?_; clear hPG PG
    obtain ⟨a, ha⟩ : ∃ a, way[i]? = some a := ⟨_, List.getElem?_eq_getElem hiw⟩
    rw [wInts, List.getElem?_map, ha] at hzy
    obtain rfl : (a : Int) = zy := Option.some.inj hzy
    have ha5 : a < 5 := hway.lt a (List.mem_of_getElem? ha)
    have hgd : way.getD i 0 = a := by rw [List.getD_eq_getElem?_getD, ha]; rfl
    repeat' walk1
    rename Fr _ _ _ _ => F7
    refine subDrawn (hd.keeps F7.keep) ha5 ?_
    intro T6 t61 t62 t63 hT6
    repeat' walk1
    refine item_tupleT (l := [.int (far a : Int) t61, .int (code a) t62, .int (cost a) t63]) (j := 2) hT6 (by decide) (by decide) rfl rfl ?_
    repeat' ((fail_if_success (with_reducible show wpAny _ _ (exec (.Assign [.Name (Str.ofString "caller") _] _ _) _) _ _ _)); walk1)
    rename Fr _ _ _ _ => F8
    rename News _ _ _ _ => N8
    obtain ⟨cn, hcn⟩ : ∃ x, (if i = 0 then Str.ofString "start" else nmOf code (way.getD (i - 1) 0)) = x := ⟨_, rfl⟩
    obtain ⟨m8, hm8⟩ : ∃ m8 : Str → Option Value, (fun y => if y = Str.ofString "cost" then some (Value.int (cost a) t63) else if y = Str.ofString "here" then some (Value.int (a : Int) ty) else if y = Str.ofString "spot" then some (Value.int (i : Int) t) else m₁ y) = m8 := ⟨_, rfl⟩
    replace F8 : Fr s.heap s.heap.objs.size _ m8 := hm8 ▸ F8
    have q1 : m8 (Str.ofString "cost") = some (.int (cost a) t63) := by rw [← hm8]; rfl
    have q2 : m8 (Str.ofString "here") = some (.int (a : Int) ty) := by rw [← hm8]; rfl
    have q3 : m8 (Str.ofString "spot") = some (.int (i : Int) t) := by rw [← hm8]; rfl
    have q4 : m8 (Str.ofString "way") = some (.ref aw) := by rw [← hm8]; exact k1
    have q5 : m8 (Str.ofString "last") = some (.int (last : Nat) tl) := by rw [← hm8]; exact k2
    have q6 : m8 (Str.ofString "turns") = some (.ref aD) := by rw [← hm8]; exact k3
    have q7 : m8 (Str.ofString "rows") = some (.ref ar) := by rw [← hm8]; exact k4
    have q8 : m8 (Str.ofString "left") = some (.int (leftAt cost way left0 i) tf) := by rw [← hm8]; exact k5
    clear hm8 F7 F6 N6 k1 k2 k3 k4 k5
    refine wpAny_mono (?w1 : wpAny _ _ _ (fun f s' => Opq (f = Flow.next ∧ ∃ (h' : Heap) (tk' : Nat) (tc : Tok), s' = St s0 h' tk' ∧ Fr s.heap s.heap.objs.size h' (fun y => if y = Str.ofString "caller" then some (.str cn tc) else m8 y) ∧ News s.heap s.heap.objs.size h' ((ar, listOf rits rn) :: (aD, listOf ys kk) :: (aw, listOf its nn) :: (s.heap.objs.size + 4, oS) :: (s.heap.objs.size + 3, oR) :: (s.heap.objs.size + 2, oN) :: (s.heap.objs.size + 1, oD) :: Rn ++ own))) (fun _ _ => False) _) ?_ (fun _ _ x => x.elim)
    case w1 =>
      refine absQ ?_
      intro TW hTW
      repeat' ((fail_if_success (with_reducible show wpAny _ _ (subscriptTail _ _ _ _) _ _ _)); walk1)
      · obtain ⟨b, hb⟩ : ∃ b, way[i - 1]? = some b := ⟨_, List.getElem?_eq_getElem (by omega)⟩
        have hb5 : b < 5 := hway.lt b (List.mem_of_getElem? hb)
        have hcn' : nmOf code b = cn := by
          rw [← hcn, if_neg (by omega), List.getD_eq_getElem?_getD, hb]; rfl
        refine subInts (j := i - 1) (b := (b : Int)) (listMem (n := nn) N8 (.tail _ (.tail _ (.head _)))) hits (by rw [wInts, List.getElem?_map, hb]; rfl) (by omega) (by omega) ?_
        intro tb
        repeat' ((fail_if_success (with_reducible show wpAny _ _ (subscriptTail _ _ _ _) _ _ _)); walk1)
        refine subNames (hn.keeps F8.keep) hb5 rfl ?_
        intro tcn
        rw [hcn']
        repeat' walk1
        rename Fr _ _ _ _ => Fz
        rename News _ _ _ _ => Nz
        exact hTW _ _ ⟨⟨by first | trivial | rfl, _, _, _, rfl, Fz, Nz⟩⟩
      · rw [if_pos (by omega)] at hcn
        subst hcn
        rename Fr _ _ _ _ => Fz
        rename News _ _ _ _ => Nz
        exact hTW _ _ ⟨⟨by first | trivial | rfl, _, _, _, rfl, Fz, Nz⟩⟩
    intro f s' hXG 
    refine absG ?_; intro PG hPG
    obtain ⟨⟨rfl, h9, tk9, tc, rfl, F9, N9⟩⟩ := hXG
    refine hPG ?_; clear hPG PG
    dsimp only
    walk1
    have htn : ((List.range way.length).map (turnAt ring size))[i]? = some (turnAt ring size i) := by rw [List.getElem?_map, List.getElem?_range hiw]; rfl
    obtain ⟨xc, hxc⟩ : ∃ x, (if ring < i then turnAt ring size i else 1) = x := ⟨_, rfl⟩
    obtain ⟨m9, hm9⟩ : ∃ m9 : Str → Option Value, (fun y => if y = Str.ofString "caller" then some (Value.str cn tc) else m8 y) = m9 := ⟨_, rfl⟩
    replace F9 : Fr s.heap s.heap.objs.size h9 m9 := hm9 ▸ F9
    have q0 : m9 (Str.ofString "caller") = some (.str cn tc) := by rw [← hm9]; rfl
    replace q1 : m9 (Str.ofString "cost") = some (.int (cost a) t63) := by rw [← hm9]; exact q1
    replace q3 : m9 (Str.ofString "spot") = some (.int (i : Int) t) := by rw [← hm9]; exact q3
    replace q4 : m9 (Str.ofString "way") = some (.ref aw) := by rw [← hm9]; exact q4
    replace q5 : m9 (Str.ofString "last") = some (.int (last : Nat) tl) := by rw [← hm9]; exact q5
    replace q6 : m9 (Str.ofString "turns") = some (.ref aD) := by rw [← hm9]; exact q6
    replace q7 : m9 (Str.ofString "rows") = some (.ref ar) := by rw [← hm9]; exact q7
    replace q8 : m9 (Str.ofString "left") = some (.int (leftAt cost way left0 i) tf) := by rw [← hm9]; exact q8
    clear hm9 q2 F8 N8
    refine wpAny_mono (?w2 : wpAny _ _ _ (fun f s' => Opq (f = Flow.next ∧ ∃ (h' : Heap) (tk' : Nat) (c : Addr) (oc : Obj) (kv : List (Str × Value)), s' = St s0 h' tk' ∧ Fr s.heap s.heap.objs.size h' (fun y => if y = Str.ofString "callers" then some (.ref c) else m9 y) ∧ News s.heap s.heap.objs.size h' ((c, oc) :: ((ar, listOf rits rn) :: (aD, listOf ys kk) :: (aw, listOf its nn) :: (s.heap.objs.size + 4, oS) :: (s.heap.objs.size + 3, oR) :: (s.heap.objs.size + 2, oN) :: (s.heap.objs.size + 1, oD) :: Rn ++ own)) ∧ oc.IsDictOf (strKind prog w) kv ∧ Cnt kv [(cn, xc)] ∧ (c == sysModules) = false ∧ ∀ p ∈ ((ar, listOf rits rn) :: (aD, listOf ys kk) :: (aw, listOf its nn) :: (s.heap.objs.size + 4, oS) :: (s.heap.objs.size + 3, oR) :: (s.heap.objs.size + 2, oN) :: (s.heap.objs.size + 1, oD) :: Rn ++ own), p.1 < c)) (fun _ _ => False) _) ?_ (fun _ _ x => x.elim)
    case w2 =>
      refine absQ ?_
      intro TW hTW
      repeat' ((fail_if_success (with_reducible show wpAny _ _ (subscriptTail _ _ _ _) _ _ _)); walk1)
      · rw [if_pos (by omega)] at hxc
        subst hxc
        rename News _ _ _ _ => Ny
        refine subInts (j := i) (listMem (n := kk) Ny (.tail _ (.tail _ (.head _)))) htz htn rfl (by omega) ?_
        intro tt
        repeat' walk1
        rename Fr _ _ _ _ => Fz
        rename News _ _ _ _ => Nz
        exact hTW _ _ ⟨⟨by first | trivial | rfl, _, _, _, _, _, rfl, Fz, Nz, by assumption, .cons _ _ _ .nil, by assumption, by assumption⟩⟩
      · rw [if_neg (by omega)] at hxc
        subst hxc
        rename Fr _ _ _ _ => Fz
        rename News _ _ _ _ => Nz
        exact hTW _ _ ⟨⟨by first | trivial | rfl, _, _, _, _, _, rfl, Fz, Nz, by assumption, .cons _ _ _ .nil, by assumption, by assumption⟩⟩
    intro f s' hXG 
    refine absG ?_; intro PG hPG
    obtain ⟨⟨rfl, h10, tk10, c, oc, kv, rfl, F10, N10, hoc, hcnt, loc, ltc⟩⟩ := hXG
    refine hPG ?_; clear hPG PG
    dsimp only
    walk1
    obtain ⟨mc, hmc⟩ : ∃ x, mcOf (nmOf code) way ring size i = x := ⟨_, rfl⟩
    obtain ⟨m10, hm10⟩ : ∃ m10 : Str → Option Value, (fun y => if y = Str.ofString "callers" then some (Value.ref c) else m9 y) = m10 := ⟨_, rfl⟩
    replace F10 : Fr s.heap s.heap.objs.size h10 m10 := hm10 ▸ F10
    have q9 : m10 (Str.ofString "callers") = some (.ref c) := by rw [← hm10]; rfl
    replace q1 : m10 (Str.ofString "cost") = some (.int (cost a) t63) := by rw [← hm10]; exact q1
    replace q3 : m10 (Str.ofString "spot") = some (.int (i : Int) t) := by rw [← hm10]; exact q3
    replace q4 : m10 (Str.ofString "way") = some (.ref aw) := by rw [← hm10]; exact q4
    replace q5 : m10 (Str.ofString "last") = some (.int (last : Nat) tl) := by rw [← hm10]; exact q5
    replace q6 : m10 (Str.ofString "turns") = some (.ref aD) := by rw [← hm10]; exact q6
    replace q7 : m10 (Str.ofString "rows") = some (.ref ar) := by rw [← hm10]; exact q7
    replace q8 : m10 (Str.ofString "left") = some (.int (leftAt cost way left0 i) tf) := by rw [← hm10]; exact q8
    clear hm10 q0 F9 N9
    have hoffc : ∀ p ∈ ((ar, listOf rits rn) :: (aD, listOf ys kk) :: (aw, listOf its nn) :: (s.heap.objs.size + 4, oS) :: (s.heap.objs.size + 3, oR) :: (s.heap.objs.size + 2, oN) :: (s.heap.objs.size + 1, oD) :: Rn ++ own), p.1 ≠ c := fun p hp => Nat.ne_of_lt (ltc p hp)
    refine wpAny_mono (?w3 : wpAny _ _ _ (fun f s' => Opq (f = Flow.next ∧ ∃ (h' : Heap) (tk' : Nat) (oc : Obj) (kv : List (Str × Value)), s' = St s0 h' tk' ∧ Fr s.heap s.heap.objs.size h' m10 ∧ News s.heap s.heap.objs.size h' ((c, oc) :: ((ar, listOf rits rn) :: (aD, listOf ys kk) :: (aw, listOf its nn) :: (s.heap.objs.size + 4, oS) :: (s.heap.objs.size + 3, oR) :: (s.heap.objs.size + 2, oN) :: (s.heap.objs.size + 1, oD) :: Rn ++ own)) ∧ oc.IsDictOf (strKind prog w) kv ∧ Cnt kv mc)) (fun _ _ => False) _) ?_ (fun _ _ x => x.elim)
    case w3 =>
      refine absQ ?_
      intro TW hTW
      repeat' ((fail_if_success (with_reducible show wpAny _ _ (subscriptTail _ _ _ _) _ _ _)); walk1)
      all_goals
        unfold mcOf at hmc
        dsimp only at hmc
        rw [hcn, hxc] at hmc
      · rw [if_pos (by omega)] at hmc
        subst hmc
        obtain ⟨b, hb⟩ : ∃ b, way[way.length - 1]? = some b := ⟨_, List.getElem?_eq_getElem (by omega)⟩
        have hb5 : b < 5 := hway.lt b (List.mem_of_getElem? hb)
        have hgb : way.getD (way.length - 1) 0 = b := by rw [List.getD_eq_getElem?_getD, hb]; rfl
        rw [hgb] at hTW
        refine subInts (j := i) (listMem (n := kk) N10 (.tail _ (.tail _ (.head _)))) htz htn rfl (by omega) ?_
        intro tt
        have htb := turn_bd (ring := ring) (i := i) hz1
        repeat' ((fail_if_success (with_reducible show wpAny _ _ (subscriptTail _ _ _ _) _ _ _)); walk1)
        refine subIntsLast (j := way.length - 1) (b := (b : Int)) (listMem (n := nn) N10 (.tail _ (.tail _ (.tail _ (.head _))))) hits (by rw [wInts, List.getElem?_map, hb]; rfl) (by simp [wInts]; omega) ?_
        intro tb
        repeat' ((fail_if_success (with_reducible show wpAny _ _ (subscriptTail _ _ _ _) _ _ _)); walk1)
        refine subNames (hn.keeps F10.keep) hb5 rfl ?_
        intro tcn
        repeat' walk1
        refine setN0 (knd := strKind _ _) F10 N10 hoc (strKind_is _ _ _ _) hoffc ?_ (by rw [hcnt.len]; show (1 : Nat) ≤ sizeLine; decide)
        intro h' o' F' N' hO'
        repeat' walk1
        exact hTW _ _ ⟨⟨by first | trivial | rfl, _, _, _, _, rfl, F', N', hO', hcnt.put _ _ _⟩⟩
      · rw [if_neg (by omega)] at hmc
        subst hmc
        exact hTW _ _ ⟨⟨by first | trivial | rfl, _, _, _, _, rfl, F10, N10, hoc, hcnt⟩⟩
    intro f s' hXG 
    refine absG ?_; intro PG hPG
    obtain ⟨⟨rfl, h11, tk11, oc2, kv2, rfl, F11, N11, hoc2, hcnt2⟩⟩ := hXG
    refine hPG ?_; clear hPG PG
    dsimp only
    clear F10 N10 hoc hcnt
    repeat' ((fail_if_success (with_reducible show wpAny _ _ (subscriptTail _ _ _ _) _ _ _)); walk1)
    refine subInts (j := i) (listMem (n := kk) N11 (.tail _ (.tail _ (.head _)))) htz htn rfl (by omega) ?_
    intro tt1
    repeat' ((fail_if_success (with_reducible show wpAny _ _ (subscriptTail _ _ _ _) _ _ _)); walk1)
    refine subInts (j := i) (listMem (n := kk) N11 (.tail _ (.tail _ (.head _)))) htz htn rfl (by omega) ?_
    intro tt2
    have htb := turn_bd (ring := ring) (i := i) hz1
    have hca := hcost a ha5
    repeat' ((fail_if_success (with_reducible show wpAny _ _ (call (.builtin "list.append") _) _ _ _)); walk1)
    rename_i aR h12 F12 N12 hn12 lo12 st12
    have hfR := fresh_ne N11 hn12
    have hrest : ∀ p ∈ (aD, listOf ys kk) :: (aw, listOf its nn) :: (s.heap.objs.size + 4, oS) :: (s.heap.objs.size + 3, oR) :: (s.heap.objs.size + 2, oN) :: (s.heap.objs.size + 1, oD) :: Rn ++ own, p.1 ≠ ar := fun p hp => by
      rcases List.mem_append.mp hp with hp | hp
      · simp only [List.mem_cons] at hp
        rcases hp with h | h | h | h | h | h | h
        · exact hra p (by rw [h]; exact .head _)
        · exact hra p (by rw [h]; exact .tail _ (.head _))
        · exact hra p (by rw [h]; exact .tail _ (.tail _ (.head _)))
        · exact hra p (by rw [h]; exact .tail _ (.tail _ (.tail _ (.head _))))
        · exact hra p (by rw [h]; exact .tail _ (.tail _ (.tail _ (.tail _ (.head _)))))
        · exact hra p (by rw [h]; exact .tail _ (.tail _ (.tail _ (.tail _ (.tail _ (.head _))))))
        · exact hap p h
      · intro e
        have h1 := hown p hp _ (.head _) e
        rw [e] at h1
        exact hra (aw, listOf its nn) (.tail _ (.head _)) h1.symm
    refine appendN (own := [(aR, _), (c, oc2)]) (its := rits) (n := rn) F12 N12 (fun p hp => by
      rcases List.mem_cons.mp hp with rfl | hp
      · exact (hfR _ (.tail _ (.head _))).symm
      · rw [List.mem_singleton.mp hp]; exact (hoffc _ (.head _)).symm) hrest (by rw [hrs, sizeLine]; omega) ?_
    intro h13 F13 N13
    obtain ⟨u1, u2, N14⟩ : ∃ u1 u2 : Tok, News s.heap s.heap.objs.size h13 ((aR, ({ cls := .type "tuple", data := .seq #[.int 1 u1, .int (turnAt ring size i) tt1, .int (cost a * turnAt ring size i) u2, .int (leftAt cost way left0 i) tf, .ref c] } : Obj)) :: (c, oc2) :: (ar, listOf (rits.push (.ref aR)) (rn + 1)) :: ((aD, listOf ys kk) :: (aw, listOf its nn) :: (s.heap.objs.size + 4, oS) :: (s.heap.objs.size + 3, oR) :: (s.heap.objs.size + 2, oN) :: (s.heap.objs.size + 1, oD) :: Rn ++ own)) := ⟨_, _, N13⟩
    clear F12 N12 N13 N11 F11
    repeat' walk1
    rename Fr _ _ _ _ => Fz
    rename News _ _ _ _ => Nz
    have hleft : leftAt cost way left0 i - cost a = leftAt cost way left0 (i + 1) := by
      unfold leftAt
      rw [List.take_add_one, ha]
      simp
      omega
    refine hTQ _ _ (turnEnd Fz Nz (nx := (ar, listOf (rits.push (.ref aR)) (rn + 1)) :: (aD, listOf ys kk) :: (aw, listOf its nn) :: (s.heap.objs.size + 4, oS) :: (s.heap.objs.size + 3, oR) :: (s.heap.objs.size + 2, oN) :: (s.heap.objs.size + 1, oD) :: (aR, ({ cls := .type "tuple", data := .seq #[.int 1 u1, .int (turnAt ring size i) tt1, .int (cost a * turnAt ring size i) u2, .int (leftAt cost way left0 i) tf, .ref c] } : Obj)) :: (c, oc2) :: Rn) ?e1 ?e2 ?e3 ⟨rits.push (.ref aR), rn + 1, (aR, ({ cls := .type "tuple", data := .seq #[.int 1 u1, .int (turnAt ring size i) tt1, .int (cost a * turnAt ring size i) u2, .int (leftAt cost way left0 i) tf, .ref c] } : Obj)) :: (c, oc2) :: Rn, _, rfl, ?e4, ?e5, ?e6, q4, q5, q6, q7, congrArg (fun z => some (Value.int z _)) hleft⟩)
    case e1 =>
      intro p hp
      simp only [List.mem_append, List.mem_cons] at hp ⊢
      rcases hp with h | h | h | h | h | h | h | h | h | h
      · exact .inr (.inr (.inl h))
      · exact .inr (.inr (.inr (.inl (.inl h))))
      · exact .inr (.inr (.inr (.inl (.inr (.inl h)))))
      · exact .inr (.inr (.inr (.inl (.inr (.inr (.inl h))))))
      · exact .inr (.inr (.inr (.inl (.inr (.inr (.inr (.inl h)))))))
      · exact .inr (.inr (.inr (.inl (.inr (.inr (.inr (.inr (.inl h))))))))
      · exact .inr (.inr (.inr (.inl (.inr (.inr (.inr (.inr (.inr (.inl h)))))))))
      · exact .inl h
      · exact .inr (.inl h)
      · exact .inr (.inr (.inr (.inl (.inr (.inr (.inr (.inr (.inr (.inr h)))))))))
    case e2 => exact fun p hp => .tail _ (.tail _ (.tail _ (List.mem_append_right _ hp)))
    case e3 =>
      intro p hp
      simp only [List.mem_cons] at hp
      rcases hp with h | h | h | h | h | h | h | h | h | h
      · exact .inl (by rw [h]; exact .head _)
      · exact .inl (by rw [h]; exact .tail _ (.head _))
      · exact .inl (by rw [h]; exact .tail _ (.tail _ (.head _)))
      · exact .inl (by rw [h]; exact .tail _ (.tail _ (.tail _ (.head _))))
      · exact .inl (by rw [h]; exact .tail _ (.tail _ (.tail _ (.tail _ (.head _)))))
      · exact .inl (by rw [h]; exact .tail _ (.tail _ (.tail _ (.tail _ (.tail _ (.head _))))))
      · exact .inl (by rw [h]; exact .tail _ (.tail _ (.tail _ (.tail _ (.tail _ (.tail _ (.head _)))))))
      · rw [h]; exact .inr fun q hq e => hfR q (.tail _ (List.mem_append_right _ hq)) e.symm
      · rw [h]; exact .inr fun q hq e => hoffc q (List.mem_append_right _ hq) e.symm
      · exact .inl (.tail _ (.tail _ (.tail _ (.tail _ (.tail _ (.tail _ (.tail _ (List.mem_map_of_mem h))))))))
    case e4 =>
      intro p hp
      rcases List.mem_cons.mp hp with rfl | hp
      · exact (hfR _ (.tail _ (.head _))).symm
      rcases List.mem_cons.mp hp with rfl | hp
      · exact (hoffc _ (.head _)).symm
      · exact hap p hp
    case e5 => rw [Array.size_push, hrs]
    case e6 =>
      intro j hji
      by_cases e : j = i
      · subst e
        refine ⟨_, by rw [Array.getElem?_push, if_pos hrs.symm], fun g hg => ⟨aR, c, kv2, u1, tt1, u2, tf, rfl, ?_, loc, Heap.dictOf_iff.mpr ⟨oc2, hg _ (.tail _ (.head _)), hoc2⟩, ?_⟩⟩
        · unfold rowM
          rw [hgd]
          exact ⟨_, hg _ (.head _), rfl, _, rfl⟩
        · show Cnt kv2 (mcOf (nmOf code) way ring size j)
          rw [hmc]; exact hcnt2
      · obtain ⟨v, hv1, hv2⟩ := hrj j (by omega)
        exact ⟨v, by rw [Array.getElem?_push, if_neg (by omega)]; exact hv1, hv2.more fun p hp => .tail _ (.tail _ hp)⟩
  · intro m₁ news₁ h tk hXG F6 N6
    refine absG ?_; intro PG hPG
    obtain ⟨rits, rn, Rn, tf, rfl, hap, hrs, hrj, k1, k2, k3, k4, k5⟩ := hXG
    refine hPG ?_; clear hPG PG
    have hrs' : rits.size = way.length := by rw [hrs, Array.length_toList, hsz]
    rw [Array.length_toList, hsz] at hrj
    repeat' ((fail_if_success (with_reducible show wpAny _ _ (pyIter _) _ _ _)); walk1)
    rename Fr _ _ _ _ => F7
    rename News _ _ _ _ => N7
    have cN := cellMem N7 (.tail _ (.tail _ (.tail _ (.tail _ (.tail _ (.head _)))))) dN
    refine comp_listT (vs := its.toList) (G := fun j y => Opq (∃ t, y = .str (nmOf code (way.getD j 0)) t)) hA'.hd (by rw [Array.toArray_toList]; exact listMem (n := nn) N7 (.tail _ (.tail _ (.head _)))) (by rw [Array.length_toList, hsz, sizeLine]; omega) ?_ (fun _ _ X => kT F7 N7 X ?_)
    · intro C j v s₃ m₃ hj F8
      have hjw : j < way.length := by have := (List.getElem?_eq_some_iff.mp hj).1; rw [Array.length_toList, hsz] at this; exact this
      refine absG ?_; intro PG hPG
      obtain ⟨zy, ty, rfl, hzy⟩ := hits.at j v hj
      refine hPG ?_; clear hPG PG
      obtain ⟨a, ha⟩ : ∃ a, way[j]? = some a := ⟨_, List.getElem?_eq_getElem hjw⟩
      rw [wInts, List.getElem?_map, ha] at hzy
      obtain rfl : (a : Int) = zy := Option.some.inj hzy
      have ha5 : a < 5 := hway.lt a (List.mem_of_getElem? ha)
      have hgd : way.getD j 0 = a := by rw [List.getD_eq_getElem?_getD, ha]; rfl
      rw [hgd]
      dsimp only at F8
      repeat' ((fail_if_success (with_reducible show wpAny _ _ (subscriptTail _ _ _ _) _ _ _)); walk1)
      refine subNames ((hn.keeps F7.keep).keeps F8.keep) ha5 rfl ?_
      intro tcn
      exact ⟨⟨⟨_, rfl⟩⟩, ⟨_, _, rfl, stays_refl _⟩⟩
    · intro D ys2 kk2 h13 tk13 F13 N13 st13 hD hys hG
      have cN2 := cellMem N13 (.tail _ (.tail _ (.tail _ (.tail _ (.tail _ (.tail _ (.head _))))))) dN
      repeat' ((fail_if_success (with_reducible show wpAny _ _ (subscriptTail _ _ _ _) _ _ _)); walk1)
      refine subNames (hn.keeps F13.keep) hl5 rfl ?_
      intro tln
      repeat' walk1
      rename Fr _ _ _ _ => F14
      rename News _ _ _ _ => N14
      refine hret _ D ar _ _ _ F14.keep (fun p hp => ⟨(N14 p hp).1, (N14 p hp).2.2⟩) fun g hg => ⟨⟨tln, _, hg _ (.head _), rfl, _, rfl⟩, ⟨ys2.toList, by rw [Array.toArray_toList]; exact ⟨_, hg _ (.tail _ (.head _)), rfl, kk2, rfl⟩, ?_⟩, ⟨rits.toList, by rw [Array.toArray_toList]; exact ⟨_, hg _ (.tail _ (.tail _ (.head _))), rfl, rn, rfl⟩, by rw [Array.length_toList, hrs'], fun j v hv => ?_⟩⟩
      · refine strsOf (by rw [Array.length_toList, hys, List.length_map]; simp [hsz]) fun j v hv => ?_
        rw [Array.getElem?_toList] at hv
        obtain ⟨t, rfl⟩ := (hG j v hv).out
        have hjw : j < way.length := by have := (Array.getElem?_eq_some_iff.mp hv).1; rw [hys] at this; simpa [hsz] using this
        exact ⟨nmOf code (way.getD j 0), t, by rw [List.getElem?_map, List.getElem?_eq_getElem hjw, List.getD_eq_getElem?_getD, List.getElem?_eq_getElem hjw]; rfl, rfl⟩
      · have hjw : j < way.length := by have := (List.getElem?_eq_some_iff.mp hv).1; rw [Array.length_toList, hrs'] at this; exact this
        obtain ⟨v', hv1, hv2⟩ := hrj j hjw
        rw [Array.getElem?_toList, hv1] at hv
        cases hv
        exact hv2 g fun p hp => hg p (.tail _ (.tail _ (.tail _ (.tail _ (.tail _ (.tail _ (.tail _ (.tail _ (.tail _ hp)))))))))
end
section
theorem meant_tail {prog : Program} {w : World} {A' : Around} {s s0 : Shared} {Q : Flow → Shared → Prop} {l ln aw : Addr} {far : Nat → Nat} {code cost : Nat → Int} {start place ring size last : Nat} {way : List Nat} {its : Array Value} {nn : Nat} {oS oR oN oD : Obj} {m : Str → Option Value} {tS tR tl : Tok}
  (T : TF w s.heap) (hA' : Rm A' 5 57) (hd : DrawnAt far code cost l s.heap) (hn : NamesAt (nmOf code) ln s.heap) (hcost : ∀ i, i < 5 → 1 ≤ cost i ∧ cost i ≤ 50) (hway : WayOf far code start way place) (hits : IntsAre its.toList (wInts way))
  (hri : ring ≤ way.length) (hz1 : 1 ≤ size) (hz5 : size ≤ 5) (hl5 : last < 5)
  (dS : oS.data = .cell (some (.int (size : Nat) tS))) (dR : oR.data = .cell (some (.int (ring : Nat) tR))) (dN : oN.data = .cell (some (.ref ln))) (dD : oD.data = .cell (some (.ref l)))
  (F : Fr s.heap s.heap.objs.size s0.heap m) (N : News s.heap s.heap.objs.size s0.heap [(aw, listOf its nn), (s.heap.objs.size + 4, oS), (s.heap.objs.size + 3, oR), (s.heap.objs.size + 2, oN), (s.heap.objs.size + 1, oD)]) (nd5 : [aw, s.heap.objs.size + 4, s.heap.objs.size + 3, s.heap.objs.size + 2, s.heap.objs.size + 1].Nodup)
  (k1 : m (Str.ofString "way") = some (.ref aw)) (k2 : m (Str.ofString "last") = some (.int (last : Nat) tl))
  (hret : ∀ x lw lr R h' tk', s.heap.StaysIn h' → (∀ p ∈ R, h'.get? p.1 = some p.2 ∧ s.heap.get? p.1 = none) → Kept R (MeantAt prog w (nmOf code) cost way ring size last (costsW cost way ring size).sum x lw lr) → Q (.ret (.ref x)) (St s0 h' tk')) :
  wpAny (model prog w) A' (execs mtT (envOfC (Str.ofString "_law_meant") mtS s.heap.objs.size 177 (.ref 176))) Q (fun _ _ => False) s0 := by
  have eT : mtT = [_, _, _, _, _] := rfl
  rw [eT]
  have hsz : its.size = way.length := by have := hits.length; simpa [wInts] using this
  have hw5 := hway.len
  repeat' walk1
  rename Fr _ _ _ _ => F2
  rename News _ _ _ _ => N2
  have cR := cellMem N2 (.tail _ (.tail _ (.head _))) dR
  have cS := cellMem N2 (.tail _ (.head _)) dS
  refine comp_range (n := its.size) (G := fun i v => Opq (∃ t, v = .int (turnAt ring size i) t)) hA'.hd (by assumption) (by omega) ?_ (fun _ _ X => kA F2 N2 X ?_)
  · intro C i t s₃ m₃ hi F3
    dsimp only at F3
    repeat' walk1
    · exact ⟨⟨_, congrArg (fun z => Value.int z _) (turn_lo (by omega))⟩⟩
    · exact ⟨⟨_, congrArg (fun z => Value.int z _) (turn_hi (by omega) (by omega))⟩⟩
  · intro D ys kk h4 tk4 F4 N4 hD hys hG
    have htz := intsAt (hys.trans hsz) hG
    have fD := fresh_ne N2 hD
    clear F2 N2 cR cS hG
    repeat' ((fail_if_success (with_reducible show wpAny _ _ (call (.type "zip") _) _ _ _)); walk1)
    rename Fr _ _ _ _ => F5
    rename News _ _ _ _ => N5
    have cD := cellMem N5 (.tail _ (.tail _ (.tail _ (.tail _ (.tail _ (.head _)))))) dD
    refine comp_zip (xs := ys.toList) (ys := its.toList) (G := fun i v => Opq (∃ t, v = .int (turnAt ring size i * cost (way.getD i 0)) t)) hA'.hd (by rw [Array.toArray_toList]; exact listMem (n := kk) N5 (.head _)) (by rw [Array.toArray_toList]; exact listMem (n := nn) N5 (.tail _ (.head _))) (by simp [hys]) (by rw [Array.length_toList, hys, hsz, sizeLine]; omega) ?_ (fun _ _ X => kT F5 N5 X ?_)
    · intro C i x y s₃ m₃ hx hy F6
      have hiw : i < way.length := by have := (List.getElem?_eq_some_iff.mp hy).1; rw [Array.length_toList, hsz] at this; exact this
      refine absG ?_; intro PG hPG
      obtain ⟨zx, tx, rfl, hzx⟩ := htz.at i x hx
      refine hPG ?_; clear hPG PG
      refine absG ?_; intro PG hPG
      obtain ⟨zy, ty, rfl, hzy⟩ := hits.at i y hy
      refine hPG ?_; clear hPG PG
      obtain ⟨a, ha⟩ : ∃ a, way[i]? = some a := ⟨_, List.getElem?_eq_getElem hiw⟩
      rw [wInts, List.getElem?_map, ha] at hzy
      obtain rfl : (a : Int) = zy := Option.some.inj hzy
      have ha5 : a < 5 := hway.lt a (List.mem_of_getElem? ha)
      have hgd : way.getD i 0 = a := by rw [List.getD_eq_getElem?_getD, ha]; rfl
      have hzx' : zx = turnAt ring size i := by
        rw [List.getElem?_map, List.getElem?_range hiw] at hzx
        exact (Option.some.inj hzx).symm
      subst hzx'
      rw [hgd]
      have hca := hcost a ha5
      have htb := turn_bd (ring := ring) (i := i) hz1
      dsimp only at F6
      repeat' walk1
      refine subDrawn ((hd.keeps F5.keep).keeps F6.keep) ha5 ?_
      intro T6 t61 t62 t63 hT6
      repeat' walk1
      refine item_tupleT (l := [.int (far a : Int) t61, .int (code a) t62, .int (cost a) t63]) (j := 2) hT6 (by decide) (by decide) rfl rfl ?_
      repeat' walk1
      exact ⟨⟨_, rfl⟩⟩
    · intro D2 zs kz h7 tk7 F7 N7 st7 hD2 hzs hG2
      have hzs' : zs.size = way.length := by rw [hzs]; simp only [List.size_toArray, Array.length_toList, hys, hsz]; omega
      have hzi := intsAt (f := fun i => turnAt ring size i * cost (way.getD i 0)) hzs' hG2
      clear F5 N5 cD hG2
      repeat' walk1
      refine sumL F7 N7 hA'.hd (listMem (n := kz) N7 (.head _)) hzi ?_
      intro tS2 h8 tk8 F8 N8 st8
      have hLv : ((List.range way.length).map fun i => turnAt ring size i * cost (way.getD i 0)).sum = (costsW cost way ring size).sum := rfl
      rw [hLv]
      repeat' ((fail_if_success (with_reducible show wpAny _ _ (execs [.For _ _ _ _ _, _] _) _ _ _)); walk1)
      rename_i hA FA NA ar hB FB NB hnB loB stB h9 F9 N9
      have hfa := fresh_ne NA hnB
      refine meant_rows (ar := ar) (aD := D) T hA' hd hn hcost hway hits htz hri hz1 hz5 hl5 dS dR dN dD F9 (fun p hp => N9 p (by
        rcases List.mem_cons.mp hp with rfl | hp
        · exact .head _
        · exact .tail _ (.tail _ hp))) (fun p hp => hfa p (.tail _ hp)) k1 k2 rfl rfl rfl ?_
      intro x lw lr R h' tk' st' hR hK
      exact hret x lw lr R h' tk' st' hR hK
end
section
theorem law_meant {prog : Program} {w : World} {A : Around} {s : Shared} {Q E : Value → Shared → Prop} {l ln : Addr} {far : Nat → Nat} {code cost : Nat → Int} {start : Nat} {ts : Tok} (T : TF w s.heap) (hA : Rm A 6 60)
  (hd : DrawnAt far code cost l s.heap) (hn : NamesAt (nmOf code) ln s.heap) (hfar : ∀ i, i < 5 → far i < 5) (hcost : ∀ i, i < 5 → 1 ≤ cost i ∧ cost i ≤ 50) (hst : start < 5)
  (hret : ∀ x lw lr R way place h' tk', s.heap.StaysIn h' → (∀ p ∈ R, h'.get? p.1 = some p.2 ∧ s.heap.get? p.1 = none) → WayOf far code start way place → (place ∈ way ∨ isGood (code place) = true) →
    Kept R (MeantAt prog w (nmOf code) cost way (way.idxOf place) (max (way.length - way.idxOf place) 1) (if place ∈ way then way.getD (way.idxOf place + (8 - way.idxOf place) % max (way.length - way.idxOf place) 1) 0 else place) (costsW cost way (way.idxOf place) (max (way.length - way.idxOf place) 1)).sum x lw lr) → Q (.ref x) (St s h' tk')) :
  wpAny (model prog w) A (call (.ref 177) [.ref l, .ref ln, .int (start : Int) ts]) Q E s := by
  have st0 : s.heap.StaysIn (hideAll s.heap []) := fun b o e => hideAll_get _ e (fun h => nomatch h)
  refine wpAny_call (enterC (d := 5) (u := 57) (mus := []) (news := []) (binds := [(Str.ofString "drawn", .ref l), (Str.ofString "names", .ref ln), (Str.ofString "start", .int (start : Int) ts)]) (T.keeps st0) hA (T.k _ _ (by k_is)) rfl (codeRec_of T.k (by k_is)) rfl rfl (by decide) (fun _ h => nomatch h) ?_)
  intro h₁ tk1 A' cells hA' F N Y st htk
  have Y' : CellsAre _ [(Str.ofString "size", s.heap.objs.size + 4), (Str.ofString "ring", s.heap.objs.size + 3), (Str.ofString "names", s.heap.objs.size + 2), (Str.ofString "drawn", s.heap.objs.size + 1)] cells := Y
  refine absG ?_; intro PG hPG
  obtain ⟨oS, oR, oN, oD, rfl, dS, dR, dN, dD⟩ := CellsAre.four Y'
  refine hPG ?_; clear hPG PG
  clear Y' Y
  replace F := Fr.mk F.ns st (Nat.le_trans (Nat.le_of_eq (hideAll_size _ _).symm) F.above)
  have hbn : ∀ {b : Addr}, (hideAll s.heap []).get? b = none → s.heap.get? b = none := fun h => by
    cases q : s.heap.get? _ with
    | none => rfl
    | some o => rw [st0 _ _ q] at h; cases h
  have N0 : News s.heap s.heap.objs.size h₁ [(s.heap.objs.size + 4, oS), (s.heap.objs.size + 3, oR), (s.heap.objs.size + 2, oN), (s.heap.objs.size + 1, oD)] := fun p hp => ⟨(N p hp).1, (N p hp).2.1, hbn (N p hp).2.2⟩
  clear N hbn
  have dD' : oD.data = .cell (some (.ref l)) := dD
  have dN' : oN.data = .cell (some (.ref ln)) := dN
  clear dD dN
  repeat' ((fail_if_success (with_reducible show wpAny _ _ (exec (.While _ _ _ _) _) _ _ _)); walk1)
  rename_i aw h2 F2 N2 hn2 lo2 st2 h3 F3 N3 h4 F4 N4
  have hfw := fresh_ne N0 hn2
  clear F2 N2 F3 N3 F N0
  refine wpAny_mono (?w : wpAny _ _ _ (fun f s' => Opq (f = Flow.next ∧ ∃ (h' : Heap) (tk' : Nat) (m' : Str → Option Value) (t : Tok) (way : List Nat) (place : Nat) (its : Array Value) (nn : Nat), s' = St s h' tk' ∧ Fr s.heap s.heap.objs.size h' m' ∧ News s.heap s.heap.objs.size h' [(aw, listOf its nn), (s.heap.objs.size + 4, oS), (s.heap.objs.size + 3, oR), (s.heap.objs.size + 2, oN), (s.heap.objs.size + 1, oD)] ∧ IntsAre its.toList (wInts way) ∧ WayOf far code start way place ∧
      (place ∈ way ∨ isGood (code place) = true) ∧ m' (Str.ofString "place") = some (.int (place : Int) t) ∧ m' (Str.ofString "way") = some (.ref aw))) (fun _ _ => False) _) ?_ (fun _ _ x => x.elim)
  case w =>
    refine While_inv (n₀ := 5) (fun q m nx => ∃ t way place its nn, q = 5 - way.length ∧ nx = [(aw, listOf its nn), (s.heap.objs.size + 4, oS), (s.heap.objs.size + 3, oR), (s.heap.objs.size + 2, oN), (s.heap.objs.size + 1, oD)] ∧ IntsAre its.toList (wInts way) ∧ WayOf far code start way place ∧ m (Str.ofString "place") = some (.int (place : Int) t) ∧ m (Str.ofString "way") = some (.ref aw)) F4 N4
      ⟨ts, [], start, #[], 0, rfl, rfl, .nil, .nil hst, rfl, rfl⟩ ?_ (by passes_own)
    intro q m₂ news₂ h16 tk16 F16 N16 hXG 
    refine absG ?_; intro PG hPG
    obtain ⟨t, way, place, its, nn, rfl, rfl, hits, hway, k1, k2⟩ := hXG
    refine hPG ?_; clear hPG PG
    repeat' walk1
    · rename News _ _ _ _ => Nz
      rename Fr _ _ _ _ => Fz
      exact ⟨⟨rfl, _, _, _, _, way, place, its, nn, rfl, Fz, Nz, hits, hway, .inl (in_of_any (by assumption)), k1, k2⟩⟩
    · refine subDrawn (hd.keeps F16.keep) hway.plt ?_
      intro T5 t51 t52 t53 hT5
      repeat' walk1
      refine item_tupleT (l := [.int (far place : Int) t51, .int (code place) t52, .int (cost place) t53]) (j := 1) hT5 (by decide) (by decide) rfl rfl ?_
      repeat' walk1
      · dsimp only
        exact ⟨⟨rfl, _, _, _, _, way, place, its, nn, rfl, F16, N16, hits, hway, .inr (by simp only [isGood, Bool.and_eq_true, decide_eq_true_eq]; omega), k1, k2⟩⟩
      all_goals
        have hbad : isGood (code place) = false := by
          cases q : isGood (code place) with
          | false => rfl
          | true => simp only [isGood, Bool.and_eq_true, decide_eq_true_eq] at q; omega
        have hout : place ∉ way := out_of_any (by assumption)
        have hw5 := (hway.next hout hbad (hfar _ hway.plt)).len
        simp only [List.length_append, List.length_singleton] at hw5
        have hsz : its.size = way.length := by have := hits.length; simpa [wInts] using this
        refine appendN (own := []) (its := its) (n := nn) F16 N16 (fun _ h => nomatch h) hfw (by rw [hsz, sizeLine]; omega) ?_
        intro h20 F20 N20
        dsimp only [St]
        clear F16 N16
        repeat' walk1
        rename Fr _ _ _ _ => F21
        refine subDrawn (hd.keeps F21.keep) hway.plt ?_
        intro T6 t61 t62 t63 hT6
        repeat' walk1
        refine item_tupleT (l := [.int (far place : Int) t61, .int (code place) t62, .int (cost place) t63]) (j := 0) hT6 (by decide) (by decide) rfl rfl ?_
        repeat' walk1
        rename Fr _ _ _ _ => Fz
        rename News _ _ _ _ => Nz
        exact WhileStep.intro Fz Nz (n' := 5 - (way ++ [place]).length) (by rw [List.length_append, List.length_singleton]; omega) ⟨_, way ++ [place], far place, its.push (.int (place : Int) t), nn + 1, rfl, rfl, by rw [Array.toList_push, wInts, List.map_append]; exact ints_append hits _ _, hway.next hout hbad (hfar _ hway.plt), rfl, k2⟩
  · intro f s' hXG 
    refine absG ?_; intro PG hPG
    obtain ⟨⟨rfl, h18, tk18, m18, t18, way, place, its, nn, rfl, F18, N18, hits, hway, hend, k1, k2⟩⟩ := hXG
    refine hPG ?_; clear hPG PG
    dsimp only
    have nd5 : [aw, s.heap.objs.size + 4, s.heap.objs.size + 3, s.heap.objs.size + 2, s.heap.objs.size + 1].Nodup := by
      refine List.nodup_cons.mpr ⟨?_, ?_⟩
      · intro hm
        simp only [List.mem_cons, List.not_mem_nil, or_false] at hm
        rcases hm with e | e | e | e
        · exact hfw _ (.head _) e.symm
        · exact hfw _ (.tail _ (.head _)) e.symm
        · exact hfw _ (.tail _ (.tail _ (.head _))) e.symm
        · exact hfw _ (.tail _ (.tail _ (.tail _ (.head _)))) e.symm
      · exact nd4 _
    have hsz : its.size = way.length := by have := hits.length; simpa [wInts] using this
    have hw5 := hway.len
    walk1
    refine wpAny_mono (?w2 : wpAny _ _ _ (fun f s' => Opq (f = Flow.next ∧ ∃ (h' : Heap) (tk' : Nat) (oR' : Obj) (tr : Tok), s' = St s h' tk' ∧ Fr s.heap s.heap.objs.size h' m18 ∧ News s.heap s.heap.objs.size h' [(aw, listOf its nn), (s.heap.objs.size + 4, oS), (s.heap.objs.size + 3, oR'), (s.heap.objs.size + 2, oN), (s.heap.objs.size + 1, oD)] ∧ oR'.data = .cell (some (.int (way.idxOf place : Nat) tr)))) (fun _ _ => False) _) ?_ (fun _ _ x => x.elim)
    case w2 =>
      repeat' walk1
      · refine index_list_ints (vs := its.toList) (ns := wInts way) (by rw [Array.toArray_toList]; exact listMem (n := nn) N18 (.head _)) hits (lay_w way hw5 hway.lt) (mem_w (in_of_any (by assumption))) ?_
        rw [idx_w]
        repeat' walk1
        rename Fr _ _ _ _ => Fz
        rename News _ _ _ _ => Nz
        exact ⟨⟨trivial, _, _, _, _, rfl, Fz, Nz, by assumption⟩⟩
      · rename Fr _ _ _ _ => Fz
        rename News _ _ _ _ => Nz
        have hout := out_of_any (way := way) (p := place) (by assumption)
        have e : way.idxOf place = its.size := by rw [hsz]; exact List.idxOf_eq_length hout
        rw [e]
        exact ⟨⟨trivial, _, _, _, _, rfl, Fz, Nz, by assumption⟩⟩
    · intro f s' hXG 
      refine absG ?_; intro PG hPG
      obtain ⟨⟨rfl, h20, tk20, oR', tr, rfl, F20, N20, dR'⟩⟩ := hXG
      refine hPG ?_; clear hPG PG
      dsimp only
      repeat' walk1
      rename Fr _ _ _ _ => F21
      rename News _ _ _ _ => N21
      refine max_two_N hA'.hd F21 N21 ?_
      intro h22 tk22 F22 N22
      have hri : way.idxOf place ≤ way.length := List.idxOf_le_length
      obtain ⟨ring, hring⟩ : ∃ r, way.idxOf place = r := ⟨_, rfl⟩
      obtain ⟨size, hsize⟩ : ∃ z, max (way.length - way.idxOf place) 1 = z := ⟨_, rfl⟩
      rw [hring] at dR' hri
      rw [show (if (1 : Int) > ((its.size : Int) - (way.idxOf place : Nat)) then (1 : Int) else ((its.size : Int) - (way.idxOf place : Nat))) = ((size : Nat) : Int) from by rw [hsz]; rw [hring] at hsize ⊢; split <;> omega]
      have hz1 : 1 ≤ size := by omega
      have hz5 : size ≤ 5 := by omega
      clear F18 N18 F21 N21
      dsimp only [St]
      repeat' ((fail_if_success (with_reducible show wpAny _ _ (exec (.Assign [.Name (Str.ofString "last") _] _ _) _) _ _ _)); walk1)
      rename Fr _ _ _ _ => F23
      rename News _ _ _ _ => N23
      refine absG ?_; intro PG hPG
      obtain ⟨oS', tS, N24, dS'⟩ : ∃ (oS' : Obj) (tS : Tok), News s.heap s.heap.objs.size _ [(aw, listOf its nn), (s.heap.objs.size + 4, oS'), (s.heap.objs.size + 3, oR'), (s.heap.objs.size + 2, oN), (s.heap.objs.size + 1, oD)] ∧ oS'.data = .cell (some (.int (size : Nat) tS)) := ⟨_, _, N23, by assumption⟩
      refine hPG ?_; clear hPG PG
      clear N23
      obtain ⟨last, hlast⟩ : ∃ z, (if place ∈ way then way.getD (ring + (8 - ring) % size) 0 else place) = z := ⟨_, rfl⟩
      refine wpAny_mono (?w3 : wpAny _ _ _ (fun f s' => Opq (f = Flow.next ∧ ∃ (h' : Heap) (tk' : Nat) (tl : Tok), s' = St s h' tk' ∧ Fr s.heap s.heap.objs.size h' (fun y => if y = Str.ofString "last" then some (.int (last : Nat) tl) else m18 y) ∧ News s.heap s.heap.objs.size h' [(aw, listOf its nn), (s.heap.objs.size + 4, oS'), (s.heap.objs.size + 3, oR'), (s.heap.objs.size + 2, oN), (s.heap.objs.size + 1, oD)])) (fun _ _ => False) _) ?_ (fun _ _ x => x.elim)
      case w3 =>
        repeat' walk1
        · have hin := in_of_any (way := way) (p := place) (by assumption)
          have hrl : ring < way.length := by rw [← hring]; exact List.idxOf_lt_length_iff.mpr hin
          rw [hring] at hsize
          rw [if_pos hin] at hlast
          have hmod : (8 - ring) % size < size := Nat.mod_lt _ (by omega)
          have hidx : (ring : Int) + ((8 : Int) - (ring : Int)).fmod (size : Int) = ((ring + (8 - ring) % size : Nat) : Int) := by
            rw [Int.fmod_eq_emod_of_nonneg _ (by omega), show (8 : Int) - (ring : Int) = ((8 - ring : Nat) : Int) from by omega]
            push_cast
            rfl
          have hkl : ring + (8 - ring) % size < way.length := by omega
          obtain ⟨v, hv⟩ : ∃ v, its.toList[ring + (8 - ring) % size]? = some v := ⟨_, List.getElem?_eq_getElem (by rw [Array.length_toList, hsz]; exact hkl)⟩
          refine absG ?_; intro PG hPG
          obtain ⟨z, tz, rfl, hz⟩ := hits.at _ v hv
          refine hPG ?_; clear hPG PG
          have hz' : z = (last : Int) := by
            rw [wInts, List.getElem?_map] at hz
            rw [List.getD_eq_getElem?_getD] at hlast
            cases q : way[ring + (8 - ring) % size]? with
            | none => rw [q] at hz; cases hz
            | some b => rw [q] at hz hlast; rw [← hlast]; exact (Option.some.inj hz).symm
          subst hz'
          refine subL (vs := its.toList) (by rw [Array.toArray_toList]; exact listMem (n := nn) N24 (.head _)) (by rw [hidx]; omega) (by rw [hidx]; omega) (by rw [hidx]; exact hv) ?_
          repeat' walk1
          rename Fr _ _ _ _ => Fz
          rename News _ _ _ _ => Nz
          exact ⟨⟨by first | trivial | rfl, _, _, _, rfl, Fz, Nz⟩⟩
        · have hout := out_of_any (way := way) (p := place) (by assumption)
          rw [if_neg hout] at hlast
          subst hlast
          rename Fr _ _ _ _ => Fz
          rename News _ _ _ _ => Nz
          exact ⟨⟨by first | trivial | rfl, _, _, _, rfl, Fz, Nz⟩⟩
      · intro f s' hXG 
        refine absG ?_; intro PG hPG
        obtain ⟨⟨rfl, h26, tk26, tl, rfl, F26, N26⟩⟩ := hXG
        refine hPG ?_; clear hPG PG
        dsimp only
        have hl5 : last < 5 := by
          rw [← hlast]
          split
          · rw [List.getD_eq_getElem?_getD]
            cases q : way[ring + (8 - ring) % size]? with
            | none => decide
            | some b => exact hway.lt b (List.mem_of_getElem? q)
          · exact hway.plt
        rw [hring] at hsize
        with_unfolding_all refine meant_tail (far := far) (code := code) (start := start) (place := place) (ring := ring) (size := size) (last := last) (way := way) T hA' hd hn hcost hway hits (by omega) hz1 hz5 hl5 dS' dR' dN' dD' F26 N26 nd5 k2 rfl ?_
        intro x lw lr R h' tk' st' hR hK
        refine hret x lw lr R way place h' tk' st' hR hway hend ?_
        rw [hring, hsize, hlast]
        exact hK
end
section
noncomputable def lwDef : Stmt := match PySem.Challenge.pw_pg0151_01.main.body.drop 20 with
  | x :: _ => x
  | [] => .Pass ⟨0, 0, 0, 0⟩
noncomputable def lwB : List Stmt := match lwDef with | .FunctionDef _ _ b _ _ _ _ _ _ _ => b | _ => []
noncomputable def lwS : Scope := match lwDef with | .FunctionDef _ _ _ _ _ _ s _ _ _ => s | _ => default
noncomputable def lwFor : List Stmt := match lwB.drop 3 with | .For _ _ b _ _ :: _ => b | _ => []
/-- what stands still while the pages are asked -/
structure Stand (prog : Program) (w : World) (far : Nat → Nat) (code cost : Nat → Int) (pg fn : Nat → Addr) (ld ln lp : Addr) (h : Heap) : Prop where
  d : DrawnAt far code cost ld h
  n : NamesAt (nmOf code) ln h
  p : Pages prog w (pgOf far code cost) pg fn lp h
theorem nm_nmT (code : Nat → Int) (i : Nat) (hi : i < 5) : nmOf code i = nmT i (code i) := by
  have : i = 0 ∨ i = 1 ∨ i = 2 ∨ i = 3 ∨ i = 4 := five (by omega)
  rcases this with rfl | rfl | rfl | rfl | rfl <;> rfl
theorem fine_of {far : Nat → Nat} {code cost : Nat → Int} (h : ∀ i, i < 5 → far i < 5 ∧ code i ∈ menu ∧ 1 ≤ cost i ∧ cost i ≤ 50) : Fine far code cost := by
  have hm : ∀ k ∈ menu, 100 ≤ k ∧ k < 1000 := by decide
  refine ⟨fun i hi => (h i hi).1, fun i hi => hm _ (h i hi).2.1, fun i hi => ⟨(h i hi).2.2.1, Int.lt_of_le_of_lt (h i hi).2.2.2 (by decide)⟩, fun i c hi h1 h2 => ?_⟩
  obtain ⟨c', rfl⟩ : ∃ c' : Nat, c = (c' : Int) := ⟨c.toNat, by omega⟩
  rw [nm_nmT code i hi]
  exact heads_ok hi (h i hi).2.1 (by omega)
end
section
theorem law_t5 {prog : Program} {w : World} {A' : Around} {s0 : Shared} {Q : Flow → Shared → Prop} {base : Heap} {L pr x lw lr : Addr} {code cost : Nat → Int} {way : List Nat} {ring size last : Nat} {left0 : Int} {P : List (Str × Row)} {m : Str → Option Value} {oP : Obj} {X : List (Addr × Obj)}
  (T : TF w base) (hA' : Rm A' 59 297) (F : Fr base L s0.heap m) (N : News base L s0.heap X) (cP : (L + 1, oP) ∈ X) (dP : oP.data = .cell (some (.ref pr)))
  (hP : Kept X (ProfAt prog w P pr)) (hM : Kept X (MeantAt prog w (nmOf code) cost way ring size last left0 x lw lr)) (hw5 : way.length ≤ 5)
  (hcnt : ∀ p, p < way.length → ∃ row : Row, getB P (nmOf code (way.getD p 0)) = some row ∧ (row.2.2.2.2.map (·.2)).sum = turnAt ring size p)
  (k5 : m (Str.ofString "way") = some (.ref lw)) (k6 : m (Str.ofString "rows") = some (.ref lr))
  (hret : ∀ h' tk', Fr base L h' m → News base L h' X → Q .next (St s0 h' tk')) :
  wpAny (model prog w) A' (execs (lwFor.drop 4) (envOfC (Str.ofString "law") lwS L 187 (.ref 186))) Q (fun _ _ => False) s0 := by
  have eT : lwFor.drop 4 = [_] := rfl
  rw [eT]
  clear eT
  repeat' walk1
  obtain ⟨wvs, hlw, hsw⟩ := (hM.here N fun _ h => h).ways.x
  refine absG ?_; intro PG hPG
  obtain ⟨rvs, hlr, hrl, hrow⟩ := (hM.here N fun _ h => h).rows
  refine hPG ?_; clear hPG PG
  have hwl : wvs.length = way.length := by have := hsw.len; simpa using this
  have PA := hP.here N fun _ h => h
  obtain ⟨pk, hpk, hrel⟩ := PA.x
  have cc : Heap.IsCell s0.heap (L + 1) (some (.ref pr)) := cellMem N cP dP
  refine comp_listT (G := fun i v => Opq (∃ t, v = .int (turnAt ring size i) t)) hA'.hd hlw (by rw [hwl, sizeLine]; omega) ?_ (fun _ _ X => kT F N X ?_)
  · intro C i v s₃ m₃ hv F3
    refine absG ?_; intro PG hPG
    obtain ⟨y, ty, rfl, hy⟩ := hsw.at i v hv
    refine hPG ?_; clear hPG PG
    have hi : i < way.length := by have := (List.getElem?_eq_some_iff.mp hv).1; omega
    obtain ⟨row, hg, hsum⟩ := hcnt i hi
    have hy' : y = nmOf code (way.getD i 0) := by
      rw [List.getElem?_map, List.getElem?_eq_getElem hi] at hy
      rw [List.getD_eq_getElem?_getD, List.getElem?_eq_getElem hi]
      exact (Option.some.inj hy).symm
    subst hy'
    obtain ⟨rv, hrv, hra⟩ := hrel.valueAt _ hg
    refine absG ?_; intro PG hPG
    obtain ⟨a, c, kv, t1, t2, t3, t4, rfl, ha, lo, hd, hcn⟩ := hra
    refine hPG ?_; clear hPG PG
    have T2 := T.keeps F.keep
    clear hM hP hrow
    repeat' walk1
    refine item_tupleT (l := [.int row.1 t1, .int row.2.1 t2, .int row.2.2.1 t3, .int row.2.2.2.1 t4, .ref c]) (j := 4) (tupKeep F3 ha) (by decide) (by decide) rfl rfl ?_
    repeat' walk1
    refine count_calls (T2.keeps F3.keep) (hA'.le (by decide) (by decide)) (hd.keep F3.keep) lo hcn.ints ?_
    intro t h4 tk4 st4
    rw [hsum]
    exact ⟨⟨_, rfl⟩, _, _, rfl, st4⟩
  · intro D ys kk h2 tk2 F2 N2 st2 hD hys hG
    have hys' : ys.size = way.length := by rw [hys, List.size_toArray, hwl]
    have hyi := intsAt hys' hG
    clear hG
    repeat' walk1
    refine comp_listT (G := fun i v => Opq (∃ t, v = .int (turnAt ring size i) t)) hA'.hd (listStay st2 hlr) (by rw [hrl, sizeLine]; omega) ?_ (fun _ _ X => kT F2 N2 X ?_)
    · intro C i v s₃ m₃ hv F3
      refine absG ?_; intro PG hPG
      obtain ⟨a, c, kv, t1, t2, t3, t4, rfl, ha, _⟩ := hrow i v hv
      refine hPG ?_; clear hPG PG
      have hi : i < way.length := by have := (List.getElem?_eq_some_iff.mp hv).1; omega
      have T2 := T.keeps F2.keep
      dsimp only at F3
      repeat' walk1
      refine item_tupleT (l := [.int (rowM (nmOf code) cost way ring size left0 i).1 t1, .int (rowM (nmOf code) cost way ring size left0 i).2.1 t2, .int (rowM (nmOf code) cost way ring size left0 i).2.2.1 t3, .int (rowM (nmOf code) cost way ring size left0 i).2.2.2.1 t4, .ref c]) (j := 1) (tupStay F3.keep (tupStay st2 ha)) (by decide) (by decide) rfl rfl ?_
      exact ⟨⟨_, rfl⟩, _, _, rfl, stays_refl _⟩
    · intro D2 zs kz h4 tk4 F4 N4 st4 hD2 hzs hG2
      have hzs' : zs.size = way.length := by rw [hzs, List.size_toArray, hrl]
      have hzi := intsAt hzs' hG2
      clear hG2
      dsimp only [St] at *
      repeat' walk1
      refine ne_intsF (zs := (List.range way.length).map (turnAt ring size)) (listMem (n := kk) N4 (.tail _ (.head _))) (listMem (n := kz) N4 (.head _)) hyi hzi hA'.uroom ?_
      repeat' walk1
      rename Fr _ _ _ _ => F5
      rename News _ _ _ _ => N5
      exact hret _ _ F5 fun p hp => N5 p (.tail _ (.tail _ hp))
end
section
theorem law_t4 {prog : Program} {w : World} {A' : Around} {s0 : Shared} {Q : Flow → Shared → Prop} {base : Heap} {L pr x lw lr : Addr} {code cost : Nat → Int} {way : List Nat} {ring size last : Nat} {left0 : Int} {P : List (Str × Row)} {m : Str → Option Value} {oP : Obj} {X : List (Addr × Obj)}
  (T : TF w base) (hA' : Rm A' 59 297) (F : Fr base L s0.heap m) (N : News base L s0.heap X) (cP : (L + 1, oP) ∈ X) (dP : oP.data = .cell (some (.ref pr)))
  (hP : Kept X (ProfAt prog w P pr)) (hM : Kept X (MeantAt prog w (nmOf code) cost way ring size last left0 x lw lr)) (hw5 : way.length ≤ 5)
  (hcnt : ∀ p, p < way.length → ∃ row : Row, getB P (nmOf code (way.getD p 0)) = some row ∧ (row.2.2.2.2.map (·.2)).sum = turnAt ring size p)
  (hPl : P.length ≤ 10) (hbt : byTime P = way.map (nmOf code))
  (k5 : m (Str.ofString "way") = some (.ref lw)) (k6 : m (Str.ofString "rows") = some (.ref lr))
  (hret : ∀ h' tk', Fr base L h' m → News base L h' X → Q .next (St s0 h' tk')) :
  wpAny (model prog w) A' (execs (lwFor.drop 3) (envOfC (Str.ofString "law") lwS L 187 (.ref 186))) Q (fun _ _ => False) s0 := by
  have eT : lwFor.drop 3 = [_, _] := rfl
  rw [eT]
  clear eT
  have cc : Heap.IsCell s0.heap (L + 1) (some (.ref pr)) := cellMem N cP dP
  repeat' walk1
  refine law_by_time (T.keeps F.keep) (hA'.le (by decide) (by decide)) (hP.here N fun _ h => h) hPl ?_
  intro lb R h2 tk2 st2 hR hS
  have F2 := frStays F st2
  have N2 := newsAddAll F (newsStays N st2) hR
  dsimp only [St] at *
  repeat' walk1
  obtain ⟨bvs, hlb, hsb⟩ := (hS.here N2 fun _ h => List.mem_append_left _ h).x
  obtain ⟨wvs, hlw, hsw⟩ := (hM.here N2 fun _ h => List.mem_append_right _ h).ways.x
  rw [hbt] at hsb
  refine ne_strsF hlb hlw hsb hsw hA'.uroom ?_
  clear hsb hsw hlb hlw
  repeat' ((fail_if_success (with_reducible show wpAny _ _ (execs [_] _) _ _ _)); walk1)
  dsimp only
  rename Fr _ _ _ _ => F3
  rename News _ _ _ _ => N3
  with_unfolding_all refine law_t5 T hA' F3 (fun p hp => N3 p (List.mem_append_right _ hp)) cP dP hP hM hw5 hcnt k5 k6 ?_
  intro h' tk' F' N'
  exact hret h' tk' F' N'
end
section
open PySem.SeqAt
theorem Rm.u1 {A : Around} {d u : Nat} (R : Rm A d u) (h : 1 < u := by omega) : A.in1.units < cLine := by have := R.un; simp only [cLine, Around.in1]; omega
theorem Rm.u2 {A : Around} {d u : Nat} (R : Rm A d u) (h : 2 < u := by omega) : A.in1.in1.units < cLine := by have := R.un; simp only [cLine, Around.in1]; omega
theorem TF.lo' {w : World} {h₀ h : Heap} {L d : Addr} {m : Str → Option Value} (T : TF w h₀) (F : Fr h₀ L h m) (hd : h.objs.size ≤ d) : (d == sysModules) = false := by
  have h1 := T.big
  have h2 := F.above
  have h3 := F.ns.lt
  have a2 : 136 < d := Nat.lt_of_lt_of_le (Nat.lt_trans (Nat.lt_of_lt_of_le h1 h2) h3) hd
  refine beq_eq_false_iff_ne.mpr fun e => ?_
  rw [e] at a2
  exact absurd a2 (by decide)
theorem valueAt_nd {kvs : List (Str × Value)} {j : Nat} {k : Str} {v : Value} (hn : (kvs.map (·.1)).Nodup) (h : kvs[j]? = some (k, v)) : valueAt kvs k = some v := by
  induction kvs generalizing j with
  | nil => simp at h
  | cons p r ih =>
    rw [List.map_cons, List.nodup_cons] at hn
    cases j with
    | zero =>
      obtain rfl : p = (k, v) := by simpa using h
      unfold valueAt
      rw [List.find?_cons_of_pos (by simp)]; rfl
    | succ j =>
      have h' : r[j]? = some (k, v) := by simpa using h
      have hne : p.1 ≠ k := fun e => hn.1 (List.mem_map.mpr ⟨(k, v), List.mem_of_getElem? h', e.symm⟩)
      have := ih hn.2 h'
      unfold valueAt at this ⊢
      rw [List.find?_cons_of_neg (by simpa using hne)]
      exact this
theorem nms_nodup (code : Nat → Int) {way : List Nat} (hlt : ∀ a ∈ way, a < 5) (hn : way.Nodup) : (way.map (nmOf code)).Nodup := by
  induction way with
  | nil => exact .nil
  | cons a r ih =>
    rw [List.nodup_cons] at hn
    rw [List.map_cons, List.nodup_cons]
    refine ⟨fun hm => ?_, ih (fun b hb => hlt b (.tail _ hb)) hn.2⟩
    obtain ⟨b, hb, e⟩ := List.mem_map.mp hm
    exact hn.1 (nm_inj code (hlt b (.tail _ hb)) (hlt a (.head _)) e ▸ hb)
/-- what is known of dict(zip(way, rows)) -/
theorem zip_facts {prog : Program} {w : World} {way : List Nat} {code : Nat → Int} {wvs rvs : List Value} (hsw : StrsAre wvs (way.map (nmOf code))) (hrl : rvs.length = way.length) (hlt : ∀ a ∈ way, a < 5) (hnd : way.Nodup) :
    ((way.map (nmOf code)).zip rvs).length = way.length ∧ (((way.map (nmOf code)).zip rvs).map (·.1)).Nodup ∧
      (∀ (j : Nat) k v, ((way.map (nmOf code)).zip rvs)[j]? = some (k, v) → ∃ key, wvs.toArray[j]? = some key ∧ (strKind prog w).is k key = true ∧ rvs.toArray[j]? = some v) ∧
      (∀ (j : Nat) v, rvs[j]? = some v → valueAt ((way.map (nmOf code)).zip rvs) (nmOf code (way.getD j 0)) = some v) := by
  have hl : ((way.map (nmOf code)).zip rvs).length = way.length := by simp [hrl]
  have hf : ((way.map (nmOf code)).zip rvs).map (·.1) = way.map (nmOf code) := by
    exact List.map_fst_zip (by simp [hrl])
  have hn : (((way.map (nmOf code)).zip rvs).map (·.1)).Nodup := by rw [hf]; exact nms_nodup code hlt hnd
  refine ⟨hl, hn, fun j k v h => ?_, fun j v h => ?_⟩
  · obtain ⟨h1, h2⟩ := List.getElem?_zip_eq_some.mp h
    have hjl : j < wvs.length := by have := (List.getElem?_eq_some_iff.mp h1).1; rw [hsw.len]; exact this
    obtain ⟨x, t, e, hx⟩ := hsw.at j wvs[j] (List.getElem?_eq_getElem hjl)
    have h1' : (way.map (nmOf code))[j]? = some k := h1
    obtain rfl : x = k := Option.some.inj (hx.symm.trans h1')
    exact ⟨wvs[j], by rw [List.getElem?_toArray]; exact List.getElem?_eq_getElem hjl, by rw [e]; exact strKind_is _ _ _ _, by rw [List.getElem?_toArray]; exact h2⟩
  · have hj : j < way.length := by have := (List.getElem?_eq_some_iff.mp h).1; omega
    refine valueAt_nd (j := j) hn (List.getElem?_zip_eq_some.mpr ⟨?_, h⟩)
    rw [List.getElem?_map, List.getElem?_eq_getElem hj, List.getD_eq_getElem?_getD, List.getElem?_eq_getElem hj]; rfl
theorem Rel.at' {β : Type} {R : Value → β → Prop} {l : List (Str × Value)} {l' : List (Str × β)} (x : Rel R l l') (j : Nat) (k : Str) (v : Value) (h : l[j]? = some (k, v)) : ∃ b, l'[j]? = some (k, b) ∧ R v b := by
  induction x generalizing j with
  | nil => simp at h
  | cons k' hv _ ih =>
    cases j with
    | zero =>
      simp only [List.getElem?_cons_zero, Option.some.injEq, Prod.mk.injEq] at h
      obtain ⟨rfl, rfl⟩ := h
      exact ⟨_, rfl, hv⟩
    | succ j => exact ih j (by simpa using h)
theorem rowStay {prog : Program} {w : World} {h h' : Heap} {v : Value} {r : Row} (st : h.StaysIn h') (x : RowAt prog w h v r) : RowAt prog w h' v r :=
  (by obtain ⟨a, c, kv, t1, t2, t3, t4, e, h1, h2, h3, h4⟩ := x; exact ⟨a, c, kv, t1, t2, t3, t4, e, tupStay st h1, h2, h3.keep st, h4⟩)
end
section
theorem law_t3 {prog : Program} {w : World} {A' : Around} {s0 : Shared} {Q : Flow → Shared → Prop} {base : Heap} {L pr x lw lr ld ln lp : Addr} {far : Nat → Nat} {code cost : Nat → Int} {pg fn : Nat → Addr} {way : List Nat} {ring size last : Nat} {left0 : Int} {P : List (Str × Row)} {m : Str → Option Value} {oP : Obj} {X : List (Addr × Obj)} {tl : Tok}
  (T : TF w base) (hA' : Rm A' 59 297) (F : Fr base L s0.heap m) (N : News base L s0.heap X) (cP : (L + 1, oP) ∈ X) (dP : oP.data = .cell (some (.ref pr)))
  (hK : Kept X (Stand prog w far code cost pg fn ld ln lp)) (hP : Kept X (ProfAt prog w P pr)) (hM : Kept X (MeantAt prog w (nmOf code) cost way ring size last left0 x lw lr)) (hw5 : way.length ≤ 5)
  (hcnt : ∀ p, p < way.length → ∃ row : Row, getB P (nmOf code (way.getD p 0)) = some row ∧ (row.2.2.2.2.map (·.2)).sum = turnAt ring size p)
  (hPl : P.length = way.length) (hbt : byTime P = way.map (nmOf code)) (hl5 : last < 5) (hnd : way.Nodup) (hlt : ∀ a ∈ way, a < 5)
  (hmean : ∀ q ∈ P, ∃ p, p < way.length ∧ q.1 = nmOf code (way.getD p 0) ∧ SameRow q.2 (rowM (nmOf code) cost way ring size left0 p))
  (k3 : m (Str.ofString "pages") = some (.ref lp)) (k5 : m (Str.ofString "way") = some (.ref lw)) (k6 : m (Str.ofString "rows") = some (.ref lr)) (k7 : m (Str.ofString "answer") = some (.ref (pg last))) (k8 : m (Str.ofString "last") = some (.str (nmOf code last) tl))
  (hret : ∀ h' tk', Fr base L h' m → News base L h' X → Q .next (St s0 h' tk')) :
  wpAny (model prog w) A' (execs (lwFor.drop 2) (envOfC (Str.ofString "law") lwS L 187 (.ref 186))) Q (fun _ _ => False) s0 := by
  have eT : lwFor.drop 2 = [_, _, _] := rfl
  rw [eT]
  clear eT
  have cc : Heap.IsCell s0.heap (L + 1) (some (.ref pr)) := cellMem N cP dP
  obtain ⟨pkv, hpd, hpv⟩ := (hK.here N fun _ h => h).p.pages
  have hpv' : valueAt pkv (nmOf code last) = some (.ref (pg last)) := hpv last hl5
  repeat' walk1
  have MA := hM.here N fun _ h => h
  obtain ⟨wvs, hlw, hsw⟩ := MA.ways.x
  refine absG ?_; intro PG hPG
  obtain ⟨rvs, hlr, hrl, hrow⟩ := MA.rows
  refine hPG ?_; clear hPG PG
  refine absG ?_; intro PG hPG
  obtain ⟨z1, z2, z3, z4⟩ := zip_facts (prog := prog) (w := w) hsw hrl hlt hnd
  refine hPG ?_; clear hPG PG
  have hwl : wvs.length = way.length := by have := hsw.len; simpa using this
  refine wpAny_mono (dict_zip (knd := strKind prog w) (E := fun _ _ => False) (kvs := (way.map (nmOf code)).zip rvs)
    (Q := fun v s' => ∃ d h' tk, v = .ref d ∧ s' = St s0 h' tk ∧ h'.DictOf (strKind prog w) d ((way.map (nmOf code)).zip rvs) ∧ s0.heap.objs.size ≤ d ∧ s0.heap.StaysIn h')
    hA'.hd hlw hlr (by rw [List.size_toArray, z1]; exact hwl) (by rw [List.size_toArray, z1]; exact hrl) z3 z2 (by rw [z1]; omega) (fun d h' tk a b _ c => ⟨d, h', tk, rfl, rfl, a, b, c⟩)) (fun v s₁ hz => ?_) (fun _ _ x => x.elim)
  walk1
  refine wpAny_mono hz (fun v' s₂ hd => ?_) (fun _ _ x => x.elim)
  refine absG ?_; intro PG hPG
  obtain ⟨d, h2, tk2, rfl, rfl, hdd, hdl, hst⟩ := hd
  refine hPG ?_; clear hPG PG
  clear hz
  have PA := hP.here N fun _ h => h
  obtain ⟨pk, hpk, hrel⟩ := PA.x
  have F2 := frStays F hst
  have N2 := newsStays N hst
  have PA2 := hP.here N2 fun _ h => h
  obtain ⟨pk2, hpk2, hrel2⟩ := PA2.x
  have MA2 := hM.here N2 fun _ h => h
  refine dict_neW (knd := strKind prog w) PA.lo (T.lo' F hdl) hpk2 hdd hA'.uroom (by rw [hrel2.len, hPl, z1]) (fun j k v hj => ?_) ?_
  · obtain ⟨b, hb, hrb⟩ := hrel2.at' j k v hj
    refine absG ?_; intro PG hPG
    obtain ⟨p, hp, e, hsame⟩ := hmean (k, b) (List.mem_of_getElem? hb)
    refine hPG ?_; clear hPG PG
    obtain rfl : k = nmOf code (way.getD p 0) := e
    obtain ⟨y, hy⟩ : ∃ y, rvs[p]? = some y := ⟨rvs[p], List.getElem?_eq_getElem (by omega)⟩
    exact ⟨y, z4 p y hy, row_eqW hrb (rowStay hst (hrow p y hy)) hsame hA'.u2 hA'.u1⟩
  clear hpk2 hrel2 hdd PA2 MA2 hrow z1 z2 z3 z4 hlw hlr hsw
  repeat' ((fail_if_success (with_reducible show wpAny _ _ (execs [_, _] _) _ _ _)); walk1)
  dsimp only
  rename Fr _ _ _ _ => F3
  rename News _ _ _ _ => N3
  with_unfolding_all refine law_t4 T hA' F3 N3 cP dP hP hM hw5 hcnt (by omega) hbt k5 k6 ?_
  intro h' tk' F' N'
  exact hret h' tk' F' N'
end
section
theorem law_t2 {prog : Program} {w : World} {A' : Around} {s0 : Shared} {Q : Flow → Shared → Prop} {base : Heap} {L pr ld ln lp : Addr} {far : Nat → Nat} {code cost : Nat → Int} {pg fn : Nat → Addr} {m : Str → Option Value} {i : Nat} {ti : Tok} {oP : Obj} {X : List (Addr × Obj)}
  (T : TF w base) (hA' : Rm A' 59 297) (hfc : ∀ i, i < 5 → far i < 5 ∧ code i ∈ menu ∧ 1 ≤ cost i ∧ cost i ≤ 50) (hi : i < 5) (F : Fr base L s0.heap m) (N : News base L s0.heap X) (cP : (L + 1, oP) ∈ X) (dP : oP.data = .cell (some (.ref pr)))
  (hK : Kept X (Stand prog w far code cost pg fn ld ln lp)) (hP : Kept X (ProfAt prog w (http (pgOf far code cost) 8 (Str.ofString "start") i M0).2.prof pr))
  (k1 : m (Str.ofString "drawn") = some (.ref ld)) (k2 : m (Str.ofString "names") = some (.ref ln)) (k3 : m (Str.ofString "pages") = some (.ref lp)) (k4 : m (Str.ofString "start") = some (.str (nmOf code i) ti)) (k7 : m (Str.ofString "answer") = some (.ref (pg (http (pgOf far code cost) 8 (Str.ofString "start") i M0).1)))
  (hret : ∀ h' tk' m', Fr base L h' m' → News base L h' X → m' (Str.ofString "drawn") = some (.ref ld) → m' (Str.ofString "names") = some (.ref ln) → m' (Str.ofString "pages") = some (.ref lp) → Q .next (St s0 h' tk')) :
  wpAny (model prog w) A' (execs (lwFor.drop 1) (envOfC (Str.ofString "law") lwS L 187 (.ref 186))) Q (fun _ _ => False) s0 := by
  have eT : lwFor.drop 1 = [_, _, _, _] := rfl
  rw [eT]
  clear eT
  have SK := hK.here N fun _ h => h
  obtain ⟨nvs, hln, hsn⟩ := SK.n.x
  obtain ⟨no, hno, hnod⟩ := SK.n.nd
  repeat' walk1
  refine gmIndex hln (fun o e => by rw [hno] at e; rw [← Option.some.inj e]; exact hnod) ?_
  repeat' walk1
  have h5 : ∀ j, j < 5 → [nmOf code 0, nmOf code 1, nmOf code 2, nmOf code 3, nmOf code 4][j]? = some (nmOf code j) := by
    intro j hj
    have : j = 0 ∨ j = 1 ∨ j = 2 ∨ j = 3 ∨ j = 4 := five (by omega)
    rcases this with rfl | rfl | rfl | rfl | rfl <;> rfl
  refine idxStr (its := nvs.toArray) hln hsn (h5 i hi) (fun q hq e => ?_) (by omega) ?_
  · rw [h5 q (by omega)] at e
    exact absurd (nm_inj code (by omega) hi (Option.some.inj e)) (by omega)
  intro t1
  dsimp only [St]
  repeat' walk1
  refine law_meant (T.keeps F.keep) (hA'.le (by decide) (by decide)) SK.d SK.n (fun j hj => (hfc j hj).1) (fun j hj => (hfc j hj).2.2) hi ?_
  intro x lw lr R way place h2 tk2 st2 hR hway hend hM
  have F2 := frStays F st2
  have N2 := newsAddAll F (newsStays N st2) hR
  have MA := hM.here N2 fun _ h => List.mem_append_left _ h
  obtain ⟨tt, htup⟩ := MA.tup
  clear MA SK hln hsn hno hnod
  dsimp only [St]
  repeat' ((fail_if_success (with_reducible show wpAny _ _ (execs [_, _, _] _) _ _ _)); walk1)
  rename Fr _ _ _ _ => F3
  rename News _ _ _ _ => N3
  clear F N F2 N2
  dsimp only
  have hans : (http (pgOf far code cost) 8 (Str.ofString "start") i M0).1 = (if place ∈ way then way.getD (way.idxOf place + (8 - way.idxOf place) % max (way.length - way.idxOf place) 1) 0 else place) :=
    (http_run (pgOf far code cost) 8 (Str.ofString "start") i M0).1.trans (ans_is hway hend)
  rw [hans] at k7
  have hl5 : (if place ∈ way then way.getD (way.idxOf place + (8 - way.idxOf place) % max (way.length - way.idxOf place) 1) 0 else place) < 5 := by
    split
    · rw [List.getD_eq_getElem?_getD]
      cases q : way[way.idxOf place + (8 - way.idxOf place) % max (way.length - way.idxOf place) 1]? with
      | none => decide
      | some b => exact hway.lt b (List.mem_of_getElem? q)
    · exact hway.plt
  have hin : ∀ p ∈ X, p ∈ R ++ X := fun p hp => List.mem_append_right _ hp
  refine law_t3 T hA' F3 N3 (hin _ cP) dP (hK.more hin) (hP.more hin) (hM.more fun p hp => List.mem_append_left _ hp) hway.len (counts_is hway hend) (prof_len hway hend) (time_is hway hend fun a ha => (hfc a (hway.lt a ha)).2.2.1) hl5 hway.nodup hway.lt (meant_is hway hend) k3 rfl rfl k7 rfl ?_
  intro h' tk' F' N'
  exact hret h' tk' _ F' (fun p hp => N' p (hin p hp)) k1 k2 k3
end
section
theorem law_turn {prog : Program} {w : World} {A' : Around} {s0 : Shared} {Q : Flow → Shared → Prop} {base : Heap} {L ld ln lp : Addr} {far : Nat → Nat} {code cost : Nat → Int} {pg fn : Nat → Addr} {m : Str → Option Value} {i : Nat} {ti : Tok} {ps : Array Value} {oP : Obj} {v₀ : Option Value} {K Rn own : List (Addr × Obj)}
  (T : TF w base) (hA' : Rm A' 59 297) (hfc : ∀ i, i < 5 → far i < 5 ∧ code i ∈ menu ∧ 1 ≤ cost i ∧ cost i ≤ 50) (hi : i < 5)
  (hK : Kept K (Stand prog w far code cost pg fn ld ln lp)) (hzK : ∀ p ∈ K, p.1 ≠ 167 ∧ p.1 ≠ L + 1) (hc : L + 1 ≠ 167) (hown : ∀ p ∈ own, p.1 ≠ 167 ∧ p.1 ≠ L + 1) (hRn : ∀ p ∈ Rn, p.1 ≠ 167 ∧ p.1 ≠ L + 1) (hps : TabSt errPos errQ Rn ps) (dP : oP.data = .cell v₀)
  (F : Fr base L s0.heap m) (N : News base L s0.heap ((167, tabObj ps) :: (L + 1, oP) :: (Rn ++ K ++ own)))
  (k1 : m (Str.ofString "drawn") = some (.ref ld)) (k2 : m (Str.ofString "names") = some (.ref ln)) (k3 : m (Str.ofString "pages") = some (.ref lp)) (k4 : m (Str.ofString "start") = some (.str (nmOf code i) ti))
  (hret : ∀ h' tk' m' ps' oP' v' R', Fr base L h' m' → News base L h' ((167, tabObj ps') :: (L + 1, oP') :: (R' ++ K ++ own)) → oP'.data = .cell v' → TabSt errPos errQ R' ps' → (∀ p ∈ R', p.1 ≠ 167 ∧ p.1 ≠ L + 1) → (∀ p ∈ R', p ∈ Rn ∨ ∀ q ∈ own, p.1 ≠ q.1) →
    m' (Str.ofString "drawn") = some (.ref ld) → m' (Str.ofString "names") = some (.ref ln) → m' (Str.ofString "pages") = some (.ref lp) → Q .next (St s0 h' tk')) :
  wpAny (model prog w) A' (execs lwFor (envOfC (Str.ofString "law") lwS L 187 (.ref 186))) Q (fun _ _ => False) s0 := by
  have eT : lwFor = [_, _, _, _, _] := rfl
  rw [eT]
  clear eT
  have hb : base.get? 167 = none := (N _ (.head _)).2.2
  have hL : L ≠ 167 := fun e => (N _ (.head _)).2.1 e.symm
  have hmus : ∀ b ∈ [167], base.get? b = none := fun b hb' => by rw [List.mem_singleton.mp hb']; exact hb
  have hbase := hidOf F hmus
  have hKin : ∀ p ∈ K, p ∈ (167, tabObj ps) :: (L + 1, oP) :: (Rn ++ K ++ own) := fun p hp => .tail _ (.tail _ (List.mem_append_left _ (List.mem_append_right _ hp)))
  have hRin : ∀ p ∈ Rn, p ∈ (167, tabObj ps) :: (L + 1, oP) :: (Rn ++ K ++ own) := fun p hp => .tail _ (.tail _ (List.mem_append_left _ (List.mem_append_left _ hp)))
  have SK := hK (hideAll s0.heap [167]) fun p hp => hideAll_get _ (N p (hKin p hp)).1 (by simpa using (hzK p hp).1)
  have fine := fine_of hfc
  repeat' walk1
  with_unfolding_all refine law_walk (D := pgOf far code cost) (i := i) (R := Rn) (T.keeps hbase) (hA'.le (by decide) (by decide)) (N _ (.head _)).1 hps (fun p hp => hideAll_get _ (N p (hRin p hp)).1 (by simpa using (hRn p hp).1)) SK.p fine.fars (fun j hj => ⟨Int.le_trans (by decide) (fine.costs j hj).1, Int.lt_trans (fine.costs j hj).2 (by decide)⟩) hi ?_
  intro x pr R' ps' h2 tk2 st2 ht2 hps' hR' hR'' hsub hKx
  have hfr : ∀ p ∈ R', p ∈ Rn ∨ ∀ q, s0.heap.get? q ≠ none → p.1 ≠ q := fun p hp => (hR'' p hp).imp (fun h => h) fun h q hq e => hq (e ▸ h)
  have hz' : ∀ p ∈ R', p.1 ≠ 167 ∧ p.1 ≠ L + 1 := fun p hp => (hfr p hp).elim (hRn p) fun h => ⟨h 167 (by rw [(N _ (.head _)).1]; exact nofun), h (L + 1) (by rw [(N _ (.tail _ (.head _))).1]; exact nofun)⟩
  have hown' : ∀ p ∈ R', p ∈ Rn ∨ ∀ q ∈ own, p.1 ≠ q.1 := fun p hp => (hfr p hp).imp (fun h => h) fun h q hq => h q.1 (by rw [(N q (.tail _ (.tail _ (List.mem_append_right _ hq)))).1]; exact nofun)
  have F2 := backF F (by simpa using hL) hmus st2
  have N2 : News base L h2 ([(167, tabObj ps')] ++ (L + 1, oP) :: (R' ++ K ++ own)) := by
    intro p hp
    have old : ∀ {p : Addr × Obj}, p ∈ (167, tabObj ps) :: (L + 1, oP) :: (Rn ++ K ++ own) → p.1 ≠ 167 → (h2.get? p.1 = some p.2 ∧ p.1 ≠ L ∧ base.get? p.1 = none) := fun {p} hp hne => ⟨st2 _ _ (hideAll_get _ (N p hp).1 (by simpa using hne)), (N p hp).2⟩
    rcases List.mem_cons.mp hp with rfl | hp
    · exact ⟨ht2, (N _ (.head _)).2⟩
    rcases List.mem_cons.mp hp with rfl | hp
    · exact old (.tail _ (.head _)) hc
    rcases List.mem_append.mp hp with hp | hp
    · rcases List.mem_append.mp hp with hp | hp
      · refine ⟨hR' p hp, ?_⟩
        rcases hR'' p hp with h | h
        · exact (N p (hRin p h)).2
        · refine ⟨fun e => ?_, ?_⟩
          · refine absG ?_; intro PG hPG
            obtain ⟨oL, _, _, hL', _⟩ := F.ns
            refine hPG ?_; clear hPG PG
            rw [e] at h; exact nomatch h.symm.trans hL'
          · cases q : base.get? p.1 with
            | none => rfl
            | some o => exact nomatch h.symm.trans (F.keep _ _ q)
      · exact old (hKin p hp) (hzK p hp).1
    · exact old (.tail _ (.tail _ (List.mem_append_right _ hp))) (hown p hp).1
  have htup := (hKx h2 hR').1
  have hz2 : ∀ p ∈ R' ++ K ++ own, p.1 ≠ L + 1 := fun p hp => by
    rcases List.mem_append.mp hp with hp | hp
    · rcases List.mem_append.mp hp with hp | hp
      · exact (hz' p hp).2
      · exact (hzK p hp).2
    · exact (hown p hp).2
  clear F N SK hbase st2 hR' hR'' hfr
  dsimp only [St]
  repeat' walk1
  rename Fr _ _ _ _ => F3
  rename News _ _ _ _ => N3
  with_unfolding_all refine stCell (own := [(167, tabObj ps')]) F3 N3 rfl (fun p hp => by rw [List.mem_singleton.mp hp]; exact hc.symm) hz2 dP ?_
  intro h4 oP' F4 N4 dP'
  dsimp only [St]
  clear F2 N2 F3 N3
  repeat' ((fail_if_success (with_reducible show wpAny _ _ (execs [_, _, _, _] _) _ _ _)); walk1)
  refine law_t2 (pr := pr) T hA' hfc hi F4 N4 (.tail _ (.head _)) dP' (hK.more fun p hp => .tail _ (.tail _ (List.mem_append_left _ (List.mem_append_right _ hp)))) ((hKx.imp fun _ h => h.2).more fun p hp => .tail _ (.tail _ (List.mem_append_left _ (List.mem_append_left _ hp)))) k1 k2 k3 k4 rfl ?_
  intro h' tk' m' F' N' e1 e2 e3
  exact hret h' tk' m' ps' oP' _ R' F' N' dP' hps' hz' hown' e1 e2 e3
end
section
theorem law_ {prog : Program} {w : World} {A : Around} {s : Shared} {R : Result → Shared → Prop} {l : Addr} {vs : List Value} {ns : List Int} (T : TF w (hideAll s.heap [153, 167])) (hA : Rm A 60 300)
  (ht1 : s.heap.get? 153 = some (tabObj #[])) (ht2 : s.heap.get? 167 = some (tabObj #[])) (hl : (hideAll s.heap [153, 167]).IsList l vs.toArray) (hi : IntsAre vs ns) (hlen : vs.length ≤ 63)
  (hret : ∀ h' tk' ps1 ps2, (hideAll s.heap [153, 167]).StaysIn h' → h'.get? 153 = some (tabObj ps1) → h'.get? 167 = some (tabObj ps2) → R (.ok (.ret (.bool true))) (St s h' tk')) :
  codeAny (model prog w) A (.call (.ref 187) ⟨[.ref l], []⟩) R s := by
  refine (enterC (d := 59) (u := 297) (mus := [153, 167]) (news := [(153, tabObj #[]), (167, tabObj #[])]) (binds := [(Str.ofString "script", .ref l)])
    T hA (of_hid _ _ (T.k _ _ (by k_is))) rfl ((codeRec_of T.k (by k_is)).keeps of_hid) rfl rfl (by decide) (fun p hp => by
      rcases List.mem_cons.mp hp with rfl | hp
      · exact ⟨.head _, ht1⟩
      · rw [List.mem_singleton.mp hp]; exact ⟨.tail _ (.head _), ht2⟩) ?_)
  intro h₁ tk1 A' cells hA' F N Y st htk
  have Y' : CellsAre _ [(Str.ofString "profile", s.heap.objs.size + 1)] cells := Y
  obtain ⟨oP, rfl, dP⟩ := CellsAre.one Y'
  clear Y' Y
  have lt1 : 153 < s.heap.objs.size := Heap.lt_size ht1
  have lt2 : 167 < s.heap.objs.size := Heap.lt_size ht2
  have b1 : (hideAll s.heap [153, 167]).get? 153 = none := hideAll_none _ (.head _)
  have b2 : (hideAll s.heap [153, 167]).get? 167 = none := hideAll_none _ (.tail _ (.head _))
  have n1 : (167 : Addr) ≠ s.heap.objs.size + 1 := Nat.ne_of_lt (Nat.lt_succ_of_lt lt2)
  have n2 : (153 : Addr) ≠ s.heap.objs.size + 1 := Nat.ne_of_lt (Nat.lt_succ_of_lt lt1)
  have N0 : News (hideAll s.heap [153, 167]) s.heap.objs.size h₁ [(153, tabObj #[]), (167, tabObj #[]), (s.heap.objs.size + 1, oP)] := fun p hp => N p (by
    simp only [List.mem_append, List.mem_cons, List.not_mem_nil, or_false] at hp ⊢
    rcases hp with h | h | h
    · exact .inr (.inl h)
    · exact .inr (.inr h)
    · exact .inl h)
  clear N
  obtain ⟨v₀, dP⟩ : ∃ (v₀ : Option Value), oP.data = .cell v₀ := ⟨_, dP⟩
  repeat' walk1
  refine law_drawn (T.keeps F.keep) (hA'.le (by decide) (by decide)) (listKeep F hl) hi hlen ?_
  intro ld Rd far code cost h2 tk2 st2 hRd hKd hfc
  dsimp only at st2 hRd
  have F2 := frStays F st2
  have N2 := newsAddAll F (newsStays N0 st2) hRd
  have fine := fine_of hfc
  have hcd : ∀ i, i < 5 → 0 ≤ code i ∧ code i < 1000 := fun i hi => ⟨Int.le_trans (by decide) (fine.codes i hi).1, (fine.codes i hi).2⟩
  have hn2 : ∀ p ∈ Rd, p.1 ≠ 153 ∧ p.1 ≠ 167 ∧ p.1 ≠ s.heap.objs.size + 1 := fun p hp =>
    ⟨(fresh_ne N0 (hRd p hp).2 _ (.head _)).symm, (fresh_ne N0 (hRd p hp).2 _ (.tail _ (.head _))).symm, (fresh_ne N0 (hRd p hp).2 _ (.tail _ (.tail _ (.head _)))).symm⟩
  clear F N0 hRd
  dsimp only [St]
  repeat' walk1
  rename Fr _ _ _ _ => F3
  rename News _ _ _ _ => N3
  clear F2 N2
  refine law_names (T.keeps F3.keep) (hA'.le (by decide) (by decide)) (hKd.here N3 fun p hp => List.mem_append_left _ hp) hcd ?_
  intro ln Rn h4 tk4 st4 hRn hKn
  dsimp only at st4 hRn
  have F4 := frStays F3 st4
  have N4 := newsAddAll F3 (newsStays N3 st4) hRn
  have hn4 : ∀ p ∈ Rn, p.1 ≠ 153 ∧ p.1 ≠ 167 ∧ p.1 ≠ s.heap.objs.size + 1 := fun p hp =>
    ⟨(fresh_ne N3 (hRn p hp).2 _ (List.mem_append_right _ (.head _))).symm, (fresh_ne N3 (hRn p hp).2 _ (List.mem_append_right _ (.tail _ (.head _)))).symm, (fresh_ne N3 (hRn p hp).2 _ (List.mem_append_right _ (.tail _ (.tail _ (.head _))))).symm⟩
  clear F3 N3 hRn
  dsimp only [St]
  repeat' walk1
  rename Fr _ _ _ _ => F5
  rename News _ _ _ _ => N5
  clear F4 N4
  have hmus : ∀ b ∈ [153], (hideAll s.heap [153, 167]).get? b = none := fun b hb => by rw [List.mem_singleton.mp hb]; exact b1
  have hbase := hidOf F5 hmus
  have hL : s.heap.objs.size ∉ [153] := by simpa using Nat.ne_of_gt lt1
  have hz : ∀ p ∈ Rn ++ Rd, p.1 ≠ 153 ∧ p.1 ≠ 167 ∧ p.1 ≠ s.heap.objs.size + 1 := fun p hp => (List.mem_append.mp hp).elim (hn4 p) (hn2 p)
  have hin : ∀ p ∈ Rn ++ Rd, p ∈ Rn ++ (Rd ++ [(153, tabObj #[]), (167, tabObj #[]), (s.heap.objs.size + 1, oP)]) := fun p hp => (List.mem_append.mp hp).elim (List.mem_append_left _) fun h => List.mem_append_right _ (List.mem_append_left _ h)
  have hst : ∀ p ∈ Rn ++ Rd, (hideAll _ [153]).get? p.1 = some p.2 := fun p hp => hideAll_get _ (N5 p (hin p hp)).1 (by simpa using (hz p hp).1)
  refine law_pages (R := []) (T.keeps hbase) (hA'.le (by decide) (by decide)) (N5 _ (List.mem_append_right _ (List.mem_append_right _ (.head _)))).1 (.inl rfl) (fun _ h => nomatch h) (hKd _ fun p hp => hst p (List.mem_append_right _ hp)) (hKn _ fun p hp => hst p (List.mem_append_left _ hp)) fine ?_
  intro lp R' ps' fn pg h6 tk6 st6 ht6 _ hR' hR'' _ hKp
  have F6 := backF F5 hL hmus st6
  have N6 : News (hideAll s.heap [153, 167]) s.heap.objs.size h6 ((167, tabObj #[]) :: (s.heap.objs.size + 1, oP) :: (153, tabObj ps') :: (R' ++ (Rn ++ Rd))) := by
    intro p hp
    have old : ∀ {p : Addr × Obj}, p ∈ Rn ++ (Rd ++ [(153, tabObj #[]), (167, tabObj #[]), (s.heap.objs.size + 1, oP)]) → p.1 ≠ 153 → (h6.get? p.1 = some p.2 ∧ p.1 ≠ s.heap.objs.size ∧ (hideAll s.heap [153, 167]).get? p.1 = none) := fun {p} hp hne =>
      ⟨st6 _ _ (hideAll_get _ (N5 p hp).1 (by simpa using hne)), (N5 p hp).2⟩
    rcases List.mem_cons.mp hp with rfl | hp
    · exact old (List.mem_append_right _ (List.mem_append_right _ (.tail _ (.head _)))) (by decide)
    rcases List.mem_cons.mp hp with rfl | hp
    · exact old (List.mem_append_right _ (List.mem_append_right _ (.tail _ (.tail _ (.head _))))) n2.symm
    rcases List.mem_cons.mp hp with rfl | hp
    · exact ⟨ht6, (N5 (153, tabObj #[]) (List.mem_append_right _ (List.mem_append_right _ (.head _)))).2⟩
    rcases List.mem_append.mp hp with hp | hp
    · have hf := (hR'' p hp).resolve_left (fun h => nomatch h)
      refine ⟨hR' p hp, fun e => ?_, ?_⟩
      · refine absG ?_; intro PG hPG
        obtain ⟨oL, _, _, hL, _⟩ := F5.ns
        refine hPG ?_; clear hPG PG
        rw [e] at hf; exact nomatch hf.symm.trans hL
      · cases q : (hideAll s.heap [153, 167]).get? p.1 with
        | none => rfl
        | some o => exact nomatch hf.symm.trans (F5.keep _ _ q)
    · exact old (hin p hp) (hz p hp).1
  have hz6 : ∀ p ∈ (153, tabObj ps') :: (R' ++ (Rn ++ Rd)), p.1 ≠ 167 ∧ p.1 ≠ s.heap.objs.size + 1 := fun p hp => by
    rcases List.mem_cons.mp hp with rfl | hp
    · exact ⟨(by decide : (153 : Nat) ≠ 167), n2⟩
    rcases List.mem_append.mp hp with hp | hp
    · have hf := (hR'' p hp).resolve_left (fun h => nomatch h)
      exact ⟨(fresh_ne N5 hf _ (List.mem_append_right _ (List.mem_append_right _ (.tail _ (.head _))))).symm, (fresh_ne N5 hf _ (List.mem_append_right _ (List.mem_append_right _ (.tail _ (.tail _ (.head _)))))).symm⟩
    · exact (hz p hp).2
  have hK : Kept ((153, tabObj ps') :: (R' ++ (Rn ++ Rd))) (Stand prog w far code cost pg fn ld ln lp) := fun g hg' =>
    have hg : ∀ p ∈ R' ++ (Rn ++ Rd), g.get? p.1 = some p.2 := fun p hp => hg' p (.tail _ hp)
    ⟨hKd g fun p hp => hg p (List.mem_append_right _ (List.mem_append_right _ hp)), hKn g fun p hp => hg p (List.mem_append_right _ (List.mem_append_left _ hp)), hKp g fun p hp => hg p (List.mem_append_left _ hp)⟩
  have h153 : (153, tabObj ps') ∈ (153, tabObj ps') :: (R' ++ (Rn ++ Rd)) := .head _
  generalize (153, tabObj ps') :: (R' ++ (Rn ++ Rd)) = K at N6 hz6 hK h153
  clear hn2 hn4 hz hin hst hR' hR'' hKd hKn hKp F5 N5 st6 hbase
  dsimp only [St]
  repeat' walk1
  rename Fr _ _ _ _ => F7
  rename News _ _ _ _ => N7
  clear F6 N6
  have SK := hK.here N7 fun p hp => .tail _ (.tail _ hp)
  obtain ⟨nvs, hln, hsn⟩ := SK.n.x
  have hlnK : ln ≠ 167 ∧ ln ≠ s.heap.objs.size + 1 ∧ ln ≠ s.heap.objs.size := by
    refine absG ?_; intro PG hPG
    obtain ⟨ol, hol, _, nl, hdl⟩ := id hln
    refine hPG ?_; clear hPG PG
    refine ⟨fun e => ?_, fun e => ?_, fun e => ?_⟩
    · have h1 := (N7 _ (.head _)).1
      rw [e] at hol
      rw [Option.some.inj (hol.symm.trans h1)] at hdl; exact nomatch hdl
    · have h1 := (N7 _ (.tail _ (.head _))).1
      rw [e] at hol
      rw [Option.some.inj (hol.symm.trans h1), dP] at hdl; exact nomatch hdl
    · refine absG ?_; intro PG hPG
      obtain ⟨oL, es, ep, hL', hd', _⟩ := F7.ns
      refine hPG ?_; clear hPG PG
      rw [e] at hol
      rw [Option.some.inj (hol.symm.trans hL'), hd'] at hdl; exact nomatch hdl
  refine turnsList (vs := nvs) hA'.hd F7 (news := (167, tabObj #[]) :: (s.heap.objs.size + 1, oP) :: K) N7 hln hlnK.2.2
    (fun i m nx => ∃ (ps2 : Array Value) (oP2 : Obj) (v2 : Option Value) (Rn : List (Addr × Obj)), nx = (167, tabObj ps2) :: (s.heap.objs.size + 1, oP2) :: (Rn ++ K) ∧ TabSt errPos errQ Rn ps2 ∧ oP2.data = .cell v2 ∧ (∀ p ∈ Rn, p.1 ≠ 167 ∧ p.1 ≠ s.heap.objs.size + 1) ∧
      m (Str.ofString "drawn") = some (.ref ld) ∧ m (Str.ofString "names") = some (.ref ln) ∧ m (Str.ofString "pages") = some (.ref lp))
    ⟨#[], oP, v₀, [], rfl, .inl rfl, dP, (fun _ h => nomatch h), rfl, rfl, rfl⟩ ?_ ?_
  · intro i v m₁ news₁ h tk own hv hXG hown F8 N8
    refine absG ?_; intro PG hPG
    obtain ⟨ps2, oP2, v2, Rn, rfl, hps2, dP2, hRn, k1, k2, k3⟩ := hXG
    refine hPG ?_; clear hPG PG
    refine absG ?_; intro PG hPG
    obtain ⟨y, ty, rfl, hy⟩ := hsn.at i v hv
    refine hPG ?_; clear hPG PG
    have hi : i < 5 := by have := (List.getElem?_eq_some_iff.mp hy).1; simpa using this
    have hy' : y = nmOf code i := by
      have : i = 0 ∨ i = 1 ∨ i = 2 ∨ i = 3 ∨ i = 4 := five (by omega)
      rcases this with rfl | rfl | rfl | rfl | rfl <;> exact (Option.some.inj hy).symm
    subst hy'
    have ho : ∀ p ∈ own, p.1 ≠ 167 ∧ p.1 ≠ s.heap.objs.size + 1 := fun p hp => ⟨fun e => hlnK.1 ((hown p hp _ (.head _) e).symm.trans e), fun e => hlnK.2.1 ((hown p hp _ (.tail _ (.head _)) e).symm.trans e)⟩
    walk1
    walk1
    rename Fr _ _ _ _ => F9
    rename News _ _ _ _ => N9
    clear F8 N8
    with_unfolding_all refine law_turn (L := s.heap.objs.size) (K := K) (Rn := Rn) (own := own) T hA' hfc hi hK hz6 n1.symm ho hRn hps2 dP2 F9 N9 k1 k2 k3 rfl ?_
    intro h' tk' m' ps3 oP3 v3 R3 F' N' d3 hps3 hR3 hR3' e1 e2 e3
    refine turnEnd F' N' (nx := (167, tabObj ps3) :: (s.heap.objs.size + 1, oP3) :: (R3 ++ K)) ?_ ?_ ?_ ⟨ps3, oP3, v3, R3, rfl, hps3, d3, hR3, e1, e2, e3⟩
    · intro p hp
      rcases List.mem_cons.mp hp with rfl | hp
      · exact .head _
      rcases List.mem_cons.mp hp with rfl | hp
      · exact .tail _ (.head _)
      · exact .tail _ (.tail _ (List.mem_append_left _ hp))
    · exact fun p hp => .tail _ (.tail _ (List.mem_append_right _ hp))
    · intro p hp
      rcases List.mem_cons.mp hp with rfl | hp
      · exact .inl (.head _)
      rcases List.mem_cons.mp hp with rfl | hp
      · exact .inl (.tail _ (.head _))
      rcases List.mem_append.mp hp with hp | hp
      · exact (hR3' p hp).imp (fun h => .tail _ (.tail _ (List.mem_map_of_mem (List.mem_append_left _ h)))) fun h => h
      · exact .inl (.tail _ (.tail _ (List.mem_map_of_mem (List.mem_append_right _ hp))))
  · intro m₁ news₁ h tk hXG F8 N8
    refine absG ?_; intro PG hPG
    obtain ⟨ps2, oP2, v2, Rn, rfl, hps2, dP2, hRn, k1, k2, k3⟩ := hXG
    refine hPG ?_; clear hPG PG
    repeat' walk1
    exact hret _ _ ps' ps2 F8.keep (N8 (153, tabObj ps') (.tail _ (.tail _ (List.mem_append_right _ h153)))).1 (N8 _ (.head _)).1
end
end Mine
namespace Mine
theorem big_room : Rm callerA 60 300 := ⟨rfl, by decide, by decide⟩
end Mine
theorem PySem.Challenge.cw_pg0151_01_holds : PySem.Challenge.rw_pg0151_01.Holds := by
  refine Mine.hd ?_
  k_fill
  intro w s₀ s₁ mg mb G Y fa o pm cd doc dV kV ho hdd hcd hD hmg hg args vals as hpre hlay hrd hwl hlo
  have KX := km_in_of Y
  km_tabs Y
  refine Ground.open G ?_
  intro T B D TE TW
  wrow_args hpre hlay hrd hwl hlo
  rename List Int => ns
  rename IntsAre _ _ => hi
  rename Heap.IsList _ _ _ => hl
  have e1 : mg (Str.ofString "law") = some (.ref 187) := mg_of KX T.g (by k_is)
  have e2 : fa = 187 := Value.ref.inj (Option.some.inj ((show mg (Str.ofString "law") = some (.ref fa) from hmg).symm.trans e1))
  subst e2
  clear hdd hcd hD hmg ho
  have hT : TabsAt [(157, 153), (171, 167)] s₁.heap := List.forall_mem_cons.mpr ⟨⟨codeHd_of_K (c := 157) (P := 153) KX (by kernel_rfl), hT8 153 (by k_mem)⟩, List.forall_mem_cons.mpr ⟨⟨codeHd_of_K (c := 171) (P := 167) KX (by kernel_rfl), hT8 167 (by k_mem)⟩, fun _ h => nomatch h⟩⟩
  have TT : Mine.TF w (hideAll s₁.heap [153, 167]) := by
    have C := ghost_code hT
    have t := ghost_top hT T
    exact ⟨ghost_K hT KX (by kernel_rfl), t.nolimit, ⟨_, t.g⟩, ⟨_, t.b, t.builtins⟩, t.nodigits, ⟨_, _, _, _, _, t⟩, C.1, C.2.1⟩
  refine enter_call ?_
  refine kn_post hT (fun _ _ => rfl) ?_
  refine Mine.law_ TT Mine.big_room (hT8 153 (by k_mem)) (hT8 167 (by k_mem)) (ghost_list hT hl) hi ?_ ?_
  · have := hi.length
    omega
  · intro h' tk' ps1 ps2 st e153 e167
    refine ⟨⟨.inl ⟨_, .bool true, [], rfl, fun _ => rfl, (.bool true), ?_, unshared_nil⟩, st, rfl, hg⟩, ⟨ps1, e153⟩, ⟨ps2, e167⟩, trivial⟩
    first
      | (with_unfolding_all rfl)
      | kernel_rfl
      | decide

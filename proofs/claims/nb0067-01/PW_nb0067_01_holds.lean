import PyProof.Rows.All
import Wide.All
import OpenK.AllK
import Wide.FinOn
import PySem.Challenge.RW_nb0067_01
set_option Elab.async false
section
open PySem PySem.W PyProof.Rows
namespace Mine
set_option maxRecDepth 100000 in
set_option maxHeartbeats 8000000 in
open_top hd for PySem.Challenge.rw_nb0067_01
end Mine
end
section
open PySem PySem.W PyProof.Rows PySem.Calls
namespace Mine


section
variable {prog : Program} {w : World} {A₀ A : Around} {s : Shared} {base h₀ : Heap} {outer : List Env} {L : Addr} {m mg mb : Str → Option Value} {env : Env} {K : Frag} {p : Program} {loose : List Str} {mean : ExcName → Option Value}
  {R : Result → Shared → Prop} {name qual : Str} {params : Arguments} {body : List Stmt} {scope : Scope} {dV kV doc pm cdv ct oc : Value} {an od : Option Addr} {osl : Array (Option Value)} {f : Addr} {args : Args} {binds : List (Str × Value)}

/-- entering a def with an empty ledger: the callee keeps the whole heap -/
theorem enter0 (B : Below A₀ base outer h₀) (F : Fr h₀ L s.heap m) (X₀ : K.In h₀) (T : Top p loose mean mg mb h₀) (hA : A.frames = some (env :: outer)) (hf : env.frame = some L) (hke : env.scope.kind = .function)
    (ho : K.lookup f = some ⟨oc, od, .func (fnOf name qual params body scope dV kV doc pm an cdv ct), osl⟩) (hcd : codeIn K cdv qual = true) (hroom : A.depth < recursionLimit)
    (hbind : BindsTo s (fnOf name qual params body scope dV kV doc pm an cdv ct) args binds) (hloc : ∀ y ∈ binds, scope.names.lookup y.1 = some .local)
    (h : ∀ L' h₁, Fr s.heap L' h₁ (fun y => binds.reverse.lookup y) → News s.heap L' h₁ [] → Below A base (env :: outer) s.heap → K.In s.heap → Top p loose mean mg mb s.heap →
      wpAny (model prog w) (A.deeper (envOf qual scope L' f cdv)) (execs body (envOf qual scope L' f cdv))
        (fun fl s' => LeaveK h₀ L m s.heap R (match fl with | .ret v => v | _ => .none) s')
        (fun e s' => wpAny (model prog w) (A.deeper (envOf qual scope L' f cdv)) (leaving (envOf qual scope L' f cdv) e) (fun _ s'' => R (.error e) s'') (fun e' s'' => R (.error e') s'') s')
        { s with heap := h₁, toks := s.toks + binds.length })
    (hco : scope.isCoroutine = false) (hgen : scope.isGenerator = false) (hk : scope.kind = .function)
    (hcell : ∀ x ∈ scope.names, x.2 ≠ .cell) : codeAny (model prog w) A (.call (.ref f) args) R s := by
  obtain ⟨FG, BG, st, lv⟩ := groundX (R := R) B F (News.nil : News h₀ L s.heap []) hA hf hke
  refine codeAny_call_def (fd := fnOf name qual params body scope dV kV doc pm an cdv ct) (body := body) (binds := binds) hroom ((X₀.keeps F.keep) _ _ ho) rfl (T.nolimit.keeps F.keep) (codeRec_of (X₀.keeps F.keep) hcd) rfl hbind hcell hloc (fun h₁ hns hk₁ => ?_) hco hgen hk
  exact wpAny_mono (h s.heap.objs.size h₁ ⟨hns, fun b o e => hk₁ b o e, Nat.le_refl _⟩ News.nil BG (X₀.keeps F.keep) (T.keeps F.keep)) (fun fl s' hl => lv _ _ hl) fun _ _ y => y
end
end Mine
end
section
open PySem PySem.W PyProof.Rows PySem.Calls
set_option maxRecDepth 100000
namespace Mine
section
variable {prog : Program} {w : World} {A : Around} {E : Value → Shared → Prop} {s : Shared}

theorem typeIs_dict {s : Shared} {D : Addr} {es : List DictEntry} {n : Nat} (hD : s.heap.get? D = some (dictOf es n)) : s.TypeIs (.ref D) "dict" := ⟨_, hD, rfl⟩
theorem dict_iter : typeLookup (.type "dict") "__iter__" = pure (some (.builtin "dict.__iter__")) := by
  rw [typeLookup_type, builtinLookup_eq_fast]; kernel_rfl
theorem dict_sub : isSubtype (.type "dict") (.type "dict") = pure true := by
  rw [isSubtype_type]; kernel_rfl

theorem find_empty {d : Addr} {k : Str} {t : Tok} {hsh : Int} {Q : Option Nat → Shared → Prop} (hd : s.heap.get? d = some (dictOf [] 0)) (h : Q none s) :
    wpAny (model prog w) A (dictFind d (.str k t) hsh) Q E s := by
  unfold dictFind
  refine wpAny_holding (wpAny_bind (wpAny_dictEntries hd rfl ?_))
  have e : ((([] : List DictEntry).toArray).all fun e => isExactStrKey e.key) = true := by simp
  simp only [e, if_true]
  have e2 : foundByValue d (.str k t) ([] : List DictEntry).toArray k = pure none := by
    unfold foundByValue
    simp
  first
    | exact wpAny_of_eq e2 h
    | exact wpAny_bind (wpAny_of_eq e2 (wpAny_pure h))
theorem merge_kw {d D : Addr} {es : List DictEntry} {n : Nat} {Q : Unit → Shared → Prop}
    (hd : s.heap.get? d = some (dictOf [] 0)) (hD : s.heap.get? D = some (dictOf es n)) (hne : d ≠ D) (hsys : (D == sysModules) = false)
    (hes : es = [] ∨ ∃ hsh k t v, es = [⟨hsh, .str k t, v⟩])
    (h : ∀ h', (∀ b o, b ≠ d → s.heap.get? b = some o → h'.get? b = some o) → (∃ n', h'.get? d = some (dictOf es n')) → Q () { s with heap := h' }) :
    wpAny (model prog w) A (mergeMapping d (.ref D) true) Q E s := by
  unfold mergeMapping
  refine wpAny_bind (wpAny_isInstance (typeIs_dict hD) dict_sub ?_)
  simp only [if_true]
  refine wpAny_bind (wpAny_specialOf (typeIs_dict hD) dict_iter ?_)
  simp only [beq_self_eq_true]
  refine wpAny_bind (wpAny_pure ?_)
  simp only [hsys, Bool.false_eq_true, if_false]
  refine wpAny_bind (wpAny_dictEntries hd rfl ?_)
  simp only [List.isEmpty_toArray, List.isEmpty_nil, if_true]
  refine wpAny_bind (wpAny_dictEntries hD rfl ?_)
  rcases hes with rfl | ⟨hsh, k, t, v, rfl⟩
  · simp only [List.forIn_toArray, List.forIn_nil]
    refine wpAny_bind (wpAny_pure (wpAny_bind (wpAny_dictEntries hD rfl (wpAny_bind (wpAny_dictEpoch hD rfl ?_)))))
    simp only [List.size_toArray, List.length_nil, List.range_zero, List.forIn_nil]
    refine wpAny_bind (wpAny_pure (wpAny_pure ?_))
    exact h s.heap (fun b o _ e => e) ⟨0, hd⟩
  · simp only [List.forIn_toArray, List.forIn_cons, List.forIn_nil]
    refine wpAny_bind (wpAny_bind (wpAny_pure (wpAny_pure ?_)))
    refine wpAny_bind (wpAny_dictEntries hD rfl (wpAny_bind (wpAny_dictEpoch hD rfl ?_)))
    simp only [List.size_toArray, List.length_cons, List.length_nil, Nat.zero_add, show List.range 1 = [0] from rfl, List.forIn_cons, List.forIn_nil]
    refine wpAny_bind (wpAny_bind (wpAny_bind (wpAny_dictEntries hD rfl ?_)))
    simp only [show (#[(⟨hsh, .str k t, v⟩ : DictEntry)])[0]? = some ⟨hsh, .str k t, v⟩ from rfl]
    refine wpAny_bind (wpAny_holding (wpAny_bind (find_empty hd ?_)))
    simp only [Option.isSome_none, Bool.false_eq_true, if_false]
    unfold dictPut
    refine wpAny_bind (find_empty hd ?_)
    refine wpAny_updateDictKeys hd rfl ?_
    have hd' : (s.heap.update d (Obj.mapDictKeys (·.push ⟨hsh, .str k t, v⟩))).get? d = some (dictOf [⟨hsh, .str k t, v⟩] 1) := Heap.get?_update_self _ hd rfl
    have keep : ∀ b o, b ≠ d → s.heap.get? b = some o → (s.heap.update d (Obj.mapDictKeys (·.push ⟨hsh, .str k t, v⟩))).get? b = some o := fun b o hb e => (Heap.get?_update_other _ _ (Ne.symm hb)).trans e
    refine wpAny_bind (wpAny_dictEpoch (keep _ _ (Ne.symm hne) hD) rfl ?_)
    simp only [bne_self_eq_false, Bool.false_eq_true, if_false]
    exact wpAny_pure (wpAny_pure (wpAny_pure (h _ keep ⟨1, hd'⟩)))

theorem keywords_in {f : Value} {d : Addr} {es : List DictEntry} {n : Nat} {kw : List (Str × Value)} {Q : List (Str × Value) → Shared → Prop} (hd : s.heap.get? d = some (dictOf es n))
    (hes : (es = [] ∧ kw = []) ∨ ∃ hsh k t v, es = [⟨hsh, .str k t, v⟩] ∧ kw = [(k, v)]) (h : Q kw s) : wpAny (model prog w) A (keywordsIn f d) Q E s := by
  unfold keywordsIn
  refine wpAny_bind (wpAny_dictEntries hd rfl ?_)
  rcases hes with ⟨rfl, rfl⟩ | ⟨hsh, k, t, v, rfl, rfl⟩
  · simp only [List.forIn_toArray, List.forIn_nil]
    exact wpAny_bind (wpAny_pure (wpAny_pure h))
  · simp only [List.forIn_toArray, List.forIn_cons, List.forIn_nil]
    exact wpAny_bind (wpAny_bind (wpAny_pure (wpAny_pure (wpAny_pure h))))

theorem merged_kw {f : Value} {x : Sem Value} {D : Addr} {es : List DictEntry} {n : Nat} {Q : Addr → Shared → Prop}
    (hx : ∀ (s' : Shared) (Q' : Value → Shared → Prop), (∀ b o, s.heap.get? b = some o → s'.heap.get? b = some o) → Q' (.ref D) s' → wpAny (model prog w) A x Q' E s')
    (hD : s.heap.get? D = some (dictOf es n)) (hsys : (D == sysModules) = false) (hes : es = [] ∨ ∃ hsh k t v, es = [⟨hsh, .str k t, v⟩])
    (h : ∀ d h', (∀ b o, s.heap.get? b = some o → h'.get? b = some o) → (∃ n', h'.get? d = some (dictOf es n')) → Q d { s with heap := h' }) :
    wpAny (model prog w) A (mergedKeywords f [(none, x)]) Q E s := by
  unfold mergedKeywords
  refine wpAny_bind (wpAny_alloc ?_)
  have up : ∀ b o, s.heap.get? b = some o → (s.heap.push (dictOf [] 0)).get? b = some o := fun b o e => Heap.get?_push_of_some _ e
  have hd : (s.heap.push (dictOf [] 0)).get? s.heap.objs.size = some (dictOf [] 0) := Heap.get?_push_size _ rfl
  have hne : s.heap.objs.size ≠ D := Ne.symm (Nat.ne_of_lt (Heap.lt_size hD))
  refine wpAny_bind (wpAny_holding ?_)
  refine wpAny_bind ?_
  rw [List.forIn_cons]
  refine wpAny_bind (wpAny_bind (wpAny_pure (wpAny_bind (hx _ _ up (wpAny_bind (wpAny_onRaise (wpAny_holding (wpAny_tryCatch (wpAny_onRaise (merge_kw hd (up _ _ hD) hne hsys hes fun h' keep hd' => ?_))))))))))
  refine wpAny_pure ?_
  dsimp only
  rw [List.forIn_nil]
  refine wpAny_pure (wpAny_pure (wpAny_pure ?_))
  exact h _ h' (fun b o e => keep b o (Nat.ne_of_lt (Heap.lt_size e)) (up b o e)) hd'
theorem call_kw {K : Frag} {h₀ : Heap} {L f D a : Addr} {m : Str → Option Value} {news : List (Addr × Obj)} {cn : Str} {cs : Scope} {ccd : Value} {n1 nd : Str} {p1 p2 p3 pos : Pos} {v1 : Value} {es : List DictEntry} {n : Nat} {kw : List (Str × Value)} {Q : Value → Shared → Prop}
    (F : Fr h₀ L s.heap m) (N : News h₀ L s.heap news) (X : K.In h₀) (hk : keepIn K (.ref f) = true) (h1 : m n1 = some v1) (h2 : m nd = some (.ref D)) (hm : (D, dictOf es n) ∈ news) (hsys : (D == sysModules) = false)
    (hes : (es = [] ∧ kw = []) ∨ ∃ hsh k t v, es = [⟨hsh, .str k t, v⟩] ∧ kw = [(k, v)])
    (h : ∀ h', Fr h₀ L h' m → News h₀ L h' news → wpAny (model prog w) A (call (.ref f) [v1] kw) Q E { s with heap := h' })
    (hck : cs.kind = .function) (l1 : (envOf cn cs L a ccd).kindOf n1 = some .local) (l2 : (envOf cn cs L a ccd).kindOf nd = some .local) (d1 : (n1 == ("__debug__" : Str)) = false) (d2 : (nd == ("__debug__" : Str)) = false) :
    wpAny (model prog w) A (callWith pos (.ref f) [] (backTo pos (starEach [.Name n1 p1] (envOf cn cs L a ccd))) (backToKw pos (keywordEach [⟨none, .Name nd p2, p3⟩] (envOf cn cs L a ccd)))) Q E s := by
  show wpAny (model prog w) A (callWith pos (.ref f) [] [(false, eval (.Name n1 p1) (envOf cn cs L a ccd))] [(none, do let v ← eval (.Name nd p2) (envOf cn cs L a ccd); standAt pos; pure v)]) Q E s
  have hD := N.get hm
  have hes' : es = [] ∨ ∃ hsh k t v, es = [(⟨hsh, .str k t, v⟩ : DictEntry)] := hes.elim (fun e => .inl e.1) fun ⟨a, b, c, d, e, _⟩ => .inr ⟨a, b, c, d, e⟩
  unfold callWith
  refine wpAny_bind (wpAny_holding ?_)
  unfold evalArgs
  refine wpAny_bind (wpAny_bind (ld F h1 ?_ hck l1 d1))
  refine wpAny_bind (wpAny_pure (wpAny_bind (wpAny_holding (wpAny_pure (wpAny_pure (wpAny_bind (wpAny_pure ?_)))))))
  refine wpAny_holding ?_
  refine wpAny_bind (merged_kw (D := D) (es := es) (n := n) (fun s' Q' keep q => wpAny_bind (ld (F.keeps keep) h2 (wpAny_bind (wpAny_standAt (wpAny_pure q))) hck l2 d2)) hD hsys hes' fun d h' keep hd => ?_)
  refine wpAny_bind (wpAny_pure ?_)
  obtain ⟨n', hd⟩ := hd
  refine wpAny_bind (wpAny_holding (keywords_in hd hes (wpAny_pure ?_)))
  refine wpAny_bind (wpAny_standAt ?_)
  obtain ⟨k, hk', L⟩ := keeps_K (M := model prog w) hk _ (X.keeps (F.keeps keep).keep)
  refine wpAny_bind (L.here ?_)
  have hc := h h' (F.keeps keep) (N.grown keep)
  have tail : ∀ {t : Sem Value}, wpAny (model prog w) A t Q E { s with heap := h' } → wpAny (model prog w) A (t >>= fun r => holding [r] point >>= fun _ => pure r) Q E { s with heap := h' } :=
    fun ht => wpAny_bind (wpAny_mono ht (fun r s₂ hr => wpAny_bind (wpAny_holding (wpAny_point (wpAny_pure hr)))) fun _ _ x => x)
  have marked (mk : Value) : wpAny (model prog w) A (callMarked mk (.ref f) [v1] kw) Q E { s with heap := h' } := by unfold callMarked; exact Calls.wpAny_keep hc
  rcases hk' with rfl | rfl | rfl
  · exact tail (marked _)
  · exact tail (wpAny_operating hc)
  · exact tail (wpAny_operating hc)
end
section
variable {prog : Program} {w : World} {A A₀ : Around} {s : Shared} {K : Frag} {L : Addr} {h₀ base : Heap} {m mg mb : Str → Option Value} {news : List (Addr × Obj)} {p : Program} {loose : List Str} {mean : ExcName → Option Value}
/-- entering a def that has keyword rest parameters: the dict of them is told outright -/
theorem enter_more {env : Env} {outer : List Env} {R : Result → Shared → Prop} {name qual : Str} {params : Arguments} {body : List Stmt} {scope : Scope} {dV kV doc pm cdv ct oc : Value} {an od : Option Addr} {osl : Array (Option Value)} {f : Addr} {args : Args} {nm : Str} {ex front : List (Str × Value)} {g₁ : Addr → Sem (List (Str × Value))}
    (B : Below A₀ base outer h₀) (F : Fr h₀ L s.heap m) (X₀ : K.In h₀) (N : News h₀ L s.heap news) (T : Top p loose mean mg mb h₀) (hA : A.frames = some (env :: outer)) (hf : env.frame = some L) (hke : env.scope.kind = .function)
    (ho : K.lookup f = some ⟨oc, od, .func (fnOf name qual params body scope dV kV doc pm an cdv ct), osl⟩) (hcd : codeIn K cdv qual = true) (hroom : A.depth < recursionLimit)
    (_hx : args.kw.filter (fun x => !ownKw params x.1) = ex) (_hnm : params.kwarg.map (·.arg) = some nm) (hn : kwDistinct ex = true)
    (_hfr : peek K ⟨prog, w.params⟩ (bindArgs (fnCut (fnOf name qual params body scope dV kV doc pm an cdv ct)) (argsCut params args)) = some front)
    (hp : peekA K ⟨prog, w.params⟩ (bindArgs (fnOf name qual params body scope dV kV doc pm an cdv ct) args) = some (dictOf [] 0, g₁))
    (hk₁ : ∀ D, g₁ D = (forIn ex PUnit.unit (fun x _ => (nsSet D x.1 x.2 >>= fun _ => pure (ForInStep.yield PUnit.unit))) >>= fun _ => pure (front ++ [(nm, Value.ref D)])))
    (hloc : ∀ D, ∀ y ∈ front ++ [(nm, Value.ref D)], scope.names.lookup y.1 = some .local)
    (h : ∀ D g L' h₁ tk, (∀ p ∈ news, p.1 < D) → (D == sysModules) = false → Fr h₀ L g m → Fr g L' h₁ (fun y => (front ++ [(nm, Value.ref D)]).reverse.lookup y) → News g L' h₁ ((D, dictOf (kwEs w.params s.toks ex) ex.length) :: news) → Below A base (env :: outer) g → K.In g → Top p loose mean mg mb g → s.toks < tk →
      wpAny (model prog w) (A.deeper (envOf qual scope L' f cdv)) (execs body (envOf qual scope L' f cdv))
        (fun fl s' => LeaveK h₀ L m g R (match fl with | .ret v => v | _ => .none) s')
        (fun e s' => wpAny (model prog w) (A.deeper (envOf qual scope L' f cdv)) (leaving (envOf qual scope L' f cdv) e) (fun _ s'' => R (.error e) s'') (fun e' s'' => R (.error e') s'') s')
        { s with heap := h₁, toks := tk })
    (hco : scope.isCoroutine = false) (hgen : scope.isGenerator = false) (hk : scope.kind = .function)
    (hcell : ∀ x ∈ scope.names, x.2 ≠ .cell) : codeAny (model prog w) A (.call (.ref f) args) R s := by
  have hn' := kwDistinct_nodup hn
  refine codeAny_call_function (fd := fnOf name qual params body scope dV kV doc pm an cdv ct) (body := body) hroom ((X₀.keeps F.keep) _ _ ho) rfl hco hgen rfl (codeRec_of (X₀.keeps F.keep) hcd) ?_
  refine wp_of_peekA (o := dictOf [] 0) F N (X₀.keeps F.keep) rfl _ g₁ hp fun h' F' N' l => ?_
  rw [hk₁]
  refine wpAny_bind (kp_fill ex { s with heap := h' } [] 0 F' N' (fun p hp => Nat.ne_of_lt (l p hp)) (fun _ he => nomatch he) (fun _ he => nomatch he) hn' fun h'' F'' N'' => wpAny_pure ?_)
  rw [Nat.zero_add] at N''
  exact kp_frame (cl := []) (s := { s with heap := h'', toks := s.toks + ex.length }) B F'' N'' T.nolimit hA hf hke (hloc _)
    (fun g L' h₁ FG FL NG BG st => h _ g L' h₁ _ l (F.notModules (modules_low T.nolimit)) FG FL NG BG (X₀.keeps st) (T.keeps st) (by simp; omega)) hcell hk
end
end Mine
end
section
open PySem PySem.W PyProof.Rows PySem.Calls
set_option maxRecDepth 100000
namespace Mine
section
variable {prog : Program} {w : World} {A : Around} {E : Value → Shared → Prop} {s : Shared} {K : Frag} {C e t L : Addr} {h₀ : Heap} {news : List (Addr × Obj)} {m : Str} {u : Tok}
open Builtin Builtin.Str Builtin.BaseException Builtin.Exceptions in
theorem bexc_own {a : Around} {Q : Value → Shared → Prop} (X : K.In s.heap) (N : News h₀ L s.heap news) (G : Got news e t (.ref C) [.str m u]) (hm : mroIn K C (.type "BaseException") = some true) (hq : Q (.str m u) s) :
    wpAny (model prog w) a (call (.builtin "BaseException.__str__") [.ref e]) Q E s := by
  obtain ⟨oe, ot, ws, nt, he, ht, hc, hd, h0, htc, htd⟩ := G
  have hT : Looks (model prog w) s.heap (typeOf (.ref e)) (.ref C) := fun A Q E s' k q => by
    simp only [typeOf]
    exact wpAny_bind (wpAny_load (k _ _ (N.get he)) (wpAny_pure (hc ▸ q)))
  refine wpAny_call (codeAny_call_builtin PySem.F.excStr_Exception.str.plain PySem.F.entry_bexc_str (check_slot (i := "BaseException.__str__") (owner := "BaseException") (n := "__str__") (by decide +kernel) (by decide +kernel) (hT.andThen (looks_mroIn X hm)) (PySem.F.args_bexc_str _) ?_))
  unfold Builtin.«BaseException.__str__»
  have hb : ∀ {Q : Value × List Value → Shared → Prop} {E : Value → Shared → Prop} {a : Around}, Q (.ref t, [.str m u]) s → wpAny (model prog w) a (bexcArgs (.ref e)) Q E s := fun q => by
    unfold bexcArgs
    refine wpAny_bind (wpAny_field (N.get he) hd h0 (wpAny_bind (wpAny_seqItems (N.get ht) htd ?_)))
    exact wpAny_pure q
  repeat (first | with_reducible refine hb ?_ | wp_step)
  exact hq
open Builtin Builtin.Str Builtin.BaseException Builtin.Exceptions in
theorem str_own {Q : Value → Shared → Prop} (X : K.In s.heap) (N : News h₀ L s.heap news) (G : Got news e t (.ref C) [.str m u]) (hs : findIn K (.ref C) "__str__" = some (some (.builtin "BaseException.__str__"))) (hm : mroIn K C (.type "BaseException") = some true)
    (hu : A.in1.in1.units < cLine) (hq : Q (.str m u) s) : wpAny (model prog w) A (call (.type "str") [.ref e]) Q E s := by
  have hT : Looks (model prog w) s.heap (typeOf (.ref e)) (.ref C) := fun A Q E s' k q => by
    obtain ⟨oe, ot, ws, nt, he, ht, hc, hd, h0, htc, htd⟩ := G
    simp only [typeOf]
    exact wpAny_bind (wpAny_load (k _ _ (N.get he)) (wpAny_pure (hc ▸ q)))
  refine callType_codes (T := "str") (Bi := Builtin.«object.__init__») (Q₁ := fun r s₁ => ∃ y u, r = .str y u ∧ Q r s₁) PySem.F.called_str (PySem.F.typeCall_str_1 _) PySem.F.entry_object_init ?_ ?_
  · refine codeAny_of_tree ?_
    show wpAny _ A.in1.in1 (do checkBuiltinCall "str.__new__" ⟨[.type "str", .ref e], []⟩; again (.builtin "str.__new__" ⟨[.type "str", .ref e], []⟩)) _ _ s
    refine wpAny_bind (wpAny_of_eq (PySem.F.newCall_str_1 _) (wpAny_pure ⟨plainId_quiet (by decide +kernel) _, codeAny_builtin PySem.F.entry_str_new ?_⟩))
    rw [Around.under_plainId (by decide +kernel) _]
    rw [str_new_tree]
    refine wpAny_bind (wpAny_pure ?_)
    refine wpAny_bind (wpAny_of_eq isSubtype_str_str ?_)
    have key : wpAny (model prog w) A.in1.in1 (PySem.Builtin.Str.strOf (.ref e)) (fun r s₁ => ∃ y u, r = .str y u ∧ Q r s₁) E s := by
      unfold PySem.Builtin.Str.strOf
      rw [show isExactStr (.ref e) = false from rfl]
      refine wpAny_bind (m := cRoomFor _ _) (wpAny_cRoomFor hu ?_)
      refine wpAny_bind (m := callSpecial? (.ref e) (Str.ofString "__str__")) ?_
      refine wpAny_bind (wpAny_bind (hT.here ((looks_findIn X hs).here (wpAny_holding (wpAny_bind ((Looks.of_pure (PySem.F.excStr_Exception.str.bind _)).here (wpAny_bind ?_)))))))
      refine bexc_own X N G hm ?_
      exact wpAny_pure (wpAny_pure ⟨_, _, rfl, hq⟩)
    exact wpAny_bind (wpAny_mono key (fun r s₁ hr => wpAny_pure hr) fun _ _ y => y)
  · rintro obj s₁ ⟨y, u, rfl, hq⟩
    exact ⟨typeIs_str _ _ _, PySem.F.args_object_init_2 _ _, object_init_meets PySem.F.called_str.init.lookup PySem.F.called_str.made (by decide) prog w A.in1 _ s₁ ⟨typeIs_str _ _ _, rfl, hq⟩⟩
end
end Mine
end
section
open PySem PySem.W PyProof.Rows PySem.Calls
set_option maxRecDepth 100000
namespace Mine

def ForGo (prog : Program) (w : World) (A : Around) (x : Str) (px : Pos) (I : Addr) (body : List Stmt) (env : Env) (R : Result → Shared → Prop) (s : Shared) : Prop :=
  codeAny (model prog w) A (.forLoop (.Name x px) (.ref I) body [] env) R s
def ForPost (prog : Program) (w : World) (A : Around) (x : Str) (px : Pos) (I : Addr) (body : List Stmt) (env : Env) (R : Result → Shared → Prop) (f : Flow) (s : Shared) : Prop :=
  match f with
  | .next => ForGo prog w A x px I body env R s
  | .cont => ForGo prog w A x px I body env R s
  | .brk => R (.ok .next) s
  | .ret v => R (.ok (.ret v)) s

/-- a ledger less one entry -/
inductive Drop (d : Addr) (o : Obj) : List (Addr × Obj) → List (Addr × Obj) → Prop
  | head {r} : (∀ p ∈ r, p.1 ≠ d) → Drop d o ((d, o) :: r) r
  | tail {p r r'} : p.1 ≠ d → Drop d o r r' → Drop d o (p :: r) (p :: r')
theorem Drop.mem {d : Addr} {o : Obj} : ∀ {l l' : List (Addr × Obj)}, Drop d o l l' → (d, o) ∈ l
  | _, _, .head _ => .head _
  | _, _, .tail _ r => .tail _ r.mem
theorem Drop.sub {d : Addr} {o : Obj} : ∀ {l l' : List (Addr × Obj)}, Drop d o l l' → ∀ p ∈ l', p ∈ l ∧ p.1 ≠ d
  | _, _, .head h => fun p hp => ⟨.tail _ hp, h p hp⟩
  | _, _, .tail h r => fun p hp => by
    rcases List.mem_cons.mp hp with rfl | hp
    · exact ⟨.head _, h⟩
    · exact ⟨.tail _ (r.sub p hp).1, (r.sub p hp).2⟩

section
variable {prog : Program} {w : World} {A : Around} {E : Value → Shared → Prop} {s : Shared} {g : Heap} {L I ax : Addr} {m : Str → Option Value} {news : List (Addr × Obj)} {env : Env}
  {x : Str} {px : Pos} {body : List Stmt} {R : Result → Shared → Prop} {items : Array Value} {n i : Nat} {v : Value}

theorem for_turn (h : wpAny (model prog w) A (pyNext (.ref I)) (fun r s₁ => match r with
      | none => R (.ok .next) s₁
      | some v => wpAny (model prog w) A (assign (.Name x px) env v) (fun _ s₂ => wpAny (model prog w) A (execs body env) (ForPost prog w A x px I body env R) (notedBy (model prog w) A env fun e s' => R (.error e) s') s₂) (notedBy (model prog w) A env fun e s' => R (.error e) s') s₁) (notedBy (model prog w) A env fun e s' => R (.error e) s') s) :
    ForGo prog w A x px I body env R s := by
  refine codeAny_of_tree ?_
  show wpAny _ A ((forTurn (.Name x px) (.ref I) body [] env).onRaise (fun x => do noteFrame x env; theTreesLotGoes x)) _ _ s
  refine wpAny_noted ?_
  simp only [forTurn]
  refine wpAny_bind (wpAny_standAt (wpAny_bind (wpAny_onRaise (wpAny_mono h (fun r s₁ h₁ => ?_) fun _ _ h' => wpAny_standAt h'))))
  cases r with
  | none => exact wpAny_pure ⟨rfl, codeAny_block (wpAny_execs_nil h₁)⟩
  | some v =>
    refine wpAny_bind (wpAny_of_eq (rfl : letOwnedTupleGo (.Name x px) (.ref I) v = pure ()) ?_)
    refine wpAny_bind (wpAny_mono h₁ (fun _ s₂ h₂ => wpAny_bind (wpAny_mono h₂ (fun f s₃ h₃ => ?_) fun _ _ h' => h')) fun _ _ h' => h')
    cases f with
    | next => exact wpAny_pure ⟨rfl, h₃⟩
    | cont => exact wpAny_pure ⟨rfl, h₃⟩
    | brk => exact wpAny_pure h₃
    | ret v => exact wpAny_pure h₃

theorem for_item {cn : Str} {cs : Scope} {a : Addr} {ccd : Value} {oI ol : Obj} {upd : Obj → List (Addr × Obj)}
    (F : Fr g L s.heap m) (N : News g L s.heap news) (U : UpdF I oI news upd) (hic : oI.cls = .type "list_iterator") (hid : oI.data = .fields #[.ref ax, .int i 0]) (hl : (ax, ol) ∈ news) (hlc : ol.cls = .type "list") (hld : ol.data = .seq items n) (hx : items[i]? = some v)
    (h : ∀ h' oI', oI'.cls = .type "list_iterator" → oI'.data = .fields #[.ref ax, .int (i + 1 : Nat) 0] → Fr g L h' (fun y => if y = x then some v else m y) → News g L h' (upd oI') →
      wpAny (model prog w) A (execs body (envOf cn cs L a ccd)) (ForPost prog w A x px I body (envOf cn cs L a ccd) R) (notedBy (model prog w) A (envOf cn cs L a ccd) fun e s' => R (.error e) s') { s with heap := h', toks := s.toks + 1 })
    (hk : cs.kind = .function := by rfl) (hlo : (envOf cn cs L a ccd).kindOf x = some .local := by rfl) :
    ForGo prog w A x px I body (envOf cn cs L a ccd) R s := by
  refine for_turn ?_
  obtain ⟨pre, post, rfl, hg, h1, h2⟩ := U.split
  have zI := N (I, oI) (List.mem_append_right _ (.head _))
  refine wpAny_pyNext_list_item ⟨oI, zI.1, hic, hid⟩ ⟨ol, N.get hl, hlc, n, hld⟩ hx fun h' hit' hs => ?_
  obtain ⟨oI', hoI', hc', hd'⟩ := hit'
  have F' : Fr g L h' m := F.change hs zI.2.1 zI.2.2
  have N' : News g L h' (upd oI') := hg oI' ▸ news_set N h1 h2 hs hoI'
  exact wpAny_assign_Name (stN (s := { s with heap := h' }) F' N' (fun h'' F'' N'' => h h'' oI' hc' hd' F'' N'') hk hlo)

theorem for_end {oI ol : Obj} {keep : List (Addr × Obj)}
    (hh : A.handled = none) (F : Fr g L s.heap m) (N : News g L s.heap news) (D : Drop I oI news keep) (hic : oI.cls = .type "list_iterator") (hid : oI.data = .fields #[.ref ax, .int i 0]) (hl : (ax, ol) ∈ news) (hlc : ol.cls = .type "list") (hld : ol.data = .seq items n) (hx : items[i]? = none)
    (h : ∀ h', Fr g L h' m → News g L h' keep → R (.ok .next) { s with heap := h' }) :
    ForGo prog w A x px I body env R s := by
  refine for_turn ?_
  have zI := N (I, oI) D.mem
  have hsub := D.sub
  refine wpAny_pyNext_list_end hh ⟨oI, zI.1, hic, hid⟩ ⟨ol, N.get hl, hlc, n, hld⟩ hx fun h' hs => ?_
  refine h h' ⟨?_, fun b o e => hs b o (fun q => by rw [q, zI.2.2] at e; cases e) (F.keep b o e), F.above⟩ fun p hp => ⟨hs _ _ (hsub p hp).2 (N p (hsub p hp).1).1, (N p (hsub p hp).1).2⟩
  exact F.ns.at' fun o e => hs _ o (Ne.symm zI.2.1) e

theorem iter_led {ol : Obj} {cn : Str} {cs : Scope} {a : Addr} {ccd : Value} (F : Fr g L s.heap m) (N : News g L s.heap news) (hl : (ax, ol) ∈ news) (hlc : ol.cls = .type "list") (hld : ol.data = .seq items n)
    (h : ∀ I h', (∀ p ∈ news, p.1 < I) → Fr g L h' m → News g L h' ((I, ({ cls := .type "list_iterator", data := .fields #[.ref ax, .int 0 0] } : Obj)) :: news) → ForGo prog w A x px I body (envOf cn cs L a ccd) R { s with heap := h' }) :
    wpAny (model prog w) A (pyIter (.ref ax)) (fun it s₂ => codeAny (model prog w) A (.forLoop (.Name x px) it body [] (envOf cn cs L a ccd)) R s₂) E s := by
  refine wpAny_pyIter_list ⟨ol, N.get hl, hlc, n, hld⟩ ?_
  exact h _ _ (fun p hp => Heap.lt_size (N p hp).1) (F.push _) (News.push F N _)
end
end Mine
end
section
open PySem PySem.W PyProof.Rows PySem.Calls
set_option maxRecDepth 100000
namespace Mine
section
variable {M : Model} {A : Around} {E : Value → Shared → Prop} {s : Shared} {Q : Value → Shared → Prop}
theorem is_ref_str {a : Addr} {x : Str} {t : Tok} (h : Q (.bool false) s) : wpAny M A (compareOp .Is (.ref a) (.str x t)) Q E s := wpAny_is_other rfl (by intro e; cases e) h
theorem is_str_ref {a : Addr} {x : Str} {t : Tok} (h : Q (.bool false) s) : wpAny M A (compareOp .Is (.str x t) (.ref a)) Q E s := wpAny_is_other rfl (by intro e; cases e) h
theorem is_str_self {x : Str} {t : Tok} (ht : t ≠ 0) (h : Q (.bool true) s) : wpAny M A (compareOp .Is (.str x t) (.str x t)) Q E s := by
  show wpAny M A (do return .bool (← isSame (.str x t) (.str x t))) Q E s
  refine wpAny_bind ?_
  show wpAny M A (isSame.created (x == x) t t) _ E s
  unfold isSame.created
  have e : (t == 0 || t == 0) = false := by simpa using ht
  rw [e]
  simp only [Bool.false_eq_true, if_false, beq_self_eq_true, if_true]
  exact wpAny_pure (wpAny_pure h)
theorem is_tup_obj {x y : Addr} {ox oy : Obj} {g : Heap} {L : Addr} {m : Str → Option Value} {news : List (Addr × Obj)} {K : Frag} (F : Fr g L s.heap m) (N : News g L s.heap news) (hx : (x, ox) ∈ news) (X : K.In g) (hy : K.lookup y = some oy) (hnt : oy.cls ≠ .type "tuple") (h : Q (.bool false) s) :
    wpAny M A (compareOp .Is (.ref x) (.ref y)) Q E s := by
  have hne : x ≠ y := fun e => by
    have := (N _ hx).2.2
    rw [show ((x, ox) : Addr × Obj).1 = y from e, X _ _ hy] at this
    cases this
  show wpAny M A (do return .bool (← isSame (.ref x) (.ref y))) Q E s
  refine wpAny_bind ?_
  show wpAny M A (if (x == y) = true then pure true else _) _ E s
  rw [if_neg (by simpa using hne)]
  refine wpAny_bind (wpAny_load (N.get hx) (wpAny_bind (wpAny_load (F.keep _ _ (X _ _ hy)) ?_)))
  split
  · rename_i _ h2 _ _; exact absurd h2 hnt
  · exact wpAny_pure (wpAny_pure h)
end
end Mine
end
section
open PySem PySem.W PyProof.Rows PySem.Calls
open Builtin Builtin.Str
set_option maxRecDepth 100000
namespace Mine

def WhileGo (prog : Program) (w : World) (A : Around) (test : Expr) (body : List Stmt) (env : Env) (R : Result → Shared → Prop) (s : Shared) : Prop :=
  codeAny (model prog w) A (.whileLoop test body [] env) R s
def WhilePost (prog : Program) (w : World) (A : Around) (test : Expr) (body : List Stmt) (env : Env) (R : Result → Shared → Prop) (f : Flow) (s : Shared) : Prop :=
  match f with
  | .next => WhileGo prog w A test body env R s
  | .cont => WhileGo prog w A test body env R s
  | .brk => R (.ok .next) s
  | .ret v => R (.ok (.ret v)) s

theorem while_turn {prog : Program} {w : World} {A : Around} {test : Expr} {body : List Stmt} {env : Env} {R : Result → Shared → Prop} {s : Shared}
    (h : wpAny (model prog w) A (isTrue test env (eval test env)) (fun b s₁ => if b = true then wpAny (model prog w) A (execs body env) (WhilePost prog w A test body env R) (notedBy (model prog w) A env fun e s' => R (.error e) s') s₁ else R (.ok .next) s₁)
      (notedBy (model prog w) A env fun e s' => R (.error e) s') s) : WhileGo prog w A test body env R s := by
  refine codeAny_of_tree ?_
  show wpAny _ A ((whileTurn test body [] env).onRaise (fun x => do noteFrame x env; theTreesLotGoes x)) _ _ s
  refine wpAny_noted ?_
  simp only [whileTurn]
  refine wpAny_bind (wpAny_mono h (fun b s₁ h₁ => ?_) fun _ _ h' => h')
  cases b with
  | true =>
    simp only [if_true] at h₁ ⊢
    refine wpAny_bind (wpAny_mono h₁ (fun f s₃ h₃ => ?_) fun _ _ h' => h')
    cases f with
    | next => exact wpAny_pure ⟨rfl, h₃⟩
    | cont => exact wpAny_pure ⟨rfl, h₃⟩
    | brk => exact wpAny_pure h₃
    | ret v => exact wpAny_pure h₃
  | false =>
    simp only [Bool.false_eq_true, if_false] at h₁ ⊢
    exact wpAny_bind (wpAny_execs_nil (wpAny_pure h₁))

/-! ### the replies -/
@[irreducible] def rInt (n : Int) : Str := Str.ofString "229 ok (|||" ++ Str.ofString (toString n) ++ Str.ofString "|)"
@[irreducible] def rStr (x : Str) : Str := Str.ofString "257 \"" ++ Txt.replace x (Str.ofString "\"") (Str.ofString "\"\"") ++ Str.ofString "\" is \"here\""

theorem lit_q : Str.ofString "\"" = ⟨#[34]⟩ := by decide +kernel
theorem lit_qq : Str.ofString "\"\"" = ⟨#[34, 34]⟩ := by decide +kernel
theorem lit_257 : Str.ofString "257 \"" = ⟨#[50, 53, 55, 32, 34]⟩ := by decide +kernel
theorem lit_here : Str.ofString "\" is \"here\"" = ⟨#[34, 32, 105, 115, 32, 34, 104, 101, 114, 101, 34]⟩ := by decide +kernel
theorem lit_229 : Str.ofString "229 ok (|||" = ⟨#[50, 50, 57, 32, 111, 107, 32, 40, 124, 124, 124]⟩ := by decide +kernel
theorem lit_end : Str.ofString "|)" = ⟨#[124, 41]⟩ := by decide +kernel

def tail257 : List Nat := [34, 32, 105, 115, 32, 34, 104, 101, 114, 101, 34]
theorem rStr_list (x : Str) : (rStr x).cps.toList = [50, 53, 55, 32, 34] ++ StrLaws.dbl 34 x.cps.toList ++ tail257 := by
  unfold rStr
  rw [lit_257, lit_here, lit_q, lit_qq, Str.cps_append, Str.cps_append, Array.toList_append, Array.toList_append, StrLaws.replace_double]
  rfl
theorem rInt_list (n : Int) : (rInt n).cps.toList = [50, 50, 57, 32, 111, 107, 32, 40, 124, 124, 124] ++ (Str.ofString (toString n)).cps.toList ++ [124, 41] := by
  unfold rInt
  rw [lit_229, lit_end, Str.cps_append, Str.cps_append, Array.toList_append, Array.toList_append]
end Mine
end
section
open PySem PySem.W PyProof.Rows PySem.Calls
open Builtin Builtin.Str
set_option maxRecDepth 100000
namespace Mine

theorem slice_mid {R : Str} {l0 l1 l2 : List Nat} {i j : Int} (h : R.cps.toList = l0 ++ l1 ++ l2) (hi : i = l0.length) (hj : j = (l0.length + l1.length : Nat)) : Txt.slice R (some i) (some j) = ⟨l1.toArray⟩ := by
  have hl : R.cps.toList.length = l0.length + l1.length + l2.length := by rw [h]; simp; omega
  have e := StrLaws.sliceText_plain (x := R) (i := i) (j := j) ⟨by omega, by omega, by omega⟩
  refine (show Txt.slice R (some i) (some j) = _ from e).trans ?_
  have e1 : i.toNat = l0.length := by omega
  have e2 : (j - i).toNat = l1.length := by omega
  rw [e1, e2, h, List.append_assoc, List.drop_left, List.take_left]
theorem slice_to {R : Str} {l1 l2 : List Nat} {j : Int} (h : R.cps.toList = l1 ++ l2) (hj : j = l1.length) : Txt.slice R none (some j) = ⟨l1.toArray⟩ := by
  have hl : R.cps.toList.length = l1.length + l2.length := by rw [h]; simp
  have e := StrLaws.sliceText_to (x := R) (j := j) ⟨by omega, by omega⟩
  refine (show Txt.slice R none (some j) = _ from e).trans ?_
  have e2 : (j - 0).toNat = l1.length := by omega
  rw [e2, h, List.drop_zero, List.take_left]
theorem item_at {R : Str} {l1 l2 : List Nat} {c : Nat} {i : Int} (h : R.cps.toList = l1 ++ c :: l2) (hi : i = l1.length) : Txt.item R i = ⟨#[c]⟩ := by
  have hl : R.cps.toList.length = l1.length + (l2.length + 1) := by rw [h]; simp
  have hn : R.cps[i.toNat]? = some c := by
    have e : i.toNat = l1.length := by omega
    rw [← Array.getElem?_toList, h, e]
    simp
  unfold Txt.item Txt.charAt
  rw [StrLaws.at_nonneg (by omega) hn]
  rfl

theorem lit3_257 : Str.ofString "257" = ⟨#[50, 53, 55]⟩ := by decide +kernel
theorem lit3_229 : Str.ofString "229" = ⟨#[50, 50, 57]⟩ := by decide +kernel
theorem lit_bq : Str.ofString " \"" = ⟨#[32, 34]⟩ := by decide +kernel

theorem cut3_str (x : Str) : Txt.slice (rStr x) none (some 3) = Str.ofString "257" := by
  rw [lit3_257]
  exact slice_to (l1 := [50, 53, 55]) (l2 := [32, 34] ++ StrLaws.dbl 34 x.cps.toList ++ tail257) (by rw [rStr_list]; simp) rfl
theorem cut35_str (x : Str) : Txt.slice (rStr x) (some 3) (some 5) = Str.ofString " \"" := by
  rw [lit_bq]
  exact slice_mid (l0 := [50, 53, 55]) (l1 := [32, 34]) (l2 := StrLaws.dbl 34 x.cps.toList ++ tail257) (by rw [rStr_list]; simp) rfl rfl
theorem cut3_int (n : Int) : Txt.slice (rInt n) none (some 3) = Str.ofString "229" := by
  rw [lit3_229]
  exact slice_to (l1 := [50, 50, 57]) (l2 := [32, 111, 107, 32, 40, 124, 124, 124] ++ (Str.ofString (toString n)).cps.toList ++ [124, 41]) (by rw [rInt_list]; simp) rfl

theorem dbl_len (c : Nat) : ∀ l : List Nat, (StrLaws.dbl c l).length ≤ 2 * l.length
  | [] => Nat.le_refl _
  | k :: r => by
    have := dbl_len c r
    unfold StrLaws.dbl
    split <;> simp only [List.length_cons] <;> omega
theorem rStr_len (x : Str) : (rStr x).length ≤ 2 * x.length + 16 := by
  show (rStr x).cps.size ≤ 2 * x.cps.size + 16
  rw [← Array.length_toList, rStr_list, ← Array.length_toList]
  have := dbl_len 34 x.cps.toList
  simp only [List.length_append, List.length_cons, List.length_nil, tail257] at this ⊢
  omega
theorem rep_len (x : Str) : (Txt.replace x (Str.ofString "\"") (Str.ofString "\"\"")).length ≤ 2 * x.length := by
  rw [lit_q, lit_qq]
  show (Txt.replace x ⟨#[34]⟩ ⟨#[34, 34]⟩).cps.size ≤ 2 * x.cps.size
  rw [← Array.length_toList, StrLaws.replace_double, ← Array.length_toList]
  exact dbl_len 34 _
end Mine
end
section
open PySem PySem.W PyProof.Rows PySem.Calls
open Builtin Builtin.Str
set_option maxRecDepth 100000
namespace Mine
section
variable {prog : Program} {w : World} {A : Around} {E : Value → Shared → Prop} {s : Shared} {h₀ : Heap} {L : Addr} {m : Str → Option Value} {news : List (Addr × Obj)} {value slice : PySem.Expr} {x : Str} {t : Tok} {Q : Value → Shared → Prop}

theorem slice_ns1 {j : Int} {uj : Tok} (hF : Fr h₀ L s.heap m) (hN : News h₀ L s.heap news) (hn : 1 ≤ s.toks) (h : ∀ h' t' k, Fr h₀ L h' m → News h₀ L h' news → 1 ≤ k → Q (.str (Txt.slice x none (some j)) t') { s with heap := h', toks := k })
    (hs : subscripted slice false (.str x t) (.ref s.heap.objs.size) = operate [.ref s.heap.objs.size, .str x t] (getItem (.str x t) (.ref s.heap.objs.size)) := by with_unfolding_all rfl)
    (ht : ∀ r, letTemporaryGo value (.str x t) r = pure () := by intro _; with_unfolding_all rfl) (hsz : x.length ≤ sizeLine) :
    wpAny (model prog w) A (subscriptTail value slice (.str x t) (.ref s.heap.objs.size)) Q E { s with heap := s.heap.push { cls := .type "slice", data := .fields #[.none, .int j uj, .none] } } :=
  wpAny_with_toks (n := 1) hn (slice_strN_ns hF hN (fun h' t' k a b hk => h h' t' k a b hk) hs ht hsz)
theorem slice_ss1 {i j : Int} {ui uj : Tok} (hF : Fr h₀ L s.heap m) (hN : News h₀ L s.heap news) (hn : 1 ≤ s.toks) (h : ∀ h' t' k, Fr h₀ L h' m → News h₀ L h' news → 1 ≤ k → Q (.str (Txt.slice x (some i) (some j)) t') { s with heap := h', toks := k })
    (hs : subscripted slice false (.str x t) (.ref s.heap.objs.size) = operate [.ref s.heap.objs.size, .str x t] (getItem (.str x t) (.ref s.heap.objs.size)) := by with_unfolding_all rfl)
    (ht : ∀ r, letTemporaryGo value (.str x t) r = pure () := by intro _; with_unfolding_all rfl) (hsz : x.length ≤ sizeLine) :
    wpAny (model prog w) A (subscriptTail value slice (.str x t) (.ref s.heap.objs.size)) Q E { s with heap := s.heap.push { cls := .type "slice", data := .fields #[.int i ui, .int j uj, .none] } } :=
  wpAny_with_toks (n := 1) hn (slice_strN_ss hF hN (fun h' t' k a b hk => h h' t' k a b hk) hs ht hsz)

/-- the sign at a place -/
structure ItemIs (x : Str) (i : Int) (c : Nat) : Prop where
  item : Txt.item x i = ⟨#[c]⟩
  lo : 0 ≤ i
  hi : i < x.length
  fit : fitsSsize i = true
theorem item_fact {i : Int} {u : Tok} {c : Nat} (hI : ItemIs x i c) (h : Q (.str ⟨#[c]⟩ s.toks) { s with toks := s.toks + 1 })
    (hs : subscripted slice false (.str x t) (.int i u) = operate [.str x t, .int i u] (getItem (.str x t) (.int i u)) := by with_unfolding_all rfl)
    (ht : ∀ r, letTemporaryGo value (.str x t) r = pure () := by intro _; with_unfolding_all rfl) :
    wpAny (model prog w) A (subscriptTail value slice (.str x t) (.int i u)) Q E s := by
  refine item_str hI.fit (by have := hI.lo; omega) hI.hi (fun _ => ?_) hs ht
  rw [hI.item]
  exact h
theorem ItemIs.of {R : Str} {l1 l2 : List Nat} {c : Nat} {i : Int} (h : R.cps.toList = l1 ++ c :: l2) (hi : i = l1.length) (hl : R.length ≤ 1000000) : ItemIs R i c := by
  have hl2 : R.length = l1.length + (l2.length + 1) := by
    show R.cps.size = _
    rw [← Array.length_toList, h]; simp
  exact ⟨item_at h hi, by omega, by omega, fitsSsize_of (N := 9223372036854775808) (by omega) (by omega) (Int.le_refl _)⟩
theorem eq_chr_t {c : Nat} {t u : Tok} (hc : c = 34) (h : Q (.bool true) s) : wpAny (model prog w) A (compareOp .Eq (.str ⟨#[c]⟩ t) (.str (Str.ofString "\"") u)) Q E s := by
  subst hc
  exact eq_str (by rw [show ((⟨#[34]⟩ : Str) == Str.ofString "\"") = true from by decide +kernel]; exact h)
theorem eq_chr_f {c : Nat} {t u : Tok} (hc : c ≠ 34) (h : Q (.bool false) s) : wpAny (model prog w) A (compareOp .Eq (.str ⟨#[c]⟩ t) (.str (Str.ofString "\"") u)) Q E s := by
  refine eq_str ?_
  rw [lit_q, show ((⟨#[c]⟩ : Str) == ⟨#[34]⟩) = false from beq_eq_false_iff_ne.mpr (fun e => hc (by cases e; rfl))]
  exact h
theorem ne_chr_f {c : Nat} {t u : Tok} (hc : c = 34) (h : Q (.bool false) s) : wpAny (model prog w) A (compareOp .NotEq (.str ⟨#[c]⟩ t) (.str (Str.ofString "\"") u)) Q E s := by
  subst hc
  exact ne_str (by rw [show ((⟨#[34]⟩ : Str) != Str.ofString "\"") = false from by decide +kernel]; exact h)
theorem ne_chr_t {c : Nat} {t u : Tok} (hc : c ≠ 34) (h : Q (.bool true) s) : wpAny (model prog w) A (compareOp .NotEq (.str ⟨#[c]⟩ t) (.str (Str.ofString "\"") u)) Q E s := by
  refine ne_str ?_
  rw [lit_q, show ((⟨#[c]⟩ : Str) != ⟨#[34]⟩) = true from bne_iff_ne.mpr (fun e => hc (by cases e; rfl))]
  exact h
theorem Fr.congr {m m' : Str → Option Value} {g h : Heap} (F : Fr g L h m) (e : ∀ y, m y = m' y) : Fr g L h m' := (funext e : m = m') ▸ F
end

theorem tok_ne {t : Nat} (h : 1 ≤ t) : t ≠ 0 := Nat.ne_of_gt h
theorem add_tok {prog : Program} {w : World} {A : Around} {E : Value → Shared → Prop} {s : Shared} {Q : Value → Shared → Prop} {x y : Str} {t u : Tok} (ht : t ≠ 0) (hu : u ≠ 0) (hs : 1 ≤ s.toks) (hsz : x.length + y.length ≤ sizeLine)
    (h : ∀ t' k, t' ≠ 0 → 1 ≤ k → Q (.str (x ++ y) t') { s with toks := k }) : wpAny (model prog w) A (binaryOp .Add (.str x t) (.str y u)) Q E s := by
  refine P.add_str ?_
  split
  · rename_i hx
    have hx : x.length = 0 := by simpa using hx
    have e : x ++ y = y := Str.ext' (by
      have : x.cps = #[] := Array.eq_empty_of_size_eq_zero hx
      rw [Str.cps_append, this]; simp)
    have := h u s.toks hu hs
    rw [e] at this
    exact this
  · split
    · rename_i hy
      have hy : y.length = 0 := by simpa using hy
      have e : x ++ y = x := Str.ext' (by
        have : y.cps = #[] := Array.eq_empty_of_size_eq_zero hy
        rw [Str.cps_append, this]; simp)
      have := h t s.toks ht hs
      rw [e] at this
      exact this
    · exact ⟨by rw [Str.length_append]; exact hsz, h _ _ (tok_ne hs) (Nat.le_succ_of_le hs)⟩
theorem gen_toks {α : Type} {M : Model} {A : Around} {c : Sem α} {Q : α → Shared → Prop} {E : Value → Shared → Prop} {h : Heap} {g : Array GenState} {d : Drawn} {X : Nat} {os : OsState} (k : ∀ tk, 1 ≤ tk → wpAny M A c Q E ⟨h, g, d, tk, os⟩) : wpAny M A c Q E ⟨h, g, d, X + 1, os⟩ := k _ (Nat.succ_le_succ (Nat.zero_le _))

theorem while_go {prog : Program} {w : World} {A : Around} {E : Value → Shared → Prop} {s : Shared} {test : Expr} {body : List Stmt} {pos : Pos} {env : Env} {Q : Flow → Shared → Prop} (h : WhileGo prog w A test body env (fun r s' => match r with | .ok f => Q f s' | .error e => cameBackBy (model prog w) A env E e s') s) :
    wpAny (model prog w) A (exec (.While test body [] pos) env) Q E s := wpAny_While h
theorem while_ind {prog : Program} {w : World} {A : Around} {test : Expr} {body : List Stmt} {env : Env} {R : Result → Shared → Prop} (Inv : List Nat → Shared → Prop)
    (step : ∀ rest s, Inv rest s → (∀ c rest' s', rest = c :: rest' → Inv rest' s' → WhileGo prog w A test body env R s') → WhileGo prog w A test body env R s) : ∀ rest s, Inv rest s → WhileGo prog w A test body env R s
  | [], s, h => step [] s h fun _ _ _ e => nomatch e
  | c :: r, s, h => step (c :: r) s h fun c' r' s' e h' => by cases e; exact while_ind Inv step r s' h'

/-- the frame of the scan -/
abbrev M257 (R : Str) (tr : Tok) (d : Str) (td : Tok) (i : Int) (ti : Tok) (n : Int) (tn : Tok) (vc : Option Value) : Str → Option Value := fun y =>
  if y = Str.ofString "c" then vc else if y = Str.ofString "n" then some (.int n tn) else if y = Str.ofString "i" then some (.int i ti) else if y = Str.ofString "dirname" then some (.str d td) else if y = Str.ofString "resp" then some (.str R tr) else none
section
variable {g h : Heap} {L : Addr} {R d d' : Str} {tr td td' ti ti' tn : Tok} {i i' i'' n : Int} {vc : Option Value} {vc' v'' : Value} {lk : Str → Option Value}
theorem init257 (F : Fr g L h (fun y => if y = Str.ofString "n" then some (.int n tn) else if y = Str.ofString "i" then some (.int i ti) else if y = Str.ofString "dirname" then some (.str d td) else lk y))
    (hlk : ∀ y, lk y = if y = Str.ofString "resp" then some (.str R tr) else none) : Fr g L h (M257 R tr d td i ti n tn none) := by
  refine Fr.congr F fun y => ?_
  by_cases h5 : y = Str.ofString "c"
  · subst h5
    have := hlk (Str.ofString "c")
    rw [if_neg (by decide +kernel)] at this
    simp only [M257, if_true, if_neg (show ¬ Str.ofString "c" = Str.ofString "n" by decide +kernel), if_neg (show ¬ Str.ofString "c" = Str.ofString "i" by decide +kernel), if_neg (show ¬ Str.ofString "c" = Str.ofString "dirname" by decide +kernel), this]
  · simp only [M257, if_neg h5, hlk]
theorem turn257 (F : Fr g L h (fun y => if y = Str.ofString "dirname" then some (.str d' td') else if y = Str.ofString "i" then some (.int i' ti') else if y = Str.ofString "c" then some vc' else M257 R tr d td i ti n tn vc y)) :
    Fr g L h (M257 R tr d' td' i' ti' n tn (some vc')) := by
  refine Fr.congr F fun y => ?_
  by_cases h5 : y = Str.ofString "c"
  · subst h5; rfl
  by_cases h1 : y = Str.ofString "n"
  · subst h1; rfl
  by_cases h2 : y = Str.ofString "i"
  · subst h2; rfl
  by_cases h3 : y = Str.ofString "dirname"
  · subst h3; rfl
  simp only [M257, if_neg h1, if_neg h2, if_neg h3, if_neg h5]
theorem turn257q (F : Fr g L h (fun y => if y = Str.ofString "dirname" then some (.str d' td') else if y = Str.ofString "i" then some (.int i' ti') else if y = Str.ofString "i" then some v'' else if y = Str.ofString "c" then some vc' else M257 R tr d td i ti n tn vc y)) :
    Fr g L h (M257 R tr d' td' i' ti' n tn (some vc')) := by
  refine turn257 (d := d) (td := td) (i := i) (ti := ti) (vc := vc) (Fr.congr F fun y => ?_)
  by_cases h2 : y = Str.ofString "i"
  · subst h2; rfl
  · simp only [if_neg h2]
end
end Mine
end
section
open PySem PySem.W PyProof.Rows PySem.Calls
set_option maxRecDepth 100000
namespace Mine
local macro_rules | `(tactic| walk_at "subscriptTail Name Slice str ref") => `(tactic| (k_here; (with_reducible show wpAny _ _ (subscriptTail _ (Expr.Slice none (some _) none _) _ _) _ _ _); (with_reducible rename Fr _ _ _ _ => F'); (with_reducible rename News _ _ _ _ => N'); (refine slice_ns1 (hsz := ?hsz) (s := ⟨_, _, _, _, _⟩) F' N' ?hn ?_); (case hsz => size_fits); (case hn => (dsimp only; omega)); intro _ _ _ _ _ _))
local macro_rules | `(tactic| walk_at "subscriptTail Name Slice str ref") => `(tactic| (k_here; (with_reducible show wpAny _ _ (subscriptTail _ (Expr.Slice (some _) (some _) none _) _ _) _ _ _); (with_reducible rename Fr _ _ _ _ => F'); (with_reducible rename News _ _ _ _ => N'); (refine slice_ss1 (hsz := ?hsz) (s := ⟨_, _, _, _, _⟩) F' N' ?hn ?_); (case hsz => size_fits); (case hn => (dsimp only; omega)); intro _ _ _ _ _ _))
local macro_rules | `(tactic| walk_at "compareOp NotEq str str") => `(tactic| (k_here; (simp only [cut3_str, cut35_str, cut3_int]); walk_at "compareOp NotEq str str"))
local macro_rules | `(tactic| walk_at "compareOp NotEq str str") => `(tactic| (k_here; (with_reducible show wpAny _ _ (compareOp CmpOp.NotEq (Value.str (Str.mk #[_]) _) _) _ _ _); k_dflt (first | refine ne_chr_t (by first | assumption | decide) ?_ | refine ne_chr_f (by rfl) ?_)))
local macro_rules | `(tactic| walk_at "compareOp Eq str str") => `(tactic| (k_here; (with_reducible show wpAny _ _ (compareOp CmpOp.Eq (Value.str (Str.mk #[_]) _) _) _ _ _); k_dflt (first | refine eq_chr_t (by rfl) ?_ | refine eq_chr_f (by first | assumption | decide) ?_)))
local macro_rules | `(tactic| walk_at "binaryOp Add str str") => `(tactic| (k_here; (with_reducible show wpAny _ _ (binaryOp Operator.Add (Value.str _ _) (Value.str _ _)) _ _ _); (refine' add_tok ?kt ?ku ?ks ?kz ?_; (case kt => first | assumption | exact tok_ne (by (try dsimp only); omega)); (case ku => first | assumption | exact tok_ne (by (try dsimp only); omega)); (case ks => (try dsimp only); omega); (case kz => first | size_fits | (rw [PySem.sizeLine_eq]; simp only [Str.length, List.size_toArray, List.length_cons, List.length_nil] at *; omega)); k_whole; intro t' k' ht' hk')))
local macro_rules | `(tactic| walk_at "execs cons") => `(tactic| (k_here; (with_reducible show wpAny _ _ _ _ _ (Shared.mk _ _ _ (_ + 1) _)); (with_reducible refine gen_toks ?_); intro tk' htk'))
local macro_rules | `(tactic| walk_at "execs nil") => `(tactic| (k_here; (with_reducible show wpAny _ _ _ _ _ (Shared.mk _ _ _ (_ + 1) _)); (with_reducible refine gen_toks ?_); intro tk' htk'))
local macro_rules | `(tactic| walk_at "exec While Compare cons nil") => `(tactic| (k_here; k_dflt (refine while_go ?_)))
local macro_rules | `(tactic| walk_at "WhilePost") => `(tactic| (dsimp only [WhilePost]))
local macro_rules | `(tactic| walk_at "subscriptTail Name Name str int") => `(tactic| (k_here; k_dflt (refine item_fact (by assumption) ?_)))
set_option maxHeartbeats 2000000 in
theorem p257 {w : World} : ∀ {mean : ExcName → Option Value} {mg mb : Str → Option Value} {A₀ A : Around} {base h₀ : Heap} {outer : List Env} {env : Env} {L : Addr} {m : Str → Option Value} {s : Shared} {Q E : Value → Shared → Prop} {x : Str} {t : Tok}
   (_B : Below A₀ base outer h₀) (_F : Fr h₀ L s.heap m) (_X : (Mine.hd.heap_39 w.params).In h₀) (_T : Top Mine.hd.view_39 (looseW Mine.hd.view_39 [Str.ofString "UNKNOWN"]) mean mg mb h₀) (_hA : A.frames = some (env :: outer)) (_hf : env.frame = some L) (_hk : env.scope.kind = .function) (_hr : A.depth < recursionLimit) (_h0 : x.length ≤ 1000)
   (_hret : ∀ t' h' tk', t' ≠ 0 → (∀ b o, s.heap.get? b = some o → h'.get? b = some o) → Q (.str x t') { s with heap := h', toks := tk' }),
   wpAny (model Challenge.rw_nb0067_01.row.prog w) A (call (.ref 95) [.str (rStr x) t]) Q E s := by
  k_fill
  intro mean mg mb A₀ A base h₀ outer env L m s Q E x t B F X T hA hf hk hr h0 hret
  have hl := rStr_len x
  have hl2 : (rStr x).length ≤ 2016 := by omega
  refine wpAny_call ?_
  k_dflt (refine' enter0 ?k1 ?k2 ?k3 ?k5 ?kA ?kF ?kK ?k6 ?k7 ?k8 ?k9 ?kB ?_ ?c2 ?c3 ?c4 ?c5; (case kA => assumption); (case kF => assumption); (case kK => assumption); (case k1 => k_asm); (case k2 => k_asm); (case k3 => k_asm); (case k5 => k_asm); (case k6 => k_is); (case k7 => k_is); (case k8 => assumption); (case k9 => first | exact BindsTo.of_eq rfl); (case c5 => decide); (case kB => exact locs rfl); (case c2 => exact rfl); (case c3 => exact rfl); (case c4 => exact rfl); k_whole; intro L' h' F' N' B' X' T'; (try dsimp only); (try k_fold))
  w_on
  repeat' (first | (k_unfold; (try dsimp only)) | walk1 | (dsimp only; walk1) | fail "no step")
  (with_reducible rename Fr s.heap _ _ _ => F1)
  refine' while_ind (Inv := fun rest s₁ => ∃ h₁ tk td ti tn vc done d, s₁ = { s with heap := h₁, toks := tk } ∧ td ≠ 0 ∧ 1 ≤ tk ∧ done ++ rest = x.cps.toList ∧ d.cps.toList = done ∧
    Fr s.heap L' h₁ (M257 (rStr x) t d td ((5 + (StrLaws.dbl 34 done).length : Nat) : Int) ti ((rStr x).length : Nat) tn vc)) ?step x.cps.toList _ ?init
  case init =>
    have F2 := init257 (R := rStr x) (tr := t) F1 (by
      intro y
      by_cases h4 : y = Str.ofString "resp"
      · subst h4; rfl
      rw [if_neg h4]
      show List.lookup y [(Str.ofString "resp", _)] = none
      simp only [List.lookup, beq_eq_false_iff_ne.mpr h4])
    refine ⟨_, _, _, _, _, none, [], Str.ofString "", rfl, ?_, ?_, rfl, by decide +kernel, F2⟩
    · exact tok_ne (by (try dsimp only); omega)
    · (try dsimp only); omega
  case step =>
    clear F1
    intro rest s₁ hI ih
    obtain ⟨h₁, tk, td, ti, tn, vc, done, d, rfl, htd, htk, hx, hd, F1⟩ := hI
    have N1 : News s.heap L' h₁ [] := News.nil
    have hR := rStr_list x
    rw [← hx, StrLaws.dbl_append] at hR
    have hdl : d.length ≤ 1000 := by
      show d.cps.size ≤ 1000
      have : x.cps.toList.length = x.length := by simp [Str.length]
      rw [← Array.length_toList, hd]
      rw [← hx, List.length_append] at this
      omega
    have hlen : (rStr x).length = 5 + (StrLaws.dbl 34 done).length + (StrLaws.dbl 34 rest).length + 11 := by
      show (rStr x).cps.size = _
      rw [← Array.length_toList, hR]
      simp [tail257]; omega
    refine while_turn ?_
    cases rest with
    | nil =>
      have i1 : ItemIs (rStr x) ((5 + (StrLaws.dbl 34 done).length : Nat) : Int) 34 := ItemIs.of (l1 := [50, 53, 55, 32, 34] ++ StrLaws.dbl 34 done) (l2 := [32, 105, 115, 32, 34, 104, 101, 114, 101, 34]) (by rw [hR]; simp [StrLaws.dbl, tail257]) (by simp; omega) (by omega)
      have i2 : ItemIs (rStr x) (((5 + (StrLaws.dbl 34 done).length : Nat) : Int) + 1) 32 := ItemIs.of (l1 := [50, 53, 55, 32, 34] ++ StrLaws.dbl 34 done ++ [34]) (l2 := [105, 115, 32, 34, 104, 101, 114, 101, 34]) (by rw [hR]; simp [StrLaws.dbl, tail257]) (by simp; omega) (by omega)
      have hxd : d = x := Str.ext' (Array.toList_inj.mp (by rw [hd, ← hx, List.append_nil]))
      repeat' (first | (k_unfold; (try dsimp only)) | walk1 | (dsimp only; walk1) | fail "no step")
      subst hxd
      (with_reducible rename Fr s.heap _ _ _ => F9)
      exact hret td _ _ htd F9.keep
    | cons c r =>
      have hx' : done ++ [c] ++ r = x.cps.toList := by rw [← hx]; simp
      have hd' : (d ++ (⟨#[c]⟩ : Str)).cps.toList = done ++ [c] := by rw [Str.cps_append, Array.toList_append, hd]
      by_cases hc : c = 34
      · subst hc
        have i1 : ItemIs (rStr x) ((5 + (StrLaws.dbl 34 done).length : Nat) : Int) 34 := ItemIs.of (l1 := [50, 53, 55, 32, 34] ++ StrLaws.dbl 34 done) (l2 := 34 :: StrLaws.dbl 34 r ++ tail257) (by rw [hR]; simp [StrLaws.dbl]) (by simp; omega) (by omega)
        have i2 : ItemIs (rStr x) (((5 + (StrLaws.dbl 34 done).length : Nat) : Int) + 1) 34 := ItemIs.of (l1 := [50, 53, 55, 32, 34] ++ StrLaws.dbl 34 done ++ [34]) (l2 := StrLaws.dbl 34 r ++ tail257) (by rw [hR]; simp [StrLaws.dbl]) (by simp; omega) (by omega)
        repeat' (first | (k_unfold; (try dsimp only)) | walk1 | (dsimp only; walk1) | fail "no step")
        (with_reducible rename Fr s.heap _ _ _ => F9)
        have e : (((5 + (StrLaws.dbl 34 done).length : Nat) : Int) + 1 + 1) = ((5 + (StrLaws.dbl 34 (done ++ [34])).length : Nat) : Int) := by rw [StrLaws.dbl_append, StrLaws.dbl_one]; simp; omega
        refine ih 34 r _ rfl ⟨_, _, _, _, _, _, done ++ [34], d ++ (⟨#[34]⟩ : Str), rfl, ?_, ?_, hx', hd', e ▸ turn257q F9⟩
        · assumption
        · (try dsimp only); omega
      · have i1 : ItemIs (rStr x) ((5 + (StrLaws.dbl 34 done).length : Nat) : Int) c := ItemIs.of (l1 := [50, 53, 55, 32, 34] ++ StrLaws.dbl 34 done) (l2 := StrLaws.dbl 34 r ++ tail257) (by rw [hR]; simp [StrLaws.dbl, hc]) (by simp; omega) (by omega)
        repeat' (first | (k_unfold; (try dsimp only)) | walk1 | (dsimp only; walk1) | fail "no step")
        (with_reducible rename Fr s.heap _ _ _ => F9)
        have e : (((5 + (StrLaws.dbl 34 done).length : Nat) : Int) + 1) = ((5 + (StrLaws.dbl 34 (done ++ [c])).length : Nat) : Int) := by rw [StrLaws.dbl_append, StrLaws.dbl_free 34 [c] (by simpa using fun h => hc h.symm)]; simp; omega
        refine ih c r _ rfl ⟨_, _, _, _, _, _, done ++ [c], d ++ (⟨#[c]⟩ : Str), rfl, ?_, ?_, hx', hd', e ▸ turn257 F9⟩
        · assumption
        · (try dsimp only); omega
end Mine
end
section
open PySem PySem.W PyProof.Rows PySem.Calls
open Builtin Builtin.Str
set_option maxRecDepth 100000
namespace Mine

theorem getElem_mid {l1 l2 : List Nat} {c : Nat} : (l1 ++ c :: l2)[l1.length]? = some c := by simp
theorem find_at {R : Str} {l1 l2 : List Nat} {c : Nat} (h : R.cps.toList = l1 ++ c :: l2) (hf : c ∉ l1) : Txt.find R ⟨#[c]⟩ = (l1.length : Nat) := by
  have here : StrLaws.At R ⟨#[c]⟩ R.length l1.length := (StrLaws.subAt_one R c l1.length).mpr (by rw [h]; exact getElem_mid)
  unfold Txt.find
  rcases StrLaws.occ_head R ⟨#[c]⟩ 1 (Nat.le_refl 1) with ⟨_, hn⟩ | ⟨k, r, h0, hk, hn⟩
  · exact absurd here (hn _)
  · rw [h0]
    have hk' := (StrLaws.subAt_one R c k).mp hk
    rcases Nat.lt_trichotomy k l1.length with hlt | heq | hgt
    · rw [h, List.getElem?_append_left hlt] at hk'
      exact absurd (List.mem_of_getElem? hk') hf
    · rw [heq]
    · exact absurd here (hn _ hgt)
theorem find3_at {R : Str} {l0 l1 l2 : List Nat} {c : Nat} {i : Int} (h : R.cps.toList = l0 ++ l1 ++ c :: l2) (hi : i = l0.length) (hf : c ∉ l1) : Txt.find3 R ⟨#[c]⟩ i = ((l0.length + l1.length : Nat) : Int) := by
  have hl : R.length = l0.length + l1.length + (l2.length + 1) := by
    show R.cps.size = _
    rw [← Array.length_toList, h]; simp; omega
  have here : StrLaws.At R ⟨#[c]⟩ R.length (l0.length + l1.length) := (StrLaws.subAt_one R c _).mpr (by rw [h, ← List.length_append]; exact getElem_mid)
  have hfi : fromIndex R.length i = l0.length := by unfold fromIndex; simp only [hi]; split <;> omega
  unfold Txt.find3
  rcases StrLaws.occ_head_from R ⟨#[c]⟩ (fromIndex R.length i) 1 (Nat.le_refl 1) with ⟨_, hn⟩ | ⟨k, r, h0, hlo, hk, hn⟩
  · exact absurd here (hn _ (by omega))
  · rw [h0]
    have hk' := (StrLaws.subAt_one R c k).mp hk
    rw [hfi] at hlo
    rcases Nat.lt_trichotomy k (l0.length + l1.length) with hlt | heq | hgt
    · rw [h, List.getElem?_append_left (by rw [List.length_append]; exact hlt), List.getElem?_append_right hlo] at hk'
      exact absurd (List.mem_of_getElem? hk') hf
    · rw [heq]
    · exact absurd here (hn _ (by omega) hgt)
theorem cut_uniq {c : Nat} : ∀ {x x' a b : List Nat}, c ∉ x → c ∉ x' → x ++ c :: a = x' ++ c :: b → x = x' ∧ a = b
  | [], [], _, _, _, _, h => ⟨rfl, by simpa using h⟩
  | [], y :: x', _, _, _, h2, h => by
    simp only [List.nil_append, List.cons_append, List.cons.injEq] at h
    exact absurd (by rw [h.1]; exact List.mem_cons_self ..) h2
  | y :: x, [], _, _, h1, _, h => by
    simp only [List.nil_append, List.cons_append, List.cons.injEq] at h
    exact absurd (by rw [← h.1]; exact List.mem_cons_self ..) h1
  | y :: x, z :: x', a, b, h1, h2, h => by
    simp only [List.cons_append, List.cons.injEq] at h
    have := cut_uniq (fun q => h1 (List.mem_cons_of_mem _ q)) (fun q => h2 (List.mem_cons_of_mem _ q)) h.2
    exact ⟨by rw [h.1, this.1], this.2⟩
theorem join_cons2 (c : Nat) (x y : Str) (r : List Str) : (Str.join ⟨#[c]⟩ (x :: y :: r)).cps.toList = x.cps.toList ++ c :: (Str.join ⟨#[c]⟩ (y :: r)).cps.toList := by
  show (x ++ ⟨#[c]⟩ ++ Str.join ⟨#[c]⟩ (y :: r)).cps.toList = _
  rw [Str.cps_append, Str.cps_append]; simp
theorem join_uniq {c : Nat} : ∀ {P P' : List Str}, P ≠ [] → P' ≠ [] → (∀ p ∈ P, c ∉ p.cps.toList) → (∀ p ∈ P', c ∉ p.cps.toList) → (Str.join ⟨#[c]⟩ P).cps.toList = (Str.join ⟨#[c]⟩ P').cps.toList → P = P'
  | [], _, h, _, _, _, _ => absurd rfl h
  | _, [], _, h, _, _, _ => absurd rfl h
  | [x], [y], _, _, _, _, h => by
    have h : x.cps.toList = y.cps.toList := h
    rw [Str.ext' (Array.toList_inj.mp h)]
  | [x], y :: z :: r, _, _, h1, _, h => by
    rw [join_cons2] at h
    have h : x.cps.toList = _ := h
    exact absurd (by rw [h]; simp) (h1 x (List.mem_cons_self ..))
  | y :: z :: r, [x], _, _, _, h2, h => by
    rw [join_cons2] at h
    have h : _ = x.cps.toList := h
    exact absurd (by rw [← h]; simp) (h2 x (List.mem_cons_self ..))
  | x :: y :: r, x' :: y' :: r', _, _, h1, h2, h => by
    rw [join_cons2, join_cons2] at h
    obtain ⟨e1, e2⟩ := cut_uniq (h1 x (List.mem_cons_self ..)) (h2 x' (List.mem_cons_self ..)) h
    have := join_uniq (P := y :: r) (P' := y' :: r') (by simp) (by simp) (fun p hp => h1 p (List.mem_cons_of_mem _ hp)) (fun p hp => h2 p (List.mem_cons_of_mem _ hp)) e2
    rw [Str.ext' (Array.toList_inj.mp e1), this]
theorem split_is {x : Str} {c : Nat} {P : List Str} (hne : P ≠ []) (hf : ∀ p ∈ P, c ∉ p.cps.toList) (h : (Str.join ⟨#[c]⟩ P).cps.toList = x.cps.toList) (hs : Txt.split x ⟨#[c]⟩ ≠ []) : Txt.split x ⟨#[c]⟩ = P :=
  join_uniq hs hne (StrLaws.split_free x c) hf (by rw [StrLaws.join_split, h])

/-! ### the reply with a port -/
def dig (n : Int) : Str := Str.ofString (toString n)
theorem rInt_dig (n : Int) : (rInt n).cps.toList = [50, 50, 57, 32, 111, 107, 32, 40, 124, 124, 124] ++ (dig n).cps.toList ++ [124, 41] := rInt_list n
theorem dig_free {k : Nat} (hk : k ≠ 45 ∧ (k < 48 ∨ 57 < k)) (n : Int) : k ∉ (dig n).cps.toList := int_text_free' k hk n
theorem dig_len {n : Int} (h0 : 0 ≤ n) (h1 : n < 65536) : (dig n).length ≤ 6 := by
  have := int_text_length_le10 (a := n) (k := 5) (by decide) (by omega)
  exact Nat.le_trans (Nat.le_of_eq (PySem.ofString_length _)) this
theorem lit_lp : Str.ofString "(" = ⟨#[40]⟩ := by decide +kernel
theorem lit_rp : Str.ofString ")" = ⟨#[41]⟩ := by decide +kernel
theorem find_int (n : Int) : Txt.find (rInt n) (Str.ofString "(") = 7 := by
  rw [lit_lp]
  exact find_at (l1 := [50, 50, 57, 32, 111, 107, 32]) (l2 := [124, 124, 124] ++ (dig n).cps.toList ++ [124, 41]) (by rw [rInt_dig]; simp) (by decide)
theorem find3_int (n : Int) : Txt.find3 (rInt n) (Str.ofString ")") 8 = ((12 + (dig n).length : Nat) : Int) := by
  rw [lit_rp]
  have := find3_at (R := rInt n) (c := 41) (i := 8) (l0 := [50, 50, 57, 32, 111, 107, 32, 40]) (l1 := [124, 124, 124] ++ (dig n).cps.toList ++ [124]) (l2 := []) (by rw [rInt_dig]; simp) rfl (by
    have := dig_free (k := 41) ⟨by decide, by decide⟩ n
    simpa using this)
  rw [this]
  simp [Str.length]; omega
theorem rInt_len (n : Int) : (rInt n).length = 13 + (dig n).length := by
  show (rInt n).cps.size = _
  rw [← Array.length_toList, rInt_dig]; simp [Str.length]; omega
end Mine
end
section
open PySem PySem.W PyProof.Rows PySem.Calls
open Builtin Builtin.Str
set_option maxRecDepth 100000
namespace Mine
def midI (n : Int) : Str := ⟨([124, 124, 124] ++ (dig n).cps.toList ++ [124]).toArray⟩
theorem midI_list (n : Int) : (midI n).cps.toList = [124, 124, 124] ++ (dig n).cps.toList ++ [124] := by unfold midI; rfl
theorem midI_len (n : Int) : (midI n).length = 4 + (dig n).length := by
  show (midI n).cps.size = _
  rw [← Array.length_toList, midI_list]; simp [Str.length]; omega
theorem mid_int (n : Int) {i j : Int} (hi : i = 8) (hj : j = ((12 + (dig n).length : Nat) : Int)) : Txt.slice (rInt n) (some i) (some j) = midI n :=
  slice_mid (l0 := [50, 50, 57, 32, 111, 107, 32, 40]) (l1 := [124, 124, 124] ++ (dig n).cps.toList ++ [124]) (l2 := [41]) (by rw [rInt_dig]; simp) (by rw [hi]; rfl) (by rw [hj]; simp [Str.length]; omega)
theorem split_mid (n : Int) : Txt.split (midI n) ⟨#[124]⟩ = [⟨#[]⟩, ⟨#[]⟩, ⟨#[]⟩, dig n, ⟨#[]⟩] := by
  refine split_is (by simp) ?_ ?_ ?_
  · intro p hp
    simp only [List.mem_cons, List.not_mem_nil, or_false] at hp
    rcases hp with rfl | rfl | rfl | rfl | rfl
    · simp
    · simp
    · simp
    · exact dig_free ⟨by decide, by decide⟩ n
    · simp
  · rw [midI_list, join_cons2, join_cons2, join_cons2, join_cons2]
    show _ = _
    simp [Str.join]
  · intro e
    have := StrLaws.join_split (midI n) ⟨#[124]⟩
    rw [e] at this
    have h2 := midI_len n
    rw [← this] at h2
    have h3 : (Str.join ⟨#[124]⟩ []).length = 0 := rfl
    omega

section
variable {prog : Program} {w : World} {A : Around} {E : Value → Shared → Prop} {s : Shared} {h₀ : Heap} {L : Addr} {m : Str → Option Value} {news : List (Addr × Obj)} {t u v : Tok} {Q : Value → Shared → Prop} {n : Int}
theorem find_rule (h : Q (.int 7 s.toks) { s with toks := s.toks + 1 }) : wpAny (model prog w) A (call (.builtin "str.find") [.str (rInt n) t, .str (Str.ofString "(") u]) Q E s :=
  SC.find (by rw [find_int]; exact h)
theorem find3_rule {i : Int} (hi : i = 8) (h : Q (.int ((12 + (dig n).length : Nat) : Int) s.toks) { s with toks := s.toks + 1 }) : wpAny (model prog w) A (call (.builtin "str.find") [.str (rInt n) t, .str (Str.ofString ")") u, .int i v]) Q E s :=
  SC.find3 (by subst hi; rw [find3_int]; exact h)
theorem ne_same {x : Str} (h : Q (.bool false) s) : wpAny (model prog w) A (compareOp .NotEq (.str x t) (.str x u)) Q E s := ne_str (by rw [bne_self_eq_false]; exact h)
theorem slice_mid_rule {value slice : PySem.Expr} {i j : Int} {ui uj : Tok} (hF : Fr h₀ L s.heap m) (hN : News h₀ L s.heap news) (hn : 1 ≤ s.toks) (hi : i = 8) (hj : j = ((12 + (dig n).length : Nat) : Int)) (hsz : (rInt n).length ≤ sizeLine)
    (h : ∀ h' t' k, Fr h₀ L h' m → News h₀ L h' news → 1 ≤ k → Q (.str (midI n) t') { s with heap := h', toks := k })
    (hs : subscripted slice false (.str (rInt n) t) (.ref s.heap.objs.size) = operate [.ref s.heap.objs.size, .str (rInt n) t] (getItem (.str (rInt n) t) (.ref s.heap.objs.size)) := by with_unfolding_all rfl)
    (ht : ∀ r, letTemporaryGo value (.str (rInt n) t) r = pure () := by intro _; with_unfolding_all rfl) :
    wpAny (model prog w) A (subscriptTail value slice (.str (rInt n) t) (.ref s.heap.objs.size)) Q E { s with heap := s.heap.push { cls := .type "slice", data := .fields #[.int i ui, .int j uj, .none] } } :=
  slice_ss1 hF hN hn (fun h' t' k a b c => by rw [mid_int n hi hj]; exact h h' t' k a b c) hs ht hsz
theorem split_rule (hF : Fr h₀ L s.heap m) (hN : News h₀ L s.heap news) (hsz : (midI n).length ≤ 1000)
    (h : ∀ D h' k t0 t1 t2 t3 t4, Fr h₀ L h' m → News h₀ L h' ((D, listOf #[.str ⟨#[]⟩ t0, .str ⟨#[]⟩ t1, .str ⟨#[]⟩ t2, .str (Str.ofString (toString n)) t3, .str ⟨#[]⟩ t4] 0) :: news) → (∀ p ∈ news, p.1 < D) → Q (.ref D) { s with heap := h', toks := k }) :
    wpAny (model prog w) A (call (.builtin "str.split") [.str (midI n) t, .str ⟨#[124]⟩ u]) Q E s := by
  refine KSpl.split1 hF hN (by decide) (fun D l h' k e _ F' N' l1 => ?_) (by rw [PySem.sizeLine_eq]; omega)
  rw [split_mid] at e
  obtain ⟨t0, l0, rfl, e1⟩ := KSpl.cons_of e
  obtain ⟨t1, l1', rfl, e2⟩ := KSpl.cons_of e1
  obtain ⟨t2, l2, rfl, e3⟩ := KSpl.cons_of e2
  obtain ⟨t3, l3, rfl, e4⟩ := KSpl.cons_of e3
  obtain ⟨t4, l4, rfl, e5⟩ := KSpl.cons_of e4
  have := KSpl.nil_of e5
  subst this
  exact h D h' k t0 t1 t2 t3 t4 F' N' l1
theorem peer0 {value slice : PySem.Expr} {p : Addr} {x y : Value} {k : Nat} (F : Fr h₀ L s.heap m) (hp : h₀.get? p = some { cls := .type "tuple", data := .seq #[x, y] k }) (h : Q x s)
    (hs : subscripted slice false (.ref p) (.int 0 u) = operate [.ref p, .int 0 u] (getItem (.ref p) (.int 0 u)) := by with_unfolding_all rfl) :
    wpAny (model prog w) A (subscriptTail value slice (.ref p) (.int 0 u)) Q E s :=
  item_tupleT (l := [x, y]) (j := 0) ⟨_, F.keep _ _ hp, rfl, _, rfl⟩ (by decide) (by decide) rfl rfl h hs
theorem item_l3 {value slice : PySem.Expr} {D : Addr} {a b c d e : Value} {k : Nat} (N : News h₀ L s.heap news) (hm : (D, listOf #[a, b, c, d, e] k) ∈ news) (h : Q d s)
    (hs : subscripted slice false (.ref D) (.int 3 u) = operate [.ref D, .int 3 u] (getItem (.ref D) (.int 3 u)) := by with_unfolding_all rfl) :
    wpAny (model prog w) A (subscriptTail value slice (.ref D) (.int 3 u)) Q E s := by
  have hl : s.heap.IsList D #[a, b, c, d, e] := ⟨_, N.get hm, rfl, _, rfl⟩
  exact tail_any hl.typeIs slot_list_getitem.lookup (wpAny_getItem_list hl (by decide) (by decide) rfl h) hs
end
end Mine
end
section
open PySem PySem.W PyProof.Rows PySem.Calls
set_option maxRecDepth 100000
namespace Mine
local macro_rules | `(tactic| walk_at "subscriptTail Name Slice str ref") => `(tactic| (k_here; (with_reducible show wpAny _ _ (subscriptTail _ (Expr.Slice none (some _) none _) _ _) _ _ _); (with_reducible rename Fr _ _ _ _ => F'); (with_reducible rename News _ _ _ _ => N'); (refine slice_ns1 (hsz := ?hsz) (s := ⟨_, _, _, _, _⟩) F' N' ?hn ?_); (case hsz => size_fits); (case hn => (dsimp only; omega)); intro _ _ _ _ _ _))
local macro_rules | `(tactic| walk_at "subscriptTail Name Slice str ref") => `(tactic| (k_here; (with_reducible show wpAny _ _ (subscriptTail _ (Expr.Slice (some _) (some _) none _) _ _) _ _ _); (with_reducible rename Fr _ _ _ _ => F'); (with_reducible rename News _ _ _ _ => N'); (refine slice_ss1 (hsz := ?hsz) (s := ⟨_, _, _, _, _⟩) F' N' ?hn ?_); (case hsz => size_fits); (case hn => (dsimp only; omega)); intro _ _ _ _ _ _))
local macro_rules | `(tactic| walk_at "compareOp NotEq str str") => `(tactic| (k_here; (simp only [cut3_str, cut35_str, cut3_int]); walk_at "compareOp NotEq str str"))
local macro_rules | `(tactic| walk_at "binaryOp Add str str") => `(tactic| (k_here; (with_reducible show wpAny _ _ (binaryOp Operator.Add (Value.str _ _) (Value.str _ _)) _ _ _); (refine' add_tok ?kt ?ku ?ks ?kz ?_; (case kt => first | assumption | exact tok_ne (by (try dsimp only); omega)); (case ku => first | assumption | exact tok_ne (by (try dsimp only); omega)); (case ks => (try dsimp only); omega); (case kz => first | size_fits | (rw [PySem.sizeLine_eq]; simp only [Str.length, List.size_toArray, List.length_cons, List.length_nil] at *; omega)); k_whole; intro t' k' ht' hk')))
local macro_rules | `(tactic| walk_at "execs cons") => `(tactic| (k_here; (with_reducible show wpAny _ _ _ _ _ (Shared.mk _ _ _ (_ + 1) _)); (with_reducible refine gen_toks ?_); intro tk' htk'))
local macro_rules | `(tactic| walk_at "execs nil") => `(tactic| (k_here; (with_reducible show wpAny _ _ _ _ _ (Shared.mk _ _ _ (_ + 1) _)); (with_reducible refine gen_toks ?_); intro tk' htk'))
local macro_rules | `(tactic| walk_at "subscriptTail Name Name str int") => `(tactic| (k_here; k_dflt (refine item_fact (by assumption) ?_)))
local macro_rules | `(tactic| walk_at "compareOp NotEq str str") => `(tactic| (k_here; (with_reducible show wpAny _ _ (compareOp CmpOp.NotEq (Value.str (Str.mk #[_]) _) (Value.str (Str.mk #[_]) _)) _ _ _); k_dflt (refine ne_same ?_)))
local macro_rules | `(tactic| walk_at "subscriptTail Name BinOp str int") => `(tactic| (k_here; k_dflt (refine item_fact (by assumption) ?_)))
local macro_rules | `(tactic| walk_at "call builtin:str.find") => `(tactic| (k_here; (show wpAny _ _ (call (Value.builtin "str.find") [Value.str _ _, Value.str _ _]) _ _ _); (with_reducible refine find_rule ?_)))
local macro_rules | `(tactic| walk_at "call builtin:str.find") => `(tactic| (k_here; (show wpAny _ _ (call (Value.builtin "str.find") [Value.str _ _, Value.str _ _, Value.int _ _]) _ _ _); (with_reducible refine find3_rule ?hi ?_); (case hi => first | rfl | decide | omega)))
local macro_rules | `(tactic| walk_at "subscriptTail Name Slice str ref") => `(tactic| (k_here; (with_reducible show wpAny _ _ (subscriptTail _ (Expr.Slice (some _) (some _) none _) (Value.str (rInt _) _) _) _ _ _); (with_reducible rename Fr _ _ _ _ => F'); (with_reducible rename News _ _ _ _ => N'); (refine slice_mid_rule (s := ⟨_, _, _, _, _⟩) F' N' ?hn ?hi ?hj ?hsz ?_); (case hsz => size_fits); (case hn => (dsimp only; omega)); (case hi => first | rfl | omega); (case hj => first | rfl | omega); intro _ _ _ _ _ _))
local macro_rules | `(tactic| walk_at "call builtin:str.split") => `(tactic| (k_here; k_dflt ((show wpAny _ _ (call (Value.builtin "str.split") [Value.str (midI _) _, Value.str (Str.mk #[124]) _]) _ _ _); (refine' split_rule ?F ?N ?z ?_; (case F => k_asm); (case N => k_asm); (case z => assumption); k_whole); intro D' h' k' t0' t1' t2' t3' t4' F' N' l1; (try k_lt l1))))
local macro_rules | `(tactic| walk_at "subscriptTail Name Constant ref int") => `(tactic| (k_here; (with_reducible show wpAny _ _ (subscriptTail _ _ (Value.ref _) (Value.int 0 _)) _ _ _); k_dflt (refine peer0 (by k_asm) (by assumption) ?_)))
local macro_rules | `(tactic| walk_at "subscriptTail Name Constant ref int") => `(tactic| (k_here; (with_reducible show wpAny _ _ (subscriptTail _ _ (Value.ref _) (Value.int 3 _)) _ _ _); k_dflt (refine' item_l3 ?N ?m ?_ ?hs; (case N => k_asm); (case m => k_mem); (case hs => with_unfolding_all rfl); k_whole)))
local macro_rules | `(tactic| walk_at "call type:int") => `(tactic| (k_here; (show wpAny _ _ (call (Value.type "int") [Value.str (Str.ofString (toString _)) _]) _ _ _); k_dflt (refine KIN.call_num (by assumption) (by omega) ?_)))
set_option maxHeartbeats 800000 in
theorem p229 {w : World} : ∀ {mean : ExcName → Option Value} {mg mb : Str → Option Value} {A₀ A : Around} {base h₀ : Heap} {outer : List Env} {env : Env} {L : Addr} {m : Str → Option Value} {s : Shared} {Q E : Value → Shared → Prop} {n : Int} {t th ti : Tok} {p : Addr} {kp : Nat}
   (_B : Below A₀ base outer h₀) (_F : Fr h₀ L s.heap m) (_X : (Mine.hd.heap_39 w.params).In h₀) (_T : Top Mine.hd.view_39 (looseW Mine.hd.view_39 [Str.ofString "UNKNOWN"]) mean mg mb h₀) (_hA : A.frames = some (env :: outer)) (_hf : env.frame = some L) (_hk : env.scope.kind = .function) (_hr : A.depth < recursionLimit) (_h0 : 0 ≤ n) (_h1 : n < 65536)
   (_hp : s.heap.get? p = some { cls := .type "tuple", data := .seq #[.str (Str.ofString "host") th, .int 21 ti] kp })
   (_hret : ∀ q h' tk' tn, (∀ b o, s.heap.get? b = some o → h'.get? b = some o) → s.heap.get? q = none → h'.get? q = some { cls := .type "tuple", data := .seq #[.str (Str.ofString "host") th, .int n tn] 0 } → Q (.ref q) { s with heap := h', toks := tk' }),
   wpAny (model Challenge.rw_nb0067_01.row.prog w) A (call (.ref 88) [.str (rInt n) t] [(Str.ofString "peer", .ref p)]) Q E s := by
  k_fill
  intro mean mg mb A₀ A base h₀ outer env L m s Q E n t th ti p kp B F X T hA hf hk hr h0 h1 hp hret
  have hl := rInt_len n
  have hl1 := dig_len h0 h1
  have hl2 : (rInt n).length ≤ 2016 := by omega
  have hl3 : (midI n).length ≤ 1000 := by have := midI_len n; omega
  have i1 : ItemIs (rInt n) (7 + 1) 124 := ItemIs.of (l1 := [50, 50, 57, 32, 111, 107, 32, 40]) (l2 := [124, 124] ++ (dig n).cps.toList ++ [124, 41]) (by rw [rInt_dig]; simp) rfl (by omega)
  have i2 : ItemIs (rInt n) (((12 + (dig n).length : Nat) : Int) - 1) 124 := ItemIs.of (l1 := [50, 50, 57, 32, 111, 107, 32, 40, 124, 124, 124] ++ (dig n).cps.toList) (l2 := [41]) (by rw [rInt_dig]; first | done | rfl | simp) (by rw [List.length_append]; simp only [List.length_cons, List.length_nil, Array.length_toList]; show (((12 + (dig n).cps.size : Nat) : Int) - 1) = _; omega) (by omega)
  refine wpAny_call ?_
  k_dflt (refine' enter0 ?k1 ?k2 ?k3 ?k5 ?kA ?kF ?kK ?k6 ?k7 ?k8 ?k9 ?kB ?_ ?c2 ?c3 ?c4 ?c5; (case kA => assumption); (case kF => assumption); (case kK => assumption); (case k1 => k_asm); (case k2 => k_asm); (case k3 => k_asm); (case k5 => k_asm); (case k6 => k_is); (case k7 => k_is); (case k8 => assumption); (case k9 => first | exact BindsTo.of_eq rfl); (case c5 => decide); (case kB => exact locs rfl); (case c2 => exact rfl); (case c3 => exact rfl); (case c4 => exact rfl); k_whole; intro L' h' F' N' B' X' T'; (try dsimp only); (try k_fold))
  w_on
  repeat' (first | (k_unfold; (try dsimp only)) | walk1 | (dsimp only; walk1) | fail "no step")
  (with_reducible rename Fr s.heap _ _ _ => F9)
  (with_reducible rename News s.heap _ _ _ => N9)
  exact hret _ _ _ _ F9.keep (N9 _ (List.Mem.head _)).2.2 (N9 _ (List.Mem.head _)).1
end Mine
end
section
open PySem PySem.W PyProof.Rows PySem.Calls
set_option maxRecDepth 100000
namespace Mine
abbrev unkD : PyData := .list [.str (Str.ofString "unknown"), .str (Str.ofString ""), .bool false, .int 2]
abbrev refD (r : Str) : PyData := .list [.str (Str.ofString "refused"), .str r]
abbrev hostD (n : Int) : PyData := .tuple [.str (Str.ofString "host"), .int n]
abbrev dNone : PyData := .list [refD (Str.ofString "150 here it comes"), refD (Str.ofString "150 here it comes"), unkD]
abbrev dInt (n : Int) : PyData := .list [refD (rInt n), .list [hostD n, hostD n, .bool true, .int 2], unkD]
abbrev dStr (x : Str) : PyData := .list [.list [.str x, .str x, .bool true, .int 2], refD (rStr x), unkD]

section
variable {prog : Program} {w : World} {A₀ A : Around} {s : Shared} {base h₀ : Heap} {L a : Addr} {m mg mb : Str → Option Value} {cn : Str} {cs : Scope} {ccd : Value} {K : Frag} {p : Program} {loose : List Str} {mean : ExcName → Option Value}
    {R : Result → Shared → Prop} {name qual : Str} {params : Arguments} {body : List Stmt} {scope : Scope} {dV kV doc pm cdv ct oc : Value} {an od : Option Addr} {osl : Array (Option Value)} {f : Addr} {args : Args} {binds : List (Str × Value)}
/-- a def that may raise and catch inside, entered from the law's own frame with an empty ledger -/
theorem enterS0 (B : Below A₀ base [] h₀) (F : Fr h₀ L s.heap m) (X₀ : K.In h₀) (T : Top p loose mean mg mb h₀) (hA : A.frames = some [envOf cn cs L a ccd])
    (ho : K.lookup f = some ⟨oc, od, .func (fnOf name qual params body scope dV kV doc pm an cdv ct), osl⟩) (hcd : codeIn K cdv qual = true) (hroom : A.depth < recursionLimit)
    (hbind : BindsTo s (fnOf name qual params body scope dV kV doc pm an cdv ct) args binds) (hloc : ∀ y ∈ binds, scope.names.lookup y.1 = some .local)
    (h : ∀ L' h₁, Fr s.heap L' h₁ (fun y => binds.reverse.lookup y) → News s.heap L' h₁ [] → Below A base [envOf cn cs L a ccd] s.heap → K.In s.heap → Top p loose mean mg mb s.heap → KtsDicts ([envOf cn cs L a ccd].filterMap (·.frame)) s.heap →
      wpAny (model prog w) (A.deeper (envOf qual scope L' f cdv)) (execs body (envOf qual scope L' f cdv))
        (fun fl s' => LeaveS0 ([envOf cn cs L a ccd].filterMap (·.frame)) h₀ L m s.heap R (match fl with | .ret v => v | _ => .none) s')
        (fun e s' => wpAny (model prog w) (A.deeper (envOf qual scope L' f cdv)) (leaving (envOf qual scope L' f cdv) e) (fun _ s'' => R (.error e) s'') (fun e' s'' => R (.error e') s'') s')
        { s with heap := h₁, toks := s.toks + binds.length })
    (hck : cs.kind = .function) (hco : scope.isCoroutine = false) (hgen : scope.isGenerator = false) (hk : scope.kind = .function)
    (hcell : ∀ x ∈ scope.names, x.2 ≠ .cell) : codeAny (model prog w) A (.call (.ref f) args) R s := by
  have X := X₀.keeps F.keep
  obtain ⟨oL, es, ep, hLg, hLd, _, hNs, st, B₂⟩ := kts_enter B F (News.nil : News h₀ L s.heap []) hA hck
  have nL₀ : h₀.get? L = none := kts_self F
  refine codeAny_call_def (fd := fnOf name qual params body scope dV kV doc pm an cdv ct) (body := body) (binds := binds) hroom (X _ _ ho) rfl (T.nolimit.keeps F.keep) (codeRec_of X hcd) rfl hbind hcell hloc (fun h₁ hns hk₁ => ?_) hco hgen hk
  refine wpAny_mono (h s.heap.objs.size h₁ ⟨hns, fun b o e => hk₁ b o e, Nat.le_refl _⟩ News.nil B₂ X (T.keeps F.keep) (fun b hb => ?_)) (fun fl s' hl => ?_) fun _ _ y => y
  · rcases kts_mem hb with rfl | z
    · exact ⟨oL, es, ep, hLg, hLd⟩
    · simp at z
  · obtain ⟨g', L', m', news', T', F', N', k⟩ := hl
    obtain ⟨sl, hs⟩ := T'.up hLg
    refine k ⟨hNs sl _ (F'.keep _ _ hs), fun b o e => F'.keep b o (T'.other b o (st b o e) (fun q => ?_)), F.above⟩ fun q hq => ⟨(N' q hq).1, fun z => ?_, ?_⟩
    · rcases kts_mem q with z | z
      · rw [z, nL₀] at e; cases e
      · simp at z
    · have := (N' q hq).2.2; rw [z, hs] at this; cases this
    · cases z : h₀.get? q.1 with
      | none => rfl
      | some o =>
        obtain ⟨sl', hs'⟩ := T'.up (st _ _ z)
        have := (N' q hq).2.2
        rw [hs'] at this; cases this
theorem keep_of {g : Heap} {L' : Addr} {h' : Heap} {m' : Str → Option Value} (T' : KtsTurn ([envOf cn cs L a ccd].filterMap (·.frame)) s.heap g) (F' : Fr g L' h' m') : ∀ b o, b ≠ L → s.heap.get? b = some o → h'.get? b = some o :=
  fun b o hb e => F'.keep b o (T'.other b o e (fun q => by
    rcases kts_mem q with z | z
    · exact hb z
    · simp at z))
end

def AllNe (d : Addr) : List (Addr × Obj) → Prop
  | [] => True
  | p :: r => @Ne Nat p.1 d ∧ AllNe d r
theorem allNe_of {d : Addr} : ∀ {l : List (Addr × Obj)}, (∀ p ∈ l, p.1 ≠ d) → AllNe d l
  | [], _ => trivial
  | p :: _, h => ⟨h p (.head _), allNe_of fun q hq => h q (.tail _ hq)⟩
section
variable {w : World} {mean : ExcName → Option Value} {mg mb : Str → Option Value} {A₀ A : Around} {base h₀ : Heap} {outer : List Env} {env : Env} {L : Addr} {m : Str → Option Value} {s : Shared} {Q E : Value → Shared → Prop} {news : List (Addr × Obj)}
theorem p257L {x : Str} {t : Tok} (B : Below A₀ base outer h₀) (F : Fr h₀ L s.heap m) (N : News h₀ L s.heap news) (X : (Mine.hd.heap_39 w.params).In h₀) (T : Top Mine.hd.view_39 (looseW Mine.hd.view_39 [Str.ofString "UNKNOWN"]) mean mg mb h₀) (hA : A.frames = some (env :: outer)) (hf : env.frame = some L) (hk : env.scope.kind = .function) (hr : A.depth < recursionLimit) (h0 : x.length ≤ 1000)
    (h : ∀ t' h' tk', t' ≠ 0 → Fr h₀ L h' m → News h₀ L h' news → Q (.str x t') { s with heap := h', toks := tk' }) :
    wpAny (model Challenge.rw_nb0067_01.row.prog w) A (call (.ref 95) [.str (rStr x) t]) Q E s :=
  p257 B F X T hA hf hk hr h0 fun t' h' tk' ht kp => h t' h' tk' ht (F.keeps kp) (N.grown kp)
theorem p229L {n : Int} {t th ti : Tok} {p : Addr} {kp : Nat} (B : Below A₀ base outer h₀) (F : Fr h₀ L s.heap m) (N : News h₀ L s.heap news) (X : (Mine.hd.heap_39 w.params).In h₀) (T : Top Mine.hd.view_39 (looseW Mine.hd.view_39 [Str.ofString "UNKNOWN"]) mean mg mb h₀) (hA : A.frames = some (env :: outer)) (hf : env.frame = some L) (hk : env.scope.kind = .function) (hr : A.depth < recursionLimit) (h0 : 0 ≤ n) (h1 : n < 65536)
    (hm : (p, ({ cls := .type "tuple", data := .seq #[.str (Str.ofString "host") th, .int 21 ti] kp } : Obj)) ∈ news)
    (h : ∀ q h' tk' tn, AllNe q news → Fr h₀ L h' m → News h₀ L h' ((q, ({ cls := .type "tuple", data := .seq #[.str (Str.ofString "host") th, .int n tn] 0 } : Obj)) :: news) → Q (.ref q) { s with heap := h', toks := tk' }) :
    wpAny (model Challenge.rw_nb0067_01.row.prog w) A (call (.ref 88) [.str (rInt n) t] [(Str.ofString "peer", .ref p)]) Q E s :=
  p229 B F X T hA hf hk hr h0 h1 (N.get hm) fun q h' tk' tn kp hq ho => by
    have hne : ∀ b o, s.heap.get? b = some o → b ≠ q := fun b o e z => by rw [z, hq] at e; cases e
    have hq₀ : h₀.get? q = none := by
      cases z : h₀.get? q with
      | none => rfl
      | some o => rw [F.keep _ _ z] at hq; cases hq
    refine h q h' tk' tn (allNe_of fun p hp => hne _ _ (N p hp).1) (F.keeps kp) fun p hp => ?_
    rcases List.mem_cons.mp hp with rfl | hp
    · refine ⟨ho, fun z => ?_, hq₀⟩
      obtain ⟨oL, _, _, hL, _⟩ := F.ns
      exact hne _ _ hL z.symm
    · exact N.grown kp p hp
end
end Mine
end
section
open PySem PySem.W PyProof.Rows PySem.Calls
set_option maxRecDepth 100000
namespace Mine
local macro_rules | `(tactic| walk_at "call ref") => `(tactic| (k_here; (with_reducible show wpAny _ _ (call (Value.ref 44) _ _) _ _ _); k_dflt (refine wpAny_call ?_; (refine' enter_more ?k1 ?k2 ?k3 ?k4 ?k5 ?kA ?kF ?kK ?k6 ?k7 ?k8 ?kX ?kM ?kN ?kR ?kP ?kT ?kB ?_ ?c2 ?c3 ?c4 ?c5; (case kA => exact rfl); (case kF => exact rfl); (case kK => exact rfl); (case k1 => k_asm); (case k2 => k_asm); (case k3 => k_asm); (case k4 => k_asm); (case k5 => k_asm); (case k6 => k_is); (case k7 => k_is); (case k8 => k_room); (case kX => kp_lit); (case kM => exact rfl); (case kN => exact rfl); (case kR => exact rfl); (case kP => exact rfl); (case kT => exact fun _ => rfl); (case kB => exact fun _ => locs rfl); (case c5 => decide); (case c2 => exact rfl); (case c3 => exact rfl); (case c4 => exact rfl); k_whole; intro D' g' L' h' tk' l1 lo' FG' F' N' B' X' T' lt'; (try k_lt l1); (try simp only [kwEs, List.length_nil, List.length_cons] at N'); (try dsimp only); (try k_lift B'); (try k_fold)))))
local macro_rules | `(tactic| walk_at "callWith ref") => `(tactic| (k_here; (with_reducible show wpAny _ _ (callWith _ (Value.ref _) [] (backTo _ (starEach [Expr.Name _ _] _)) (backToKw _ (keywordEach [Keyword.mk none (Expr.Name _ _) _] _))) _ _ _); k_dflt (refine' call_kw ?k1 ?k2 ?k3 ?k4 ?k5 ?k6 ?k7 ?k8 ?k9 ?_ ?c1 ?c2 ?c3 ?c4 ?c5; (case k1 => k_asm); (case k2 => k_asm); (case k3 => k_asm); (case k4 => k_is); (case k5 => exact rfl); (case k6 => exact rfl); (case k7 => k_mem); (case k8 => assumption); (case k9 => first | exact .inl ⟨rfl, rfl⟩ | exact .inr ⟨_, _, _, _, rfl, rfl⟩); (case c1 => exact rfl); (case c2 => exact rfl); (case c3 => exact rfl); (case c4 => decide); (case c5 => decide); k_whole; intro h' F' N')))
local macro_rules | `(tactic| walk_at "call type:str") => `(tactic| (k_here; (with_reducible show wpAny _ _ (call (Value.type "str") [Value.ref _]) _ _ _); k_dflt (refine' str_own ?X ?N ?G ?s ?m ?u ?_; (case G => assumption); (case N => assumption); (case X => k_in); (case s => k_is); (case m => k_is); (case u => k_units); k_whole)))
local macro_rules | `(tactic| walk_at "call builtin:list.append") => `(tactic| (k_here; (show wpAny _ _ (call (Value.builtin _) [Value.ref _, _]) _ _ _); k_dflt (refine' append_K ?k1 ?k2 ?k3 ?_ ?z; (case k1 => k_asm); (case k2 => k_asm); (case k3 => k_upd); (case z => size_fits); k_whole); intro h' F' N'; (try k_sweep)))
local macro_rules | `(tactic| walk_at "exec For Name List cons nil") => `(tactic| (k_here; (with_reducible show wpAny _ _ (exec (Stmt.For (Expr.Name _ _) (Expr.List _ _) _ [] _) _) _ _ _); k_dflt (refine' wpAny_For ?_ ?hs; (case hs => intro _; exact rfl); k_whole)))
local macro_rules | `(tactic| walk_at "pyIter ref") => `(tactic| (k_here; (with_reducible show wpAny _ _ (pyIter (Value.ref _)) (fun it s₂ => codeAny _ _ (Code.forLoop (Expr.Name _ _) _ _ [] _) _ _) _ _); k_dflt (refine' iter_led ?F ?N ?l ?c ?d ?_; (case F => k_asm); (case N => k_asm); (case l => k_mem); (case c => exact rfl); (case d => exact rfl); k_whole; intro I' h' l1 F' N'; (try k_lt l1))))
local macro_rules | `(tactic| walk_at "ForPost") => `(tactic| (dsimp only [ForPost]))
local macro_rules | `(tactic| walk_at "ForGo") => `(tactic| (k_here; k_dflt (first | (refine' for_end (i := 3) ?h ?F ?N ?I ?c ?d ?l ?lc ?ld ?x ?_; (case d => assumption); (case c => assumption); (case h => exact rfl); (case F => k_asm); (case N => k_asm); (case I => first | exact Drop.tail (by k_ne) (Drop.tail (by k_ne) (Drop.tail (by k_ne) (Drop.tail (by k_ne) (Drop.tail (by k_ne) (Drop.tail (by k_ne) (Drop.tail (by k_ne) (Drop.tail (by k_ne) (Drop.head (by k_all))))))))) | exact Drop.tail (by k_ne) (Drop.tail (by k_ne) (Drop.tail (by k_ne) (Drop.tail (by k_ne) (Drop.tail (by k_ne) (Drop.tail (by k_ne) (Drop.tail (by k_ne) (Drop.tail (by k_ne) (Drop.tail (by k_ne) (Drop.head (by k_all)))))))))) | exact Drop.tail (by k_ne) (Drop.tail (by k_ne) (Drop.tail (by k_ne) (Drop.tail (by k_ne) (Drop.tail (by k_ne) (Drop.tail (by k_ne) (Drop.tail (by k_ne) (Drop.tail (by k_ne) (Drop.tail (by k_ne) (Drop.tail (by k_ne) (Drop.head (by k_all))))))))))) | exact Drop.tail (by k_ne) (Drop.tail (by k_ne) (Drop.tail (by k_ne) (Drop.tail (by k_ne) (Drop.tail (by k_ne) (Drop.tail (by k_ne) (Drop.tail (by k_ne) (Drop.head (by k_all)))))))) | exact Drop.tail (by k_ne) (Drop.tail (by k_ne) (Drop.tail (by k_ne) (Drop.tail (by k_ne) (Drop.tail (by k_ne) (Drop.tail (by k_ne) (Drop.tail (by k_ne) (Drop.tail (by k_ne) (Drop.tail (by k_ne) (Drop.tail (by k_ne) (Drop.tail (by k_ne) (Drop.head (by k_all)))))))))))) | exact Drop.tail (by k_ne) (Drop.tail (by k_ne) (Drop.tail (by k_ne) (Drop.tail (by k_ne) (Drop.tail (by k_ne) (Drop.tail (by k_ne) (Drop.head (by k_all))))))) | exact Drop.tail (by k_ne) (Drop.tail (by k_ne) (Drop.tail (by k_ne) (Drop.tail (by k_ne) (Drop.tail (by k_ne) (Drop.tail (by k_ne) (Drop.tail (by k_ne) (Drop.tail (by k_ne) (Drop.tail (by k_ne) (Drop.tail (by k_ne) (Drop.tail (by k_ne) (Drop.tail (by k_ne) (Drop.head (by k_all))))))))))))) | exact Drop.tail (by k_ne) (Drop.tail (by k_ne) (Drop.tail (by k_ne) (Drop.tail (by k_ne) (Drop.tail (by k_ne) (Drop.head (by k_all)))))) | exact Drop.tail (by k_ne) (Drop.tail (by k_ne) (Drop.tail (by k_ne) (Drop.tail (by k_ne) (Drop.tail (by k_ne) (Drop.tail (by k_ne) (Drop.tail (by k_ne) (Drop.tail (by k_ne) (Drop.tail (by k_ne) (Drop.tail (by k_ne) (Drop.tail (by k_ne) (Drop.tail (by k_ne) (Drop.tail (by k_ne) (Drop.head (by k_all)))))))))))))) | exact Drop.tail (by k_ne) (Drop.tail (by k_ne) (Drop.tail (by k_ne) (Drop.tail (by k_ne) (Drop.head (by k_all))))) | exact Drop.tail (by k_ne) (Drop.tail (by k_ne) (Drop.tail (by k_ne) (Drop.tail (by k_ne) (Drop.tail (by k_ne) (Drop.tail (by k_ne) (Drop.tail (by k_ne) (Drop.tail (by k_ne) (Drop.tail (by k_ne) (Drop.tail (by k_ne) (Drop.tail (by k_ne) (Drop.tail (by k_ne) (Drop.tail (by k_ne) (Drop.tail (by k_ne) (Drop.head (by k_all))))))))))))))) | exact Drop.tail (by k_ne) (Drop.tail (by k_ne) (Drop.tail (by k_ne) (Drop.head (by k_all)))) | exact Drop.tail (by k_ne) (Drop.tail (by k_ne) (Drop.head (by k_all))) | exact Drop.tail (by k_ne) (Drop.head (by k_all)) | exact Drop.head (by k_all)); (case l => k_mem); (case lc => exact rfl); (case ld => exact rfl); (case x => exact rfl); k_whole; intro h' F' N'; (try dsimp only)) | (refine' for_item (i := 2) (v := Value.none) ?F ?N ?U ?c ?d ?l ?lc ?ld ?x ?_ ?hk ?hlo; (case d => assumption); (case c => assumption); (case hk => exact rfl); (case hlo => exact rfl); (case F => k_asm); (case N => k_asm); (case U => k_updF); (case l => k_mem); (case lc => exact rfl); (case ld => exact rfl); (case x => exact rfl); k_whole; intro h' oI' hc' hd' F' N'; (try dsimp only at N' ⊢); (try k_fold)) | (refine' for_item (i := 1) (v := Value.ref 88) ?F ?N ?U ?c ?d ?l ?lc ?ld ?x ?_ ?hk ?hlo; (case d => assumption); (case c => assumption); (case hk => exact rfl); (case hlo => exact rfl); (case F => k_asm); (case N => k_asm); (case U => k_updF); (case l => k_mem); (case lc => exact rfl); (case ld => exact rfl); (case x => exact rfl); k_whole; intro h' oI' hc' hd' F' N'; (try dsimp only at N' ⊢); (try k_fold)) | (refine' for_item (i := 0) (v := Value.ref 95) ?F ?N ?U ?c ?d ?l ?lc ?ld ?x ?_ ?hk ?hlo; (case hk => exact rfl); (case hlo => exact rfl); (case F => k_asm); (case N => k_asm); (case U => k_updF); (case c => exact rfl); (case d => exact rfl); (case l => k_mem); (case lc => exact rfl); (case ld => exact rfl); (case x => exact rfl); k_whole; intro h' oI' hc' hd' F' N'; (try dsimp only at N' ⊢); (try k_fold)))))
local macro_rules | `(tactic| walk_at "compareOp Is ref str") => `(tactic| (k_here; k_dflt (refine is_ref_str ?_)))
local macro_rules | `(tactic| walk_at "compareOp Is str ref") => `(tactic| (k_here; k_dflt (refine is_str_ref ?_)))
local macro_rules | `(tactic| walk_at "compareOp Is str str") => `(tactic| (k_here; k_dflt (refine is_str_self (by first | assumption | omega) ?_)))
local macro_rules | `(tactic| walk_at "compareOp Is ref ref") => `(tactic| (k_here; (with_reducible show wpAny _ _ (compareOp CmpOp.Is (Value.ref _) (Value.ref 37)) _ _ _); k_dflt (refine' is_tup_obj ?F ?N ?x ?X ?y ?nt ?_; (case F => k_asm); (case N => k_asm); (case x => k_mem); (case X => k_asm); (case y => k_is); (case nt => intro e; cases e); k_whole)))
local macro_rules | `(tactic| walk_at "compareOp Is ref ref") => `(tactic| (k_here; (with_reducible show wpAny _ _ (compareOp CmpOp.Is (Value.ref 37) (Value.ref 37)) _ _ _); k_dflt (refine wpAny_is_ref_self ?_)))
local macro_rules | `(tactic| walk_at "compareOp NotEq str str") => `(tactic| (k_here; (simp only [cut3_str, cut35_str, cut3_int]); walk_at "compareOp NotEq str str"))
local macro_rules | `(tactic| walk_at "call ref") => `(tactic| (k_here; (with_reducible show wpAny _ _ (call (Value.ref 95) [Value.str (rStr _) _] _) _ _ _); k_dflt (refine' p257L ?B ?F ?N ?X ?T ?hA ?hf ?hk ?hr ?h0 ?_; (case hA => exact rfl); (case hf => exact rfl); (case hk => exact rfl); (case B => k_asm); (case F => k_asm); (case N => k_asm); (case X => k_asm); (case T => k_asm); (case hr => k_room); (case h0 => assumption); k_whole; intro t' h' tk' ht' F' N')))
local macro_rules | `(tactic| walk_at "call ref") => `(tactic| (k_here; (with_reducible show wpAny _ _ (call (Value.ref 88) [Value.str (rInt _) _] _) _ _ _); k_dflt (refine' p229L ?B ?F ?N ?X ?T ?hA ?hf ?hk ?hr ?h0 ?h1 ?hm ?_; (case hA => exact rfl); (case hf => exact rfl); (case hk => exact rfl); (case B => k_asm); (case F => k_asm); (case N => k_asm); (case X => k_asm); (case T => k_asm); (case hr => k_room); (case h0 => assumption); (case h1 => assumption); (case hm => k_mem); k_whole; intro q' h' tk' tn' ne' F' N'; (simp only [AllNe, and_true] at ne'))))
set_option maxHeartbeats 4000000 in
theorem heardN {w : World} : ∀ {mean : ExcName → Option Value} {mg mb : Str → Option Value} {cn : Str} {cs : Scope} {a : Addr} {ccd : Value} {h₀ : Heap} {L : Addr} {m : Str → Option Value} {s : Shared} {Q E : Value → Shared → Prop} {t : Tok} 
   (_B : Below callerA h₀ [] h₀) (_F : Fr h₀ L s.heap m) (_X : (Mine.hd.heap_39 w.params).In h₀) (_T : Top Mine.hd.view_39 (looseW Mine.hd.view_39 [Str.ofString "UNKNOWN"]) mean mg mb h₀) (_hk : cs.kind = .function) 
   (_hret : ∀ v h' tk' fp, (∀ b o, b ≠ L → s.heap.get? b = some o → h'.get? b = some o) → Fr h₀ L h' m → Reads h' v (dNone) fp → Q v { s with heap := h', toks := tk' }),
   wpAny (model Challenge.rw_nb0067_01.row.prog w) (callerA.deeper (envOf cn cs L a ccd)) (call (.ref 114) [.str (Str.ofString "150 here it comes") t]) Q E s := by
  k_fill
  intro mean mg mb cn cs a ccd h₀ L m s Q E t B F X T hk hret
  skip
  refine wpAny_call ?_
  k_dflt (refine' enterS0 ?k1 ?k2 ?k3 ?k5 ?kA ?k6 ?k7 ?k8 ?k9 ?kB ?_ ?cK ?c2 ?c3 ?c4 ?c5; (case kA => exact rfl); (case k2 => k_asm); (case k1 => k_asm); (case k3 => k_asm); (case k5 => k_asm); (case k6 => k_is); (case k7 => k_is); (case k8 => k_room); (case k9 => exact BindsTo.of_eq rfl); (case kB => exact locs rfl); (case cK => assumption); (case c2 => exact rfl); (case c3 => exact rfl); (case c4 => exact rfl); (case c5 => decide); k_whole; intro L' h' F' N' B' X' T' D'; (try dsimp only); (try k_lift B'); (try k_fold))
  w_on
  repeat' (first | (k_unfold; (try dsimp only)) | walk1 | (dsimp only; walk1) | fail "no step")
  (with_reducible rename KtsTurn _ s.heap _ => T9)
  exact hret _ _ _ _ (keep_of T9 (by assumption)) (by assumption) (by ke_read)
end Mine
end
section
open PySem PySem.W PyProof.Rows PySem.Calls
set_option maxRecDepth 100000
namespace Mine
local macro_rules | `(tactic| walk_at "call ref") => `(tactic| (k_here; (with_reducible show wpAny _ _ (call (Value.ref 44) _ _) _ _ _); k_dflt (refine wpAny_call ?_; (refine' enter_more ?k1 ?k2 ?k3 ?k4 ?k5 ?kA ?kF ?kK ?k6 ?k7 ?k8 ?kX ?kM ?kN ?kR ?kP ?kT ?kB ?_ ?c2 ?c3 ?c4 ?c5; (case kA => exact rfl); (case kF => exact rfl); (case kK => exact rfl); (case k1 => k_asm); (case k2 => k_asm); (case k3 => k_asm); (case k4 => k_asm); (case k5 => k_asm); (case k6 => k_is); (case k7 => k_is); (case k8 => k_room); (case kX => kp_lit); (case kM => exact rfl); (case kN => exact rfl); (case kR => exact rfl); (case kP => exact rfl); (case kT => exact fun _ => rfl); (case kB => exact fun _ => locs rfl); (case c5 => decide); (case c2 => exact rfl); (case c3 => exact rfl); (case c4 => exact rfl); k_whole; intro D' g' L' h' tk' l1 lo' FG' F' N' B' X' T' lt'; (try k_lt l1); (try simp only [kwEs, List.length_nil, List.length_cons] at N'); (try dsimp only); (try k_lift B'); (try k_fold)))))
local macro_rules | `(tactic| walk_at "callWith ref") => `(tactic| (k_here; (with_reducible show wpAny _ _ (callWith _ (Value.ref _) [] (backTo _ (starEach [Expr.Name _ _] _)) (backToKw _ (keywordEach [Keyword.mk none (Expr.Name _ _) _] _))) _ _ _); k_dflt (refine' call_kw ?k1 ?k2 ?k3 ?k4 ?k5 ?k6 ?k7 ?k8 ?k9 ?_ ?c1 ?c2 ?c3 ?c4 ?c5; (case k1 => k_asm); (case k2 => k_asm); (case k3 => k_asm); (case k4 => k_is); (case k5 => exact rfl); (case k6 => exact rfl); (case k7 => k_mem); (case k8 => assumption); (case k9 => first | exact .inl ⟨rfl, rfl⟩ | exact .inr ⟨_, _, _, _, rfl, rfl⟩); (case c1 => exact rfl); (case c2 => exact rfl); (case c3 => exact rfl); (case c4 => decide); (case c5 => decide); k_whole; intro h' F' N')))
local macro_rules | `(tactic| walk_at "call type:str") => `(tactic| (k_here; (with_reducible show wpAny _ _ (call (Value.type "str") [Value.ref _]) _ _ _); k_dflt (refine' str_own ?X ?N ?G ?s ?m ?u ?_; (case G => assumption); (case N => assumption); (case X => k_in); (case s => k_is); (case m => k_is); (case u => k_units); k_whole)))
local macro_rules | `(tactic| walk_at "call builtin:list.append") => `(tactic| (k_here; (show wpAny _ _ (call (Value.builtin _) [Value.ref _, _]) _ _ _); k_dflt (refine' append_K ?k1 ?k2 ?k3 ?_ ?z; (case k1 => k_asm); (case k2 => k_asm); (case k3 => k_upd); (case z => size_fits); k_whole); intro h' F' N'; (try k_sweep)))
local macro_rules | `(tactic| walk_at "exec For Name List cons nil") => `(tactic| (k_here; (with_reducible show wpAny _ _ (exec (Stmt.For (Expr.Name _ _) (Expr.List _ _) _ [] _) _) _ _ _); k_dflt (refine' wpAny_For ?_ ?hs; (case hs => intro _; exact rfl); k_whole)))
local macro_rules | `(tactic| walk_at "pyIter ref") => `(tactic| (k_here; (with_reducible show wpAny _ _ (pyIter (Value.ref _)) (fun it s₂ => codeAny _ _ (Code.forLoop (Expr.Name _ _) _ _ [] _) _ _) _ _); k_dflt (refine' iter_led ?F ?N ?l ?c ?d ?_; (case F => k_asm); (case N => k_asm); (case l => k_mem); (case c => exact rfl); (case d => exact rfl); k_whole; intro I' h' l1 F' N'; (try k_lt l1))))
local macro_rules | `(tactic| walk_at "ForPost") => `(tactic| (dsimp only [ForPost]))
local macro_rules | `(tactic| walk_at "ForGo") => `(tactic| (k_here; k_dflt (first | (refine' for_end (i := 3) ?h ?F ?N ?I ?c ?d ?l ?lc ?ld ?x ?_; (case d => assumption); (case c => assumption); (case h => exact rfl); (case F => k_asm); (case N => k_asm); (case I => first | exact Drop.tail (by k_ne) (Drop.tail (by k_ne) (Drop.tail (by k_ne) (Drop.tail (by k_ne) (Drop.tail (by k_ne) (Drop.tail (by k_ne) (Drop.tail (by k_ne) (Drop.tail (by k_ne) (Drop.head (by k_all))))))))) | exact Drop.tail (by k_ne) (Drop.tail (by k_ne) (Drop.tail (by k_ne) (Drop.tail (by k_ne) (Drop.tail (by k_ne) (Drop.tail (by k_ne) (Drop.tail (by k_ne) (Drop.tail (by k_ne) (Drop.tail (by k_ne) (Drop.head (by k_all)))))))))) | exact Drop.tail (by k_ne) (Drop.tail (by k_ne) (Drop.tail (by k_ne) (Drop.tail (by k_ne) (Drop.tail (by k_ne) (Drop.tail (by k_ne) (Drop.tail (by k_ne) (Drop.tail (by k_ne) (Drop.tail (by k_ne) (Drop.tail (by k_ne) (Drop.head (by k_all))))))))))) | exact Drop.tail (by k_ne) (Drop.tail (by k_ne) (Drop.tail (by k_ne) (Drop.tail (by k_ne) (Drop.tail (by k_ne) (Drop.tail (by k_ne) (Drop.tail (by k_ne) (Drop.head (by k_all)))))))) | exact Drop.tail (by k_ne) (Drop.tail (by k_ne) (Drop.tail (by k_ne) (Drop.tail (by k_ne) (Drop.tail (by k_ne) (Drop.tail (by k_ne) (Drop.tail (by k_ne) (Drop.tail (by k_ne) (Drop.tail (by k_ne) (Drop.tail (by k_ne) (Drop.tail (by k_ne) (Drop.head (by k_all)))))))))))) | exact Drop.tail (by k_ne) (Drop.tail (by k_ne) (Drop.tail (by k_ne) (Drop.tail (by k_ne) (Drop.tail (by k_ne) (Drop.tail (by k_ne) (Drop.head (by k_all))))))) | exact Drop.tail (by k_ne) (Drop.tail (by k_ne) (Drop.tail (by k_ne) (Drop.tail (by k_ne) (Drop.tail (by k_ne) (Drop.tail (by k_ne) (Drop.tail (by k_ne) (Drop.tail (by k_ne) (Drop.tail (by k_ne) (Drop.tail (by k_ne) (Drop.tail (by k_ne) (Drop.tail (by k_ne) (Drop.head (by k_all))))))))))))) | exact Drop.tail (by k_ne) (Drop.tail (by k_ne) (Drop.tail (by k_ne) (Drop.tail (by k_ne) (Drop.tail (by k_ne) (Drop.head (by k_all)))))) | exact Drop.tail (by k_ne) (Drop.tail (by k_ne) (Drop.tail (by k_ne) (Drop.tail (by k_ne) (Drop.tail (by k_ne) (Drop.tail (by k_ne) (Drop.tail (by k_ne) (Drop.tail (by k_ne) (Drop.tail (by k_ne) (Drop.tail (by k_ne) (Drop.tail (by k_ne) (Drop.tail (by k_ne) (Drop.tail (by k_ne) (Drop.head (by k_all)))))))))))))) | exact Drop.tail (by k_ne) (Drop.tail (by k_ne) (Drop.tail (by k_ne) (Drop.tail (by k_ne) (Drop.head (by k_all))))) | exact Drop.tail (by k_ne) (Drop.tail (by k_ne) (Drop.tail (by k_ne) (Drop.tail (by k_ne) (Drop.tail (by k_ne) (Drop.tail (by k_ne) (Drop.tail (by k_ne) (Drop.tail (by k_ne) (Drop.tail (by k_ne) (Drop.tail (by k_ne) (Drop.tail (by k_ne) (Drop.tail (by k_ne) (Drop.tail (by k_ne) (Drop.tail (by k_ne) (Drop.head (by k_all))))))))))))))) | exact Drop.tail (by k_ne) (Drop.tail (by k_ne) (Drop.tail (by k_ne) (Drop.head (by k_all)))) | exact Drop.tail (by k_ne) (Drop.tail (by k_ne) (Drop.head (by k_all))) | exact Drop.tail (by k_ne) (Drop.head (by k_all)) | exact Drop.head (by k_all)); (case l => k_mem); (case lc => exact rfl); (case ld => exact rfl); (case x => exact rfl); k_whole; intro h' F' N'; (try dsimp only)) | (refine' for_item (i := 2) (v := Value.none) ?F ?N ?U ?c ?d ?l ?lc ?ld ?x ?_ ?hk ?hlo; (case d => assumption); (case c => assumption); (case hk => exact rfl); (case hlo => exact rfl); (case F => k_asm); (case N => k_asm); (case U => k_updF); (case l => k_mem); (case lc => exact rfl); (case ld => exact rfl); (case x => exact rfl); k_whole; intro h' oI' hc' hd' F' N'; (try dsimp only at N' ⊢); (try k_fold)) | (refine' for_item (i := 1) (v := Value.ref 88) ?F ?N ?U ?c ?d ?l ?lc ?ld ?x ?_ ?hk ?hlo; (case d => assumption); (case c => assumption); (case hk => exact rfl); (case hlo => exact rfl); (case F => k_asm); (case N => k_asm); (case U => k_updF); (case l => k_mem); (case lc => exact rfl); (case ld => exact rfl); (case x => exact rfl); k_whole; intro h' oI' hc' hd' F' N'; (try dsimp only at N' ⊢); (try k_fold)) | (refine' for_item (i := 0) (v := Value.ref 95) ?F ?N ?U ?c ?d ?l ?lc ?ld ?x ?_ ?hk ?hlo; (case hk => exact rfl); (case hlo => exact rfl); (case F => k_asm); (case N => k_asm); (case U => k_updF); (case c => exact rfl); (case d => exact rfl); (case l => k_mem); (case lc => exact rfl); (case ld => exact rfl); (case x => exact rfl); k_whole; intro h' oI' hc' hd' F' N'; (try dsimp only at N' ⊢); (try k_fold)))))
local macro_rules | `(tactic| walk_at "compareOp Is ref str") => `(tactic| (k_here; k_dflt (refine is_ref_str ?_)))
local macro_rules | `(tactic| walk_at "compareOp Is str ref") => `(tactic| (k_here; k_dflt (refine is_str_ref ?_)))
local macro_rules | `(tactic| walk_at "compareOp Is str str") => `(tactic| (k_here; k_dflt (refine is_str_self (by first | assumption | omega) ?_)))
local macro_rules | `(tactic| walk_at "compareOp Is ref ref") => `(tactic| (k_here; (with_reducible show wpAny _ _ (compareOp CmpOp.Is (Value.ref _) (Value.ref 37)) _ _ _); k_dflt (refine' is_tup_obj ?F ?N ?x ?X ?y ?nt ?_; (case F => k_asm); (case N => k_asm); (case x => k_mem); (case X => k_asm); (case y => k_is); (case nt => intro e; cases e); k_whole)))
local macro_rules | `(tactic| walk_at "compareOp Is ref ref") => `(tactic| (k_here; (with_reducible show wpAny _ _ (compareOp CmpOp.Is (Value.ref 37) (Value.ref 37)) _ _ _); k_dflt (refine wpAny_is_ref_self ?_)))
local macro_rules | `(tactic| walk_at "compareOp NotEq str str") => `(tactic| (k_here; (simp only [cut3_str, cut35_str, cut3_int]); walk_at "compareOp NotEq str str"))
local macro_rules | `(tactic| walk_at "call ref") => `(tactic| (k_here; (with_reducible show wpAny _ _ (call (Value.ref 95) [Value.str (rStr _) _] _) _ _ _); k_dflt (refine' p257L ?B ?F ?N ?X ?T ?hA ?hf ?hk ?hr ?h0 ?_; (case hA => exact rfl); (case hf => exact rfl); (case hk => exact rfl); (case B => k_asm); (case F => k_asm); (case N => k_asm); (case X => k_asm); (case T => k_asm); (case hr => k_room); (case h0 => assumption); k_whole; intro t' h' tk' ht' F' N')))
local macro_rules | `(tactic| walk_at "call ref") => `(tactic| (k_here; (with_reducible show wpAny _ _ (call (Value.ref 88) [Value.str (rInt _) _] _) _ _ _); k_dflt (refine' p229L ?B ?F ?N ?X ?T ?hA ?hf ?hk ?hr ?h0 ?h1 ?hm ?_; (case hA => exact rfl); (case hf => exact rfl); (case hk => exact rfl); (case B => k_asm); (case F => k_asm); (case N => k_asm); (case X => k_asm); (case T => k_asm); (case hr => k_room); (case h0 => assumption); (case h1 => assumption); (case hm => k_mem); k_whole; intro q' h' tk' tn' ne' F' N'; (simp only [AllNe, and_true] at ne'))))
set_option maxHeartbeats 4000000 in
theorem heardI {w : World} : ∀ {mean : ExcName → Option Value} {mg mb : Str → Option Value} {cn : Str} {cs : Scope} {a : Addr} {ccd : Value} {h₀ : Heap} {L : Addr} {m : Str → Option Value} {s : Shared} {Q E : Value → Shared → Prop} {t : Tok} {n : Int}
   (_B : Below callerA h₀ [] h₀) (_F : Fr h₀ L s.heap m) (_X : (Mine.hd.heap_39 w.params).In h₀) (_T : Top Mine.hd.view_39 (looseW Mine.hd.view_39 [Str.ofString "UNKNOWN"]) mean mg mb h₀) (_hk : cs.kind = .function) (_h0 : 0 ≤ n) (_h1 : n < 65536)
   (_hret : ∀ v h' tk' fp, (∀ b o, b ≠ L → s.heap.get? b = some o → h'.get? b = some o) → Fr h₀ L h' m → Reads h' v (dInt n) fp → Q v { s with heap := h', toks := tk' }),
   wpAny (model Challenge.rw_nb0067_01.row.prog w) (callerA.deeper (envOf cn cs L a ccd)) (call (.ref 114) [.str (rInt n) t]) Q E s := by
  k_fill
  intro mean mg mb cn cs a ccd h₀ L m s Q E t n B F X T hk h0 h1 hret
  have hl := rInt_len n
  have hl1 := dig_len h0 h1
  have hl2 : (rInt n).length ≤ 2016 := by omega
  refine wpAny_call ?_
  k_dflt (refine' enterS0 ?k1 ?k2 ?k3 ?k5 ?kA ?k6 ?k7 ?k8 ?k9 ?kB ?_ ?cK ?c2 ?c3 ?c4 ?c5; (case kA => exact rfl); (case k2 => k_asm); (case k1 => k_asm); (case k3 => k_asm); (case k5 => k_asm); (case k6 => k_is); (case k7 => k_is); (case k8 => k_room); (case k9 => exact BindsTo.of_eq rfl); (case kB => exact locs rfl); (case cK => assumption); (case c2 => exact rfl); (case c3 => exact rfl); (case c4 => exact rfl); (case c5 => decide); k_whole; intro L' h' F' N' B' X' T' D'; (try dsimp only); (try k_lift B'); (try k_fold))
  w_on
  repeat' (first | (k_unfold; (try dsimp only)) | walk1 | (dsimp only; walk1) | fail "no step")
  (with_reducible rename KtsTurn _ s.heap _ => T9)
  exact hret _ _ _ _ (keep_of T9 (by assumption)) (by assumption) (by ke_read)
end Mine
end
section
open PySem PySem.W PyProof.Rows PySem.Calls
set_option maxRecDepth 100000
namespace Mine
local macro_rules | `(tactic| walk_at "call ref") => `(tactic| (k_here; (with_reducible show wpAny _ _ (call (Value.ref 44) _ _) _ _ _); k_dflt (refine wpAny_call ?_; (refine' enter_more ?k1 ?k2 ?k3 ?k4 ?k5 ?kA ?kF ?kK ?k6 ?k7 ?k8 ?kX ?kM ?kN ?kR ?kP ?kT ?kB ?_ ?c2 ?c3 ?c4 ?c5; (case kA => exact rfl); (case kF => exact rfl); (case kK => exact rfl); (case k1 => k_asm); (case k2 => k_asm); (case k3 => k_asm); (case k4 => k_asm); (case k5 => k_asm); (case k6 => k_is); (case k7 => k_is); (case k8 => k_room); (case kX => kp_lit); (case kM => exact rfl); (case kN => exact rfl); (case kR => exact rfl); (case kP => exact rfl); (case kT => exact fun _ => rfl); (case kB => exact fun _ => locs rfl); (case c5 => decide); (case c2 => exact rfl); (case c3 => exact rfl); (case c4 => exact rfl); k_whole; intro D' g' L' h' tk' l1 lo' FG' F' N' B' X' T' lt'; (try k_lt l1); (try simp only [kwEs, List.length_nil, List.length_cons] at N'); (try dsimp only); (try k_lift B'); (try k_fold)))))
local macro_rules | `(tactic| walk_at "callWith ref") => `(tactic| (k_here; (with_reducible show wpAny _ _ (callWith _ (Value.ref _) [] (backTo _ (starEach [Expr.Name _ _] _)) (backToKw _ (keywordEach [Keyword.mk none (Expr.Name _ _) _] _))) _ _ _); k_dflt (refine' call_kw ?k1 ?k2 ?k3 ?k4 ?k5 ?k6 ?k7 ?k8 ?k9 ?_ ?c1 ?c2 ?c3 ?c4 ?c5; (case k1 => k_asm); (case k2 => k_asm); (case k3 => k_asm); (case k4 => k_is); (case k5 => exact rfl); (case k6 => exact rfl); (case k7 => k_mem); (case k8 => assumption); (case k9 => first | exact .inl ⟨rfl, rfl⟩ | exact .inr ⟨_, _, _, _, rfl, rfl⟩); (case c1 => exact rfl); (case c2 => exact rfl); (case c3 => exact rfl); (case c4 => decide); (case c5 => decide); k_whole; intro h' F' N')))
local macro_rules | `(tactic| walk_at "call type:str") => `(tactic| (k_here; (with_reducible show wpAny _ _ (call (Value.type "str") [Value.ref _]) _ _ _); k_dflt (refine' str_own ?X ?N ?G ?s ?m ?u ?_; (case G => assumption); (case N => assumption); (case X => k_in); (case s => k_is); (case m => k_is); (case u => k_units); k_whole)))
local macro_rules | `(tactic| walk_at "call builtin:list.append") => `(tactic| (k_here; (show wpAny _ _ (call (Value.builtin _) [Value.ref _, _]) _ _ _); k_dflt (refine' append_K ?k1 ?k2 ?k3 ?_ ?z; (case k1 => k_asm); (case k2 => k_asm); (case k3 => k_upd); (case z => size_fits); k_whole); intro h' F' N'; (try k_sweep)))
local macro_rules | `(tactic| walk_at "exec For Name List cons nil") => `(tactic| (k_here; (with_reducible show wpAny _ _ (exec (Stmt.For (Expr.Name _ _) (Expr.List _ _) _ [] _) _) _ _ _); k_dflt (refine' wpAny_For ?_ ?hs; (case hs => intro _; exact rfl); k_whole)))
local macro_rules | `(tactic| walk_at "pyIter ref") => `(tactic| (k_here; (with_reducible show wpAny _ _ (pyIter (Value.ref _)) (fun it s₂ => codeAny _ _ (Code.forLoop (Expr.Name _ _) _ _ [] _) _ _) _ _); k_dflt (refine' iter_led ?F ?N ?l ?c ?d ?_; (case F => k_asm); (case N => k_asm); (case l => k_mem); (case c => exact rfl); (case d => exact rfl); k_whole; intro I' h' l1 F' N'; (try k_lt l1))))
local macro_rules | `(tactic| walk_at "ForPost") => `(tactic| (dsimp only [ForPost]))
local macro_rules | `(tactic| walk_at "ForGo") => `(tactic| (k_here; k_dflt (first | (refine' for_end (i := 3) ?h ?F ?N ?I ?c ?d ?l ?lc ?ld ?x ?_; (case d => assumption); (case c => assumption); (case h => exact rfl); (case F => k_asm); (case N => k_asm); (case I => first | exact Drop.tail (by k_ne) (Drop.tail (by k_ne) (Drop.tail (by k_ne) (Drop.tail (by k_ne) (Drop.tail (by k_ne) (Drop.tail (by k_ne) (Drop.tail (by k_ne) (Drop.tail (by k_ne) (Drop.head (by k_all))))))))) | exact Drop.tail (by k_ne) (Drop.tail (by k_ne) (Drop.tail (by k_ne) (Drop.tail (by k_ne) (Drop.tail (by k_ne) (Drop.tail (by k_ne) (Drop.tail (by k_ne) (Drop.tail (by k_ne) (Drop.tail (by k_ne) (Drop.head (by k_all)))))))))) | exact Drop.tail (by k_ne) (Drop.tail (by k_ne) (Drop.tail (by k_ne) (Drop.tail (by k_ne) (Drop.tail (by k_ne) (Drop.tail (by k_ne) (Drop.tail (by k_ne) (Drop.tail (by k_ne) (Drop.tail (by k_ne) (Drop.tail (by k_ne) (Drop.head (by k_all))))))))))) | exact Drop.tail (by k_ne) (Drop.tail (by k_ne) (Drop.tail (by k_ne) (Drop.tail (by k_ne) (Drop.tail (by k_ne) (Drop.tail (by k_ne) (Drop.tail (by k_ne) (Drop.head (by k_all)))))))) | exact Drop.tail (by k_ne) (Drop.tail (by k_ne) (Drop.tail (by k_ne) (Drop.tail (by k_ne) (Drop.tail (by k_ne) (Drop.tail (by k_ne) (Drop.tail (by k_ne) (Drop.tail (by k_ne) (Drop.tail (by k_ne) (Drop.tail (by k_ne) (Drop.tail (by k_ne) (Drop.head (by k_all)))))))))))) | exact Drop.tail (by k_ne) (Drop.tail (by k_ne) (Drop.tail (by k_ne) (Drop.tail (by k_ne) (Drop.tail (by k_ne) (Drop.tail (by k_ne) (Drop.head (by k_all))))))) | exact Drop.tail (by k_ne) (Drop.tail (by k_ne) (Drop.tail (by k_ne) (Drop.tail (by k_ne) (Drop.tail (by k_ne) (Drop.tail (by k_ne) (Drop.tail (by k_ne) (Drop.tail (by k_ne) (Drop.tail (by k_ne) (Drop.tail (by k_ne) (Drop.tail (by k_ne) (Drop.tail (by k_ne) (Drop.head (by k_all))))))))))))) | exact Drop.tail (by k_ne) (Drop.tail (by k_ne) (Drop.tail (by k_ne) (Drop.tail (by k_ne) (Drop.tail (by k_ne) (Drop.head (by k_all)))))) | exact Drop.tail (by k_ne) (Drop.tail (by k_ne) (Drop.tail (by k_ne) (Drop.tail (by k_ne) (Drop.tail (by k_ne) (Drop.tail (by k_ne) (Drop.tail (by k_ne) (Drop.tail (by k_ne) (Drop.tail (by k_ne) (Drop.tail (by k_ne) (Drop.tail (by k_ne) (Drop.tail (by k_ne) (Drop.tail (by k_ne) (Drop.head (by k_all)))))))))))))) | exact Drop.tail (by k_ne) (Drop.tail (by k_ne) (Drop.tail (by k_ne) (Drop.tail (by k_ne) (Drop.head (by k_all))))) | exact Drop.tail (by k_ne) (Drop.tail (by k_ne) (Drop.tail (by k_ne) (Drop.tail (by k_ne) (Drop.tail (by k_ne) (Drop.tail (by k_ne) (Drop.tail (by k_ne) (Drop.tail (by k_ne) (Drop.tail (by k_ne) (Drop.tail (by k_ne) (Drop.tail (by k_ne) (Drop.tail (by k_ne) (Drop.tail (by k_ne) (Drop.tail (by k_ne) (Drop.head (by k_all))))))))))))))) | exact Drop.tail (by k_ne) (Drop.tail (by k_ne) (Drop.tail (by k_ne) (Drop.head (by k_all)))) | exact Drop.tail (by k_ne) (Drop.tail (by k_ne) (Drop.head (by k_all))) | exact Drop.tail (by k_ne) (Drop.head (by k_all)) | exact Drop.head (by k_all)); (case l => k_mem); (case lc => exact rfl); (case ld => exact rfl); (case x => exact rfl); k_whole; intro h' F' N'; (try dsimp only)) | (refine' for_item (i := 2) (v := Value.none) ?F ?N ?U ?c ?d ?l ?lc ?ld ?x ?_ ?hk ?hlo; (case d => assumption); (case c => assumption); (case hk => exact rfl); (case hlo => exact rfl); (case F => k_asm); (case N => k_asm); (case U => k_updF); (case l => k_mem); (case lc => exact rfl); (case ld => exact rfl); (case x => exact rfl); k_whole; intro h' oI' hc' hd' F' N'; (try dsimp only at N' ⊢); (try k_fold)) | (refine' for_item (i := 1) (v := Value.ref 88) ?F ?N ?U ?c ?d ?l ?lc ?ld ?x ?_ ?hk ?hlo; (case d => assumption); (case c => assumption); (case hk => exact rfl); (case hlo => exact rfl); (case F => k_asm); (case N => k_asm); (case U => k_updF); (case l => k_mem); (case lc => exact rfl); (case ld => exact rfl); (case x => exact rfl); k_whole; intro h' oI' hc' hd' F' N'; (try dsimp only at N' ⊢); (try k_fold)) | (refine' for_item (i := 0) (v := Value.ref 95) ?F ?N ?U ?c ?d ?l ?lc ?ld ?x ?_ ?hk ?hlo; (case hk => exact rfl); (case hlo => exact rfl); (case F => k_asm); (case N => k_asm); (case U => k_updF); (case c => exact rfl); (case d => exact rfl); (case l => k_mem); (case lc => exact rfl); (case ld => exact rfl); (case x => exact rfl); k_whole; intro h' oI' hc' hd' F' N'; (try dsimp only at N' ⊢); (try k_fold)))))
local macro_rules | `(tactic| walk_at "compareOp Is ref str") => `(tactic| (k_here; k_dflt (refine is_ref_str ?_)))
local macro_rules | `(tactic| walk_at "compareOp Is str ref") => `(tactic| (k_here; k_dflt (refine is_str_ref ?_)))
local macro_rules | `(tactic| walk_at "compareOp Is str str") => `(tactic| (k_here; k_dflt (refine is_str_self (by first | assumption | omega) ?_)))
local macro_rules | `(tactic| walk_at "compareOp Is ref ref") => `(tactic| (k_here; (with_reducible show wpAny _ _ (compareOp CmpOp.Is (Value.ref _) (Value.ref 37)) _ _ _); k_dflt (refine' is_tup_obj ?F ?N ?x ?X ?y ?nt ?_; (case F => k_asm); (case N => k_asm); (case x => k_mem); (case X => k_asm); (case y => k_is); (case nt => intro e; cases e); k_whole)))
local macro_rules | `(tactic| walk_at "compareOp Is ref ref") => `(tactic| (k_here; (with_reducible show wpAny _ _ (compareOp CmpOp.Is (Value.ref 37) (Value.ref 37)) _ _ _); k_dflt (refine wpAny_is_ref_self ?_)))
local macro_rules | `(tactic| walk_at "compareOp NotEq str str") => `(tactic| (k_here; (simp only [cut3_str, cut35_str, cut3_int]); walk_at "compareOp NotEq str str"))
local macro_rules | `(tactic| walk_at "call ref") => `(tactic| (k_here; (with_reducible show wpAny _ _ (call (Value.ref 95) [Value.str (rStr _) _] _) _ _ _); k_dflt (refine' p257L ?B ?F ?N ?X ?T ?hA ?hf ?hk ?hr ?h0 ?_; (case hA => exact rfl); (case hf => exact rfl); (case hk => exact rfl); (case B => k_asm); (case F => k_asm); (case N => k_asm); (case X => k_asm); (case T => k_asm); (case hr => k_room); (case h0 => assumption); k_whole; intro t' h' tk' ht' F' N')))
local macro_rules | `(tactic| walk_at "call ref") => `(tactic| (k_here; (with_reducible show wpAny _ _ (call (Value.ref 88) [Value.str (rInt _) _] _) _ _ _); k_dflt (refine' p229L ?B ?F ?N ?X ?T ?hA ?hf ?hk ?hr ?h0 ?h1 ?hm ?_; (case hA => exact rfl); (case hf => exact rfl); (case hk => exact rfl); (case B => k_asm); (case F => k_asm); (case N => k_asm); (case X => k_asm); (case T => k_asm); (case hr => k_room); (case h0 => assumption); (case h1 => assumption); (case hm => k_mem); k_whole; intro q' h' tk' tn' ne' F' N'; (simp only [AllNe, and_true] at ne'))))
set_option maxHeartbeats 4000000 in
theorem heardS {w : World} : ∀ {mean : ExcName → Option Value} {mg mb : Str → Option Value} {cn : Str} {cs : Scope} {a : Addr} {ccd : Value} {h₀ : Heap} {L : Addr} {m : Str → Option Value} {s : Shared} {Q E : Value → Shared → Prop} {t : Tok} {x : Str}
   (_B : Below callerA h₀ [] h₀) (_F : Fr h₀ L s.heap m) (_X : (Mine.hd.heap_39 w.params).In h₀) (_T : Top Mine.hd.view_39 (looseW Mine.hd.view_39 [Str.ofString "UNKNOWN"]) mean mg mb h₀) (_hk : cs.kind = .function) (_h0 : x.length ≤ 1000)
   (_hret : ∀ v h' tk' fp, (∀ b o, b ≠ L → s.heap.get? b = some o → h'.get? b = some o) → Fr h₀ L h' m → Reads h' v (dStr x) fp → Q v { s with heap := h', toks := tk' }),
   wpAny (model Challenge.rw_nb0067_01.row.prog w) (callerA.deeper (envOf cn cs L a ccd)) (call (.ref 114) [.str (rStr x) t]) Q E s := by
  k_fill
  intro mean mg mb cn cs a ccd h₀ L m s Q E t x B F X T hk h0 hret
  have hl := rStr_len x
  have hl2 : (rStr x).length ≤ 2016 := by omega
  refine wpAny_call ?_
  k_dflt (refine' enterS0 ?k1 ?k2 ?k3 ?k5 ?kA ?k6 ?k7 ?k8 ?k9 ?kB ?_ ?cK ?c2 ?c3 ?c4 ?c5; (case kA => exact rfl); (case k2 => k_asm); (case k1 => k_asm); (case k3 => k_asm); (case k5 => k_asm); (case k6 => k_is); (case k7 => k_is); (case k8 => k_room); (case k9 => exact BindsTo.of_eq rfl); (case kB => exact locs rfl); (case cK => assumption); (case c2 => exact rfl); (case c3 => exact rfl); (case c4 => exact rfl); (case c5 => decide); k_whole; intro L' h' F' N' B' X' T' D'; (try dsimp only); (try k_lift B'); (try k_fold))
  w_on
  repeat' (first | (k_unfold; (try dsimp only)) | walk1 | (dsimp only; walk1) | fail "no step")
  (with_reducible rename KtsTurn _ s.heap _ => T9)
  exact hret _ _ _ _ (keep_of T9 (by assumption)) (by assumption) (by ke_read)
end Mine
end
section
open PySem PySem.W PyProof.Rows PySem.Calls
set_option maxRecDepth 100000
namespace Mine
theorem rInt_eq (n : Int) : rInt n = Str.ofString "229 ok (|||" ++ Str.ofString (toString n) ++ Str.ofString "|)" := by unfold rInt; rfl
theorem rStr_eq (x : Str) : rStr x = Str.ofString "257 \"" ++ Txt.replace x (Str.ofString "\"") (Str.ofString "\"\"") ++ Str.ofString "\" is \"here\"" := by unfold rStr; rfl
set_option maxHeartbeats 2000000 in
theorem replyN {w : World} : ∀ {mean : ExcName → Option Value} {mg mb : Str → Option Value} {A₀ A : Around} {base h₀ : Heap} {outer : List Env} {env : Env} {L : Addr} {m : Str → Option Value} {s : Shared} {Q E : Value → Shared → Prop} 
   (_B : Below A₀ base outer h₀) (_F : Fr h₀ L s.heap m) (_X : (Mine.hd.heap_39 w.params).In h₀) (_T : Top Mine.hd.view_39 (looseW Mine.hd.view_39 [Str.ofString "UNKNOWN"]) mean mg mb h₀) (_hA : A.frames = some (env :: outer)) (_hf : env.frame = some L) (_hk : env.scope.kind = .function) (_hr : A.depth + 5 < recursionLimit) (_hu : A.units + 100 < cLine) 
   (_hret : ∀ t' h' tk', (∀ b o, s.heap.get? b = some o → h'.get? b = some o) → Q (.str (Str.ofString "150 here it comes") t') { s with heap := h', toks := tk' }),
   wpAny (model Challenge.rw_nb0067_01.row.prog w) A (call (.ref 107) [.none]) Q E s := by
  k_fill
  intro mean mg mb A₀ A base h₀ outer env L m s Q E B F X T hA hf hk hr hu hret
  have hr' : A.depth < recursionLimit := by omega
  skip
  refine wpAny_call ?_
  k_dflt (refine' enter0 ?k1 ?k2 ?k3 ?k5 ?kA ?kF ?kK ?k6 ?k7 ?k8 ?k9 ?kB ?_ ?c2 ?c3 ?c4 ?c5; (case kA => assumption); (case kF => assumption); (case kK => assumption); (case k1 => k_asm); (case k2 => k_asm); (case k3 => k_asm); (case k5 => k_asm); (case k6 => k_is); (case k7 => k_is); (case k8 => assumption); (case k9 => exact BindsTo.of_eq rfl); (case c5 => decide); (case kB => exact locs rfl); (case c2 => exact rfl); (case c3 => exact rfl); (case c4 => exact rfl); k_whole; intro L' h' F' N' B' X' T'; (try dsimp only); (try k_fold))
  w_on
  repeat' (first | (k_unfold; (try dsimp only)) | walk1 | (dsimp only; walk1) | fail "no step")
  (with_reducible rename Fr s.heap _ _ _ => F9)
  exact hret _ _ _ F9.keep
set_option maxHeartbeats 2000000 in
theorem replyI {w : World} : ∀ {mean : ExcName → Option Value} {mg mb : Str → Option Value} {A₀ A : Around} {base h₀ : Heap} {outer : List Env} {env : Env} {L : Addr} {m : Str → Option Value} {s : Shared} {Q E : Value → Shared → Prop} {n : Int} {t : Tok}
   (_B : Below A₀ base outer h₀) (_F : Fr h₀ L s.heap m) (_X : (Mine.hd.heap_39 w.params).In h₀) (_T : Top Mine.hd.view_39 (looseW Mine.hd.view_39 [Str.ofString "UNKNOWN"]) mean mg mb h₀) (_hA : A.frames = some (env :: outer)) (_hf : env.frame = some L) (_hk : env.scope.kind = .function) (_hr : A.depth + 5 < recursionLimit) (_hu : A.units + 100 < cLine) (_h0 : 0 ≤ n) (_h1 : n < 65536)
   (_hret : ∀ t' h' tk', (∀ b o, s.heap.get? b = some o → h'.get? b = some o) → Q (.str (rInt n) t') { s with heap := h', toks := tk' }),
   wpAny (model Challenge.rw_nb0067_01.row.prog w) A (call (.ref 107) [.int n t]) Q E s := by
  k_fill
  intro mean mg mb A₀ A base h₀ outer env L m s Q E n t B F X T hA hf hk hr hu h0 h1 hret
  have hr' : A.depth < recursionLimit := by omega
  skip
  refine wpAny_call ?_
  k_dflt (refine' enter0 ?k1 ?k2 ?k3 ?k5 ?kA ?kF ?kK ?k6 ?k7 ?k8 ?k9 ?kB ?_ ?c2 ?c3 ?c4 ?c5; (case kA => assumption); (case kF => assumption); (case kK => assumption); (case k1 => k_asm); (case k2 => k_asm); (case k3 => k_asm); (case k5 => k_asm); (case k6 => k_is); (case k7 => k_is); (case k8 => assumption); (case k9 => exact BindsTo.of_eq rfl); (case c5 => decide); (case kB => exact locs rfl); (case c2 => exact rfl); (case c3 => exact rfl); (case c4 => exact rfl); k_whole; intro L' h' F' N' B' X' T'; (try dsimp only); (try k_fold))
  w_on
  repeat' (first | (k_unfold; (try dsimp only)) | walk1 | (dsimp only; walk1) | fail "no step")
  (with_reducible rename Fr s.heap _ _ _ => F9)
  simp only [rInt_eq] at hret
  exact hret _ _ _ F9.keep
set_option maxHeartbeats 2000000 in
theorem replyS {w : World} : ∀ {mean : ExcName → Option Value} {mg mb : Str → Option Value} {A₀ A : Around} {base h₀ : Heap} {outer : List Env} {env : Env} {L : Addr} {m : Str → Option Value} {s : Shared} {Q E : Value → Shared → Prop} {x : Str} {t : Tok}
   (_B : Below A₀ base outer h₀) (_F : Fr h₀ L s.heap m) (_X : (Mine.hd.heap_39 w.params).In h₀) (_T : Top Mine.hd.view_39 (looseW Mine.hd.view_39 [Str.ofString "UNKNOWN"]) mean mg mb h₀) (_hA : A.frames = some (env :: outer)) (_hf : env.frame = some L) (_hk : env.scope.kind = .function) (_hr : A.depth + 5 < recursionLimit) (_hu : A.units + 100 < cLine) (_h0 : x.length ≤ 1000)
   (_hret : ∀ t' h' tk', (∀ b o, s.heap.get? b = some o → h'.get? b = some o) → Q (.str (rStr x) t') { s with heap := h', toks := tk' }),
   wpAny (model Challenge.rw_nb0067_01.row.prog w) A (call (.ref 107) [.str x t]) Q E s := by
  k_fill
  intro mean mg mb A₀ A base h₀ outer env L m s Q E x t B F X T hA hf hk hr hu h0 hret
  have hr' : A.depth < recursionLimit := by omega
  have hl := rep_len x
  have hl2 : (Txt.replace x (Str.ofString "\"") (Str.ofString "\"\"")).length ≤ 2000 := by omega
  refine wpAny_call ?_
  k_dflt (refine' enter0 ?k1 ?k2 ?k3 ?k5 ?kA ?kF ?kK ?k6 ?k7 ?k8 ?k9 ?kB ?_ ?c2 ?c3 ?c4 ?c5; (case kA => assumption); (case kF => assumption); (case kK => assumption); (case k1 => k_asm); (case k2 => k_asm); (case k3 => k_asm); (case k5 => k_asm); (case k6 => k_is); (case k7 => k_is); (case k8 => assumption); (case k9 => exact BindsTo.of_eq rfl); (case c5 => decide); (case kB => exact locs rfl); (case c2 => exact rfl); (case c3 => exact rfl); (case c4 => exact rfl); k_whole; intro L' h' F' N' B' X' T'; (try dsimp only); (try k_fold))
  w_on
  repeat' (first | (k_unfold; (try dsimp only)) | walk1 | (dsimp only; walk1) | fail "no step")
  (with_reducible rename Fr s.heap _ _ _ => F9)
  simp only [rStr_eq] at hret
  exact hret _ _ _ F9.keep
section
variable {w : World} {mean : ExcName → Option Value} {mg mb : Str → Option Value} {A₀ A : Around} {base h₀ : Heap} {outer : List Env} {env : Env} {L : Addr} {m : Str → Option Value} {s : Shared} {Q E : Value → Shared → Prop} {news : List (Addr × Obj)}
theorem replyNL  (B : Below A₀ base outer h₀) (F : Fr h₀ L s.heap m) (N : News h₀ L s.heap news) (X : (Mine.hd.heap_39 w.params).In h₀) (T : Top Mine.hd.view_39 (looseW Mine.hd.view_39 [Str.ofString "UNKNOWN"]) mean mg mb h₀) (hA : A.frames = some (env :: outer)) (hf : env.frame = some L) (hk : env.scope.kind = .function) (hr : A.depth + 5 < recursionLimit) (hu : A.units + 100 < cLine) 
    (h : ∀ t' h' tk', Fr h₀ L h' m → News h₀ L h' news → Q (.str (Str.ofString "150 here it comes") t') { s with heap := h', toks := tk' }) :
    wpAny (model Challenge.rw_nb0067_01.row.prog w) A (call (.ref 107) [.none]) Q E s := replyN B F X T hA hf hk hr hu  fun t' h' tk' kp => h t' h' tk' (F.keeps kp) (N.grown kp)
theorem replyIL {n : Int} {t : Tok} (B : Below A₀ base outer h₀) (F : Fr h₀ L s.heap m) (N : News h₀ L s.heap news) (X : (Mine.hd.heap_39 w.params).In h₀) (T : Top Mine.hd.view_39 (looseW Mine.hd.view_39 [Str.ofString "UNKNOWN"]) mean mg mb h₀) (hA : A.frames = some (env :: outer)) (hf : env.frame = some L) (hk : env.scope.kind = .function) (hr : A.depth + 5 < recursionLimit) (hu : A.units + 100 < cLine) (h0 : 0 ≤ n) (h1 : n < 65536)
    (h : ∀ t' h' tk', Fr h₀ L h' m → News h₀ L h' news → Q (.str (rInt n) t') { s with heap := h', toks := tk' }) :
    wpAny (model Challenge.rw_nb0067_01.row.prog w) A (call (.ref 107) [.int n t]) Q E s := replyI B F X T hA hf hk hr hu h0 h1 fun t' h' tk' kp => h t' h' tk' (F.keeps kp) (N.grown kp)
theorem replySL {x : Str} {t : Tok} (B : Below A₀ base outer h₀) (F : Fr h₀ L s.heap m) (N : News h₀ L s.heap news) (X : (Mine.hd.heap_39 w.params).In h₀) (T : Top Mine.hd.view_39 (looseW Mine.hd.view_39 [Str.ofString "UNKNOWN"]) mean mg mb h₀) (hA : A.frames = some (env :: outer)) (hf : env.frame = some L) (hk : env.scope.kind = .function) (hr : A.depth + 5 < recursionLimit) (hu : A.units + 100 < cLine) (h0 : x.length ≤ 1000)
    (h : ∀ t' h' tk', Fr h₀ L h' m → News h₀ L h' news → Q (.str (rStr x) t') { s with heap := h', toks := tk' }) :
    wpAny (model Challenge.rw_nb0067_01.row.prog w) A (call (.ref 107) [.str x t]) Q E s := replyS B F X T hA hf hk hr hu h0 fun t' h' tk' kp => h t' h' tk' (F.keeps kp) (N.grown kp)
end
end Mine
end
section
open PySem PySem.W PyProof.Rows PySem.Calls
set_option maxRecDepth 100000
namespace Mine
local macro_rules | `(tactic| walk_at "call ref") => `(tactic| (k_here; (with_reducible show wpAny _ _ (call (Value.ref 107) [Value.none] _) _ _ _); k_dflt (refine' replyNL ?B ?F ?N ?X ?T ?hA ?hf ?hk ?hr ?hu ?_; (case hA => exact rfl); (case hf => exact rfl); (case hk => exact rfl); (case B => k_asm); (case F => k_asm); (case N => k_asm); (case X => k_asm); (case T => k_asm); (case hr => first | (simp only [depth_deeper, depth_caller]; decide) | exact Nat.le_of_ble_eq_true rfl); (case hu => first | units_room | decide | exact Nat.le_of_ble_eq_true rfl); k_whole; intro t' h' tk' F' N')))
local macro_rules | `(tactic| walk_at "call ref") => `(tactic| (k_here; (with_reducible show wpAny _ _ (call (Value.ref 107) [Value.int _ _] _) _ _ _); k_dflt (refine' replyIL ?B ?F ?N ?X ?T ?hA ?hf ?hk ?hr ?hu ?h0 ?h1 ?_; (case hA => exact rfl); (case hf => exact rfl); (case hk => exact rfl); (case B => k_asm); (case F => k_asm); (case N => k_asm); (case X => k_asm); (case T => k_asm); (case hr => first | (simp only [depth_deeper, depth_caller]; decide) | exact Nat.le_of_ble_eq_true rfl); (case hu => first | units_room | decide | exact Nat.le_of_ble_eq_true rfl); (case h0 => assumption); (case h1 => assumption); k_whole; intro t' h' tk' F' N')))
local macro_rules | `(tactic| walk_at "call ref") => `(tactic| (k_here; (with_reducible show wpAny _ _ (call (Value.ref 107) [Value.str _ _] _) _ _ _); k_dflt (refine' replySL ?B ?F ?N ?X ?T ?hA ?hf ?hk ?hr ?hu ?h0 ?_; (case hA => exact rfl); (case hf => exact rfl); (case hk => exact rfl); (case B => k_asm); (case F => k_asm); (case N => k_asm); (case X => k_asm); (case T => k_asm); (case hr => first | (simp only [depth_deeper, depth_caller]; decide) | exact Nat.le_of_ble_eq_true rfl); (case hu => first | units_room | decide | exact Nat.le_of_ble_eq_true rfl); (case h0 => assumption); k_whole; intro t' h' tk' F' N')))
local macro_rules | `(tactic| walk_at "execs cons Assign cons") => `(tactic| ((with_reducible refine wpAny_execs_cons ?_); try dsimp only))
set_option maxHeartbeats 1000000 in
theorem dueN {w : World} : ∀ {mean : ExcName → Option Value} {mg mb : Str → Option Value} {cn : Str} {cs : Scope} {a : Addr} {ccd : Value} {h₀ : Heap} {L : Addr} {m : Str → Option Value} {s : Shared} {Q E : Value → Shared → Prop} 
   (_B : Below callerA h₀ [] h₀) (_F : Fr h₀ L s.heap m) (_X : (Mine.hd.heap_39 w.params).In h₀) (_T : Top Mine.hd.view_39 (looseW Mine.hd.view_39 [Str.ofString "UNKNOWN"]) mean mg mb h₀) (_hk : cs.kind = .function) 
   (_hret : ∀ v h' tk' fp, (∀ b o, s.heap.get? b = some o → h'.get? b = some o) → Reads h' v (dNone) fp → Q v { s with heap := h', toks := tk' }),
   wpAny (model Challenge.rw_nb0067_01.row.prog w) (callerA.deeper (envOf cn cs L a ccd)) (call (.ref 121) [.none]) Q E s := by
  k_fill
  intro mean mg mb cn cs a ccd h₀ L m s Q E B F X T hk hret
  refine wpAny_call ?_
  k_dflt (refine' enter0 ?k1 ?k2 ?k3 ?k5 ?kA ?kF ?kK ?k6 ?k7 ?k8 ?k9 ?kB ?_ ?c2 ?c3 ?c4 ?c5; (case kA => exact rfl); (case kF => exact rfl); (case kK => assumption); (case k1 => k_asm); (case k2 => k_asm); (case k3 => k_asm); (case k5 => k_asm); (case k6 => k_is); (case k7 => k_is); (case k8 => k_room); (case k9 => exact BindsTo.of_eq rfl); (case c5 => decide); (case kB => exact locs rfl); (case c2 => exact rfl); (case c3 => exact rfl); (case c4 => exact rfl); k_whole; intro L' h' F' N' B' X' T'; (try dsimp only); (try k_fold))
  w_on
  repeat' (first | (k_unfold; (try dsimp only)) | walk1 | (dsimp only; walk1) | fail "no step")
  (with_reducible rename Fr s.heap _ _ _ => F9)
  exact hret _ _ _ _ F9.keep (by ke_read)
end Mine
end
section
open PySem PySem.W PyProof.Rows PySem.Calls
set_option maxRecDepth 100000
namespace Mine
local macro_rules | `(tactic| walk_at "call ref") => `(tactic| (k_here; (with_reducible show wpAny _ _ (call (Value.ref 107) [Value.none] _) _ _ _); k_dflt (refine' replyNL ?B ?F ?N ?X ?T ?hA ?hf ?hk ?hr ?hu ?_; (case hA => exact rfl); (case hf => exact rfl); (case hk => exact rfl); (case B => k_asm); (case F => k_asm); (case N => k_asm); (case X => k_asm); (case T => k_asm); (case hr => first | (simp only [depth_deeper, depth_caller]; decide) | exact Nat.le_of_ble_eq_true rfl); (case hu => first | units_room | decide | exact Nat.le_of_ble_eq_true rfl); k_whole; intro t' h' tk' F' N')))
local macro_rules | `(tactic| walk_at "call ref") => `(tactic| (k_here; (with_reducible show wpAny _ _ (call (Value.ref 107) [Value.int _ _] _) _ _ _); k_dflt (refine' replyIL ?B ?F ?N ?X ?T ?hA ?hf ?hk ?hr ?hu ?h0 ?h1 ?_; (case hA => exact rfl); (case hf => exact rfl); (case hk => exact rfl); (case B => k_asm); (case F => k_asm); (case N => k_asm); (case X => k_asm); (case T => k_asm); (case hr => first | (simp only [depth_deeper, depth_caller]; decide) | exact Nat.le_of_ble_eq_true rfl); (case hu => first | units_room | decide | exact Nat.le_of_ble_eq_true rfl); (case h0 => assumption); (case h1 => assumption); k_whole; intro t' h' tk' F' N')))
local macro_rules | `(tactic| walk_at "call ref") => `(tactic| (k_here; (with_reducible show wpAny _ _ (call (Value.ref 107) [Value.str _ _] _) _ _ _); k_dflt (refine' replySL ?B ?F ?N ?X ?T ?hA ?hf ?hk ?hr ?hu ?h0 ?_; (case hA => exact rfl); (case hf => exact rfl); (case hk => exact rfl); (case B => k_asm); (case F => k_asm); (case N => k_asm); (case X => k_asm); (case T => k_asm); (case hr => first | (simp only [depth_deeper, depth_caller]; decide) | exact Nat.le_of_ble_eq_true rfl); (case hu => first | units_room | decide | exact Nat.le_of_ble_eq_true rfl); (case h0 => assumption); k_whole; intro t' h' tk' F' N')))
local macro_rules | `(tactic| walk_at "execs cons Assign cons") => `(tactic| ((with_reducible refine wpAny_execs_cons ?_); try dsimp only))
set_option maxHeartbeats 1000000 in
theorem dueI {w : World} : ∀ {mean : ExcName → Option Value} {mg mb : Str → Option Value} {cn : Str} {cs : Scope} {a : Addr} {ccd : Value} {h₀ : Heap} {L : Addr} {m : Str → Option Value} {s : Shared} {Q E : Value → Shared → Prop} {n : Int} {t : Tok}
   (_B : Below callerA h₀ [] h₀) (_F : Fr h₀ L s.heap m) (_X : (Mine.hd.heap_39 w.params).In h₀) (_T : Top Mine.hd.view_39 (looseW Mine.hd.view_39 [Str.ofString "UNKNOWN"]) mean mg mb h₀) (_hk : cs.kind = .function) (_h0 : 0 ≤ n) (_h1 : n < 65536)
   (_hret : ∀ v h' tk' fp, (∀ b o, s.heap.get? b = some o → h'.get? b = some o) → Reads h' v (dInt n) fp → Q v { s with heap := h', toks := tk' }),
   wpAny (model Challenge.rw_nb0067_01.row.prog w) (callerA.deeper (envOf cn cs L a ccd)) (call (.ref 121) [.int n t]) Q E s := by
  k_fill
  intro mean mg mb cn cs a ccd h₀ L m s Q E n t B F X T hk h0 h1 hret
  refine wpAny_call ?_
  k_dflt (refine' enter0 ?k1 ?k2 ?k3 ?k5 ?kA ?kF ?kK ?k6 ?k7 ?k8 ?k9 ?kB ?_ ?c2 ?c3 ?c4 ?c5; (case kA => exact rfl); (case kF => exact rfl); (case kK => assumption); (case k1 => k_asm); (case k2 => k_asm); (case k3 => k_asm); (case k5 => k_asm); (case k6 => k_is); (case k7 => k_is); (case k8 => k_room); (case k9 => exact BindsTo.of_eq rfl); (case c5 => decide); (case kB => exact locs rfl); (case c2 => exact rfl); (case c3 => exact rfl); (case c4 => exact rfl); k_whole; intro L' h' F' N' B' X' T'; (try dsimp only); (try k_fold))
  w_on
  repeat' (first | (k_unfold; (try dsimp only)) | walk1 | (dsimp only; walk1) | fail "no step")
  (with_reducible rename Fr s.heap _ _ _ => F9)
  exact hret _ _ _ _ F9.keep (by ke_read)
end Mine
end
section
open PySem PySem.W PyProof.Rows PySem.Calls
set_option maxRecDepth 100000
namespace Mine
local macro_rules | `(tactic| walk_at "call ref") => `(tactic| (k_here; (with_reducible show wpAny _ _ (call (Value.ref 107) [Value.none] _) _ _ _); k_dflt (refine' replyNL ?B ?F ?N ?X ?T ?hA ?hf ?hk ?hr ?hu ?_; (case hA => exact rfl); (case hf => exact rfl); (case hk => exact rfl); (case B => k_asm); (case F => k_asm); (case N => k_asm); (case X => k_asm); (case T => k_asm); (case hr => first | (simp only [depth_deeper, depth_caller]; decide) | exact Nat.le_of_ble_eq_true rfl); (case hu => first | units_room | decide | exact Nat.le_of_ble_eq_true rfl); k_whole; intro t' h' tk' F' N')))
local macro_rules | `(tactic| walk_at "call ref") => `(tactic| (k_here; (with_reducible show wpAny _ _ (call (Value.ref 107) [Value.int _ _] _) _ _ _); k_dflt (refine' replyIL ?B ?F ?N ?X ?T ?hA ?hf ?hk ?hr ?hu ?h0 ?h1 ?_; (case hA => exact rfl); (case hf => exact rfl); (case hk => exact rfl); (case B => k_asm); (case F => k_asm); (case N => k_asm); (case X => k_asm); (case T => k_asm); (case hr => first | (simp only [depth_deeper, depth_caller]; decide) | exact Nat.le_of_ble_eq_true rfl); (case hu => first | units_room | decide | exact Nat.le_of_ble_eq_true rfl); (case h0 => assumption); (case h1 => assumption); k_whole; intro t' h' tk' F' N')))
local macro_rules | `(tactic| walk_at "call ref") => `(tactic| (k_here; (with_reducible show wpAny _ _ (call (Value.ref 107) [Value.str _ _] _) _ _ _); k_dflt (refine' replySL ?B ?F ?N ?X ?T ?hA ?hf ?hk ?hr ?hu ?h0 ?_; (case hA => exact rfl); (case hf => exact rfl); (case hk => exact rfl); (case B => k_asm); (case F => k_asm); (case N => k_asm); (case X => k_asm); (case T => k_asm); (case hr => first | (simp only [depth_deeper, depth_caller]; decide) | exact Nat.le_of_ble_eq_true rfl); (case hu => first | units_room | decide | exact Nat.le_of_ble_eq_true rfl); (case h0 => assumption); k_whole; intro t' h' tk' F' N')))
local macro_rules | `(tactic| walk_at "execs cons Assign cons") => `(tactic| ((with_reducible refine wpAny_execs_cons ?_); try dsimp only))
set_option maxHeartbeats 1000000 in
theorem dueS {w : World} : ∀ {mean : ExcName → Option Value} {mg mb : Str → Option Value} {cn : Str} {cs : Scope} {a : Addr} {ccd : Value} {h₀ : Heap} {L : Addr} {m : Str → Option Value} {s : Shared} {Q E : Value → Shared → Prop} {x : Str} {t : Tok}
   (_B : Below callerA h₀ [] h₀) (_F : Fr h₀ L s.heap m) (_X : (Mine.hd.heap_39 w.params).In h₀) (_T : Top Mine.hd.view_39 (looseW Mine.hd.view_39 [Str.ofString "UNKNOWN"]) mean mg mb h₀) (_hk : cs.kind = .function) (_h0 : x.length ≤ 1000)
   (_hret : ∀ v h' tk' fp, (∀ b o, s.heap.get? b = some o → h'.get? b = some o) → Reads h' v (dStr x) fp → Q v { s with heap := h', toks := tk' }),
   wpAny (model Challenge.rw_nb0067_01.row.prog w) (callerA.deeper (envOf cn cs L a ccd)) (call (.ref 121) [.str x t]) Q E s := by
  k_fill
  intro mean mg mb cn cs a ccd h₀ L m s Q E x t B F X T hk h0 hret
  refine wpAny_call ?_
  k_dflt (refine' enter0 ?k1 ?k2 ?k3 ?k5 ?kA ?kF ?kK ?k6 ?k7 ?k8 ?k9 ?kB ?_ ?c2 ?c3 ?c4 ?c5; (case kA => exact rfl); (case kF => exact rfl); (case kK => assumption); (case k1 => k_asm); (case k2 => k_asm); (case k3 => k_asm); (case k5 => k_asm); (case k6 => k_is); (case k7 => k_is); (case k8 => k_room); (case k9 => exact BindsTo.of_eq rfl); (case c5 => decide); (case kB => exact locs rfl); (case c2 => exact rfl); (case c3 => exact rfl); (case c4 => exact rfl); k_whole; intro L' h' F' N' B' X' T'; (try dsimp only); (try k_fold))
  w_on
  repeat' (first | (k_unfold; (try dsimp only)) | walk1 | (dsimp only; walk1) | fail "no step")
  (with_reducible rename Fr s.heap _ _ _ => F9)
  exact hret _ _ _ _ F9.keep (by ke_read)
end Mine
end
section
open PySem PySem.W PyProof.Rows PySem.Calls
set_option maxRecDepth 100000
namespace Mine
section
variable {prog : Program} {w : World} {A₀ A : Around} {s : Shared} {base h₀ : Heap} {outer : List Env} {L : Addr} {m mg mb : Str → Option Value} {env : Env} {K : Frag} {p : Program} {loose : List Str} {mean : ExcName → Option Value}
  {R : Result → Shared → Prop} {name qual : Str} {params : Arguments} {body : List Stmt} {scope : Scope} {dV kV doc pm cdv ct oc : Value} {an od : Option Addr} {osl : Array (Option Value)} {f : Addr} {args : Args} {binds : List (Str × Value)}
/-- a def with cells, entered with an empty ledger -/
theorem enter0C (B : Below A₀ base outer h₀) (F : Fr h₀ L s.heap m) (X₀ : K.In h₀) (T : Top p loose mean mg mb h₀) (hA : A.frames = some (env :: outer)) (hf : env.frame = some L) (hke : env.scope.kind = .function)
    (ho : K.lookup f = some ⟨oc, od, .func (fnOf name qual params body scope dV kV doc pm an cdv ct), osl⟩) (hcd : codeIn K cdv qual = true) (hroom : A.depth < recursionLimit)
    (hbind : BindsTo s (fnOf name qual params body scope dV kV doc pm an cdv ct) args binds) (hkind : (binds.all fun y => scope.names.lookup y.1 == some .local || scope.names.lookup y.1 == some .cell) = true)
    (hnd : ((cellsFrom 0 scope.names []).map (·.1)).Nodup)
    (h : ∀ L' h₁ tk cells, Fr s.heap L' h₁ (bindL (envOfC qual scope L' f cdv).kindOf binds fun _ => none) → News s.heap L' h₁ cells →
      CellsAre (bindC (envOfC qual scope L' f cdv).kindOf binds fun _ => none) (cellsFrom (L' + 1) scope.names []) cells → Below A base (env :: outer) s.heap → K.In s.heap → Top p loose mean mg mb s.heap →
      wpAny (model prog w) (A.deeper (envOfC qual scope L' f cdv)) (execs body (envOfC qual scope L' f cdv))
        (fun fl s' => LeaveK h₀ L m s.heap R (match fl with | .ret v => v | _ => .none) s')
        (fun e s' => wpAny (model prog w) (A.deeper (envOfC qual scope L' f cdv)) (leaving (envOfC qual scope L' f cdv) e) (fun _ s'' => R (.error e) s'') (fun e' s'' => R (.error e') s'') s')
        { s with heap := h₁, toks := tk })
    (hco : scope.isCoroutine = false) (hgen : scope.isGenerator = false) (hk : scope.kind = .function) : codeAny (model prog w) A (.call (.ref f) args) R s := by
  obtain ⟨FG, BG, st, lv⟩ := groundX (R := R) B F (News.nil : News h₀ L s.heap []) hA hf hke
  refine codeAny_call_function (fd := fnOf name qual params body scope dV kV doc pm an cdv ct) (body := body) hroom ((X₀.keeps F.keep) _ _ ho) rfl hco hgen rfl (codeRec_of (X₀.keeps F.keep) hcd) (hbind _ _ _ _ ?_)
  refine wpAny_newFunctionEnv_cells hk (kindsX hkind _) fun env' he s' x => ?_
  subst he
  refine ⟨(T.nolimit.keeps F.keep).keeps x.toInCall.keep, codeAny_func ?_⟩
  obtain ⟨h₁, tk, rfl, _⟩ := x.done
  obtain ⟨cells, NC, Y⟩ := Cl.news (h₀ := s.heap) (Nat.le_refl _) fun n c hm => ⟨x.cell n c (lookup_of_mem_nodup (cellsFrom_names scope.names 0 (s.heap.objs.size + 1) [] [] rfl ▸ hnd) hm), x.above n c hm⟩
  exact wpAny_mono (h s.heap.objs.size h₁ tk cells ⟨x.toInCall.ns, x.toInCall.keep, Nat.le_refl _⟩ NC Y BG (X₀.keeps F.keep) (T.keeps F.keep)) (fun fl s' hl => lv _ _ hl) fun _ _ y => y
end
/-- what an item of the talk is -/
inductive Item : Value → Prop
  | none : Item .none
  | int {n : Int} {t : Tok} : 0 ≤ n → n < 65536 → Item (.int n t)
  | str {x : Str} {t : Tok} : x.length ≤ 1000 → PyData.strOk x = true → Item (.str x t)
theorem strOk_of {x : Str} (h : ∀ c ∈ x.cps.toList, c < 1114112) : PyData.strOk x = true := by
  unfold PyData.strOk
  rw [← Array.all_toList, List.all_eq_true]
  exact fun c hc => decide_eq_true (h c hc)
theorem of_strOk {x : Str} (h : PyData.strOk x = true) : ∀ c ∈ x.cps.toList, c < 1114112 := by
  unfold PyData.strOk at h
  rw [← Array.all_toList, List.all_eq_true] at h
  exact fun c hc => of_decide_eq_true (h c hc)
theorem item_cp (i : Int) : ∃ c, Txt.item (Str.ofString "\"a ") i = ⟨#[c]⟩ ∧ c < 200 := by
  refine ⟨_, rfl, ?_⟩
  have hS : Str.ofString "\"a " = ⟨#[34, 97, 32]⟩ := by decide +kernel
  rw [hS]
  cases h : Txt.charAt ⟨#[34, 97, 32]⟩ i with
  | none => decide
  | some c =>
    unfold Txt.charAt at h
    obtain ⟨j, _, hj⟩ := Option.bind_eq_some_iff.mp h
    have hj : (#[34, 97, 32] : Array Nat)[j]? = some c := hj
    have hm : c ∈ [34, 97, 32] := List.mem_of_getElem? (i := j) (by rw [← hj]; simp)
    show c < 200
    simp only [List.mem_cons, List.not_mem_nil, or_false] at hm
    omega
theorem item_name {i j k : Int} {t : Tok} : Item (.str (Txt.join (Str.ofString "") [Txt.item (Str.ofString "\"a ") i, Txt.item (Str.ofString "\"a ") j, Txt.item (Str.ofString "\"a ") k]) t) := by
  obtain ⟨a, ha, ha'⟩ := item_cp i
  obtain ⟨b, hb, hb'⟩ := item_cp j
  obtain ⟨c, hc, hc'⟩ := item_cp k
  rw [ha, hb, hc]
  have e : Txt.join (Str.ofString "") [(⟨#[a]⟩ : Str), ⟨#[b]⟩, ⟨#[c]⟩] = ⟨#[a, b, c]⟩ := by
    have e0 : Str.ofString "" = ⟨#[]⟩ := by decide +kernel
    rw [e0]
    show Builtin.Str.glued _ _ = _
    rw [StrLaws.glued_eq_join]
    apply Str.ext'
    apply Array.toList_inj.mp
    show ((⟨#[a]⟩ : Str) ++ ⟨#[]⟩ ++ ((⟨#[b]⟩ : Str) ++ ⟨#[]⟩ ++ (⟨#[c]⟩ : Str))).cps.toList = _
    simp [Str.cps_append]
  rw [e]
  refine Item.str (by show (3 : Nat) ≤ 1000; decide) (strOk_of fun d hd => ?_)
  simp only [List.mem_cons, List.not_mem_nil, or_false] at hd
  omega
theorem item_chr {c : Nat} {t : Tok} (h : c < 1114112) : Item (.str ⟨#[c]⟩ t) := by
  refine Item.str (by show (1 : Nat) ≤ 1000; decide) (strOk_of fun d hd => ?_)
  simp only [List.mem_cons, List.not_mem_nil, or_false] at hd
  omega
end Mine
end
section
open PySem PySem.W PyProof.Rows PySem.Calls
set_option maxRecDepth 100000
namespace Mine
local macro_rules | `(tactic| walk_at "execs cons Assign cons") => `(tactic| ((with_reducible refine wpAny_execs_cons ?_); try dsimp only))
local macro_rules | `(tactic| walk_at "eval ListComp") => `(tactic| (k_here; lcf_look; k_dflt (refine LCg.ListComp_U (F₀ := by k_asm) (by with_unfolding_all rfl) (by decide) (by rfl) (by decide) (by rfl) ?_); k_dflt lcg_toSrc))
local macro_rules | `(tactic| walk_at "CompSrc") => `(tactic| (k_here; k_dflt (refine LCg.CompSrc.range (by rfl) (by k_asm) (by k_asm) (by assumption) (by first | decide | rfl) (by first | rfl | decide) (by first | size_fits | exact Nat.le_of_ble_eq_true rfl) ?_; intro g'; lcg_lit)))
set_option maxHeartbeats 2000000 in
theorem itemC {w : World} : ∀ {mean : ExcName → Option Value} {mg mb : Str → Option Value} {cn : Str} {cs : Scope} {a : Addr} {ccd : Value} {h₀ : Heap} {L : Addr} {m : Str → Option Value} {s : Shared} {Q E : Value → Shared → Prop} {x : Int} {t : Tok}
   (_B : Below callerA h₀ [] h₀) (_F : Fr h₀ L s.heap m) (_X : (Mine.hd.heap_39 w.params).In h₀) (_T : Top Mine.hd.view_39 (looseW Mine.hd.view_39 [Str.ofString "UNKNOWN"]) mean mg mb h₀) (_hk : cs.kind = .function)
   (_hret : ∀ v h' tk', (∀ b o, s.heap.get? b = some o → h'.get? b = some o) → Item v → Q v { s with heap := h', toks := tk' }),
   wpAny (model Challenge.rw_nb0067_01.row.prog w) (callerA.deeper (envOf cn cs L a ccd)) (call (.ref 100) [.int x t]) Q E s := by
  k_fill
  intro mean mg mb cn cs a ccd h₀ L m s Q E x t B F X T hk hret
  refine wpAny_call ?_
  k_dflt (refine' enter0C ?k1 ?k2 ?k3 ?k5 ?kA ?kF ?kK ?k6 ?k7 ?k8 ?k9 ?kB ?kD ?_ ?c2 ?c3 ?c4; (case kA => exact rfl); (case kF => exact rfl); (case kK => assumption); (case k1 => k_asm); (case k2 => k_asm); (case k3 => k_asm); (case k5 => k_asm); (case k6 => k_is); (case k7 => k_is); (case k8 => k_room); (case k9 => exact BindsTo.of_eq rfl); (case kB => exact rfl); (case kD => decide +kernel); (case c2 => exact rfl); (case c3 => exact rfl); (case c4 => exact rfl); k_whole; intro L' h' tk' cells' F' N' Y' B' X' T'; k_cells Y'; (try simp only [List.cons_append, List.nil_append] at N'); (try dsimp only); (try k_lift B'); (try k_fold))
  w_on
  repeat' (first | (k_unfold; (try dsimp only)) | walk1 | (dsimp only; walk1) | fail "no step")
  all_goals (with_reducible rename Fr s.heap _ _ _ => F9)
  · exact hret _ _ _ F9.keep (.int (fmod_lo _ (by decide)) (fmod_hi _ (by decide)))
  · exact hret _ _ _ F9.keep item_name
  · exact hret _ _ _ F9.keep (item_chr (by have := fmod_hi (x.fdiv 4) (n := 55296) (by decide); have := fmod_lo (x.fdiv 4) (n := 55296) (by decide); omega))
  · exact hret _ _ _ F9.keep .none
end Mine
end
section
open PySem PySem.W PyProof.Rows PySem.Calls
set_option maxRecDepth 100000
namespace Mine
/-- what is told of an item -/
def told : Value → PyData
  | .int n _ => dInt n
  | .str x _ => dStr x
  | _ => dNone
def reply : Value → Str
  | .int n _ => rInt n
  | .str x _ => rStr x
  | _ => Str.ofString "150 here it comes"

theorem ok_app {x y : Str} (hx : ∀ c ∈ x.cps.toList, c < 1114112) (hy : ∀ c ∈ y.cps.toList, c < 1114112) : ∀ c ∈ (x ++ y).cps.toList, c < 1114112 := by
  intro c hc
  rw [Str.cps_append, Array.toList_append] at hc
  exact (List.mem_append.mp hc).elim (hx c) (hy c)
theorem dbl_mem {c : Nat} : ∀ {l : List Nat} {k : Nat}, k ∈ StrLaws.dbl c l → k ∈ l
  | [], _, h => nomatch h
  | d :: r, k, h => by
    unfold StrLaws.dbl at h
    split at h
    · simp only [List.mem_cons] at h
      rcases h with rfl | rfl | h
      · exact List.mem_cons_self ..
      · exact List.mem_cons_self ..
      · exact List.mem_cons_of_mem _ (dbl_mem h)
    · rcases List.mem_cons.mp h with rfl | h
      · exact List.mem_cons_self ..
      · exact List.mem_cons_of_mem _ (dbl_mem h)
theorem rStr_ok {x : Str} (h : PyData.strOk x = true) : PyData.strOk (rStr x) = true := by
  refine strOk_of fun c hc => ?_
  rw [rStr_list] at hc
  rcases List.mem_append.mp hc with hc | hc
  · rcases List.mem_append.mp hc with hc | hc
    · simp only [List.mem_cons, List.not_mem_nil, or_false] at hc; omega
    · exact of_strOk h c (dbl_mem hc)
  · simp only [tail257, List.mem_cons, List.not_mem_nil, or_false] at hc; omega
theorem rInt_ok {n : Int} : PyData.strOk (rInt n) = true := by
  refine strOk_of fun c hc => ?_
  by_cases h : c < 1114112
  · exact h
  · rw [rInt_dig] at hc
    rcases List.mem_append.mp hc with hc | hc
    · rcases List.mem_append.mp hc with hc | hc
      · simp only [List.mem_cons, List.not_mem_nil, or_false] at hc; omega
      · exact absurd hc (dig_free ⟨by omega, by omega⟩ n)
    · simp only [List.mem_cons, List.not_mem_nil, or_false] at hc; omega
theorem told_shaped {v : Value} (h : Item v) : SeqAt.shaped (told v) = true := by
  have e0 : PyData.strOk (Str.ofString "refused") = true := by decide +kernel
  have e1 : PyData.strOk (Str.ofString "unknown") = true := by decide +kernel
  have e2 : PyData.strOk (Str.ofString "") = true := by decide +kernel
  have e3 : PyData.strOk (Str.ofString "150 here it comes") = true := by decide +kernel
  have e4 : PyData.strOk (Str.ofString "host") = true := by decide +kernel
  cases h with
  | none => simp [told, SeqAt.shaped, PyData.canLay0, PyData.canLayAll0, PyData.depth, PyData.depthAll, e0, e1, e2, e3]
  | int h0 h1 => simp [told, SeqAt.shaped, PyData.canLay0, PyData.canLayAll0, PyData.depth, PyData.depthAll, e0, e1, e2, e3, e4, rInt_ok]
  | str h0 h1 => simp [told, SeqAt.shaped, PyData.canLay0, PyData.canLayAll0, PyData.depth, PyData.depthAll, e0, e1, e2, e3, e4, rStr_ok h1, h1]
theorem told_eqv (v : Value) : PyData.eqv (told v) (told v) = true := by
  cases v <;> simp [told, PyData.eqv, PyData.eqvAll]

section
variable {w : World} {mean : ExcName → Option Value} {mg mb : Str → Option Value} {cn : Str} {cs : Scope} {a : Addr} {ccd : Value} {h₀ : Heap} {L : Addr} {m : Str → Option Value} {s : Shared} {Q E : Value → Shared → Prop}
theorem reply_item {v : Value} (hv : Item v) (B : Below callerA h₀ [] h₀) (F : Fr h₀ L s.heap m) (X : (Mine.hd.heap_39 w.params).In h₀) (T : Top Mine.hd.view_39 (looseW Mine.hd.view_39 [Str.ofString "UNKNOWN"]) mean mg mb h₀) (hk : cs.kind = .function)
    (h : ∀ t' h' tk', (∀ b o, s.heap.get? b = some o → h'.get? b = some o) → Q (.str (reply v) t') { s with heap := h', toks := tk' }) :
    wpAny (model Challenge.rw_nb0067_01.row.prog w) (callerA.deeper (envOf cn cs L a ccd)) (call (.ref 107) [v]) Q E s := by
  have r1 : (callerA.deeper (envOf cn cs L a ccd)).depth + 5 < recursionLimit := by simp only [depth_deeper, depth_caller]; decide
  have r2 : (callerA.deeper (envOf cn cs L a ccd)).units + 100 < cLine := by units_room
  cases hv with
  | none => exact replyN B F X T rfl rfl hk r1 r2 h
  | int h0 h1 => exact replyI B F X T rfl rfl hk r1 r2 h0 h1 h
  | str h0 h1 => exact replyS B F X T rfl rfl hk r1 r2 h0 h
theorem heard_item {v : Value} {t : Tok} (hv : Item v) (B : Below callerA h₀ [] h₀) (F : Fr h₀ L s.heap m) (X : (Mine.hd.heap_39 w.params).In h₀) (T : Top Mine.hd.view_39 (looseW Mine.hd.view_39 [Str.ofString "UNKNOWN"]) mean mg mb h₀) (hk : cs.kind = .function)
    (h : ∀ r h' tk' fp, (∀ b o, b ≠ L → s.heap.get? b = some o → h'.get? b = some o) → Fr h₀ L h' m → Reads h' r (told v) fp → Q r { s with heap := h', toks := tk' }) :
    wpAny (model Challenge.rw_nb0067_01.row.prog w) (callerA.deeper (envOf cn cs L a ccd)) (call (.ref 114) [.str (reply v) t]) Q E s := by
  cases hv with
  | none => exact heardN B F X T hk h
  | int h0 h1 => exact heardI B F X T hk h0 h1 h
  | str h0 h1 => exact heardS B F X T hk h0 h
theorem due_item {v : Value} (hv : Item v) (B : Below callerA h₀ [] h₀) (F : Fr h₀ L s.heap m) (X : (Mine.hd.heap_39 w.params).In h₀) (T : Top Mine.hd.view_39 (looseW Mine.hd.view_39 [Str.ofString "UNKNOWN"]) mean mg mb h₀) (hk : cs.kind = .function)
    (h : ∀ r h' tk' fp, (∀ b o, s.heap.get? b = some o → h'.get? b = some o) → Reads h' r (told v) fp → Q r { s with heap := h', toks := tk' }) :
    wpAny (model Challenge.rw_nb0067_01.row.prog w) (callerA.deeper (envOf cn cs L a ccd)) (call (.ref 121) [v]) Q E s := by
  cases hv with
  | none => exact dueN B F X T hk h
  | int h0 h1 => exact dueI B F X T hk h0 h1 h
  | str h0 h1 => exact dueS B F X T hk h0 h
end
end Mine
end
section
open PySem PySem.W PyProof.Rows PySem.Calls
set_option maxRecDepth 100000
namespace Mine
section
variable {prog : Program} {w : World} {A : Around} {h₀ : Heap} {L : Addr} {m : Str → Option Value} {env : Env} {elt ct : Expr} {x : Str} {scope : Scope} {cl : List (Str × Addr)} {s : Shared} {S : List (Addr × Obj) → Prop} {P : Nat → Value → Prop} {Fin : List Value → List (Addr × Obj) → Prop} {news : List (Addr × Obj)}
theorem rest_items
    (turn : ∀ v I oI C oC D m₂ h tk (E' : Value → Shared → Prop) (ys : List Value) (Qk : Value → Shared → Prop) i, P i v → LCg.NsObj oC m₂ → m₂ x = some v → Fr h₀ L h m → News h₀ L h ((I, oI) :: (C, oC) :: (D, LCg.lst ys) :: news) →
      (∀ y h' tk', Item y → (∀ b o, h.get? b = some o → h'.get? b = some o) → Qk y { s with heap := h', toks := tk' }) → wpAny (model prog w) A (eval elt (compEnvC scope cl C env)) Qk E' { s with heap := h, toks := tk })
    (hS : S news) : ∀ k i ys, (∀ y ∈ ys, Item y) → (∀ ys', (∀ y ∈ ys', Item y) → ys'.length = ys.length + k → Fin ys' news) → LCg.CompRest prog w A h₀ L m env elt x scope cl s S P Fin k i ys news
  | 0, i, ys, hy, hf => LCg.CompRest.zero (hf ys hy rfl)
  | k + 1, i, ys, hy, hf => by
    refine LCg.CompRest.succ fun v I oI C oC D m₂ h tk E' hP hC hx F N off ne => ?_
    refine turn v I oI C oC D m₂ h tk E' ys _ i hP hC hx F N fun y h' tk' hi kp => ?_
    refine ⟨h', tk', news, rfl, F.keeps kp, N.grown kp, off, hS, rest_items turn hS k (i + 1) (ys ++ [y]) (fun z hz => ?_) fun ys' h1 h2 => hf ys' h1 (by rw [h2]; simp; omega)⟩
    rcases List.mem_append.mp hz with hz | hz
    · exact hy z hz
    · rw [List.mem_singleton.mp hz]; exact hi
theorem rest_tests
    (turn : ∀ v I oI C oC D m₂ h tk (E' : Value → Shared → Prop) (Qk : Bool → Shared → Prop) i, P i v → LCg.NsObj oC m₂ → m₂ x = some v → Fr h₀ L h m → News h₀ L h ((I, oI) :: (C, oC) :: (D, LCg.lst []) :: news) →
      (∀ h' tk', Fr h₀ L h' m → (∀ b o, b ≠ L → h.get? b = some o → h'.get? b = some o) → Qk false { s with heap := h', toks := tk' }) → wpAny (model prog w) A (isTrue ct (compEnvC scope cl C env) (eval ct (compEnvC scope cl C env))) Qk E' { s with heap := h, toks := tk })
    (hS : S news) (hF : Fin [] news) : ∀ k i, LCt.CompRestT prog w A h₀ L m env ct elt x scope cl s S P Fin k i [] news
  | 0, i => LCt.CompRestT.zero hF
  | k + 1, i => by
    refine LCt.CompRestT.succ fun v I oI C oC D m₂ h tk E' hP hC hx F N off ne => ?_
    refine turn v I oI C oC D m₂ h tk E' _ i hP hC hx F N fun h' tk' F' kp => ?_
    simp only [Bool.false_eq_true, if_false]
    exact ⟨h', tk', news, rfl, F', fun p hp => ⟨kp _ _ (N p hp).2.1 (N p hp).1, (N p hp).2⟩, off, hS, rest_tests turn hS hF k (i + 1)⟩
theorem ints_get : ∀ {vs : List Value} {ns : List Int} {i : Nat} {v : Value}, IntsAre vs ns → vs.toArray[i]? = some v → ∃ n t, v = .int n t
  | _, _, _, _, .nil, h => by simp at h
  | _, _, 0, _, .cons a t r, h => ⟨a, t, by simpa using h.symm⟩
  | _, _, i + 1, _, .cons _ _ r, h => ints_get r (by simpa using h)
end
section
variable {w : World} {mean : ExcName → Option Value} {mg mb : Str → Option Value} {cn : Str} {cs : Scope} {a : Addr} {ccd : Value} {h₀ : Heap} {L : Addr} {m : Str → Option Value} {s : Shared} {Q E : Value → Shared → Prop} {news : List (Addr × Obj)}
theorem itemL {x : Int} {t : Tok} (F : Fr h₀ L s.heap m) (N : News h₀ L s.heap news) (X : (Mine.hd.heap_39 w.params).In h₀) (T : Top Mine.hd.view_39 (looseW Mine.hd.view_39 [Str.ofString "UNKNOWN"]) mean mg mb h₀) (hk : cs.kind = .function)
    (h : ∀ v h' tk', (∀ b o, s.heap.get? b = some o → h'.get? b = some o) → Item v → Fr h₀ L h' m → News h₀ L h' news → Q v { s with heap := h', toks := tk' }) :
    wpAny (model Challenge.rw_nb0067_01.row.prog w) (callerA.deeper (envOf cn cs L a ccd)) (call (.ref 100) [.int x t]) Q E s :=
  itemC (below_caller _) F X T hk fun v h' tk' kp hv => h v h' tk' kp hv (F.keeps kp) (N.grown kp)
theorem reply_L {v : Value} (hv : Item v) (F : Fr h₀ L s.heap m) (N : News h₀ L s.heap news) (X : (Mine.hd.heap_39 w.params).In h₀) (T : Top Mine.hd.view_39 (looseW Mine.hd.view_39 [Str.ofString "UNKNOWN"]) mean mg mb h₀) (hk : cs.kind = .function)
    (h : ∀ t' h' tk', (∀ b o, s.heap.get? b = some o → h'.get? b = some o) → Fr h₀ L h' m → News h₀ L h' news → Q (.str (reply v) t') { s with heap := h', toks := tk' }) :
    wpAny (model Challenge.rw_nb0067_01.row.prog w) (callerA.deeper (envOf cn cs L a ccd)) (call (.ref 107) [v]) Q E s :=
  reply_item hv (below_caller _) F X T hk fun t' h' tk' kp => h t' h' tk' kp (F.keeps kp) (N.grown kp)
theorem heard_L {v : Value} {t : Tok} (hv : Item v) (F : Fr h₀ L s.heap m) (N : News h₀ L s.heap news) (X : (Mine.hd.heap_39 w.params).In h₀) (T : Top Mine.hd.view_39 (looseW Mine.hd.view_39 [Str.ofString "UNKNOWN"]) mean mg mb h₀) (hk : cs.kind = .function)
    (h : ∀ r h' tk' fp, (∀ b o, b ≠ L → s.heap.get? b = some o → h'.get? b = some o) → Fr h₀ L h' m → News h₀ L h' news → Reads h' r (told v) fp → Q r { s with heap := h', toks := tk' }) :
    wpAny (model Challenge.rw_nb0067_01.row.prog w) (callerA.deeper (envOf cn cs L a ccd)) (call (.ref 114) [.str (reply v) t]) Q E s :=
  heard_item hv (below_caller _) F X T hk fun r h' tk' fp kp F' R => h r h' tk' fp kp F' (fun p hp => ⟨kp _ _ (N p hp).2.1 (N p hp).1, (N p hp).2⟩) R
theorem due_L {v : Value} (hv : Item v) (F : Fr h₀ L s.heap m) (N : News h₀ L s.heap news) (X : (Mine.hd.heap_39 w.params).In h₀) (T : Top Mine.hd.view_39 (looseW Mine.hd.view_39 [Str.ofString "UNKNOWN"]) mean mg mb h₀) (hk : cs.kind = .function)
    (h : ∀ r h' tk' fp, (∀ b o, s.heap.get? b = some o → h'.get? b = some o) → Fr h₀ L h' m → News h₀ L h' news → Reads h' r (told v) fp → Q r { s with heap := h', toks := tk' }) :
    wpAny (model Challenge.rw_nb0067_01.row.prog w) (callerA.deeper (envOf cn cs L a ccd)) (call (.ref 121) [v]) Q E s :=
  due_item hv (below_caller _) F X T hk fun r h' tk' fp kp R => h r h' tk' fp kp (F.keeps kp) (N.grown kp) R
theorem ne_told {prog : Program} {A : Around} {v r1 r2 : Value} {h1 : Heap} {fp1 fp2 : List Addr} (hv : Item v) (R1 : Reads h1 r1 (told v) fp1) (kp : ∀ b o, h1.get? b = some o → s.heap.get? b = some o) (R2 : Reads s.heap r2 (told v) fp2) (hu : A.units + 64 < cLine) (h : Q (.bool false) s) :
    wpAny (model prog w) A (compareOp .NotEq r1 r2) Q E s :=
  ne_dataH (Reads.keeps kp R1) R2 (told_shaped hv) (told_shaped hv) hu (by rw [told_eqv]; exact h)
end
end Mine
end
section
open PySem PySem.W PyProof.Rows PySem.Calls
set_option maxRecDepth 100000
namespace Mine
local macro_rules | `(tactic| walk_at "eval ListComp") => `(tactic| (k_here; lcg_look; k_dflt (refine LCg.ListComp_U (F₀ := by k_asm) (by rfl) (by decide) (by rfl) (by decide) (by rfl) ?_)))
local macro_rules | `(tactic| walk_at "eval ListComp") => `(tactic| (k_here; lct_look; k_dflt (refine LCt.ListComp_T (F₀ := by k_asm) (by with_unfolding_all rfl) (by decide) (by rfl) (by decide) (by rfl) ?_)))
local macro_rules | `(tactic| walk_at "execs cons Assign cons") => `(tactic| ((with_reducible refine wpAny_execs_cons ?_); try dsimp only))
local macro_rules | `(tactic| walk_at "call ref") => `(tactic| (k_here; (with_reducible show wpAny _ _ (call (Value.ref 100) [Value.int _ _] _) _ _ _); k_dflt (refine' itemL ?F ?N ?X ?T ?hk ?_; (case F => k_asm); (case N => k_asm); (case X => k_asm); (case T => k_asm); (case hk => exact rfl); k_whole; intro v' h' tk' kp' hv' F' N')))
local macro_rules | `(tactic| walk_at "call ref") => `(tactic| (k_here; (with_reducible show wpAny _ _ (call (Value.ref 107) [_] _) _ _ _); k_dflt (refine' reply_L ?hv ?F ?N ?X ?T ?hk ?_; (case hv => assumption); (case F => k_asm); (case N => k_asm); (case X => k_asm); (case T => k_asm); (case hk => exact rfl); k_whole; intro t' h' tk' kp' F' N')))
local macro_rules | `(tactic| walk_at "call ref") => `(tactic| (k_here; (with_reducible show wpAny _ _ (call (Value.ref 114) [Value.str (reply _) _] _) _ _ _); k_dflt (refine' heard_L ?hv ?F ?N ?X ?T ?hk ?_; (case hv => assumption); (case F => k_asm); (case N => k_asm); (case X => k_asm); (case T => k_asm); (case hk => exact rfl); k_whole; intro r' h' tk' fp' kp' F' N' R')))
local macro_rules | `(tactic| walk_at "call ref") => `(tactic| (k_here; (with_reducible show wpAny _ _ (call (Value.ref 121) [_] _) _ _ _); k_dflt (refine' due_L ?hv ?F ?N ?X ?T ?hk ?_; (case hv => assumption); (case F => k_asm); (case N => k_asm); (case X => k_asm); (case T => k_asm); (case hk => exact rfl); k_whole; intro r' h' tk' fp' kp' F' N' R')))
local macro_rules | `(tactic| walk_at "compareOp NotEq") => `(tactic| (k_here; k_dflt (refine' ne_told ?hv ?R1 ?kp ?R2 ?hu ?_; (case hv => assumption); (case R2 => assumption); (case R1 => assumption); (case kp => assumption); (case hu => ke_room); k_whole)))
set_option maxHeartbeats 2000000 in
theorem lawC : PySem.Challenge.rw_nb0067_01.Holds := by
  refine Mine.hd ?_
  w_on
  k_go0
  repeat' (first | (k_unfold; (try dsimp only)) | ((fail_if_success (with_reducible show LCg.CompSrc _ _ _ _ _ _ _ _ _ _ _ _ _ _)); walk1) | ((fail_if_success (with_reducible show LCg.CompSrc _ _ _ _ _ _ _ _ _ _ _ _ _ _)); dsimp only; walk1) | fail "no step")
  (with_reducible rename IntsAre _ (List.take 5 _) => hI5)
  (with_reducible rename News _ _ _ _ => N5)
  have hl5 := IntsAre.length hI5
  k_dflt (refine LCg.CompSrc.ledger (by rfl) (by k_asm) N5 (List.Mem.head _) ?sz ?_)
  case sz =>
    rw [PySem.sizeLine_eq, List.size_toArray, hl5, List.length_take]
    omega
  intro g5
  refine rest_items ?turn ?hS _ 0 [] (fun _ h => nomatch h) ?fin
  case hS => exact Or.inr ⟨_, List.Mem.head _, rfl, _, rfl⟩
  case turn =>
    intro v I oI C oC D m₂ h tk E' ys Qk i hP hC hx F N hQ
    obtain ⟨n, t, rfl⟩ := ints_get hI5 hP
    repeat' (first | (k_unfold; (try dsimp only)) | walk1 | (dsimp only; walk1) | fail "no step")
    exact hQ _ _ _ (by assumption) (by assumption)
  case fin =>
    intro ys hys hyl
    clear N5
    repeat' (first | (k_unfold; (try dsimp only)) | ((fail_if_success (with_reducible show LCt.CompSrcT _ _ _ _ _ _ _ _ _ _ _ _ _ _ _)); walk1) | ((fail_if_success (with_reducible show LCt.CompSrcT _ _ _ _ _ _ _ _ _ _ _ _ _ _ _)); dsimp only; walk1) | fail "no step")
    (with_reducible rename News _ _ _ _ => N6)
    k_dflt (refine LCt.CompSrcT.ledger (by rfl) (by k_asm) N6 (List.Mem.head _) ?sz6 ?_)
    case sz6 =>
      rw [PySem.sizeLine_eq, List.size_toArray, List.length_append, hyl]
      simp only [List.length_cons, List.length_nil, List.size_toArray, hl5, List.length_take]
      omega
    intro g6
    refine rest_tests ?turn6 ?hS6 ?fin6 _ 0
    case hS6 => exact Or.inr ⟨_, List.Mem.head _, rfl, _, rfl⟩
    case turn6 =>
      intro v I oI C oC D m₂ h tk E' Qk i hP hC hx F N hQ
      have hv : Item v := by
        have hm := List.mem_of_getElem? (by simpa using hP)
        rcases List.mem_append.mp hm with hm | hm
        · exact hys v hm
        · simp only [List.mem_cons, List.not_mem_nil, or_false] at hm
          rcases hm with rfl | rfl | rfl | rfl | rfl | rfl | rfl
          · exact .str (by decide +kernel) (by decide +kernel)
          · exact .str (by decide +kernel) (by decide +kernel)
          · exact .int (by decide) (by decide)
          · exact .int (by decide) (by decide)
          · exact .none
          · exact .str (by decide +kernel) (by decide +kernel)
          · exact .str (by decide +kernel) (by decide +kernel)
      clear hP
      repeat' (first | (k_unfold; (try dsimp only)) | walk1 | (dsimp only; walk1) | fail "no step")
      refine hQ _ _ (by assumption) fun b o hb e => ?_
      solve_by_elim
    case fin6 =>
      clear N6
      k_steps
end Mine
end
theorem PySem.Challenge.cw_nb0067_01_holds : PySem.Challenge.rw_nb0067_01.Holds :=
  Mine.lawC
#print axioms PySem.Challenge.cw_nb0067_01_holds

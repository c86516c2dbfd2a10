import PyProof.Rows.All
import Wide.All
import OpenK.AllK
import Wide.FinOn
import Lean
import PySem.Challenge.RW_pk0095_01
open PySem PySem.W PyProof.Rows PySem.Calls PySem.Builtin PySem.Builtin.ObjectAttr
set_option Elab.async false
set_option maxRecDepth 100000
set_option maxHeartbeats 0
set_option linter.unusedVariables false
namespace Mine
theorem left_of_boot {p q : Program} {loose : List Str} {Xt : Shared → Bool} {α : Type} {Yf : Shared → α} {Ya : World → α} {N : Nat} {g0 : Bool} {H₀ : Params → Heap} {gs₀ : Array GenState} {d₀ : Drawn} {k₀ : Nat}
    (open_ : ∀ w : World, (fencedOpening treeTable p w N).map (fun s => (s.heap, s.gens, s.drawn, s.toks)) = some (H₀ w.params, gs₀, d₀, k₀))
    (rest : ∀ (w : World) (os : OsState), (topFrom treeTable p w N ⟨H₀ w.params, gs₀, d₀, k₀, os⟩).map (fun s => (openSeen q loose (importedModules p.main.body) Xt g0 s, Yf s)) = some (openGood q loose, Ya w)) : LeftO p q loose Xt Yf Ya N g0 := fun w => by
  obtain ⟨⟨h, gs, d, k, os⟩, e, e'⟩ := Option.map_eq_some_iff.mp (open_ w)
  obtain ⟨rfl, rfl, rfl, rfl⟩ : h = H₀ w.params ∧ gs = gs₀ ∧ d = d₀ ∧ k = k₀ := by simpa using e'
  unfold openEnds
  rw [e]
  exact rest w os
def qv : Program := view PySem.Challenge.pw_pk0095_01 [0, 2, 4, 5, 6, 7, 9, 10, 11, 12]
theorem op1 : opening PySem.Challenge.pw_pk0095_01 = plainProg PySem.Challenge.pw_pk0095_01.main.scope.names := by kernel_rfl
theorem op2 (s : Shared) : fenceModules? PySem.Challenge.pw_pk0095_01 s = some s := by with_unfolding_all rfl
theorem said0 : OpenLaw.wellSaid PySem.Challenge.rw_pk0095_01 = true := by
  unfold OpenLaw.wellSaid OpenRow.wellSaid OpenRow.partSaid looksOpen
  repeat' (first | (with_reducible refine look_both ?_ ?_) | decide +kernel)
section
local macro_rules | `(tactic| o_head ($_f:ident $K $as $e)) => `(tactic| (
  refine PySem.W.holds_open (q := qv) (loose := [Str.ofString "_Accumulator"]) (Xt := fun s => xlAt qv [] s && recOk (RowW.records (OpenRow.toRowW (OpenLaw.row PySem.Challenge.rw_pk0095_01))) s) (XP := XL qv []) (Yf := Hook.obs (kmHook $K $as $e [147, 154])) (Ya := Hook.val (kmHook $K $as $e [147, 154])) (YP := Hook.says (kmHook $K $as $e [147, 154])) (N := 2568) ?hl (Hook.of (kmHook $K $as $e [147, 154])) (Hook.keeps (kmHook $K $as $e [147, 154])) (fun s e => xl_of s (Bool.and_eq_true_iff.mp e).1) XL.keeps (by rfl) (by rfl) (by rfl) (fun s e => recFacts_of (Bool.and_eq_true_iff.mp e).2) (by rfl) (row_said said0) (by decide +kernel) ⟨rfl, rfl, rfl, rfl, rfl, by decide +kernel⟩ ?hw ?hc
  case hl => (refine left_of_boot (boot_open op1 (by decide) op2) ?_; intro w os; unfold topFrom; rw [PySem.W.Fast.te14364793385576792824, PySem.W.Fast.te14082659384304107361, PySem.W.Fast.te4187177175401517315, PySem.W.Fast.te5923862056798008813]; kernel_rfl)))
open_top top0 for (OpenLaw.row PySem.Challenge.rw_pk0095_01)
end
local macro_rules | `(tactic| walk_at $s:str) => `(tactic| k_extra $s)
section

theorem enterK {prog : Program} {w : World} {A : Around} {s : Shared} {K : Frag} {news : List (Addr × Obj)}
    {R : Result → Shared → Prop} {name qual : Str} {params : Arguments} {body : List Stmt} {scope : Scope} {dV kV doc pm cdv ct oc : Value} {an od : Option Addr} {osl : Array (Option Value)} {f : Addr} {args : Args} {binds : List (Str × Value)}
    (X : K.In s.heap) (lim : s.heap.NoLimit) (hn : ∀ p ∈ news, s.heap.get? p.1 = some p.2)
    (ho : K.lookup f = some ⟨oc, od, .func (fnOf name qual params body scope dV kV doc pm an cdv ct), osl⟩) (hcd : codeIn K cdv qual = true) (hroom : A.depth < recursionLimit)
    (hbind : BindsTo s (fnOf name qual params body scope dV kV doc pm an cdv ct) args binds) (hloc : ∀ y ∈ binds, scope.names.lookup y.1 = some .local)
    (h : ∀ g L' h₁, Fr g L' h₁ (fun y => binds.reverse.lookup y) → News g L' h₁ news → (∀ b o, s.heap.get? b = some o → b ∉ news.map (·.1) → g.get? b = some o) → (∀ p ∈ news, p.1 < L') →
      wpAny (model prog w) (A.deeper (envOf qual scope L' f cdv)) (execs body (envOf qual scope L' f cdv))
        (fun fl s' => R (.ok (.ret (match fl with | .ret v => v | _ => .none))) s')
        (fun e s' => wpAny (model prog w) (A.deeper (envOf qual scope L' f cdv)) (leaving (envOf qual scope L' f cdv) e) (fun _ s'' => R (.error e) s'') (fun e' s'' => R (.error e') s'') s')
        { s with heap := h₁, toks := s.toks + binds.length })
    (hcell : ∀ x ∈ scope.names, x.2 ≠ .cell) (hco : scope.isCoroutine = false) (hgen : scope.isGenerator = false) (hk : scope.kind = .function) : codeAny (model prog w) A (.call (.ref f) args) R s := by
  refine codeAny_call_def (fd := fnOf name qual params body scope dV kV doc pm an cdv ct) (body := body) (binds := binds) hroom (X _ _ ho) rfl lim (codeRec_of X hcd) rfl hbind hcell hloc (fun h₁ hns hk₁ => ?_) hco hgen hk
  exact h (hideAll s.heap (news.map (·.1))) s.heap.objs.size h₁ ⟨hns, fun b o e => hk₁ b o (of_hideAll _ e), Nat.le_of_eq (hideAll_size _ _)⟩
    (fun p hp => ⟨hk₁ _ _ (hn p hp), Nat.ne_of_lt (Heap.lt_size (hn p hp)), hideAll_none _ (List.mem_map_of_mem hp)⟩) (fun b o e nb => hideAll_get _ e nb) (fun p hp => Heap.lt_size (hn p hp))

abbrev accObj (d : Addr) (items : Array Value) (n : Nat) : Obj := ⟨.ref 185, some d, .seq items n, #[]⟩
abbrev P95 : Program := PySem.Challenge.rw_pk0095_01.row.prog


section
variable {prog : Program} {w : World} {M : Model} {A : Around} {E : Value → Shared → Prop} {s : Shared} {acc d : Addr} {items : Array Value} {n en : Nat} {es : List DictEntry} {K : Frag}

theorem acc_type {h : Heap} (hacc : h.get? acc = some (accObj d items n)) : Looks M h (typeOf (.ref acc)) (.ref 185) := (Looks.ld hacc).andThen .now
theorem acc_dict {h : Heap} {name : Str} {r : Option Value} (hd : h.get? d = some (dictOf es en)) (e : getL name es = some r) : Looks M h (nsGet d name) r := by
  refine (Looks.ld hd).andThen ?_
  rw [nsLook_of (by rw [lookIn_dict]; exact e)]
  exact .now

theorem acc_getMethod {name : Str} {f tf : Value} {pl : Sem Bool} {Q : Value × List Value → Shared → Prop} (X : K.In s.heap) (hacc : s.heap.get? acc = some (accObj d items n)) (hd : s.heap.get? d = some (dictOf es en))
    (h1 : findIn K (.ref 185) "__getattribute__" = some (some (.builtin "list.__getattribute__"))) (h2 : findIn K (.ref 185) "__getattr__" = some none)
    (hf : findIn K (.ref 185) name = some (some f)) (htf : typeIn K f = some tf) (htf' : (tf != .type "function" && tf != .type "method_descriptor" && tf != .type "wrapper_descriptor") = false) (hes : getL name es = some none)
    (h : Q (f, [.ref acc]) s) : wpAny M A (getMethod (.ref acc) name pl) Q E s := by
  obtain ⟨hh, g, dr, t, os⟩ := s
  have L0 : Looks M hh _ _ := acc_type hacc
  have L1 : Looks M hh _ _ := looks_findIn X h1
  have L2 : Looks M hh _ _ := looks_findIn X h2
  have L3 : Looks M hh _ _ := looks_findIn X hf
  have L4 : Looks M hh _ _ := looks_typeIn X htf
  have L5 : Looks M hh _ _ := acc_dict hd hes
  unfold getMethod specialOf
  repeat lk
  rw [if_neg (by rw [htf']; exact Bool.false_ne_true)]
  repeat lk
  exact h

theorem check_meth {i owner n : String} {self : Value} {rest : List Value} {kw : List (Str × Value)} {Q : Unit → Shared → Prop}
    (hk : builtinKind i = some .method) (hs : splitId i = some (owner, n)) (hi : Looks M s.heap (isInstance self (.type owner)) true) (ha : argsOk i ⟨self :: rest, kw⟩) (q : Q () s) :
    wpAny M A (checkBuiltinCall i ⟨self :: rest, kw⟩) Q E s := by
  simp only [checkBuiltinCall, hk, hs]
  refine wpAny_bind (hi.here ?_)
  simp only [Bool.not_true, Bool.false_eq_true, if_false]
  cases hsig : Manifest.signature? i with
  | none => exact wpAny_pure q
  | some sig =>
    simp only [argsOk, hsig] at ha
    have h2 : Bind.checkArgs i sig ⟨self :: rest, kw⟩ = pure () := ha
    show wpAny M A (Bind.checkArgs i sig ⟨self :: rest, kw⟩) Q E s
    rw [h2]; exact wpAny_pure q

theorem acc_call {i nm : String} {b : Builtin} {rest : List Value} {R : Result → Shared → Prop} (X : K.In s.heap) (hacc : s.heap.get? acc = some (accObj d items n)) (hm : mroIn K 185 (.type "list") = some true)
    (hk : builtinKind i = some .slot ∨ builtinKind i = some .method) (hs : splitId i = some ("list", nm)) (ha : argsOk i ⟨.ref acc :: rest, []⟩) (hp : plainId i = true) (he : entryFor table i = some b)
    (h : wpAny (model prog w) A.in1 (b ⟨.ref acc :: rest, []⟩) (fun fin s' => match fin with | .done f => R (.ok f) s' | .again c' => c'.quiet = true ∧ codeAny (model prog w) A c' R s') (fun e s' => R (.error e) s') s) :
    codeAny (model prog w) A (.call (.builtin i) ⟨.ref acc :: rest, []⟩) R s := by
  have hi : Looks (model prog w) s.heap (isInstance (.ref acc) (.type "list")) true := (acc_type hacc).andThen (looks_mroIn X hm)
  refine codeAny_call_builtin hp he ?_
  rcases hk with hk | hk
  · exact check_slot hk hs hi ha h
  · exact check_meth hk hs hi ha h

theorem mapSeq_acc {f : Array Value → Array Value} {m : Nat} (e : m = (if (f items).size == items.size then n else n + 1)) : Obj.mapSeq f (accObj d items n) = accObj d (f items) m := by
  subst e; rfl

/-- append -/
theorem acc_append {x : Value} {Q : Value → Shared → Prop} (X : K.In s.heap) (hacc : s.heap.get? acc = some (accObj d items n)) (hm : mroIn K 185 (.type "list") = some true) (hz : items.size < 1000)
    (h : ∀ h', Heap.SameBut acc s.heap h' → h'.get? acc = some (accObj d (items.push x) (n + 1)) → Q .none { s with heap := h' }) :
    wpAny (model prog w) A (call (.builtin "list.append") [.ref acc, x]) Q E s := by
  refine wpAny_call (acc_call (nm := "append") X hacc hm (.inr (by decide +kernel)) (by decide +kernel) (args_list_append _ _) (by decide +kernel) entry_list_append ?_)
  show wpAny _ _ (updateSeq acc (·.push x) >>= fun _ => ret .none) _ _ s
  refine wpAny_bind ?_
  have hs : items.size ≤ sizeLine := by rw [sizeLine_eq]; omega
  refine wpAny_updateSeq (hz := hs) hacc rfl (wpAny_pure (h _ (Heap.SameBut.update ..) ?_))
  have e := mapSeq_acc (f := (·.push x)) (items := items) (n := n) (m := n + 1) (d := d) (by simp)
  rw [Heap.get?_update_self _ hacc (by rw [e]; rfl), e]
end
end
section
section
variable {prog : Program} {w : World} {M : Model} {A : Around} {E : Value → Shared → Prop} {s : Shared} {acc d : Addr} {items : Array Value} {n en : Nat} {es : List DictEntry} {K : Frag} {cd : ClassData}

theorem acc_inst {h : Heap} (hacc : h.get? acc = some (accObj d items n)) (hd : h.get? d = some (dictOf es en)) : InstAt h acc (accObj d items n) 185 (some (dictOf es en)) := ⟨hacc, rfl, rfl, hd⟩

theorem acc_getAttr {name : Str} {v : Value} {expr : Bool} {Q : Value → Shared → Prop} (X : K.In s.heap) (hacc : s.heap.get? acc = some (accObj d items n)) (hd : s.heap.get? d = some (dictOf es en))
    (h1 : findIn K (.ref 185) "__getattribute__" = some (some (.builtin "list.__getattribute__"))) (h2 : findIn K (.ref 185) "__getattr__" = some none)
    (hm : mroIn K 185 (.type "list") = some true) (hf : findObj K 185 (some (dictOf es en)) name = some (.value v)) (hh : handedIn v = true)
    (h : Q v { s with toks := s.toks + 1 }) : wpAny (model prog w) A (getAttr (.ref acc) name expr) Q E s := by
  have I := acc_inst hacc hd
  obtain ⟨hh', g, dr, t, os⟩ := s
  have L0 : Looks (model prog w) hh' _ _ := acc_type hacc
  have L1 : Looks (model prog w) hh' _ _ := looks_findIn X h1
  have L2 : Looks (model prog w) hh' _ _ := looks_findIn X h2
  have L3 : Looks (model prog w) hh' _ _ := looks_find X I hf
  have B : bindSpecial (.builtin "list.__getattribute__") (.ref acc) = pure (.builtin "list.__getattribute__", [.ref acc]) :=
    (Slot.of (T := "list") (name := "__getattribute__") (owner := "list") (n := "__getattribute__") (by rw [typeLookup_type, builtinLookup_eq_fast]; kernel_rfl) (by decide +kernel) (by decide +kernel) (by decide +kernel)
      (.inl (by decide +kernel)) (by rw [isSubtype_type]; kernel_rfl)).bind _
  refine wpAny_bind (wpAny_mkText (wpAny_holding (wpAny_bind (L0.at (wpAny_bind (L1.at ?_))))))
  show wpAny _ _ (getAttrByItsOwn _ _ _ _ _ _) _ _ _
  refine wpAny_bind (m := typeLookup (.ref 185) "__getattr__") (L2.at ?_)
  refine wpAny_bind (wpAny_attempt (wpAny_holding ?_))
  have e1 : callGetattribute (.ref acc) (.str name t) (.builtin "list.__getattribute__") expr = (bindSpecial (.builtin "list.__getattribute__") (.ref acc) >>= fun gf => call gf.1 (gf.2 ++ [.str name t])) := by cases expr <;> rfl
  rw [e1, B]
  refine wpAny_bind (wpAny_pure ?_)
  refine wpAny_call (acc_call (nm := "__getattribute__") (b := Builtin.«object.__getattribute__») (K := K) X hacc hm (.inl (by decide +kernel)) (by decide +kernel) (by unfold argsOk; kernel_rfl) (by decide +kernel) PySem.F.entry_list_ga ?_)
  unfold Builtin.«object.__getattribute__»
  repeat lk
  show wpAny _ _ (handedOut v) _ _ _
  rw [handedOut_of hh]; exact wpAny_pure h

theorem acc_setAttr {name : Str} {v : Value} {es' : List DictEntry} {en' : Nat} {Q : Unit → Shared → Prop} (X : K.In s.heap) (hacc : s.heap.get? acc = some (accObj d items n)) (hd : s.heap.get? d = some (dictOf es en))
    (h1 : findIn K (.ref 185) "__setattr__" = some (some (.builtin "object.__setattr__"))) (hcl : clsIn K 185 = some cd) (hmro : cd.mro = [.ref 185, .type "list", .type "object"]) (hdict : cd.hasDict = true)
    (ht : takerIn K 185 name = some none) (hl : (getL name es).isSome = true)
    (e : (putL name (PyData.keyHash w.params name) (.str name (s.toks + 1)) v es, putN name es en) = (es', en')) (hz : es'.length ≤ 1000)
    (h : ∀ h', Heap.SameBut d s.heap h' → h'.get? d = some (dictOf es' en') → Q () { s with heap := h', toks := s.toks + 2 }) :
    wpAny (model prog w) A (setAttr (.ref acc) name v) Q E s := by
  have I := acc_inst hacc hd
  refine set_plain X I h1 ?_
  have SF := PySem.F.store_object
  obtain ⟨attr, ha, hr⟩ := Option.bind_eq_some_iff.mp ht
  obtain ⟨hh', g, dr, t, os⟩ := s
  have hm : Looks (model prog w) hh' (mroOf (.ref 185)) cd.mro := (looks_clsIn X hcl).andThen .now
  have hme : mroIn K 185 (.type "object") = some true := by unfold mroIn; rw [hcl, Option.bind_some, hmro]; rfl
  have sub : Looks (model prog w) hh' (isInstance (.ref acc) (.type "object")) true := I.type.andThen (looks_mroIn X hme)
  refine codeAny_call_builtin SF.slot.plain SF.entry (check_slot (i := "object.__setattr__") (owner := "object") (n := "__setattr__") SF.kind SF.split sub (SF.args _ _ _) ?_)
  have L3 : Looks (model prog w) hh' (storeTaker? attr) none := by
    cases attr with
    | none => exact .now
    | some a =>
      obtain ⟨b, hb, he⟩ := Option.map_eq_some_iff.mp hr
      refine (looks_takesIn X hb).andThen ?_
      cases b <;> first | exact .now | cases he
  have L4 : Looks (model prog w) hh' (typeOf (.ref acc)) (.ref 185) := I.type
  rw [osa_eq, refuse_eq]
  refine wpAny_bind (wpAny_bind (L4.at (wpAny_bind (hm.at ?_))))
  rw [hmro, show refuseLoop (.ref acc) "__setattr__" [.ref 185, .type "list", .type "object"] = pure () from by rw [refuseLoop_ref]; kernel_rfl]
  refine wpAny_pure (wpAny_bind (L4.at (wpAny_bind ((looks_findIn X ha).at (wpAny_bind (L3.at ?_))))))
  dsimp only
  obtain ⟨e1, e2⟩ := Prod.mk.inj e
  have eq1 : Obj.putName name (PyData.keyHash w.params name) (.str name (t + 1)) v (dictOf es en) = dictOf es' en' := by rw [putName_dict, ← e1, ← e2]
  have D' : (hh'.update d (Obj.putName name (PyData.keyHash w.params name) (.str name (t + 1)) v)).get? d = some (dictOf es' en') := by
    rw [Heap.get?_update_self _ hd (by rw [eq1]; rfl), eq1]
  refine wpAny_bind (wpAny_pure (wpAny_bind (wpAny_bind (wpAny_loadPart hacc (wpAny_bind ((looks_clsIn X hcl).at ?_))))))
  rw [hdict]
  refine wpAny_pure (a := some d) (wpAny_bind (wpAny_pure (wpAny_bind ?_)))
  unfold nsSet
  refine wpAny_bind (wpAny_bind (wpAny_askSetting (wpAny_pure (wpAny_bind (wpAny_mkText (wpAny_bind (wpAny_loadPart hd ?_)))))))
  dsimp only
  have c : (!(es.toArray).any (·.key.isStr name) && (es.toArray).any (·.refKey)) = false := by
    rw [← Array.any_toList, ← Array.any_toList]
    unfold getL at hl
    split at hl
    · rename_i en he
      rw [show es.toArray.toList = es from rfl, List.any_eq_true.mpr ⟨en, List.mem_of_find?_eq_some he, List.find?_some he⟩]; rfl
    · split at hl
      · cases hl
      · rename_i z; rw [Bool.not_eq_true] at z; rw [show es.toArray.toList = es from rfl, z, Bool.and_false]
  rw [aRefKeyMayBeTheName_at, c]
  refine wpAny_updatePart hd ?_
  refine wpAny_bind (wpAny_lookBehind D' (pastItsLine_dict (by rw [List.size_toArray, sizeLine_eq]; omega)) ?_)
  exact wpAny_pure (h _ (Heap.SameBut.update ..) D')
end
end
section
section
variable {prog : Program} {w : World} {M : Model} {A : Around} {E : Value → Shared → Prop} {s : Shared} {acc d : Addr} {items : Array Value} {n en : Nat} {es : List DictEntry} {K : Frag} {cd : ClassData}

theorem acc_seqKey {k : Value} {name : Str} {Q : Value → Shared → Prop} (X : K.In s.heap) (hacc : s.heap.get? acc = some (accObj d items n)) (hq : noSeq K 185 = true) (h : Q k s) :
    wpAny M A (sequenceKey (.ref acc) k name) Q E s := by
  unfold sequenceKey
  refine wpAny_bind ((acc_type hacc).here ?_)
  refine wpAny_bind ((anyM_none X hq).here ?_)
  rw [if_pos (show (!false) = true from rfl)]
  exact wpAny_pure h

theorem acc_special {name : Str} {id nm : String} {b : Builtin} {args : List Value} {Q : Option Value → Shared → Prop} (X : K.In s.heap) (hacc : s.heap.get? acc = some (accObj d items n)) (hm : mroIn K 185 (.type "list") = some true)
    (hf : findIn K (.ref 185) name = some (some (.builtin id))) (S : Slot "list" name id)
    (hk : builtinKind id = some .slot ∨ builtinKind id = some .method) (hs : splitId id = some ("list", nm)) (ha : argsOk id ⟨.ref acc :: args, []⟩) (he : entryFor table id = some b)
    (h : wpAny (model prog w) A.in1 (b ⟨.ref acc :: args, []⟩) (fun fin s' => match fin with | .done (.ret v) => Q (some v) s' | .done _ => False | .again c' => c'.quiet = true ∧ codeAny (model prog w) A c' (fun r s'' => match r with | .ok (.ret v) => Q (some v) s'' | .ok _ => False | .error e => E e s'') s') E s) :
    wpAny (model prog w) A (callSpecial? (.ref acc) name args) Q E s := by
  refine wpAny_bind (wpAny_bind ((acc_type hacc).here ((looks_findIn X hf).here (wpAny_holding ?_))))
  rw [S.bind]
  refine wpAny_bind (wpAny_pure (wpAny_bind (wpAny_call (acc_call (nm := nm) X hacc hm hk hs ha S.plain he (wpAny_mono h (fun fin s' z => ?_) fun _ _ z => z)))))
  rcases fin with (_ | _ | _ | v) | c'
  · exact z.elim
  · exact z.elim
  · exact z.elim
  · exact wpAny_pure z
  · exact ⟨z.1, codeAny_mono z.2 fun r s'' y => by rcases r with e | (v | _ | _ | _) <;> first | exact y | exact y.elim | exact wpAny_pure y⟩

theorem acc_getItem_slice {sl : Addr} {vl vu vs : Value} {lo hi st : Option Int} {Q : Value → Shared → Prop} (X : K.In s.heap) (hacc : s.heap.get? acc = some (accObj d items n)) (hm : mroIn K 185 (.type "list") = some true)
    (hq : noSeq K 185 = true) (hf : findIn K (.ref 185) "__getitem__" = some (some (.builtin "list.__getitem__")))
    (hs : s.heap.IsSliceOf sl vl vu vs) (pl : IsPart vl lo) (pu : IsPart vu hi) (ps : IsPart vs st) (h0 : st ≠ some 0)
    (h : Q (.ref s.heap.objs.size) { s with heap := s.heap.push { cls := .type "list", data := .seq (slicePick items lo hi st) } })
    (hsz : items.size < 1000) : wpAny (model prog w) A (getItem (.ref acc) (.ref sl)) Q E s := by
  have hsz' : items.size ≤ sizeLine := by rw [sizeLine_eq]; omega
  obtain ⟨os, hos, hcs, hds⟩ := id hs
  have hTs : s.TypeIs (.ref sl) "slice" := ⟨os, hos, hcs⟩
  unfold getItem
  refine wpAny_holding (wpAny_bind (acc_seqKey X hacc hq (wpAny_bind (acc_special X hacc hm hf slot_list_getitem (.inr (by decide +kernel)) (nm := "__getitem__") (by decide +kernel) (args_list_getitem _ _) entry_list_getitem ?_))))
  show wpAny _ _ (Builtin.List.listSubscript? (.ref sl) >>= _) _ _ s
  refine wpAny_bind ?_
  unfold Builtin.List.listSubscript?
  refine wpAny_bind (wpAny_specialOf hTs slice_no_index ?_)
  simp only [Option.isNone_none, if_true]
  refine wpAny_pure ?_
  show wpAny _ _ (typeOf (.ref sl) >>= _) _ _ s
  refine wpAny_bind (wpAny_typeOf hTs ?_)
  rw [if_neg (by decide)]
  rw [listSliceParts_eq]
  have hstep : ¬ ((rawPart st == rawInt 0) = true) := by
    cases st with
    | none => exact Bool.false_ne_true
    | some c =>
      intro hh
      have : c = 0 := by simpa [rawPart, rawInt] using hh
      exact h0 (by rw [this])
  refine wpAny_bind (wpAny_bind (wpAny_field hos hds (x := vs) rfl (wpAny_bind (wpAny_listPart ps ?_))))
  rw [if_neg hstep]
  refine wpAny_bind (wpAny_field hos hds (x := vl) rfl (wpAny_bind (wpAny_listPart pl ?_)))
  refine wpAny_bind (wpAny_field hos hds (x := vu) rfl (wpAny_bind (wpAny_listPart pu (wpAny_pure ?_))))
  refine wpAny_bind (m := Builtin.List.listItems (.ref acc)) ?_
  unfold Builtin.List.listItems
  refine wpAny_bind (wpAny_seqItems hacc rfl (wpAny_pure ?_))
  refine wpAny_bind (wpAny_of_eq (sliceIndices_raw lo hi st items.size h0) ?_)
  refine wpAny_bind (wpAny_newObj_type (wpAny_pure (wpAny_pure h)) (Nat.le_trans (slicePick_size_le items lo hi st) hsz'))

theorem acc_getItem_int {k : Int} {t : Tok} {v : Value} {Q : Value → Shared → Prop} (X : K.In s.heap) (hacc : s.heap.get? acc = some (accObj d items n)) (hm : mroIn K 185 (.type "list") = some true)
    (hq : noSeq K 185 = true) (hf : findIn K (.ref 185) "__getitem__" = some (some (.builtin "list.__getitem__"))) (h0 : 0 ≤ k) (hfit : k < 1000) (hv : items[k.toNat]? = some v)
    (h : Q v s) : wpAny (model prog w) A (getItem (.ref acc) (.int k t)) Q E s := by
  unfold getItem
  refine wpAny_holding (wpAny_bind (acc_seqKey X hacc hq (wpAny_bind (acc_special X hacc hm hf slot_list_getitem (.inr (by decide +kernel)) (nm := "__getitem__") (by decide +kernel) (args_list_getitem _ _) entry_list_getitem ?_))))
  show wpAny _ _ (Builtin.List.listSubscript? (.int k t) >>= _) _ _ s
  refine wpAny_bind (wpAny_listSubscript_int (fitsIndex_of h0 (by omega)) ?_)
  clear hfit
  obtain ⟨j, rfl⟩ := Int.eq_ofNat_of_zero_le h0
  have hx' : items[j]? = some v := hv
  show wpAny _ _ ((seqItemAt acc j >>= fun r => pure (r.map (j, ·))) >>= _) _ _ s
  refine wpAny_bind (wpAny_bind (wpAny_seqItemAt hacc rfl (wpAny_pure ?_)))
  rw [hx']
  exact wpAny_pure (wpAny_pure h)

theorem acc_inPython {Q : Bool → Shared → Prop} (X : K.In s.heap) (hacc : s.heap.get? acc = some (accObj d items n)) (hf : findIn K (.ref 185) "__getitem__" = some (some (.builtin "list.__getitem__")))
    (h : Q false s) : wpAny M A (getitemInPython (.ref acc)) Q E s := by
  obtain ⟨hh, g, dr, t, os⟩ := s
  have L0 : Looks M hh _ _ := acc_type hacc
  have L1 : Looks M hh _ _ := looks_findIn X hf
  unfold getitemInPython specialOf
  repeat lk
  exact h

def slicePut (items : Array Value) (lo hi : Option Int) (new : Array Value) : Array Value :=
  items.extract 0 (sliceBounds lo hi none items.size).1.toNat ++ new ++ items.extract (max (sliceBounds lo hi none items.size).1 (sliceBounds lo hi none items.size).2.1).toNat items.size
theorem slicePut_size (items : Array Value) (lo hi : Option Int) (new : Array Value) : (slicePut items lo hi new).size ≤ items.size + new.size + items.size := by
  unfold slicePut
  simp only [Array.size_append, Array.size_extract]
  omega

theorem acc_setItem_slice {sl l : Addr} {vl vu : Value} {lo hi : Option Int} {new : Array Value} {ne : Nat} {Q : Unit → Shared → Prop} (X : K.In s.heap) (hacc : s.heap.get? acc = some (accObj d items n)) (hm : mroIn K 185 (.type "list") = some true)
    (hq : noSeq K 185 = true) (hf : findIn K (.ref 185) "__setitem__" = some (some (.builtin "list.__setitem__")))
    (hs : s.heap.IsSliceOf sl vl vu .none) (pl : IsPart vl lo) (pu : IsPart vu hi) (hl : s.heap.get? l = some { cls := .type "list", data := .seq new ne }) (hla : l ≠ acc)
    (hsz : items.size < 1000) (hsz2 : new.size < 1000)
    (h : ∀ h' n', Heap.SameBut acc s.heap h' → h'.get? acc = some (accObj d (slicePut items lo hi new) n') → Q () { s with heap := h' }) : wpAny (model prog w) A (setItem (.ref acc) (.ref sl) (.ref l)) Q E s := by
  have hsz' : items.size ≤ sizeLine := by rw [sizeLine_eq]; omega
  obtain ⟨os, hos, hcs, hds⟩ := id hs
  have hTs : s.TypeIs (.ref sl) "slice" := ⟨os, hos, hcs⟩
  unfold setItem
  refine wpAny_holding (wpAny_bind (acc_seqKey X hacc hq (wpAny_bind (acc_special X hacc hm hf slot_list_setitem (.inl (by decide +kernel)) (nm := "__setitem__") (by decide +kernel) (args_list_setitem _ _ _) entry_list_setitem ?_))))
  show wpAny _ _ (Builtin.List.listSubscript? (.ref sl) >>= _) _ _ s
  refine wpAny_bind ?_
  unfold Builtin.List.listSubscript?
  refine wpAny_bind (wpAny_specialOf hTs slice_no_index ?_)
  simp only [Option.isNone_none, if_true]
  refine wpAny_pure ?_
  show wpAny _ _ (typeOf (.ref sl) >>= _) _ _ s
  refine wpAny_bind (wpAny_typeOf hTs ?_)
  rw [if_neg (by decide)]
  rw [listSliceParts_eq]
  refine wpAny_bind (wpAny_bind (wpAny_field hos hds (x := .none) rfl (wpAny_bind (wpAny_listPart .none ?_))))
  rw [if_neg (show ¬ ((rawPart none == rawInt 0) = true) from Bool.false_ne_true)]
  refine wpAny_bind (wpAny_field hos hds (x := vl) rfl (wpAny_bind (wpAny_listPart pl ?_)))
  refine wpAny_bind (wpAny_field hos hds (x := vu) rfl (wpAny_bind (wpAny_listPart pu (wpAny_pure ?_))))
  rw [if_neg (by show ¬ ((acc == l) = true); simpa using fun e : acc = l => hla e.symm)]
  refine wpAny_bind (m := Builtin.List.listAllItems (.ref l) _) ?_
  unfold Builtin.List.listAllItems
  refine wpAny_bind (wpAny_typeOf (T := "list") ⟨_, hl, rfl⟩ ?_)
  rw [if_pos (by decide)]
  unfold Builtin.List.listItems
  refine wpAny_bind (wpAny_seqItems hl rfl (wpAny_pure ?_))
  refine wpAny_bind (wpAny_bind (wpAny_seqItems hacc rfl (wpAny_pure ?_)))
  refine wpAny_bind (wpAny_of_eq (sliceIndices_raw lo hi none items.size (by simp)) ?_)
  rw [if_pos (show (((sliceBounds lo hi none items.size).2.2 == 1) = true) from rfl)]
  refine wpAny_bind (wpAny_rule ?_)
  rw [if_neg (by simp only [Builtin.List.listTooLong, sizeLine_eq, decide_eq_true_eq]; omega)]
  have hz2 := slicePut_size items lo hi new
  refine wpAny_bind (wpAny_updateSeq (f := fun xs => xs.extract 0 (sliceBounds lo hi none items.size).1.toNat ++ new ++ xs.extract (max (sliceBounds lo hi none items.size).1 (sliceBounds lo hi none items.size).2.1).toNat xs.size) (hz := hsz') (_hz' := by show (slicePut items lo hi new).size ≤ sizeLine + 1; rw [sizeLine_eq]; omega) hacc rfl ?_)
  refine wpAny_bind (wpAny_letGo (wpAny_pure (wpAny_pure (h _ (if (slicePut items lo hi new).size == items.size then n else n + 1) (Heap.SameBut.update ..) ?_))))
  have e := mapSeq_acc (f := fun xs => xs.extract 0 (sliceBounds lo hi none items.size).1.toNat ++ new ++ xs.extract (max (sliceBounds lo hi none items.size).1 (sliceBounds lo hi none items.size).2.1).toNat xs.size) (items := items) (n := n) (d := d) rfl
  rw [Heap.get?_update_self _ hacc (by rw [e]; rfl), e]
  rfl
end
end
section
section
variable {prog : Program} {w : World} {M : Model} {A : Around} {E : Value → Shared → Prop} {acc d : Addr} {items : Array Value} {n en : Nat} {es : List DictEntry} {K : Frag} {cd : ClassData}
  {h : Heap} {g : Array GenState} {dr : Drawn} {t : Nat} {os : OsState}

abbrev boundObj (bt id : String) (x : Addr) : Obj := { cls := .type bt, data := .fields #[.builtin id, .ref x] }

theorem md_get_args {id : String} {x : Addr} : argsOk "method_descriptor.__get__"  ⟨[.builtin id, .ref x, .ref 185], []⟩ := (by unfold argsOk; kernel_rfl)
theorem md_get_entry : entryFor table "method_descriptor.__get__" = some Builtin.«method_descriptor.__get__» := (entryFor_of_tree (by kernel_rfl))
theorem wd_get_args {id : String} {x : Addr} : argsOk "wrapper_descriptor.__get__"  ⟨[.builtin id, .ref x, .ref 185], []⟩ := (by unfold argsOk; kernel_rfl)
theorem wd_get_entry : entryFor table "wrapper_descriptor.__get__" = some Builtin.«wrapper_descriptor.__get__» := (entryFor_of_tree (by kernel_rfl))
theorem told_pop : ¬ (Manifest.toldItsClass.contains "list.pop" = true) := by decide +kernel

set_option maxHeartbeats 400000 in
theorem pop_get {Q : Fin → Shared → Prop} (X : K.In h) (hacc : h.get? acc = some (accObj d items n)) (hm : mroIn K 185 (.type "list") = some true)
    (hq : Q (.done (.ret (.ref h.objs.size))) ⟨h.push (boundObj "builtin_function_or_method" "list.pop" acc), g, dr, t, os⟩) :
    wpAny (model prog w) A (Builtin.«method_descriptor.__get__» ⟨[.builtin "list.pop", .ref acc, .ref 185], []⟩) Q E ⟨h, g, dr, t, os⟩ := by
  have L0 : Looks (model prog w) h (isInstance (.ref acc) (.type "list")) true := (acc_type hacc).andThen (looks_mroIn X hm)
  unfold Builtin.«method_descriptor.__get__»
  refine wpAny_bind (wpAny_of_eq (a := (.builtin "list.pop", some (.ref acc), some (.ref 185))) (by kernel_rfl) ?_)
  dsimp only
  rw [if_neg told_pop]
  refine wpAny_bind (wpAny_bind (wpAny_of_eq (a := (Str.ofString "pop", Value.type "list")) (by kernel_rfl) ?_))
  dsimp only
  refine wpAny_bind (L0.at ?_)
  rw [if_neg (by decide)]
  exact wpAny_pure (wpAny_bind (wpAny_newObj_type (wpAny_pure hq)))

theorem wrap_get {id nm : String} {Q : Fin → Shared → Prop} (X : K.In h) (hacc : h.get? acc = some (accObj d items n)) (hm : mroIn K 185 (.type "list") = some true) (hid : (id = "list.__len__" ∧ nm = "__len__") ∨ (id = "list.__init__" ∧ nm = "__init__"))
    (hq : Q (.done (.ret (.ref h.objs.size))) ⟨h.push (boundObj "method-wrapper" id acc), g, dr, t, os⟩) :
    wpAny (model prog w) A (Builtin.«wrapper_descriptor.__get__» ⟨[.builtin id, .ref acc, .ref 185], []⟩) Q E ⟨h, g, dr, t, os⟩ := by
  have L0 : Looks (model prog w) h (isInstance (.ref acc) (.type "list")) true := (acc_type hacc).andThen (looks_mroIn X hm)
  unfold Builtin.«wrapper_descriptor.__get__»
  refine wpAny_bind (wpAny_of_eq (a := (.builtin id, some (.ref acc), some (.ref 185))) (by kernel_rfl) ?_)
  dsimp only
  refine wpAny_bind (wpAny_bind (wpAny_of_eq (a := (Str.ofString nm, Value.type "list")) (by rcases hid with ⟨rfl, rfl⟩ | ⟨rfl, rfl⟩ <;> kernel_rfl) ?_))
  dsimp only
  refine wpAny_bind (L0.at ?_)
  rw [if_neg (by decide)]
  exact wpAny_pure (wpAny_bind (wpAny_newObj_type (wpAny_pure hq)))

/-- `super.__getattribute__` that finds a built-in of list -/
theorem super_ga {so : Addr} {l₀ l : List Value} {name : Str} {tk : Tok} {id T gid bt : String} {Q : Fin → Shared → Prop}
    (hso : h.get? so = some (ks_superObj 185 acc 185)) (hno : Looks (model prog w) h (opaqueClassAbove (.ref 185)) none)
    (hC : Looks (model prog w) h (mroOf (.ref 185)) l₀) (hl : (l₀.dropWhile (· != .ref 185)).drop 1 = l) (X : K.In h)
    (hf : alongIn K name l = some (some (.builtin id))) (ht : Looks (model prog w) h (typeOf (.builtin id)) (.type T)) (hg : typeLookup (.type T) "__get__" = pure (some (.builtin gid)))
    (hcall : ∀ (R : Result → Shared → Prop), R (.ok (.ret (.ref h.objs.size))) ⟨h.push (boundObj bt id acc), g, dr, t, os⟩ → codeAny (model prog w) A (.call (.builtin gid) ⟨[.builtin id, .ref acc, .ref 185], []⟩) R ⟨h, g, dr, t, os⟩)
    (hxC : acc ≠ 185) (hn : (name == ("__class__" : Str)) = false)
    (hq : Q (.done (.ret (.ref h.objs.size))) ⟨h.push (boundObj bt id acc), g, dr, t, os⟩) :
    wpAny (model prog w) A (Builtin.«super.__getattribute__» ⟨[.ref so, .str name tk], []⟩) Q E ⟨h, g, dr, t, os⟩ := by
  have hne : (Value.ref acc == Value.ref 185) = false := by simp [hxC]
  have hdt : (ks_superObj 185 acc 185).data = .fields #[.ref 185, .ref acc, .ref 185] := rfl
  have f0 : (#[.ref 185, .ref acc, .ref 185] : Array Value)[0]? = some (.ref 185) := rfl
  have f1 : (#[.ref 185, .ref acc, .ref 185] : Array Value)[1]? = some (.ref acc) := rfl
  have f2 : (#[.ref 185, .ref acc, .ref 185] : Array Value)[2]? = some (.ref 185) := rfl
  unfold Builtin.«super.__getattribute__»
  repeat (first
    | (with_reducible refine wpAny_field hso hdt f0 ?_) | (with_reducible refine wpAny_field hso hdt f1 ?_) | (with_reducible refine wpAny_field hso hdt f2 ?_)
    | (with_reducible refine ks_wpAny_notOpaque hno ?_)
    | (with_reducible refine Looks.at hC ?_; rw [hl])
    | (refine ks_forIn_along X (fun _ _ => rfl) rfl ?_ hf)
    | (with_reducible refine Looks.at ht ?_)
    | (simp only [hn, hne, Bool.or_false, Bool.false_eq_true, if_false])
    | wp_step
    | dsimp only)
  all_goals exact hcall _ (wpAny_bind (wpAny_pure (wpAny_pure (wpAny_pure hq))))

theorem super_getMethod {so : Addr} {l₀ l : List Value} {name : Str} {pl : Sem Bool} {id T gid bt : String} {Q : Value × List Value → Shared → Prop}
    (hso : h.get? so = some (ks_superObj 185 acc 185)) (hno : Looks (model prog w) h (opaqueClassAbove (.ref 185)) none)
    (hC : Looks (model prog w) h (mroOf (.ref 185)) l₀) (hl : (l₀.dropWhile (· != .ref 185)).drop 1 = l) (X : K.In h)
    (hf : alongIn K name l = some (some (.builtin id))) (ht : Looks (model prog w) h (typeOf (.builtin id)) (.type T)) (hg : typeLookup (.type T) "__get__" = pure (some (.builtin gid)))
    (hcall : ∀ (A : Around) (t : Nat) (R : Result → Shared → Prop), R (.ok (.ret (.ref h.objs.size))) ⟨h.push (boundObj bt id acc), g, dr, t, os⟩ → codeAny (model prog w) A (.call (.builtin gid) ⟨[.builtin id, .ref acc, .ref 185], []⟩) R ⟨h, g, dr, t, os⟩)
    (hxC : acc ≠ 185) (hn : (name == ("__class__" : Str)) = false)
    (hq : Q (.ref h.objs.size, []) ⟨h.push (boundObj bt id acc), g, dr, t + 1, os⟩) :
    wpAny (model prog w) A (getMethod (.ref so) name pl) Q E ⟨h, g, dr, t, os⟩ := by
  have hlk := F.ks_slot_super_ga.lookup
  have hcan := F.ks_canon_super_ga
  have hT : ∀ t', (⟨h, g, dr, t', os⟩ : Shared).TypeIs (.ref so) "super" := fun _ => ⟨_, hso, rfl⟩
  unfold getMethod
  refine wpAny_bind (wpAny_specialOf (hT _) hlk ?_)
  show wpAny _ _ (if (Manifest.canonical "super.__getattribute__" != "object.__getattribute__") = true then _ else _) _ _ _
  rw [if_pos hcan]
  unfold getAttr getAttrBy
  refine wpAny_bind (wpAny_bind (wpAny_mkText (wpAny_holding (wpAny_bind (wpAny_typeOf (hT _) (wpAny_bind (wpAny_of_eq hlk ?_)))))))
  show wpAny _ _ (getAttrByItsOwn (.ref so) (.str name t) (.type "super") (.builtin "super.__getattribute__") true false) _ _ _
  unfold getAttrByItsOwn hookBefore callGetattribute boundAndCalled
  refine wpAny_bind (wpAny_of_eq (show (if onTheHeap (.type "super") then typeLookup (.type "super") "__getattr__" else pure none) = pure none from rfl) ?_)
  refine wpAny_bind (wpAny_attempt (wpAny_holding ?_))
  show wpAny _ _ (bindSpecial (.builtin "super.__getattribute__") (.ref so) >>= _) _ _ _
  refine wpAny_bind (wpAny_of_eq (F.ks_slot_super_ga.bind _) ?_)
  refine wpAny_mono (Q := fun v s' => v = .ref h.objs.size ∧ s' = ⟨h.push (boundObj bt id acc), g, dr, t + 1, os⟩) (E := fun _ _ => False)
    (wpAny_call_entry F.ks_slot_super_ga (hT _) F.ks_entry_super_ga (super_ga (bt := bt) hso hno hC hl X hf ht hg (hcall _ _) hxC hn ⟨_, rfl, rfl, rfl⟩) (F.ks_gaArgs_super _ _)) (fun v s' hv => ?_) fun _ _ z => z.elim
  obtain ⟨rfl, rfl⟩ := hv
  exact wpAny_pure (wpAny_pure hq)

theorem bound_call {bt id : String} {b : Addr} {bb : Builtin} {s : Shared} {rest : List Value} {R : Result → Shared → Prop} (hb : s.heap.get? b = some (boundObj bt id acc)) (hbt : bt = "builtin_function_or_method" ∨ bt = "method-wrapper")
    (hc : ∀ A' (Q' : Unit → Shared → Prop) (E' : Value → Shared → Prop), Q' () s → wpAny (model prog w) A' (checkBoundCall id ⟨.ref acc :: rest, []⟩) Q' E' s) (hp : plainId id = true) (he : entryFor table id = some bb)
    (hh : wpAny (model prog w) A.in1 (bb ⟨.ref acc :: rest, []⟩) (fun fin s' => match fin with | .done f => R (.ok f) s' | .again c' => c'.quiet = true ∧ codeAny (model prog w) A c' R s') (fun e s' => R (.error e) s') s) :
    codeAny (model prog w) A (.call (.ref b) ⟨rest, []⟩) R s := by
  refine codeAny_of_tree ?_
  show wpAny _ A.in1 (callAny (.ref b) ⟨rest, []⟩) _ _ _
  unfold callAny
  refine wpAny_bind (wpAny_load hb ?_)
  dsimp only
  have fin : codeAny (model prog w) A (.builtin id ⟨.ref acc :: rest, []⟩) R s := codeAny_builtin he (by rw [Around.under_plainId hp]; exact hh)
  have hq : (Code.builtin id ⟨.ref acc :: rest, []⟩).quiet = true := plainId_quiet hp _
  rcases hbt with rfl | rfl
  · rw [if_pos (by decide)]
    refine wpAny_bind (hc _ _ _ (wpAny_bind (wpAny_pure (wpAny_pure ⟨hq, fin⟩))))
  · rw [if_pos (by decide)]
    refine wpAny_bind (hc _ _ _ (wpAny_bind (wpAny_pure (wpAny_pure ⟨hq, fin⟩))))

theorem pop_sig_some : (Manifest.signature? "list.pop").isSome = true := by decide +kernel
theorem pop_sig (a : Value) : ∃ sig, Manifest.signature? "list.pop" = some sig ∧ Bind.checkArgs "list.pop" { sig with full := toString "_Accumulator" ++ toString "." ++ toString (Bind.lastOf "list.pop") } ⟨[a], []⟩ = pure () := by
  refine ⟨(Manifest.signature? "list.pop").get pop_sig_some, (Option.some_get _).symm, ?_⟩
  kernel_rfl

theorem chk_pop {A' : Around} {Q' : Unit → Shared → Prop} {E' : Value → Shared → Prop} {s : Shared} (X : K.In s.heap) (hacc : s.heap.get? acc = some (accObj d items n)) (hm : mroIn K 185 (.type "module") = some false) (hcl : clsIn K 185 = some cd) (hqn : cd.qualname.toString = "_Accumulator") (ht : typeIn K (.ref 185) = some (.type "type")) (h : Q' () s) :
    wpAny (model prog w) A' (checkBoundCall "list.pop" ⟨[.ref acc], []⟩) Q' E' s := by
  obtain ⟨sig, h1, h3⟩ := pop_sig (.ref acc)
  have h2 : builtinKind "list.pop" = some .method := by decide +kernel
  have h4 : Manifest.varargsMethods.contains "list.pop" = false := by decide +kernel
  have L0 : Looks (model prog w) s.heap (isInstance (.ref acc) (.type "module")) false := (acc_type hacc).andThen (looks_mroIn X hm)
  have L1 : Looks (model prog w) s.heap (isType (.ref acc)) false := (Looks.ld hacc).andThen .now
  have L2 : Looks (model prog w) s.heap (typeOf (.ref acc)) (.ref 185) := acc_type hacc
  unfold checkBoundCall
  simp only [h1, h2]
  rw [if_neg (by decide)]
  refine wpAny_bind (L0.here ?_)
  rw [h4, if_neg (by decide)]
  refine wpAny_bind (L1.here ?_)
  rw [if_neg (by decide)]
  refine wpAny_bind (L2.here ?_)
  dsimp only
  refine wpAny_bind ((looks_clsIn X hcl).here (wpAny_bind ((looks_typeIn X ht).here ?_)))
  rw [if_pos (by decide), hqn, h3]
  exact wpAny_pure h

theorem chk_len {A' : Around} {Q' : Unit → Shared → Prop} {E' : Value → Shared → Prop} {s : Shared} (h : Q' () s) : wpAny (model prog w) A' (checkBoundCall "list.__len__" ⟨[.ref acc], []⟩) Q' E' s := by
  refine wpAny_of_eq (a := ()) ?_ h
  kernel_rfl
theorem chk_init {A' : Around} {Q' : Unit → Shared → Prop} {E' : Value → Shared → Prop} {s : Shared} (h : Q' () s) : wpAny (model prog w) A' (checkBoundCall "list.__init__" ⟨[.ref acc], []⟩) Q' E' s := by
  refine wpAny_of_eq (a := ()) ?_ h
  kernel_rfl
end
end
section
section
variable {w : World} {A : Around} {h : Heap} {g : Array GenState} {dr : Drawn} {t : Nat} {os : OsState} {R : Result → Shared → Prop}

theorem new_check {v : Value} (X : (top0.heap_1 w.params).In h) : Looks (model P95 w) h (checkBuiltinCall "list.__new__" ⟨[.ref 185, v], []⟩) () :=
  Looks.of_peek X (by kernel_rfl)
theorem new_entry : entryFor table "list.__new__" = some Builtin.«list.__new__» := entryFor_of_tree (by kernel_rfl)
theorem new_owner : (("list.__new__" : String).splitOn ".__new__").headD "" = "list" := by simp +decide [String.splitOn, String.splitOnAux]
theorem new_isType (X : (top0.heap_1 w.params).In h) : Looks (model P95 w) h (isType (.ref 185)) true := Looks.of_peek X (by kernel_rfl)
theorem new_sub (X : (top0.heap_1 w.params).In h) : Looks (model P95 w) h (isSubtype (.ref 185) (.type "list")) true := Looks.of_peek X (by kernel_rfl)
theorem acc_hasDel (X : (top0.heap_1 w.params).In h) : Looks (model P95 w) h (classHasDel 185) false := Looks.of_peek X (by kernel_rfl)

theorem acc_new {v : Value} (X : (top0.heap_1 w.params).In h)
    (hq : R (.ok (.ret (.ref (h.objs.size + 1)))) ⟨(h.push emptyDict).push (accObj h.objs.size #[] 0), g, dr, t, os⟩) :
    codeAny (model P95 w) A (.call (.builtin "list.__new__") ⟨[.ref 185, v], []⟩) R ⟨h, g, dr, t, os⟩ := by
  refine codeAny_call_builtin_own (Code.quiet_builtin _ (by decide +kernel)) new_entry ((new_check X).at ?_)
  unfold Builtin.«list.__new__»
  refine wpOwn_bind (wpOwn_stack fun p below _ _ _ => ?_)
  dsimp only
  refine wpOwn_of_wpAny ?_
  rw [new_owner]
  refine wpAny_bind ((new_isType X).at ?_)
  rw [if_neg (by decide)]
  refine wpAny_bind ((new_sub X).at ?_)
  rw [if_neg (by decide)]
  refine wpAny_bind (wpAny_pure ?_)
  rw [if_neg (by decide)]
  refine wpAny_bind (wpAny_newObj_type ?_)
  dsimp only
  refine wpAny_bind ?_
  show wpAny _ _ (newObjAsIs _ _ _) _ _ _
  unfold newObjAsIs
  refine wpAny_bind (wpAny_alloc (wpAny_bind (((acc_hasDel X).keeps fun b o e => Heap.get?_push_of_some _ (Heap.get?_push_of_some _ e)).at ?_)))
  rw [if_neg (by decide)]
  refine wpAny_pure (wpAny_pure ?_)
  show R _ _
  rw [Heap.size_push]
  exact hq

theorem cls_call (X : (top0.heap_1 w.params).In h) : Looks (model P95 w) h (specialOf (.ref 185) "__call__") (some (.builtin "type.__call__")) := Looks.of_peek X (by kernel_rfl)
theorem cls_typ (X : (top0.heap_1 w.params).In h) : Looks (model P95 w) h (isInstance (.ref 185) (.type "type")) true := Looks.of_peek X (by kernel_rfl)

theorem acc_make {v : Value} (X : (top0.heap_1 w.params).In h)
    (hq : codeAny (model P95 w) (A.under (.builtin "type.__call__" ⟨[.ref 185, v], []⟩)) (.call (.ref 122) ⟨[.ref (h.objs.size + 1), v], []⟩) (InitBack (h.objs.size + 1) R) ⟨(h.push emptyDict).push (accObj h.objs.size #[] 0), g, dr, t, os⟩) :
    codeAny (model P95 w) A (.call (.ref 185) ⟨[v], []⟩) R ⟨h, g, dr, t, os⟩ := by
  have call := cls_call X
  have typ := cls_typ X
  obtain ⟨oc, od, cd, sl, hC⟩ : ∃ oc od cd sl, h.get? 185 = some ⟨oc, od, .cls cd, sl⟩ := ⟨_, _, _, _, X 185 _ (by k_is)⟩
  refine codeAny_of_tree ?_
  show wpAny _ _ (callAny (.ref 185) _) _ _ _
  refine nd_load hC ?_
  show wpAny _ _ (callAny.viaDunder (.ref 185) _) _ _ _
  unfold callAny.viaDunder
  refine wpAny_bind (call.at ?_)
  dsimp only
  rw [tc_bind]
  refine wpAny_bind (wpAny_pure (wpAny_bind (wpAny_pure ?_)))
  refine wpAny_pure (a := Fin.again (.call (.builtin "type.__call__") ⟨[.ref 185, v], []⟩)) (And.intro rfl ?_)
  refine codeAny_call_builtin_at (Code.quiet_builtin _ (by decide +kernel)) entry_typeCall (check_slot tc_kind tc_split typ (tc_args _ _ _) ?_)
  unfold Builtin.«type.__call__»
  have hm : Looks (model P95 w) h (mroOf (.ref 185)) [.ref 185, .type "list", .type "object"] := Looks.of_peek X (by kernel_rfl)
  have made : Looks (model P95 w) h (Bind.madeBy (.ref 185)) (some "list.__new__") := Looks.of_peek X (by kernel_rfl)
  repeat (first | simp only [List.isEmpty_cons, Bool.false_eq_true, if_false] | with_reducible refine wpAny_call ?_ | lk)
  refine acc_new X ?_
  have k : ∀ b o, h.get? b = some o → ((h.push emptyDict).push (accObj h.objs.size #[] 0)).get? b = some o := fun b o e => Heap.get?_push_of_some _ (Heap.get?_push_of_some _ e)
  have hx : ((h.push emptyDict).push (accObj h.objs.size #[] 0)).get? (h.objs.size + 1) = some (accObj h.objs.size #[] 0) := by heap_get
  have X' := X.keeps k
  have t1 : Looks (model P95 w) ((h.push emptyDict).push (accObj h.objs.size #[] 0)) (typeOf (.ref (h.objs.size + 1))) (.ref 185) := (Looks.ld hx).andThen .now
  have s1 : Looks (model P95 w) ((h.push emptyDict).push (accObj h.objs.size #[] 0)) (isSubtype (.ref 185) (.ref 185)) true := Looks.of_peek X' (by kernel_rfl)
  have i1 : Looks (model P95 w) ((h.push emptyDict).push (accObj h.objs.size #[] 0)) (typeLookup (.ref 185) "__init__") (some (.ref 122)) := looks_findIn X' (by k_is)
  have b1 : Looks (model P95 w) ((h.push emptyDict).push (accObj h.objs.size #[] 0)) (bindSpecial (.ref 122) (.ref (h.objs.size + 1))) (.ref 122, [.ref (h.objs.size + 1)]) := bind_fn X' _ (by k_is)
  unfold isInstance callSpecial? specialOf
  repeat (first | with_reducible refine wpAny_call ?_ | lk)
  refine codeAny_mono hq fun r s' z => ?_
  rcases r with e | (v | _ | _ | _) <;> first | exact z | exact z.elim | skip
  obtain ⟨rfl, z⟩ := z
  exact wpAny_pure (wpAny_pure z)
end
end
section
section
variable {prog : Program} {w : World} {M : Model} {A : Around} {E : Value → Shared → Prop} {s : Shared} {acc d : Addr} {items : Array Value} {n en : Nat} {es : List DictEntry} {K : Frag} {cd : ClassData}

theorem acc_pyIter {Q : Value → Shared → Prop} (X : K.In s.heap) (hacc : s.heap.get? acc = some (accObj d items n)) (hm : mroIn K 185 (.type "list") = some true) (hf : findIn K (.ref 185) "__iter__" = some (some (.builtin "list.__iter__")))
    (hQ : Q (.ref s.heap.objs.size) { s with heap := s.heap.push { cls := .type "list_iterator", data := .fields #[.ref acc, .int 0 0] } }) :
    wpAny (model prog w) A (pyIter (.ref acc)) Q E s := by
  have fin : wpAny (model prog w) A (call (.builtin "list.__iter__") [.ref acc]) (fun it s' => it = .ref s.heap.objs.size ∧ s' = { s with heap := s.heap.push { cls := .type "list_iterator", data := .fields #[.ref acc, .int 0 0] } }) E s := by
    refine wpAny_call (acc_call (nm := "__iter__") X hacc hm (.inl (by decide +kernel)) (by decide +kernel) (args_list_iter _) (by decide +kernel) entry_list_iter ?_)
    show wpAny _ _ (do ret (← newFields "list_iterator" [.ref acc, rawInt 0])) _ _ s
    exact wpAny_bind (wpAny_newObj_type (wpAny_pure ⟨rfl, rfl⟩))
  have L0 : Looks (model prog w) s.heap (specialOf (.ref acc) "__iter__") (some (.builtin "list.__iter__")) := (acc_type hacc).andThen (looks_findIn X hf)
  unfold pyIter
  refine wpAny_bind (L0.here ?_)
  show wpAny _ A (callSpecialIfBoundUnlessNone? (.ref acc) "__iter__" _ >>= _) Q E s
  have fin2 : ∀ refuse : Sem Value, wpAny (model prog w) A (if (Value.builtin "list.__iter__" == Value.none) = true then (refuse >>= fun v => pure (some v)) else (call (.builtin "list.__iter__") [.ref acc] >>= fun v => pure (some v)))
      (fun r s' => r = some (.ref s.heap.objs.size) ∧ s' = { s with heap := s.heap.push { cls := .type "list_iterator", data := .fields #[.ref acc, .int 0 0] } }) E s := by
    intro refuse
    rw [if_neg (by decide)]
    exact wpAny_bind (wpAny_mono fin (fun v s' h' => wpAny_pure ⟨by rw [h'.1], h'.2⟩) fun _ _ h' => h')
  refine wpAny_bind (wpAny_mono (Q := fun r s' => r = some (.ref s.heap.objs.size) ∧ s' = { s with heap := s.heap.push { cls := .type "list_iterator", data := .fields #[.ref acc, .int 0 0] } }) (E := E) ?_ (fun r s' z => ?_) fun _ _ z => z)
  · simp only [callSpecialIfBoundUnlessNone?, bindSpecialIfBound?]
    refine wpAny_holding (wpAny_bind (wpAny_bind (L0.here ?_)))
    simp only [slot_list_iter.bind]
    refine wpAny_bind (wpAny_askSetting (wpAny_ite ?_))
    split
    · exact wpAny_bind (wpAny_pure (wpAny_pure (fin2 _)))
    · exact wpAny_tryCatch (wpAny_bind (wpAny_pure (wpAny_pure (fin2 _))))
  · obtain ⟨rfl, rfl⟩ := z
    exact wpAny_bind (wpAny_specialOf (T := "list_iterator") ⟨_, Heap.get?_push_size _ rfl, rfl⟩ slot_listiter_next.lookup (wpAny_pure hQ))

def SeqIs (h : Heap) (a : Addr) (items : Array Value) : Prop := ∃ o n, h.get? a = some o ∧ o.data = .seq items n
theorem SeqIs.at {h h' : Heap} {a : Addr} {items : Array Value} (x : SeqIs h a items) (k : ∀ o, h.get? a = some o → h'.get? a = some o) : SeqIs h' a items := let ⟨o, n, e, r⟩ := x; ⟨o, n, k o e, r⟩

theorem seq_next_item {it l : Addr} {i : Nat} {x : Value} {Q : Option Value → Shared → Prop} (hit : s.heap.IsListIter it l i)
    (hl : SeqIs s.heap l items) (hx : items[i]? = some x)
    (hQ : ∀ h', h'.IsListIter it l (i + 1) → Heap.SameBut it s.heap h' → Q (some x) { s with heap := h' }) :
    wpAny (model prog w) A (pyNext (.ref it)) Q E s := by
  obtain ⟨o, ho, hc, hd⟩ := id hit
  obtain ⟨ol, nl, hol, hdl⟩ := hl
  unfold pyNext
  refine wpAny_bind (wpAny_attempt (wpAny_callSpecial?_slot (name := Str.ofString "__next__") hit.typeIs slot_listiter_next
    (wpAny_call_entry slot_listiter_next hit.typeIs entry_listiter_next ?_ (args_listiter_next _))))
  show wpAny _ _ (field (.ref it) 0 >>= _) _ _ s
  refine wpAny_bind (wpAny_field ho hd (x := .ref l) rfl ?_)
  rw [if_neg (show ¬ ((Value.ref l == Value.none) = true) from Bool.false_ne_true)]
  refine wpAny_bind (wpAny_field ho hd (x := .int i 0) rfl ?_)
  refine wpAny_bind (wpAny_seqItems hol hdl ?_)
  simp only [Int.toNat_natCast, hx]
  refine wpAny_bind (wpAny_setField ho hd (by simp) (wpAny_pure ⟨x, rfl, wpAny_pure (hQ _ ?_ (Heap.SameBut.update ..))⟩))
  exact ⟨_, Heap.get?_update_self _ ho (Obj.isFreed_of_fields (Obj.data_mapFields hd _)), (Obj.cls_mapFields ..).trans hc, by
    rw [Obj.data_mapFields hd]; simp [rawInt]⟩

theorem seq_next_end {it l : Addr} {i : Nat} {Q : Option Value → Shared → Prop} (hh : A.handled = none)
    (hit : s.heap.IsListIter it l i) (hl : SeqIs s.heap l items) (hx : items[i]? = none)
    (hQ : ∀ h', Heap.ExtBut it s.heap h' → Q none { s with heap := h' }) : wpAny (model prog w) A (pyNext (.ref it)) Q E s := by
  obtain ⟨o, ho, hc, hd⟩ := id hit
  obtain ⟨ol, nl, hol, hdl⟩ := hl
  unfold pyNext
  refine wpAny_bind (wpAny_attempt (wpAny_callSpecial?_slot (name := Str.ofString "__next__") hit.typeIs slot_listiter_next
    (wpAny_call_entry slot_listiter_next hit.typeIs entry_listiter_next ?_ (args_listiter_next _))))
  show wpAny _ _ (field (.ref it) 0 >>= _) _ _ s
  refine wpAny_bind (wpAny_field ho hd (x := .ref l) rfl ?_)
  rw [if_neg (show ¬ ((Value.ref l == Value.none) = true) from Bool.false_ne_true)]
  refine wpAny_bind (wpAny_field ho hd (x := .int i 0) rfl ?_)
  refine wpAny_bind (wpAny_seqItems hol hdl ?_)
  simp only [Int.toNat_natCast, hx]
  refine wpAny_bind (wpAny_rule (wpAny_bind (wpAny_setField ho hd (by simp) ?_)))
  refine wpAny_bind ?_
  simp only [newExc, newTuple]
  refine wpAny_bind (wpAny_newObj_type ?_ (by size_fits))
  refine wpAny_bind (m := firstArgMember _ _) (wpAny_of_eq (a := Value.none) (by simp only [firstArgMember]; rfl) ?_)
  refine wpAny_newObj_type ?_ (by size_fits)
  simp only [raiseNew]
  refine wpAny_bind (wpAny_handled ?_)
  rw [show A.in1.handled = none from hh]
  refine wpAny_bind (wpAny_pure (wpAny_throw ?_))
  refine wpAny_bind (wpAny_isInstance (T := "StopIteration") (b := true) ⟨_, Heap.get?_push_size _ rfl, rfl⟩ isSubtype_stop ?_)
  exact wpAny_pure (hQ _ (((Heap.SameBut.update ..).extBut.push _).push _))
end

/-- the walk over the accumulator's parts: each a pair -/
theorem walkParts {prog : Program} {w : World} {A : Around} (hh : A.handled = none) (I ax : Addr) (hne : ax ≠ I) (items : Array Value) (Ts : Nat → Addr) (vals : Nat → Array Value)
    (hit : ∀ j, j < items.size → items[j]? = some (.ref (Ts j))) (hTI : ∀ j, j < items.size → Ts j ≠ I) :
    WalksU prog w A I (I :: ax :: (List.range items.size).map Ts) [I] items.size (fun j v => v = vals j)
      (fun j h => h.IsListIter I ax j ∧ SeqIs h ax items ∧ ∀ k, k < items.size → h.IsTuple (Ts k) (vals k))
      (fun j T h => (j < items.size ∧ T = Ts j) ∧ h.IsListIter I ax (j + 1) ∧ SeqIs h ax items ∧ ∀ k, k < items.size → h.IsTuple (Ts k) (vals k)) where
  sub := fun b hb => by simp at hb; simp [hb]
  frame := fun _ _ _ st hk => ⟨st.1.at fun o e => hk I (by simp) o e, st.2.1.at fun o e => hk ax (by simp) o e,
    fun k hk' => (st.2.2 k hk').at fun o e => hk (Ts k) (List.mem_cons_of_mem _ (List.mem_cons_of_mem _ (List.mem_map.mpr ⟨k, List.mem_range.mpr hk', rfl⟩))) o e⟩
  item := fun i s Q E hi st hQ => by
    refine seq_next_item st.1 st.2.1 (x := .ref (Ts i)) (hit i hi) fun h' hit' hs' => ?_
    have tup : ∀ k, k < items.size → h'.IsTuple (Ts k) (vals k) := fun k hk' => (st.2.2 k hk').extBut hs'.extBut (hTI k hk')
    exact hQ (Ts i) (vals i) h' s.toks rfl (tup i hi) ⟨⟨hi, rfl⟩, hit', st.2.1.at fun o e => hs'.extBut ax o hne e, tup⟩ fun b o hb e => hs'.extBut b o (fun h => hb (by simp [h])) e
  go := fun _ _ _ _ _ s Q _ hm hQ => wpAny_letOwnedTupleGo_listiter hm.2.1 (hQ s.heap hm.2 fun _ _ _ e => e)
  apart := fun j T _ hm hmem => by
    rcases List.mem_cons.mp hmem with e | e
    · exact hTI j hm.1.1 (hm.1.2 ▸ e)
    · cases e
  done := fun s Q E st hQ => seq_next_end hh st.1 st.2.1 (by simp) fun h' he' => hQ h' s.toks fun b o hb e => he' b o (fun h => hb (by simp [h])) e
  self := fun _ _ _ _ st hQ => wpAny_pyIter_listiter st.1 hQ
end
section
abbrev accDict (hsh : Int) (tk : Tok) (sz : Int) (ti : Tok) : Obj := dictOf [⟨hsh, .str "_initial_size" tk, .int sz ti⟩] 1
abbrev tupObj (f p : Value) : Obj := { cls := .type "tuple", data := .seq #[f, p] }

/-- the part of the heap that stands for the whole call -/
structure Base (w : World) (vp : Program) (lo : List Str) (mg mb : Str → Option Value) (B : Heap) : Prop where
  X : (top0.heap_1 w.params).In B
  T : TopRead vp lo mg mb B

theorem base_in {w : World} {vp : Program} {lo : List Str} {mg mb : Str → Option Value} {B g h : Heap} {W : List Addr} (hB : Base w vp lo mg mb B) (st : ∀ b o, B.get? b = some o → h.get? b = some o) (hW : ∀ a ∈ W, B.get? a = none)
    (kg : ∀ b o, h.get? b = some o → b ∉ W → g.get? b = some o) : (top0.heap_1 w.params).In g ∧ TopRead vp lo mg mb g := by
  have k : ∀ b o, B.get? b = some o → g.get? b = some o := fun b o e => kg b o (st b o e) fun hm => by rw [hW b hm] at e; cases e
  exact ⟨hB.X.keeps k, hB.T.keeps k⟩

theorem upd_K {h₀ h h' : Heap} {L a : Addr} {m : Str → Option Value} {news news' : List (Addr × Obj)} {o o' : Obj} (F : Fr h₀ L h m) (N : News h₀ L h news) (U : Upd a o o' news news') (hs : Heap.SameBut a h h') (ho : h'.get? a = some o') :
    Fr h₀ L h' m ∧ News h₀ L h' news' := by
  obtain ⟨pre, post, rfl, rfl, h1, h2⟩ := U.split
  have D := N (a, o) (by simp)
  refine ⟨F.change hs D.2.1 D.2.2, fun q hq => ?_⟩
  rcases List.mem_append.mp hq with z | z
  · have P := N q (List.mem_append_left _ z); exact ⟨(hs.2 _ (h1 q z)).trans P.1, P.2⟩
  · rcases List.mem_cons.mp z with rfl | z
    · exact ⟨ho, D.2⟩
    · have P := N q (List.mem_append_right _ (.tail _ z)); exact ⟨(hs.2 _ (h2 q z)).trans P.1, P.2⟩

theorem append_accK {prog : Program} {w : World} {A : Around} {E : Value → Shared → Prop} {s : Shared} {K : Frag} {h₀ : Heap} {L acc d : Addr} {m : Str → Option Value} {news news' : List (Addr × Obj)} {items : Array Value} {n : Nat} {x : Value} {Q : Value → Shared → Prop}
    (F : Fr h₀ L s.heap m) (X₀ : K.In h₀) (N : News h₀ L s.heap news) (hm : mroIn K 185 (.type "list") = some true) (U : Upd acc (accObj d items n) (accObj d (items.push x) (n + 1)) news news') (hz : items.size < 1000)
    (h : ∀ h', Fr h₀ L h' m → News h₀ L h' news' → Q .none { s with heap := h' }) : wpAny (model prog w) A (call (.builtin "list.append") [.ref acc, x]) Q E s := by
  obtain ⟨pre, post, e, _, _, _⟩ := U.split
  refine acc_append (X₀.keeps F.keep) (N (acc, accObj d items n) (by rw [e]; simp)).1 hm hz fun h' hs ho => ?_
  obtain ⟨F', N'⟩ := upd_K F N U hs ho
  exact h h' F' N'

theorem keep_K {h₀ h h' : Heap} {L : Addr} {m : Str → Option Value} {news : List (Addr × Obj)} (F : Fr h₀ L h m) (N : News h₀ L h news) (k : ∀ b o, h.get? b = some o → h'.get? b = some o) : Fr h₀ L h' m ∧ News h₀ L h' news := by
  obtain ⟨oL, es, ep, hL, r⟩ := F.ns
  exact ⟨⟨⟨oL, es, ep, k _ _ hL, r⟩, fun b o e => k b o (F.keep b o e), F.above⟩, fun p hp => ⟨k _ _ (N p hp).1, (N p hp).2⟩⟩

/-- all but some entries of the ledger stand: the frame stands -/
theorem but_K {h₀ h h' : Heap} {L : Addr} {m : Str → Option Value} {news : List (Addr × Obj)} {W : List Addr} (F : Fr h₀ L h m) (N : News h₀ L h news) (hW : ∀ a ∈ W, ∃ o, (a, o) ∈ news) (k : ∀ b o, b ∉ W → h.get? b = some o → h'.get? b = some o) : Fr h₀ L h' m := by
  obtain ⟨oL, es, ep, hL, r⟩ := F.ns
  refine ⟨⟨oL, es, ep, k _ _ (fun hm => ?_) hL, r⟩, fun b o e => k b o (fun hm => ?_) (F.keep b o e), F.above⟩
  · obtain ⟨o, ho⟩ := hW _ hm; exact (N _ ho).2.1 rfl
  · obtain ⟨o', ho⟩ := hW _ hm; have := (N _ ho).2.2; rw [e] at this; cases this

theorem fresh_of {h g : Heap} {W : List Addr} {D : Addr} (kg : ∀ b o, h.get? b = some o → b ∉ W → g.get? b = some o) (hn : g.get? D = none) (hW : D ∉ W) : h.get? D = none := by
  cases e : h.get? D with
  | none => rfl
  | some o => rw [kg D o e hW] at hn; cases hn

theorem eqN {a b : Nat} (h : a = b) : a = b := h

theorem noE {M : Model} {A : Around} {α : Type} {t : Sem α} {Q : α → Shared → Prop} {E : Value → Shared → Prop} {s : Shared} (h : wpAny M A t Q (fun _ _ => False) s) : wpAny M A t Q E s := wpAny_mono h (fun _ _ x => x) fun _ _ x => x.elim

section
theorem sayC1_1 : True := by
  k_with "getMethod ref" => (k_here; k_dflt (refine' acc_getMethod (by k_in) (by exact News.get (by k_asm) (by k_mem)) (by exact News.get (by k_asm) (by k_mem)) (by k_is) (by k_is) (by k_is) (by k_is) (by decide) (by k_get) ?_))
  trivial

theorem sayC1_2 : True := by
  k_with "call builtin:list.append" => (k_here; (with_reducible show wpAny _ _ (call (Value.builtin _) [Value.ref _, _]) _ _ _); k_dflt (refine' append_accK (by k_asm) (by k_asm) (by k_asm) (by k_is) (by k_upd) (by assumption) ?_; k_whole); intro _ _ _; (try k_sweep))
  trivial

theorem push_raw {w : World} {vp : Program} {lo : List Str} {A : Around} {s : Shared} {R : Result → Shared → Prop} {B : Heap} {acc d : Addr} {items : Array Value} {n : Nat} {f p : Value} {mg mb : Str → Option Value} {hsh sz : Int} {tk ti : Tok}
    (hB : Base w vp lo mg mb B) (st : ∀ b o, B.get? b = some o → s.heap.get? b = some o) (n1 : B.get? acc = none) (n2 : B.get? d = none)
    (hacc : s.heap.get? acc = some (accObj d items n)) (hdd : s.heap.get? d = some (accDict hsh tk sz ti)) (hA : A.depth < 900) (hU : A.units < 9000) (hz : items.size < 1000)
    (h : ∀ t h' k, (∀ b o, b ≠ acc → s.heap.get? b = some o → h'.get? b = some o) → s.heap.get? t = none → h'.get? t = some (tupObj f p) → h'.get? acc = some (accObj d (items.push (.ref t)) (n + 1)) → R (.ok (.ret .none)) { s with heap := h', toks := k }) :
    codeAny (model P95 w) A (.call (.ref 129) ⟨[.ref acc, f, p], []⟩) R s := by
  have X : (top0.heap_1 w.params).In s.heap := hB.X.keeps st
  have T := hB.T.keeps st
  have hn : ∀ p ∈ [(acc, accObj d items n), (d, accDict hsh tk sz ti)], s.heap.get? p.1 = some p.2 := by
    intro q hq
    rcases List.mem_cons.mp hq with rfl | hq
    · exact hacc
    · rcases List.mem_cons.mp hq with rfl | hq
      · exact hdd
      · cases hq
  refine' enterK (K := top0.heap_1 w.params) (news := [(acc, accObj d items n), (d, accDict hsh tk sz ti)]) (binds := [("self", .ref acc), ("fws", f), ("string", p)]) X T.nolimit hn ?k6 ?k7 (Nat.lt_trans hA (by decide)) ?k9 ?kB ?_ ?c5 ?c2 ?c3 ?c4; (case k6 => k_is); (case k7 => k_is); (case k9 => first | exact BindsTo.of_eq rfl | exact binds_K (by k_in) rfl (by k_is) rfl rfl rfl); (case c5 => decide); (case kB => exact locs rfl); (case c2 => exact rfl); (case c3 => exact rfl); (case c4 => exact rfl); intro g' L' h' F' N' kg' l1
  obtain ⟨KX, T'⟩ := base_in hB st (W := [acc, d]) (by intro a ha; rcases List.mem_cons.mp ha with rfl | ha; exact n1; rcases List.mem_cons.mp ha with rfl | ha; exact n2; cases ha) kg'
  have ned : @Ne Nat acc d := by rintro rfl; rw [hacc] at hdd; cases hdd
  clear X T hB st
  refine noE ?_
  k_fold
  k_steps
  rename Fr _ _ _ _ => F2
  rename News _ _ _ _ => N2
  refine h _ _ _ (fun b o hb e => ?_) (fresh_of kg' (N2 _ (.head _)).2.2 (by intro hm; simp only [List.map_cons, List.map_nil, List.mem_cons, List.not_mem_nil, or_false] at hm; rcases hm with e | e <;> (replace e := eqN e; omega))) (N2 _ (.head _)).1 (N2 _ (.tail _ (.head _))).1
  by_cases hbd : b = d
  · subst hbd; rw [hdd] at e; cases e; exact (N2 _ (.tail _ (.tail _ (.head _)))).1
  · exact F2.keep b o (kg' b o e (by simp [hb, hbd]))
theorem sayC1_end : True := by
  k_with_none
  trivial
end
end
section
section
variable {prog : Program} {w : World} {A : Around} {E : Value → Shared → Prop} {s : Shared} {K : Frag} {h₀ : Heap} {L acc d : Addr} {m : Str → Option Value} {news news' : List (Addr × Obj)} {news'' : Nat → List (Addr × Obj)} {items : Array Value} {n en : Nat} {es es' : List DictEntry} {cd : ClassData}

theorem setSlice_accK {l : Addr} {vl vu : Value} {lo hi : Option Int} {new items' : Array Value} {ne : Nat} {Q : Unit → Shared → Prop}
    (F : Fr h₀ L s.heap m) (X₀ : K.In h₀) (N : News h₀ L s.heap news) (hm : mroIn K 185 (.type "list") = some true) (hq : noSeq K 185 = true) (hf : findIn K (.ref 185) "__setitem__" = some (some (.builtin "list.__setitem__")))
    (hacc : (acc, accObj d items n) ∈ news) (pl : IsPart vl lo) (pu : IsPart vu hi) (hl : (l, ({ cls := .type "list", data := .seq new ne } : Obj)) ∈ news) (hla : @Ne Nat l acc)
    (hi' : slicePut items lo hi new = items') (hz : items.size < 1000) (hz2 : new.size < 1000) (U : ∀ n', Upd acc (accObj d items n) (accObj d items' n') news (news'' n'))
    (h : ∀ h' n', Fr h₀ L h' m → News h₀ L h' (news'' n') → Q () { s with heap := h' }) :
    wpAny (model prog w) A (setItem (.ref acc) (.ref s.heap.objs.size) (.ref l)) Q E { s with heap := s.heap.push { cls := .type "slice", data := .fields #[vl, vu, .none] } } := by
  have F1 := F.push { cls := .type "slice", data := .fields #[vl, vu, .none] }
  have N1 : News h₀ L (s.heap.push { cls := .type "slice", data := .fields #[vl, vu, .none] }) news := fun p hp => (N.push F { cls := .type "slice", data := .fields #[vl, vu, .none] }) p (.tail _ hp)
  refine acc_setItem_slice (X₀.keeps F1.keep) (N1 _ hacc).1 hm hq hf (Heap.IsSliceOf.new ..) pl pu (N1 _ hl).1 hla hz hz2 fun h' n' hs ho => ?_
  rw [hi'] at ho
  obtain ⟨F', N'⟩ := upd_K F1 N1 (U n') hs ho
  exact h h' n' F' N'

theorem getSlice_accK {value : Expr} {lower upper : Option Expr} {p : Pos} {vl vu : Value} {lo hi : Option Int} {items' : Array Value} {Q : Value → Shared → Prop}
    (F : Fr h₀ L s.heap m) (X₀ : K.In h₀) (N : News h₀ L s.heap news) (hm : mroIn K 185 (.type "list") = some true) (hq : noSeq K 185 = true) (hf : findIn K (.ref 185) "__getitem__" = some (some (.builtin "list.__getitem__")))
    (hacc : (acc, accObj d items n) ∈ news) (pl : IsPart vl lo) (pu : IsPart vu hi) (hi' : slicePick items lo hi none = items') (hz : items.size < 1000)
    (h : ∀ l' h', Fr h₀ L h' m → News h₀ L h' ((l', listOf items' 0) :: news) → (∀ p ∈ news, p.1 < l') → Q (.ref l') { s with heap := h' })
    (ht : ∀ o r, letTemporaryGo value o r = pure () := by intro _ _; rfl) :
    wpAny (model prog w) A (subscriptTail value (.Slice lower upper none p) (.ref acc) (.ref s.heap.objs.size)) Q E { s with heap := s.heap.push { cls := .type "slice", data := .fields #[vl, vu, .none] } } := by
  have F1 := F.push { cls := .type "slice", data := .fields #[vl, vu, .none] }
  have N1 : News h₀ L (s.heap.push { cls := .type "slice", data := .fields #[vl, vu, .none] }) news := fun p hp => (N.push F { cls := .type "slice", data := .fields #[vl, vu, .none] }) p (.tail _ hp)
  unfold subscriptTail
  refine wpAny_bind (m := getitemInPython (.ref acc)) (acc_inPython (X₀.keeps F1.keep) (N1 _ hacc).1 hf (wpAny_bind ?_))
  show wpAny _ _ (operate _ (getItem _ _)) _ _ _
  refine wpAny_operating (acc_getItem_slice (X₀.keeps F1.keep) (N1 _ hacc).1 hm hq hf (Heap.IsSliceOf.new ..) pl pu .none (by simp) ?_ hz)
  refine wpAny_bind (wpAny_of_eq (ht _ _) (wpAny_pure ?_))
  rw [hi']
  refine h _ _ (F1.push _) (N1.push F1 _) fun p hp => ?_
  have := Heap.lt_size (N1 p hp).1
  exact this

theorem slicePut_all (items new : Array Value) : slicePut items none none new = new := by
  unfold slicePut sliceBounds
  simp

theorem slicePut_cut (items : Array Value) (k : Nat) (hk : k ≤ items.size) : slicePut items (some (k : Int)) none #[] = (items.toList.take k).toArray := by
  have e1 : (sliceBounds (some (k : Int)) none none items.size).1 = k := by
    unfold sliceBounds; simp; omega
  have e2 : (sliceBounds (some (k : Int)) none none items.size).2.1 = items.size := by
    unfold sliceBounds; simp
  unfold slicePut
  rw [e1, e2]
  have : (max (k : Int) (items.size : Int)).toNat = items.size := by omega
  rw [this]
  simp
  obtain ⟨l⟩ := items
  simp [List.extract_toArray]

theorem setAttr_accK {name : Str} {v : Value} {en' : Nat} {Q : Unit → Shared → Prop}
    (F : Fr h₀ L s.heap m) (X₀ : K.In h₀) (N : News h₀ L s.heap news) (hacc : (acc, accObj d items n) ∈ news) (hdd : (d, dictOf es en) ∈ news)
    (h1 : findIn K (.ref 185) "__setattr__" = some (some (.builtin "object.__setattr__"))) (hcl : clsIn K 185 = some cd) (hmro : cd.mro = [.ref 185, .type "list", .type "object"]) (hdict : cd.hasDict = true)
    (ht : takerIn K 185 name = some none) (hl : (getL name es).isSome = true)
    (e : (putL name (PyData.keyHash w.params name) (.str name (s.toks + 1)) v es, putN name es en) = (es', en')) (U : Upd d (dictOf es en) (dictOf es' en') news news') (hz : es'.length ≤ 1000)
    (h : ∀ h', Fr h₀ L h' m → News h₀ L h' news' → Q () { s with heap := h', toks := s.toks + 2 }) : wpAny (model prog w) A (setAttr (.ref acc) name v) Q E s := by
  refine acc_setAttr (X₀.keeps F.keep) (N _ hacc).1 (N _ hdd).1 h1 hcl hmro hdict ht hl e hz fun h' hs ho => ?_
  obtain ⟨F', N'⟩ := upd_K F N U hs ho
  exact h h' F' N'

theorem getAttr_accK {name : Str} {v : Value} {expr : Bool} {Q : Value → Shared → Prop}
    (F : Fr h₀ L s.heap m) (X₀ : K.In h₀) (N : News h₀ L s.heap news) (hacc : (acc, accObj d items n) ∈ news) (hdd : (d, dictOf es en) ∈ news)
    (h1 : findIn K (.ref 185) "__getattribute__" = some (some (.builtin "list.__getattribute__"))) (h2 : findIn K (.ref 185) "__getattr__" = some none)
    (hm : mroIn K 185 (.type "list") = some true) (hc : hasDictIn K 185 = true) (hn : findIn K (.ref 185) name = some none) (hv : getL name es = some (some v)) (hh : handedIn v = true)
    (h : Q v { s with toks := s.toks + 1 }) : wpAny (model prog w) A (getAttr (.ref acc) name expr) Q E s := by
  obtain ⟨cd, hcd, hcd2⟩ := any_some hc
  refine acc_getAttr (X₀.keeps F.keep) (N _ hacc).1 (N _ hdd).1 h1 h2 hm ?_ hh h
  unfold findObj
  simp only [hcd, hn, Option.bind_some, PySem.W.ownOf, hcd2, if_true, lookIn_dict, hv]
end

section
theorem sayC2_1 : True := by
  k_with "getMethod ref" => (k_here; k_dflt (refine' acc_getMethod (by k_in) (by exact News.get (by k_asm) (by k_mem)) (by exact News.get (by k_asm) (by k_mem)) (by k_is) (by k_is) (by k_is) (by k_is) (by decide) (by k_get) ?_))
  trivial

theorem sayC2_2 : True := by
  k_with "setItem ref" => (k_here; k_dflt (refine' setSlice_accK (by k_asm) (by k_asm) (by k_asm) (by k_is) (by k_is) (by k_is) (by k_mem) (by exact .none) (by exact .none) (by k_mem) (by k_ne) (by exact slicePut_all _ _) (by assumption) (by first | assumption | (exact Nat.zero_lt_succ _)) (by (intro _; k_upd)) ?_; k_whole); intro _ _ _ _; (try k_sweep))
  trivial
theorem sayC2_3 : True := by
  k_with "setAttr ref" => (k_here; k_dflt (refine' setAttr_accK (by k_asm) (by k_asm) (by k_asm) (by k_mem) (by k_mem) (by k_is) (by k_is) (by rfl) (by rfl) (by k_is) (by k_get) (by k_put) (by k_upd) (by simp) ?_; k_whole); intro _ _ _; (try k_sweep))
  trivial

theorem reset_raw0 {w : World} {vp : Program} {lo : List Str} {A : Around} {s : Shared} {R : Result → Shared → Prop} {B : Heap} {acc d : Addr} {items : Array Value} {n : Nat} {mg mb : Str → Option Value} {hsh sz : Int} {tk ti : Tok}
    (hB : Base w vp lo mg mb B) (st : ∀ b o, B.get? b = some o → s.heap.get? b = some o) (n1 : B.get? acc = none) (n2 : B.get? d = none)
    (hacc : s.heap.get? acc = some (accObj d items n)) (hdd : s.heap.get? d = some (accDict hsh tk sz ti)) (hA : A.depth < 900) (hU : A.units < 9000) (hz : items.size < 1000)
    (h : ∀ h' n' ti' k, (∀ b o, b ≠ acc → b ≠ d → s.heap.get? b = some o → h'.get? b = some o) → h'.get? acc = some (accObj d #[] n') → h'.get? d = some (accDict hsh tk 0 ti') → R (.ok (.ret .none)) { s with heap := h', toks := k }) :
    codeAny (model P95 w) A (.call (.ref 167) ⟨[.ref acc], []⟩) R s := by
  have X : (top0.heap_1 w.params).In s.heap := hB.X.keeps st
  have T := hB.T.keeps st
  have hn : ∀ p ∈ [(acc, accObj d items n), (d, accDict hsh tk sz ti)], s.heap.get? p.1 = some p.2 := by
    intro q hq
    rcases List.mem_cons.mp hq with rfl | hq
    · exact hacc
    · rcases List.mem_cons.mp hq with rfl | hq
      · exact hdd
      · cases hq
  have ned : @Ne Nat acc d := by rintro rfl; rw [hacc] at hdd; cases hdd
  refine' enterK (K := top0.heap_1 w.params) (news := [(acc, accObj d items n), (d, accDict hsh tk sz ti)]) (binds := [("self", .ref acc), ("startval", .none)]) X T.nolimit hn ?k6 ?k7 (Nat.lt_trans hA (by decide)) ?k9 ?kB ?_ ?c5 ?c2 ?c3 ?c4; (case k6 => k_is); (case k7 => k_is); (case k9 => first | exact BindsTo.of_eq rfl | exact binds_K X rfl (by k_is) rfl rfl rfl); (case c5 => decide); (case kB => exact locs rfl); (case c2 => exact rfl); (case c3 => exact rfl); (case c4 => exact rfl); intro g' L' h' F' N' kg' l1
  obtain ⟨KX, T'⟩ := base_in hB st (W := [acc, d]) (by intro a ha; rcases List.mem_cons.mp ha with rfl | ha; exact n1; rcases List.mem_cons.mp ha with rfl | ha; exact n2; cases ha) kg'
  clear X T hB st
  refine noE ?_
  k_fold
  k_steps
  rename Fr _ _ _ _ => F2
  rename News _ _ _ _ => N2
  exact h _ _ _ _ (fun b o hb hbd e => F2.keep b o (kg' b o e (by simp [hb, hbd]))) (N2 _ (.tail _ (.head _))).1 (N2 _ (.tail _ (.tail _ (.head _)))).1

theorem reset_raw1 {l : Addr} {new : Array Value} {ne : Nat} {w : World} {vp : Program} {lo : List Str} {A : Around} {s : Shared} {R : Result → Shared → Prop} {B : Heap} {acc d : Addr} {items : Array Value} {n : Nat} {mg mb : Str → Option Value} {hsh sz : Int} {tk ti : Tok}
    (hB : Base w vp lo mg mb B) (st : ∀ b o, B.get? b = some o → s.heap.get? b = some o) (n1 : B.get? acc = none) (n2 : B.get? d = none)
    (hacc : s.heap.get? acc = some (accObj d items n)) (hdd : s.heap.get? d = some (accDict hsh tk sz ti)) (hA : A.depth < 900) (hU : A.units < 9000) (hz : items.size < 1000)
    (hl : s.heap.get? l = some { cls := .type "list", data := .seq new ne }) (n3 : B.get? l = none) (hz2 : new.size < 1000)
    (h : ∀ h' n' ti' k, (∀ b o, b ≠ acc → b ≠ d → s.heap.get? b = some o → h'.get? b = some o) → h'.get? acc = some (accObj d new n') → h'.get? d = some (accDict hsh tk 0 ti') → R (.ok (.ret .none)) { s with heap := h', toks := k }) :
    codeAny (model P95 w) A (.call (.ref 167) ⟨[.ref acc, .ref l], []⟩) R s := by
  have nal : @Ne Nat l acc := by rintro rfl; rw [hacc] at hl; cases hl
  have ndl : @Ne Nat l d := by rintro rfl; rw [hdd] at hl; simp at hl
  have X : (top0.heap_1 w.params).In s.heap := hB.X.keeps st
  have T := hB.T.keeps st
  have hn : ∀ p ∈ [(acc, accObj d items n), (d, accDict hsh tk sz ti), (l, { cls := .type "list", data := .seq new ne })], s.heap.get? p.1 = some p.2 := by
    intro q hq
    rcases List.mem_cons.mp hq with rfl | hq
    · exact hacc
    · rcases List.mem_cons.mp hq with rfl | hq
      · exact hdd
      · rcases List.mem_cons.mp hq with rfl | hq
        · exact hl
        · cases hq
  have ned : @Ne Nat acc d := by rintro rfl; rw [hacc] at hdd; cases hdd
  refine' enterK (K := top0.heap_1 w.params) (news := [(acc, accObj d items n), (d, accDict hsh tk sz ti), (l, { cls := .type "list", data := .seq new ne })]) (binds := [("self", .ref acc), ("startval", .ref l)]) X T.nolimit hn ?k6 ?k7 (Nat.lt_trans hA (by decide)) ?k9 ?kB ?_ ?c5 ?c2 ?c3 ?c4; (case k6 => k_is); (case k7 => k_is); (case k9 => first | exact BindsTo.of_eq rfl | exact binds_K X rfl (by k_is) rfl rfl rfl); (case c5 => decide); (case kB => exact locs rfl); (case c2 => exact rfl); (case c3 => exact rfl); (case c4 => exact rfl); intro g' L' h' F' N' kg' l1
  obtain ⟨KX, T'⟩ := base_in hB st (W := [acc, d, l]) (by intro a ha; rcases List.mem_cons.mp ha with rfl | ha; exact n1; rcases List.mem_cons.mp ha with rfl | ha; exact n2; rcases List.mem_cons.mp ha with rfl | ha; exact n3; cases ha) kg'
  clear X T hB st
  refine noE ?_
  k_fold
  k_steps
  rename Fr _ _ _ _ => F2
  rename News _ _ _ _ => N2
  refine h _ _ _ _ (fun b o hb hbd e => ?_) (N2 _ (.head _)).1 (N2 _ (.tail _ (.head _))).1
  by_cases hbl : b = l
  · subst hbl; rw [hl] at e; cases e; exact (N2 _ (.tail _ (.tail _ (.head _)))).1
  · exact F2.keep b o (kg' b o e (by simp [hb, hbd, hbl]))

theorem sayC2_end : True := by
  k_with_none
  trivial
end

section
theorem sayC2x_1 : True := by
  k_with "setItem ref" => (k_here; k_dflt (refine' setSlice_accK (by k_asm) (by k_asm) (by k_asm) (by k_is) (by k_is) (by k_is) (by k_mem) (by exact .int _ _) (by exact .none) (by k_mem) (by k_ne) (by exact slicePut_cut _ _ (by assumption)) (by assumption) (by first | assumption | (exact Nat.zero_lt_succ _)) (by (intro _; k_upd)) ?_; k_whole); intro _ _ _ _; (try k_sweep))
  trivial

theorem sayC2x_2 : True := by
  k_with "subscriptTail Name" => (k_here; k_dflt (refine' getSlice_accK (by k_asm) (by k_asm) (by k_asm) (by k_is) (by k_is) (by k_is) (by k_mem) (by exact .int _ _) (by exact .none) (by exact slicePick_from _ _ (by assumption)) (by assumption) ?_; k_whole); intro _ _ _ _ z9l1; (try (k_lt z9l1; revert z9l1; intro _)); (try k_sweep))
  trivial

theorem popFrom_raw {k : Nat} {t : Tok} {w : World} {vp : Program} {lo : List Str} {A : Around} {s : Shared} {R : Result → Shared → Prop} {B : Heap} {acc d : Addr} {items : Array Value} {n : Nat} {mg mb : Str → Option Value} {hsh sz : Int} {tk ti : Tok}
    (hB : Base w vp lo mg mb B) (st : ∀ b o, B.get? b = some o → s.heap.get? b = some o) (n1 : B.get? acc = none) (n2 : B.get? d = none)
    (hacc : s.heap.get? acc = some (accObj d items n)) (hdd : s.heap.get? d = some (accDict hsh tk sz ti)) (hA : A.depth < 900) (hU : A.units < 9000) (hz : items.size < 1000)
    (hk : k ≤ items.size)
    (h : ∀ l h' n' k', (∀ b o, b ≠ acc → s.heap.get? b = some o → h'.get? b = some o) → h'.get? acc = some (accObj d (items.toList.take k).toArray n') → s.heap.get? l = none →
      h'.get? l = some { cls := .type "list", data := .seq (items.toList.drop k).toArray } → R (.ok (.ret (.ref l))) { s with heap := h', toks := k' }) :
    codeAny (model P95 w) A (.call (.ref 137) ⟨[.ref acc, .int k t], []⟩) R s := by
  have X : (top0.heap_1 w.params).In s.heap := hB.X.keeps st
  have T := hB.T.keeps st
  have hn : ∀ p ∈ [(acc, accObj d items n), (d, accDict hsh tk sz ti)], s.heap.get? p.1 = some p.2 := by
    intro q hq
    rcases List.mem_cons.mp hq with rfl | hq
    · exact hacc
    · rcases List.mem_cons.mp hq with rfl | hq
      · exact hdd
      · cases hq
  have ned : @Ne Nat acc d := by rintro rfl; rw [hacc] at hdd; cases hdd
  refine' enterK (K := top0.heap_1 w.params) (news := [(acc, accObj d items n), (d, accDict hsh tk sz ti)]) (binds := [("self", .ref acc), ("i", .int k t)]) X T.nolimit hn ?k6 ?k7 (Nat.lt_trans hA (by decide)) ?k9 ?kB ?_ ?c5 ?c2 ?c3 ?c4; (case k6 => k_is); (case k7 => k_is); (case k9 => first | exact BindsTo.of_eq rfl | exact binds_K X rfl (by k_is) rfl rfl rfl); (case c5 => decide); (case kB => exact locs rfl); (case c2 => exact rfl); (case c3 => exact rfl); (case c4 => exact rfl); intro g' L' h' F' N' kg' l1
  obtain ⟨KX, T'⟩ := base_in hB st (W := [acc, d]) (by intro a ha; rcases List.mem_cons.mp ha with rfl | ha; exact n1; rcases List.mem_cons.mp ha with rfl | ha; exact n2; cases ha) kg'
  clear X T hB st
  refine noE ?_
  k_fold
  k_steps
  rename Fr _ _ _ _ => F2
  rename News _ _ _ _ => N2
  refine h _ _ _ _ (fun b o hb e => ?_) (N2 _ (.tail _ (.tail _ (.head _)))).1 (fresh_of kg' (N2 _ (.tail _ (.head _))).2.2 (by intro hm; simp only [List.map_cons, List.map_nil, List.mem_cons, List.not_mem_nil, or_false] at hm; rcases hm with e | e <;> (replace e := eqN e; omega))) (N2 _ (.tail _ (.head _))).1
  by_cases hbd : b = d
  · subst hbd; rw [hdd] at e; cases e; exact (N2 _ (.tail _ (.tail _ (.tail _ (.head _))))).1
  · exact F2.keep b o (kg' b o e (by simp [hb, hbd]))
theorem sayC2x_end : True := by
  k_with_none
  trivial
end
end
section
section
variable {prog : Program} {w : World} {A : Around} {E : Value → Shared → Prop} {s : Shared} {K : Frag} {h₀ : Heap} {L acc d : Addr} {m mg mb : Str → Option Value} {news news' : List (Addr × Obj)} {items : Array Value} {n en : Nat} {vp : Program} {lo : List Str}

theorem enterS {R : Result → Shared → Prop} {name qual : Str} {params : Arguments} {body : List Stmt} {scope : Scope} {dV kV doc pm cdv ct oc : Value} {an od : Option Addr} {osl : Array (Option Value)} {f cc : Addr} {args : Args} {binds : List (Str × Value)}
    (X : K.In s.heap) (lim : s.heap.NoLimit) (hn : ∀ p ∈ news, s.heap.get? p.1 = some p.2)
    (ho : K.lookup f = some ⟨oc, od, .func (ksFn name qual params body scope dV kV doc pm an cdv ct cc), osl⟩) (hcd : codeIn K cdv qual = true) (hroom : A.depth < recursionLimit)
    (hbind : BindsTo s (ksFn name qual params body scope dV kV doc pm an cdv ct cc) args binds) (hloc : ∀ y ∈ binds, scope.names.lookup y.1 = some .local)
    (h : ∀ g L' h₁, Fr g L' h₁ (fun y => binds.reverse.lookup y) → News g L' h₁ news → (∀ b o, s.heap.get? b = some o → b ∉ news.map (·.1) → g.get? b = some o) → (∀ p ∈ news, p.1 < L') →
      _root_.PySem.wpAt (model prog w) (A.deeper (ksEnv qual scope L' f cdv cc)) (.func body (ksEnv qual scope L' f cdv cc)) (execs body (ksEnv qual scope L' f cdv cc))
        (fun fl s' => R (.ok (.ret (match fl with | .ret v => v | _ => .none))) s')
        (fun e s' => wpAny (model prog w) (A.deeper (ksEnv qual scope L' f cdv cc)) (leaving (ksEnv qual scope L' f cdv cc) e) (fun _ s'' => R (.error e) s'') (fun e' s'' => R (.error e') s'') s')
        { s with heap := h₁, toks := s.toks + binds.length })
    (hcell : ∀ x ∈ scope.names, x.2 ≠ .cell) (hco : scope.isCoroutine = false) (hgen : scope.isGenerator = false) (hk : scope.kind = .function) : codeAny (model prog w) A (.call (.ref f) args) R s := by
  refine ks_codeAny_call_defAt (fd := ksFn name qual params body scope dV kV doc pm an cdv ct cc) (body := body) (binds := binds) hroom (X _ _ ho) rfl lim (codeRec_of X hcd) rfl hbind hcell hloc (fun h₁ hns hk₁ => ?_) hco hgen hk
  exact h (hideAll s.heap (news.map (·.1))) s.heap.objs.size h₁ ⟨hns, fun b o e => hk₁ b o (of_hideAll _ e), Nat.le_of_eq (hideAll_size _ _)⟩
    (fun p hp => ⟨hk₁ _ _ (hn p hp), Nat.ne_of_lt (Heap.lt_size (hn p hp)), hideAll_none _ (List.mem_map_of_mem hp)⟩) (fun b o e nb => hideAll_get _ e nb) (fun p hp => Heap.lt_size (hn p hp))

theorem noEs {M : Model} {c : Code} {α : Type} {t : Sem α} {Q : α → Shared → Prop} (h : _root_.PySem.wpAt M A c t Q (fun _ _ => False) s) : _root_.PySem.wpAt M A c t Q E s := ks_wpAt_mono h (fun _ _ x => x) fun _ _ x => x.elim

theorem superNode {body : List Stmt} {q : Str} {scope : Scope} {p0 p1 : Pos} {attr : Str} {whole : Sem Value} {fd : FuncData} {ar : Arg} {vs : Array Value} {file : Str} {tf : Tok} {oc ccl cl : Value} {od cdd cld : Option Addr} {osl ccs csl : Array (Option Value)} {f cc cda x C D : Addr} {ox : Obj} {odx : Option Obj} {cdD : ClassData} {Q : Value → Shared → Prop}
    (F : Fr h₀ L s.heap m) (X₀ : K.In h₀) (N : News h₀ L s.heap news) (T : TopRead vp lo mg mb h₀)
    (hf : K.lookup f = some ⟨oc, od, .func fd, osl⟩) (hp : (fd.params.posonlyargs ++ fd.params.args).head? = some ar) (hv : m ar.arg = some (.ref x)) (I : InstAt s.heap x ox C odx)
    (hcode : K.lookup cda = some ⟨ccl, cdd, .fields vs, ccs⟩) (hvs : vs[2]? = some (.str file tf)) (hfile : ((prog.main.file : Str) == file) = true)
    (hcell : K.lookup cc = some ⟨cl, cld, .cell (some (.ref D)), csl⟩) (hD : clsIn K D = some cdD) (hsub : mroIn K C (.ref D) = some true) (hsuper : nsIn K mainGlobals "super" = some none)
    (hat : (attr == ("__class__" : Str)) = false) (hks : scope.names.lookup ("super" : Str) = some .globalImplicit) (hkc : scope.names.lookup ("__class__" : Str) = some .free) (hka : scope.names.lookup ar.arg = some .local) (hk : scope.kind = .function)
    (htop : (prog.main.scope.names.lookup ("super" : Str)).isSome = false) (hboot : bootBuiltins "super" = some (.type "super"))
    (h : ∀ so h', Fr h₀ L h' m → News h₀ L h' ((so, ks_superObj D x C) :: news) → (∀ p ∈ news, p.1 < so) → Q (.ref so) { s with heap := h' }) :
    _root_.PySem.wpAt (model prog w) A (.func body (ksEnv q scope L f (.ref cda) cc)) (attributeBase (.Call (.Name "super" p0) [] [] p1) attr (ksEnv q scope L f (.ref cda) cc) whole) Q E s := by
  have X : K.In s.heap := X₀.keeps F.keep
  obtain ⟨hh, g, dd, t, os⟩ := s
  obtain ⟨oD, hD1, hD2⟩ : ∃ oD, hh.get? D = some oD ∧ oD.data = .cls cdD := by
    unfold clsIn at hD
    split at hD
    · rename_i ho; cases hD; exact ⟨_, X _ _ ho, rfl⟩
    · cases hD
  refine ks_wpAt_super_base (env := ksEnv q scope L f (.ref cda) cc) hks hkc hat rfl (X _ _ hf) rfl hp rfl (X _ _ hcode) rfl hvs hfile htop ?_
  refine ks_loadName_global hk hks (loadGlobal_builtin (env := ksEnv q scope L f (.ref cda) cc) (T.g.keeps F.keep) (mg_none_of X₀ T.g hsuper) (T.b.keeps F.keep) ((T.builtins _ (by decide +kernel)).trans hboot) ⟨rfl, ?_⟩)
  refine wpAny_loadName_free hk hkc rfl ⟨_, X _ _ hcell, rfl⟩ ?_
  refine wpAny_loadName_local hk hka F.ns hv ?_
  refine ks_wpAny_isType_cls hD1 hD2 ⟨rfl, ?_⟩
  refine ks_wpAny_call_super hD1 hD2 I.at_ I.cls (fun c e => ?_) (looks_mroIn X hsub) (fun h' e k => ?_)
  · have := I.no
    unfold notCls at this
    rw [e] at this
    exact Bool.noConfusion this
  · obtain ⟨F', N', l'⟩ := ks_newsPush (s := ⟨hh, g, dd, t, os⟩) F N rfl e k
    exact h _ _ F' N' l'
end

/-- one bound built-in called without arguments: callWith -/
theorem callWith_bound {M : Model} {A : Around} {E : Value → Shared → Prop} {s : Shared} {bt id : String} {acc q : Addr} {pos : Pos} {env : Env} {Q : Value → Shared → Prop} (hb : s.heap.get? q = some (boundObj bt id acc)) (hbt : bt = "builtin_function_or_method" ∨ bt = "method-wrapper")
    (h : wpAny M A (call (.ref q) []) Q E s) : wpAny M A (callWith pos (.ref q) [] (backTo pos (starEach [] env)) []) Q E s := by
  refine callWith_of (P := fun h => h.get? q = some (boundObj bt id acc)) rfl (fun h e => ⟨.machine, .inr (.inl rfl), ?_⟩) (evalArgs_nil3 ⟨hb, h⟩)
  refine (Looks.ld (part := none) e).andThen ?_
  rcases hbt with rfl | rfl <;> exact Looks.of_pure rfl

section
variable {w : World} {A : Around} {E : Value → Shared → Prop} {s : Shared} {h₀ : Heap} {L acc d so : Addr} {m mg mb : Str → Option Value} {news news' : List (Addr × Obj)} {items : Array Value} {n en : Nat}

theorem acc_ne {h : Heap} (X : (top0.heap_1 w.params).In h) (hacc : h.get? acc = some (accObj d items n)) : acc ≠ 185 := by
  rintro rfl
  have := X 185 _ (by k_is)
  rw [hacc] at this
  cases this

theorem al_len (w : World) : alongIn (top0.heap_1 w.params) "__len__" [.type "list", .type "object"] = some (some (.builtin "list.__len__")) := by kernel_rfl
theorem al_init (w : World) : alongIn (top0.heap_1 w.params) "__init__" [.type "list", .type "object"] = some (some (.builtin "list.__init__")) := by kernel_rfl
theorem al_pop (w : World) : alongIn (top0.heap_1 w.params) "pop" [.type "list", .type "object"] = some (some (.builtin "list.pop")) := by kernel_rfl
theorem ty_len : typeOf (.builtin "list.__len__") = pure (.type "wrapper_descriptor") := by kernel_rfl
theorem ty_init : typeOf (.builtin "list.__init__") = pure (.type "wrapper_descriptor") := by kernel_rfl
theorem ty_pop : typeOf (.builtin "list.pop") = pure (.type "method_descriptor") := by kernel_rfl
theorem wd_look : typeLookup (.type "wrapper_descriptor") "__get__" = pure (some (.builtin "wrapper_descriptor.__get__")) := by rw [typeLookup_type, builtinLookup_eq_fast]; kernel_rfl
theorem md_look : typeLookup (.type "method_descriptor") "__get__" = pure (some (.builtin "method_descriptor.__get__")) := by rw [typeLookup_type, builtinLookup_eq_fast]; kernel_rfl
theorem wd_kind : builtinKind "wrapper_descriptor.__get__" = some .slot := by decide +kernel
theorem md_kind : builtinKind "method_descriptor.__get__" = some .slot := by decide +kernel
theorem wd_split : splitId "wrapper_descriptor.__get__" = some ("wrapper_descriptor", "__get__") := by decide +kernel
theorem md_split : splitId "method_descriptor.__get__" = some ("method_descriptor", "__get__") := by decide +kernel
theorem wd_plain : plainId "wrapper_descriptor.__get__" = true := by decide +kernel
theorem md_plain : plainId "method_descriptor.__get__" = true := by decide +kernel
theorem in_len : instIn [] (.builtin "list.__len__") (.type "wrapper_descriptor") = some true := by decide +kernel
theorem in_init : instIn [] (.builtin "list.__init__") (.type "wrapper_descriptor") = some true := by decide +kernel
theorem in_pop : instIn [] (.builtin "list.pop") (.type "method_descriptor") = some true := by decide +kernel

theorem get_len {h : Heap} {g : Array GenState} {dr : Drawn} {os : OsState} {t : Nat} {R : Result → Shared → Prop} (X : (top0.heap_1 w.params).In h) (ha : h.get? acc = some (accObj d items n)) (z : R (.ok (.ret (.ref h.objs.size))) ⟨h.push (boundObj "method-wrapper" "list.__len__" acc), g, dr, t, os⟩) :
    codeAny (model P95 w) A (.call (.builtin "wrapper_descriptor.__get__") ⟨[.builtin "list.__len__", .ref acc, .ref 185], []⟩) R ⟨h, g, dr, t, os⟩ := by
  refine codeAny_call_builtin wd_plain wd_get_entry ?_
  have L1 : Looks (model P95 w) h (isInstance (.builtin "list.__len__") (.type "wrapper_descriptor")) true := looks_instIn (K := []) (fun _ _ e => nomatch e) in_len
  have C := @check_slot (model P95 w) A.in1 (fun e s' => R (.error e) s') ⟨h, g, dr, t, os⟩ "wrapper_descriptor.__get__" "wrapper_descriptor" "__get__" (.builtin "list.__len__") [.ref acc, .ref 185] []
  refine C wd_kind wd_split L1 wd_get_args ?_
  exact wrap_get X ha (by k_is) (.inl ⟨rfl, rfl⟩) z
theorem get_init {h : Heap} {g : Array GenState} {dr : Drawn} {os : OsState} {t : Nat} {R : Result → Shared → Prop} (X : (top0.heap_1 w.params).In h) (ha : h.get? acc = some (accObj d items n)) (z : R (.ok (.ret (.ref h.objs.size))) ⟨h.push (boundObj "method-wrapper" "list.__init__" acc), g, dr, t, os⟩) :
    codeAny (model P95 w) A (.call (.builtin "wrapper_descriptor.__get__") ⟨[.builtin "list.__init__", .ref acc, .ref 185], []⟩) R ⟨h, g, dr, t, os⟩ := by
  refine codeAny_call_builtin wd_plain wd_get_entry ?_
  have L1 : Looks (model P95 w) h (isInstance (.builtin "list.__init__") (.type "wrapper_descriptor")) true := looks_instIn (K := []) (fun _ _ e => nomatch e) in_init
  have C := @check_slot (model P95 w) A.in1 (fun e s' => R (.error e) s') ⟨h, g, dr, t, os⟩ "wrapper_descriptor.__get__" "wrapper_descriptor" "__get__" (.builtin "list.__init__") [.ref acc, .ref 185] []
  refine C wd_kind wd_split L1 wd_get_args ?_
  exact wrap_get X ha (by k_is) (.inr ⟨rfl, rfl⟩) z
theorem get_pop {h : Heap} {g : Array GenState} {dr : Drawn} {os : OsState} {t : Nat} {R : Result → Shared → Prop} (X : (top0.heap_1 w.params).In h) (ha : h.get? acc = some (accObj d items n)) (z : R (.ok (.ret (.ref h.objs.size))) ⟨h.push (boundObj "builtin_function_or_method" "list.pop" acc), g, dr, t, os⟩) :
    codeAny (model P95 w) A (.call (.builtin "method_descriptor.__get__") ⟨[.builtin "list.pop", .ref acc, .ref 185], []⟩) R ⟨h, g, dr, t, os⟩ := by
  refine codeAny_call_builtin md_plain md_get_entry ?_
  have L1 : Looks (model P95 w) h (isInstance (.builtin "list.pop") (.type "method_descriptor")) true := looks_instIn (K := []) (fun _ _ e => nomatch e) in_pop
  have C := @check_slot (model P95 w) A.in1 (fun e s' => R (.error e) s') ⟨h, g, dr, t, os⟩ "method_descriptor.__get__" "method_descriptor" "__get__" (.builtin "list.pop") [.ref acc, .ref 185] []
  refine C md_kind md_split L1 md_get_args ?_
  exact pop_get X ha (by k_is) z
theorem superMeth {name : Str} {id T gid bt : String} {pl : Sem Bool} {Q : Value × List Value → Shared → Prop}
    (F : Fr h₀ L s.heap m) (X₀ : (top0.heap_1 w.params).In h₀) (N : News h₀ L s.heap news) (hso : (so, ks_superObj 185 acc 185) ∈ news) (hacc : (acc, accObj d items n) ∈ news)
    (hf : alongIn (top0.heap_1 w.params) name [.type "list", .type "object"] = some (some (.builtin id))) (ht : typeOf (.builtin id) = pure (.type T)) (hg : typeLookup (.type T) "__get__" = pure (some (.builtin gid)))
    (hcall : ∀ (h : Heap) (g : Array GenState) (dr : Drawn) (os : OsState) (A : Around) (t : Nat) (R : Result → Shared → Prop), (top0.heap_1 w.params).In h → h.get? acc = some (accObj d items n) → R (.ok (.ret (.ref h.objs.size))) ⟨h.push (boundObj bt id acc), g, dr, t, os⟩ → codeAny (model P95 w) A (.call (.builtin gid) ⟨[.builtin id, .ref acc, .ref 185], []⟩) R ⟨h, g, dr, t, os⟩)
    (hn : (name == ("__class__" : Str)) = false)
    (h : ∀ q h', Fr h₀ L h' m → News h₀ L h' ((q, boundObj bt id acc) :: news) → (∀ p ∈ news, p.1 < q) → Q (.ref q, []) { s with heap := h', toks := s.toks + 1 }) :
    wpAny (model P95 w) A (getMethod (.ref so) name pl) Q E s := by
  have X : (top0.heap_1 w.params).In s.heap := X₀.keeps F.keep
  have ha := (N _ hacc).1
  obtain ⟨hh, g, dd, t, os⟩ := s
  refine super_getMethod (N _ hso).1 (looks_opaque X (by k_is)) (l₀ := [.ref 185, .type "list", .type "object"]) (Looks.of_peek X (by kernel_rfl)) rfl X hf (Looks.of_pure ht) hg (fun A t R z => hcall hh g dd os A t R X ha z) (acc_ne X ha) hn ?_
  exact h _ _ (F.push _) (N.push F _) fun p hp => Heap.lt_size (N p hp).1

theorem superLen {pl : Sem Bool} {Q : Value × List Value → Shared → Prop}
    (F : Fr h₀ L s.heap m) (X₀ : (top0.heap_1 w.params).In h₀) (N : News h₀ L s.heap news) (hso : (so, ks_superObj 185 acc 185) ∈ news) (hacc : (acc, accObj d items n) ∈ news)
    (h : ∀ q h', Fr h₀ L h' m → News h₀ L h' ((q, boundObj "method-wrapper" "list.__len__" acc) :: news) → (∀ p ∈ news, p.1 < q) → Q (.ref q, []) { s with heap := h', toks := s.toks + 1 }) :
    wpAny (model P95 w) A (getMethod (.ref so) "__len__" pl) Q E s := by
  exact superMeth (id := "list.__len__") (bt := "method-wrapper") (T := "wrapper_descriptor") (gid := "wrapper_descriptor.__get__") F X₀ N hso hacc (al_len w) ty_len wd_look (fun h g dr os A t R X ha z => get_len X ha z) (by decide) h

theorem superInit {pl : Sem Bool} {Q : Value × List Value → Shared → Prop}
    (F : Fr h₀ L s.heap m) (X₀ : (top0.heap_1 w.params).In h₀) (N : News h₀ L s.heap news) (hso : (so, ks_superObj 185 acc 185) ∈ news) (hacc : (acc, accObj d items n) ∈ news)
    (h : ∀ q h', Fr h₀ L h' m → News h₀ L h' ((q, boundObj "method-wrapper" "list.__init__" acc) :: news) → (∀ p ∈ news, p.1 < q) → Q (.ref q, []) { s with heap := h', toks := s.toks + 1 }) :
    wpAny (model P95 w) A (getMethod (.ref so) "__init__" pl) Q E s := by
  exact superMeth (id := "list.__init__") (bt := "method-wrapper") (T := "wrapper_descriptor") (gid := "wrapper_descriptor.__get__") F X₀ N hso hacc (al_init w) ty_init wd_look (fun h g dr os A t R X ha z => get_init X ha z) (by decide) h

theorem superPop {pl : Sem Bool} {Q : Value × List Value → Shared → Prop}
    (F : Fr h₀ L s.heap m) (X₀ : (top0.heap_1 w.params).In h₀) (N : News h₀ L s.heap news) (hso : (so, ks_superObj 185 acc 185) ∈ news) (hacc : (acc, accObj d items n) ∈ news)
    (h : ∀ q h', Fr h₀ L h' m → News h₀ L h' ((q, boundObj "builtin_function_or_method" "list.pop" acc) :: news) → (∀ p ∈ news, p.1 < q) → Q (.ref q, []) { s with heap := h', toks := s.toks + 1 }) :
    wpAny (model P95 w) A (getMethod (.ref so) "pop" pl) Q E s := by
  exact superMeth (id := "list.pop") (bt := "builtin_function_or_method") (T := "method_descriptor") (gid := "method_descriptor.__get__") F X₀ N hso hacc (al_pop w) ty_pop md_look (fun h g dr os A t R X ha z => get_pop X ha z) (by decide) h

theorem boundLen {q : Addr} {pos : Pos} {env : Env} {Q : Value → Shared → Prop} (N : News h₀ L s.heap news) (hq : (q, boundObj "method-wrapper" "list.__len__" acc) ∈ news) (hacc : (acc, accObj d items n) ∈ news)
    (h : Q (.int items.size s.toks) { s with toks := s.toks + 1 }) : wpAny (model P95 w) A (callWith pos (.ref q) [] (backTo pos (starEach [] env)) []) Q E s := by
  refine callWith_bound (N _ hq).1 (.inr rfl) (wpAny_call (bound_call (N _ hq).1 (.inr rfl) (fun _ _ _ z => chk_len z) (by decide +kernel) entry_list_len ?_))
  show wpAny _ _ (do let k ← seqSize acc; retInt k) _ _ s
  refine wpAny_bind (wpAny_bind (wpAny_loadPart (N _ hacc).1 (wpAny_pure ?_)))
  exact wpAny_bind (wpAny_mkInt (wpAny_pure h))
end

section
theorem sayC3_1 : True := by
  k_with "wpAt" => (ks_step "attributeBase Call"; k_here; k_dflt (refine superNode (by k_asm) (by k_asm) (by k_asm) (by k_asm) (by k_is) (by rfl) (by rfl) (acc_inst (News.get (by k_asm) (by k_mem)) (News.get (by k_asm) (by k_mem))) (by k_is) (by rfl) (by first | rfl | decide +kernel) (by k_is) (by k_is) (by k_is) (by k_is) (by decide) (by rfl) (by rfl) (by rfl) (by rfl) (by decide +kernel) (by first | boot_by_name | rfl | kernel_rfl) ?_; intro _ _ _ _ z9l1; (try (k_lt z9l1; revert z9l1; intro _))))
  trivial

theorem sayC3_2 : True := by
  k_with "getMethod ref" => (k_here; k_dflt (first | (refine' superLen (by k_asm) (by k_asm) (by k_asm) (by k_mem) (by k_mem) ?_; k_whole; intro _ _ _ _ z9l1; (try (k_lt z9l1; revert z9l1; intro _)))))
  trivial
theorem sayC3_3 : True := by
  k_with "callWith ref" => (k_here; k_dflt (first | (refine' boundLen (by k_asm) (by k_mem) (by k_mem) ?_; k_whole)))
  trivial

theorem partCount_raw {w : World} {vp : Program} {lo : List Str} {A : Around} {s : Shared} {R : Result → Shared → Prop} {B : Heap} {acc d : Addr} {items : Array Value} {n : Nat} {mg mb : Str → Option Value} {hsh sz : Int} {tk ti : Tok}
    (hB : Base w vp lo mg mb B) (st : ∀ b o, B.get? b = some o → s.heap.get? b = some o) (n1 : B.get? acc = none) (n2 : B.get? d = none)
    (hacc : s.heap.get? acc = some (accObj d items n)) (hdd : s.heap.get? d = some (accDict hsh tk sz ti)) (hA : A.depth < 900) (hU : A.units < 9000) (hz : items.size < 1000)
    (h : ∀ h' t' k', (∀ b o, s.heap.get? b = some o → h'.get? b = some o) → R (.ok (.ret (.int items.size t'))) { s with heap := h', toks := k' }) :
    codeAny (model P95 w) A (.call (.ref 182) ⟨[.ref acc], []⟩) R s := by
  have X : (top0.heap_1 w.params).In s.heap := hB.X.keeps st
  have T := hB.T.keeps st
  have hn : ∀ p ∈ [(acc, accObj d items n), (d, accDict hsh tk sz ti)], s.heap.get? p.1 = some p.2 := by
    intro q hq
    rcases List.mem_cons.mp hq with rfl | hq
    · exact hacc
    · rcases List.mem_cons.mp hq with rfl | hq
      · exact hdd
      · cases hq
  have ned : @Ne Nat acc d := by rintro rfl; rw [hacc] at hdd; cases hdd
  refine' enterS (K := top0.heap_1 w.params) (news := [(acc, accObj d items n), (d, accDict hsh tk sz ti)]) (binds := [("self", .ref acc)]) X T.nolimit hn ?k6 ?k7 (Nat.lt_trans hA (by decide)) ?k9 ?kB ?_ ?c5 ?c2 ?c3 ?c4; (case k6 => k_is); (case k7 => k_is); (case k9 => first | exact BindsTo.of_eq rfl | exact binds_K X rfl (by k_is) rfl rfl rfl); (case c5 => decide); (case kB => exact locs rfl); (case c2 => exact rfl); (case c3 => exact rfl); (case c4 => exact rfl); intro g' L' h' F' N' kg' l1
  obtain ⟨KX, T'⟩ := base_in hB st (W := [acc, d]) (by intro a ha; rcases List.mem_cons.mp ha with rfl | ha; exact n1; rcases List.mem_cons.mp ha with rfl | ha; exact n2; cases ha) kg'
  clear X T hB st
  refine noEs ?_
  k_steps
  rename Fr _ _ _ _ => F2
  rename News _ _ _ _ => N2
  refine h _ _ _ (fun b o e => ?_)
  by_cases hb : b = acc
  · subst hb; rw [hacc] at e; cases e; exact (N2 _ (.tail _ (.tail _ (.head _)))).1
  by_cases hbd : b = d
  · subst hbd; rw [hdd] at e; cases e; exact (N2 _ (.tail _ (.tail _ (.tail _ (.head _))))).1
  · exact F2.keep b o (kg' b o e (by simp [hb, hbd]))

theorem partCount_K {w : World} {vp : Program} {lo : List Str} {A : Around} {s : Shared} {E : Value → Shared → Prop} {h₀ : Heap} {L acc d : Addr} {m : Str → Option Value} {items : Array Value} {n : Nat} {mg mb : Str → Option Value} {hsh sz : Int} {tk ti : Tok} {news : List (Addr × Obj)} {Q : Value → Shared → Prop}
    (F : Fr h₀ L s.heap m) (X₀ : (top0.heap_1 w.params).In h₀) (T : TopRead vp lo mg mb h₀) (N : News h₀ L s.heap news) (hacc : (acc, accObj d items n) ∈ news) (hdd : (d, accDict hsh tk sz ti) ∈ news) (hA : A.depth < 900) (hU : A.units < 9000) (hz : items.size < 1000)
    (h : ∀ h' t' k', Fr h₀ L h' m → News h₀ L h' news → Q (.int items.size t') { s with heap := h', toks := k' }) : wpAny (model P95 w) A (call (.ref 182) [.ref acc]) Q E s :=
  wpAny_call (partCount_raw ⟨X₀, T⟩ F.keep (N _ hacc).2.2 (N _ hdd).2.2 (N _ hacc).1 (N _ hdd).1 hA hU hz fun h' t' k' keep => h h' t' k' (keep_K F N keep).1 (keep_K F N keep).2)
theorem sayC3_end : True := by
  k_with_none
  trivial
end
end
section
theorem dlt {A : Around} {env : Env} (h : A.depth < 890) : (A.deeper env).depth < 900 := by show A.depth + 1 < 900; omega
theorem ult {A : Around} {env : Env} (h : A.units < 8900) : (A.deeper env).units < 9000 := by show A.units + 3 < 9000; omega

section
variable {w : World} {A : Around} {E : Value → Shared → Prop} {s : Shared} {h₀ : Heap} {L acc d so : Addr} {m mg mb : Str → Option Value} {news news' : List (Addr × Obj)} {items : Array Value} {n en : Nat}

theorem erase_last (l : List Value) (y : Value) : (l ++ [y]).toArray.eraseIdxIfInBounds l.length = l.toArray := by
  simp [Array.eraseIdxIfInBounds, List.eraseIdx_append_of_length_le]

theorem boundPop {q : Addr} {pos : Pos} {env : Env} {l : List Value} {y : Value} {Q : Value → Shared → Prop} (F : Fr h₀ L s.heap m) (X₀ : (top0.heap_1 w.params).In h₀) (N : News h₀ L s.heap news) (hq : (q, boundObj "builtin_function_or_method" "list.pop" acc) ∈ news)
    (hacc : (acc, accObj d (l ++ [y]).toArray n) ∈ news) (hz : (l ++ [y]).toArray.size < 1000) (U : Upd acc (accObj d (l ++ [y]).toArray n) (accObj d l.toArray (n + 1)) news news')
    (h : ∀ h', Fr h₀ L h' m → News h₀ L h' news' → Q y { s with heap := h' }) : wpAny (model P95 w) A (callWith pos (.ref q) [] (backTo pos (starEach [] env)) []) Q E s := by
  have X := X₀.keeps F.keep
  refine callWith_bound (N _ hq).1 (.inl rfl) (wpAny_call (bound_call (N _ hq).1 (.inl rfl) (fun _ _ _ z => chk_pop X (N _ hacc).1 (by k_is) (by k_is) (by kernel_rfl) (by k_is) z) (by decide +kernel) PySem.F.entry_list_pop ?_))
  have hl := (N _ hacc).1
  have hsz : (l ++ [y]).toArray.size = l.length + 1 := by simp
  have hk : seqIndex? (-1) (l ++ [y]).toArray.size = some l.length := by rw [hsz, seqIndex_neg (by omega) (by omega)]; congr 1; omega
  have hy : (l ++ [y]).toArray[l.length]? = some y := by simp
  have hne : ¬ (l ++ [y]).toArray.isEmpty = true := by simp
  have hs1 : (l ++ [y]).toArray.size ≤ sizeLine := by rw [sizeLine_eq]; omega
  unfold Builtin.«list.pop»
  obtain ⟨hh, g, dd, t, os⟩ := s
  repeat (first | (with_reducible refine wpAny_loadPart hl ?_) | lk)
  rw [if_neg hne]
  simp only [hk, hy, Option.bind_some, Option.map_some]
  have hz' : ((l ++ [y]).toArray.eraseIdxIfInBounds l.length).size ≤ sizeLine + 1 := by rw [erase_last]; simp at hs1 ⊢; omega
  refine wpAny_bind (wpAny_updateSeq hl rfl (hz := hs1) (_hz' := hz') (wpAny_pure ?_))
  have e := mapSeq_acc (f := fun x => x.eraseIdxIfInBounds l.length) (items := (l ++ [y]).toArray) (n := n) (m := n + 1) (d := d) (by rw [erase_last]; simp)
  rw [erase_last] at e
  have ho : (hh.update acc (Obj.mapSeq fun x => x.eraseIdxIfInBounds l.length)).get? acc = some (accObj d l.toArray (n + 1)) := by rw [Heap.get?_update_self _ hl (by rw [e]; rfl), e]
  obtain ⟨F', N'⟩ := upd_K F N U (Heap.SameBut.update ..) ho
  exact h _ F' N'
end

section
theorem sayC4_1 : True := by
  k_with "wpAt" => (ks_step "attributeBase Call"; k_here; k_dflt (refine superNode (by k_asm) (by k_asm) (by k_asm) (by k_asm) (by k_is) (by rfl) (by rfl) (acc_inst (News.get (by k_asm) (by k_mem)) (News.get (by k_asm) (by k_mem))) (by k_is) (by rfl) (by first | rfl | decide +kernel) (by k_is) (by k_is) (by k_is) (by k_is) (by decide) (by rfl) (by rfl) (by rfl) (by rfl) (by decide +kernel) (by first | boot_by_name | rfl | kernel_rfl) ?_; intro _ _ _ _ z9l1; (try (k_lt z9l1; revert z9l1; intro _))))
  trivial
theorem sayC4_2 : True := by
  k_with "getMethod ref" => (k_here; k_dflt (first | (refine' acc_getMethod (by k_in) (by exact News.get (by k_asm) (by k_mem)) (by exact News.get (by k_asm) (by k_mem)) (by k_is) (by k_is) (by k_is) (by k_is) (by decide) (by k_get) ?_) | (refine' superPop (by k_asm) (by k_asm) (by k_asm) (by k_mem) (by k_mem) ?_; k_whole; intro _ _ _ _ z9l1; (try (k_lt z9l1; revert z9l1; intro _)))))
  trivial
theorem sayC4_3 : True := by
  k_with "callWith ref" => (k_here; k_dflt (refine' boundPop (by k_asm) (by k_asm) (by k_asm) (by k_mem) (by k_mem) (by assumption) (by k_upd) ?_; k_whole); intro _ _ _; (try k_sweep))
  trivial
theorem sayC4_4 : True := by
  k_with "call ref" => (k_here; k_dflt (refine' partCount_K (by k_asm) (by k_asm) (by k_asm) (by k_asm) (by k_mem) (by k_mem) (by exact dlt (by assumption)) (by exact ult (by assumption)) (by assumption) ?_; k_whole); intro _ _ _ _ _; (try k_sweep))
  trivial

theorem sayC4_5 : True := by
  k_with "wpAt" => (dsimp only; ks_step "execs cons"; refine ks_wpAt_execs_cons ?_)
  trivial

theorem sayC4_6 : True := by
  k_with "wpAt" => ((try dsimp only); ks_step "eval Call"; k_dflt (refine ks_wpAt_MethodCall ?_))
  trivial

theorem pop_raw {l : List Value} {y : Value} {w : World} {vp : Program} {lo : List Str} {A : Around} {s : Shared} {R : Result → Shared → Prop} {B : Heap} {acc d : Addr} {n : Nat} {mg mb : Str → Option Value} {hsh sz : Int} {tk ti : Tok}
    (hB : Base w vp lo mg mb B) (st : ∀ b o, B.get? b = some o → s.heap.get? b = some o) (n1 : B.get? acc = none) (n2 : B.get? d = none)
    (hacc : s.heap.get? acc = some (accObj d (l ++ [y]).toArray n)) (hdd : s.heap.get? d = some (accDict hsh tk sz ti)) (hA : A.depth < 890) (hU : A.units < 8900) (hz : ((l ++ [y]).toArray : Array Value).size < 1000)
    (h : ∀ h' n' k', (∀ b o, b ≠ acc → s.heap.get? b = some o → h'.get? b = some o) → h'.get? acc = some (accObj d l.toArray n') → R (.ok (.ret y)) { s with heap := h', toks := k' }) :
    codeAny (model P95 w) A (.call (.ref 145) ⟨[.ref acc], []⟩) R s := by
  have X : (top0.heap_1 w.params).In s.heap := hB.X.keeps st
  have T := hB.T.keeps st
  have hn : ∀ p ∈ [(acc, accObj d (l ++ [y]).toArray n), (d, accDict hsh tk sz ti)], s.heap.get? p.1 = some p.2 := by
    intro q hq
    rcases List.mem_cons.mp hq with rfl | hq
    · exact hacc
    · rcases List.mem_cons.mp hq with rfl | hq
      · exact hdd
      · cases hq
  have ned : @Ne Nat acc d := by rintro rfl; rw [hacc] at hdd; cases hdd
  refine' enterS (K := top0.heap_1 w.params) (news := [(acc, accObj d (l ++ [y]).toArray n), (d, accDict hsh tk sz ti)]) (binds := [("self", .ref acc)]) X T.nolimit hn ?k6 ?k7 (Nat.lt_trans hA (by decide)) ?k9 ?kB ?_ ?c5 ?c2 ?c3 ?c4; (case k6 => k_is); (case k7 => k_is); (case k9 => first | exact BindsTo.of_eq rfl | exact binds_K X rfl (by k_is) rfl rfl rfl); (case c5 => decide); (case kB => exact locs rfl); (case c2 => exact rfl); (case c3 => exact rfl); (case c4 => exact rfl); intro g' L' h' F' N' kg' l1
  obtain ⟨KX, T'⟩ := base_in hB st (W := [acc, d]) (by intro a ha; rcases List.mem_cons.mp ha with rfl | ha; exact n1; rcases List.mem_cons.mp ha with rfl | ha; exact n2; cases ha) kg'
  clear X T hB st
  refine noEs ?_
  have hpos : 0 < ((l ++ [y]).toArray : Array Value).size := by simp
  k_steps
  · exfalso; omega
  · rename Fr _ _ _ _ => F2
    rename News _ _ _ _ => N2
    refine h _ _ _ (fun b o hb e => ?_) (N2 _ (.tail _ (.tail _ (.head _)))).1
    by_cases hbd : b = d
    · subst hbd; rw [hdd] at e; cases e; exact (N2 _ (.tail _ (.tail _ (.tail _ (.head _))))).1
    · exact F2.keep b o (kg' b o e (by simp [hb, hbd]))

theorem pop_raw0 {w : World} {vp : Program} {lo : List Str} {A : Around} {s : Shared} {R : Result → Shared → Prop} {B : Heap} {acc d : Addr} {n : Nat} {mg mb : Str → Option Value} {hsh sz : Int} {tk ti : Tok}
    (hB : Base w vp lo mg mb B) (st : ∀ b o, B.get? b = some o → s.heap.get? b = some o) (n1 : B.get? acc = none) (n2 : B.get? d = none)
    (hacc : s.heap.get? acc = some (accObj d #[] n)) (hdd : s.heap.get? d = some (accDict hsh tk sz ti)) (hA : A.depth < 890) (hU : A.units < 8900) (hz : (#[] : Array Value).size < 1000)
    (h : ∀ t t1 t2 h' k', (∀ b o, s.heap.get? b = some o → h'.get? b = some o) → s.heap.get? t = none → h'.get? t = some (tupObj (.str "" t1) (.str "" t2)) → R (.ok (.ret (.ref t))) { s with heap := h', toks := k' }) :
    codeAny (model P95 w) A (.call (.ref 145) ⟨[.ref acc], []⟩) R s := by
  have X : (top0.heap_1 w.params).In s.heap := hB.X.keeps st
  have T := hB.T.keeps st
  have hn : ∀ p ∈ [(acc, accObj d #[] n), (d, accDict hsh tk sz ti)], s.heap.get? p.1 = some p.2 := by
    intro q hq
    rcases List.mem_cons.mp hq with rfl | hq
    · exact hacc
    · rcases List.mem_cons.mp hq with rfl | hq
      · exact hdd
      · cases hq
  have ned : @Ne Nat acc d := by rintro rfl; rw [hacc] at hdd; cases hdd
  refine' enterS (K := top0.heap_1 w.params) (news := [(acc, accObj d #[] n), (d, accDict hsh tk sz ti)]) (binds := [("self", .ref acc)]) X T.nolimit hn ?k6 ?k7 (Nat.lt_trans hA (by decide)) ?k9 ?kB ?_ ?c5 ?c2 ?c3 ?c4; (case k6 => k_is); (case k7 => k_is); (case k9 => first | exact BindsTo.of_eq rfl | exact binds_K X rfl (by k_is) rfl rfl rfl); (case c5 => decide); (case kB => exact locs rfl); (case c2 => exact rfl); (case c3 => exact rfl); (case c4 => exact rfl); intro g' L' h' F' N' kg' l1
  obtain ⟨KX, T'⟩ := base_in hB st (W := [acc, d]) (by intro a ha; rcases List.mem_cons.mp ha with rfl | ha; exact n1; rcases List.mem_cons.mp ha with rfl | ha; exact n2; cases ha) kg'
  clear X T hB st
  refine noEs ?_
  have hpos : ((#[] : Array Value).size : Int) = 0 := rfl
  k_steps
  rename Fr _ _ _ _ => F2
  rename News _ _ _ _ => N2
  refine h _ _ _ _ _ (fun b o e => ?_) (fresh_of kg' (N2 _ (.head _)).2.2 (by intro hm; simp only [List.map_cons, List.map_nil, List.mem_cons, List.not_mem_nil, or_false] at hm; rcases hm with e | e <;> (replace e := eqN e; omega))) (N2 _ (.head _)).1
  by_cases hb : b = acc
  · subst hb; rw [hacc] at e; cases e; exact (N2 _ (.tail _ (.head _))).1
  by_cases hbd : b = d
  · subst hbd; rw [hdd] at e; cases e; exact (N2 _ (.tail _ (.tail _ (.head _)))).1
  · exact F2.keep b o (kg' b o e (by simp [hb, hbd]))
theorem sayC4_end : True := by
  k_with_none
  trivial
end

section
theorem sayC4x_1 : True := by
  k_with "getAttr ref" => (k_here; k_dflt (refine' getAttr_accK (by k_asm) (by k_asm) (by k_asm) (by k_mem) (by k_mem) (by k_is) (by k_is) (by k_is) (by k_is) (by k_is) (by k_get) (by k_handed) ?_; k_whole))
  trivial

theorem onlyws_raw {w : World} {vp : Program} {lo : List Str} {A : Around} {s : Shared} {R : Result → Shared → Prop} {B : Heap} {acc d : Addr} {items : Array Value} {n : Nat} {mg mb : Str → Option Value} {hsh sz : Int} {tk ti : Tok}
    (hB : Base w vp lo mg mb B) (st : ∀ b o, B.get? b = some o → s.heap.get? b = some o) (n1 : B.get? acc = none) (n2 : B.get? d = none)
    (hacc : s.heap.get? acc = some (accObj d items n)) (hdd : s.heap.get? d = some (accDict hsh tk sz ti)) (hA : A.depth < 900) (hU : A.units < 9000) (hz : items.size < 1000) (hpos : 0 < sz)
    (h : ∀ h' k', (∀ b o, s.heap.get? b = some o → h'.get? b = some o) → R (.ok (.ret (.bool false))) { s with heap := h', toks := k' }) :
    codeAny (model P95 w) A (.call (.ref 174) ⟨[.ref acc], []⟩) R s := by
  have X : (top0.heap_1 w.params).In s.heap := hB.X.keeps st
  have T := hB.T.keeps st
  have hn : ∀ p ∈ [(acc, accObj d items n), (d, accDict hsh tk sz ti)], s.heap.get? p.1 = some p.2 := by
    intro q hq
    rcases List.mem_cons.mp hq with rfl | hq
    · exact hacc
    · rcases List.mem_cons.mp hq with rfl | hq
      · exact hdd
      · cases hq
  have ned : @Ne Nat acc d := by rintro rfl; rw [hacc] at hdd; cases hdd
  refine' enterK (K := top0.heap_1 w.params) (news := [(acc, accObj d items n), (d, accDict hsh tk sz ti)]) (binds := [("self", .ref acc)]) X T.nolimit hn ?k6 ?k7 (Nat.lt_trans hA (by decide)) ?k9 ?kB ?_ ?c5 ?c2 ?c3 ?c4; (case k6 => k_is); (case k7 => k_is); (case k9 => first | exact BindsTo.of_eq rfl | exact binds_K X rfl (by k_is) rfl rfl rfl); (case c5 => decide); (case kB => exact locs rfl); (case c2 => exact rfl); (case c3 => exact rfl); (case c4 => exact rfl); intro g' L' h' F' N' kg' l1
  obtain ⟨KX, T'⟩ := base_in hB st (W := [acc, d]) (by intro a ha; rcases List.mem_cons.mp ha with rfl | ha; exact n1; rcases List.mem_cons.mp ha with rfl | ha; exact n2; cases ha) kg'
  clear X T hB st
  refine noE ?_
  k_fold
  have hz0 : (sz == 0) = false := by simp; omega
  k_steps
  rename Fr _ _ _ _ => F2
  rename News _ _ _ _ => N2
  show R (.ok (.ret (.bool (sz == 0)))) _
  rw [hz0]
  refine h _ _ (fun b o e => ?_)
  by_cases hb : b = acc
  · subst hb; rw [hacc] at e; cases e; exact (N2 _ (.head _)).1
  by_cases hbd : b = d
  · subst hbd; rw [hdd] at e; cases e; exact (N2 _ (.tail _ (.head _))).1
  · exact F2.keep b o (kg' b o e (by simp [hb, hbd]))
theorem sayC4x_end : True := by
  k_with_none
  trivial
end

theorem boundInit {w : World} {A : Around} {E : Value → Shared → Prop} {s : Shared} {h₀ : Heap} {L acc d : Addr} {m : Str → Option Value} {news news' : List (Addr × Obj)} {n : Nat} {q : Addr} {pos : Pos} {env : Env} {Q : Value → Shared → Prop} (F : Fr h₀ L s.heap m) (N : News h₀ L s.heap news) (hq : (q, boundObj "method-wrapper" "list.__init__" acc) ∈ news) (hacc : (acc, accObj d #[] n) ∈ news)
    (U : Upd acc (accObj d #[] n) (accObj d #[] n) news news')
    (h : ∀ h', Fr h₀ L h' m → News h₀ L h' news' → Q .none { s with heap := h' }) : wpAny (model P95 w) A (callWith pos (.ref q) [] (backTo pos (starEach [] env)) []) Q E s := by
  refine callWith_bound (N _ hq).1 (.inr rfl) (wpAny_call (bound_call (N _ hq).1 (.inr rfl) (fun _ _ _ z => chk_init z) (by decide +kernel) PySem.F.entry_list_init ?_))
  have hl := (N _ hacc).1
  unfold Builtin.«list.__init__»
  obtain ⟨hh, g, dd, t, os⟩ := s
  have hs1 : (#[] : Array Value).size ≤ sizeLine := by rw [sizeLine_eq]; simp
  repeat (first | (with_reducible refine wpAny_loadPart hl ?_) | (with_reducible refine wpAny_updateSeq hl rfl ?_ (hz := hs1) (_hz' := Nat.le_succ_of_le hs1)) | lk)
  have e := mapSeq_acc (f := fun _ => #[]) (items := #[]) (n := n) (m := n) (d := d) rfl
  have ho : (hh.update acc (Obj.mapSeq fun _ => #[])).get? acc = some (accObj d #[] n) := by rw [Heap.get?_update_self _ hl (by rw [e]; rfl), e]
  obtain ⟨F', N'⟩ := upd_K F N U (Heap.SameBut.update ..) ho
  exact h _ F' N'

section
theorem sayC4xx_1 : True := by
  k_with "wpAt" => (ks_step "attributeBase Call"; k_here; k_dflt (refine superNode (by k_asm) (by k_asm) (by k_asm) (by k_asm) (by k_is) (by rfl) (by rfl) (acc_inst (News.get (by k_asm) (by k_mem)) (News.get (by k_asm) (by k_mem))) (by k_is) (by rfl) (by first | rfl | decide +kernel) (by k_is) (by k_is) (by k_is) (by k_is) (by decide) (by rfl) (by rfl) (by rfl) (by rfl) (by decide +kernel) (by first | boot_by_name | rfl | kernel_rfl) ?_; intro _ _ _ _ z9l1; (try (k_lt z9l1; revert z9l1; intro _))))
  trivial
theorem sayC4xx_2 : True := by
  k_with "wpAt" => ((try dsimp only); ks_step "exec Expr"; k_dflt (refine ks_wpAt_Expr_any ?_))
  trivial
theorem sayC4xx_3 : True := by
  k_with "getMethod ref" => (k_here; k_dflt (refine' superInit (by k_asm) (by k_asm) (by k_asm) (by k_mem) (by k_mem) ?_; k_whole; intro _ _ _ _ z9l1; (try (k_lt z9l1; revert z9l1; intro _))))
  trivial
theorem sayC4xx_4 : True := by
  k_with "callWith ref" => (k_here; k_dflt (refine' boundInit (by k_asm) (by k_asm) (by k_mem) (by k_mem) (by k_upd) ?_; k_whole); intro _ _ _; (try k_sweep))
  trivial
theorem sayC4xx_5 : True := by
  k_with "wpAt" => (dsimp only; ks_step "execs cons"; refine ks_wpAt_execs_cons ?_)
  trivial
theorem sayC4xx_6 : True := by
  k_with "wpAt" => ((try dsimp only); ks_step "eval Call"; k_dflt (refine ks_wpAt_MethodCall ?_))
  trivial
theorem sayC4xx_7 : True := by
  k_with "setAttr ref" => (k_here; k_dflt (refine' setAttr_accK (by k_asm) (by k_asm) (by k_asm) (by k_mem) (by k_mem) (by k_is) (by k_is) (by rfl) (by rfl) (by k_is) (by k_get) (by k_put) (by k_upd) (by simp) ?_; k_whole); intro _ _ _; (try k_sweep))
  trivial

theorem init_raw {w : World} {vp : Program} {lo : List Str} {A : Around} {s : Shared} {R : Result → Shared → Prop} {B : Heap} {acc d : Addr} {n : Nat} {mg mb : Str → Option Value} {sz : Int} {ti : Tok}
    (hB : Base w vp lo mg mb B) (st : ∀ b o, B.get? b = some o → s.heap.get? b = some o) (n1 : B.get? acc = none) (n2 : B.get? d = none)
    (hacc : s.heap.get? acc = some (accObj d #[] n)) (hdd : s.heap.get? d = some (dictOf [] 0)) (hA : A.depth < 890) (hU : A.units < 8900)
    (h : ∀ h' hsh tk k', (∀ b o, b ≠ acc → b ≠ d → s.heap.get? b = some o → h'.get? b = some o) → h'.get? acc = some (accObj d #[] n) → h'.get? d = some (accDict hsh tk sz ti) → R (.ok (.ret .none)) { s with heap := h', toks := k' }) :
    codeAny (model P95 w) A (.call (.ref 122) ⟨[.ref acc, .int sz ti], []⟩) R s := by
  have X : (top0.heap_1 w.params).In s.heap := hB.X.keeps st
  have T := hB.T.keeps st
  have hn : ∀ p ∈ [(acc, accObj d #[] n), (d, dictOf [] 0)], s.heap.get? p.1 = some p.2 := by
    intro q hq
    rcases List.mem_cons.mp hq with rfl | hq
    · exact hacc
    · rcases List.mem_cons.mp hq with rfl | hq
      · exact hdd
      · cases hq
  have ned : @Ne Nat acc d := by rintro rfl; rw [hacc] at hdd; cases hdd
  refine' enterS (K := top0.heap_1 w.params) (news := [(acc, accObj d #[] n), (d, dictOf [] 0)]) (binds := [("self", .ref acc), ("initial_size", .int sz ti)]) X T.nolimit hn ?k6 ?k7 (Nat.lt_trans hA (by decide)) ?k9 ?kB ?_ ?c5 ?c2 ?c3 ?c4; (case k6 => k_is); (case k7 => k_is); (case k9 => first | exact BindsTo.of_eq rfl | exact binds_K X rfl (by k_is) rfl rfl rfl); (case c5 => decide); (case kB => exact locs rfl); (case c2 => exact rfl); (case c3 => exact rfl); (case c4 => exact rfl); intro g' L' h' F' N' kg' l1
  obtain ⟨KX, T'⟩ := base_in hB st (W := [acc, d]) (by intro a ha; rcases List.mem_cons.mp ha with rfl | ha; exact n1; rcases List.mem_cons.mp ha with rfl | ha; exact n2; cases ha) kg'
  clear X T hB st
  refine noEs ?_
  k_steps
  rename Fr _ _ _ _ => F2
  rename News _ _ _ _ => N2
  exact h _ _ _ _ (fun b o hb hbd e => F2.keep b o (kg' b o e (by simp [hb, hbd]))) (N2 _ (.tail _ (.tail _ (.head _)))).1 (N2 _ (.tail _ (.tail _ (.tail _ (.head _))))).1
theorem sayC4xx_end : True := by
  k_with_none
  trivial
end
end
section
/-- a part of the accumulator: the pair's address, the white signs, the text -/
structure Part where
  T : Addr
  f : Str
  tf : Tok
  p : Str
  tp : Tok
def Part.zero : Part := ⟨0, "", default, "", default⟩
abbrev Part.obj (q : Part) : Obj := tupObj (.str q.f q.tf) (.str q.p q.tp)
def itemsOf (ps : List Part) : Array Value := (ps.map fun q => Value.ref q.T).toArray
def Parts (h : Heap) (ps : List Part) : Prop := ∀ q ∈ ps, h.get? q.T = some q.obj
theorem itemsOf_size (ps : List Part) : (itemsOf ps).size = ps.length := by simp [itemsOf]
theorem itemsOf_get {ps : List Part} {k : Nat} (hk : k < (itemsOf ps).size) : (itemsOf ps)[k]? = some (.ref (ps.getD k Part.zero).T) := by
  rw [itemsOf_size] at hk
  simp [itemsOf, hk]
theorem getD_mem {ps : List Part} {k : Nat} (hk : k < (itemsOf ps).size) : ps.getD k Part.zero ∈ ps := by
  rw [itemsOf_size] at hk
  rw [List.getD_eq_getElem?_getD, List.getElem?_eq_getElem hk]
  exact List.getElem_mem hk

def Tab (h : Heap) (c P : Addr) : Prop := ∃ ps, h.IsCode c P ps ∧ h.TableAt c P ps
theorem Tab.keeps {h h' : Heap} {c P : Addr} (x : Tab h c P) (hk : ∀ b o, h.get? b = some o → h'.get? b = some o) : Tab h' c P := let ⟨ps, a, b⟩ := x; ⟨ps, a.keeps hk, b.keeps hk⟩
theorem Tab.upTo {h h' : Heap} {c P : Addr} (x : Tab h c P) (hc : ∀ o, h.get? c = some o → h'.get? c = some o) (hP : ∀ o, h.get? P = some o → h'.get? P = some o) : Tab h' c P := by
  obtain ⟨ps, ⟨o, vs, file, tf, flags, tg, inF, text, tt, op, a, r1, r2, r3, r4, r5, r6, b, r⟩, ⟨⟨o', vs', e, r'⟩, t⟩⟩ := x
  exact ⟨ps, ⟨o, vs, file, tf, flags, tg, inF, text, tt, op, hc _ a, r1, r2, r3, r4, r5, r6, hP _ b, r⟩, ⟨⟨o', vs', hc _ e, r'⟩, hP _ t⟩⟩

theorem genexprCodeT {M : Model} {A : Around} {E : Value → Shared → Prop} {s : Shared} {env : Env} {c P : Addr} {pos : Pos} {qualname : Str} {scope : Scope}
    {Q : Value → Shared → Prop} (hc : env.code = .ref c) (ht : Tab s.heap c P)
    (hQ : ∀ code h' tk, Heap.ExtBut P s.heap h' → s.heap.objs.size ≤ h'.objs.size → Tab h' c P → Q code { s with heap := h', toks := tk }) :
    wpAny M A (genexprCode env pos qualname scope) Q E s := by
  obtain ⟨ps, hok, htab⟩ := id ht
  cases hf : codeAmong pos ps.toList with
  | none => exact wpAny_genexprCodeX hc hok htab hf fun c' h' tk hx hge hlt hcode _ htab' _ => hQ _ _ _ hx (Nat.le_trans hge (Nat.le_of_lt hlt)) ⟨_, hcode, htab'⟩
  | some x =>
    obtain ⟨o, vs, file, tf, flags, tg, inF, text, tt, op, ho, hd, h11, h2, h7, h9, h10, hop, hpd, htr, hne⟩ := id hok
    unfold genexprCode codeAt
    rw [hc, if_neg (show ¬ ((Value.ref c == Value.none) = true) from Bool.false_ne_true)]
    refine wpAny_bind (wpAny_fieldsOf ho hd ?_)
    rw [h11]
    refine wpAny_bind (wpAny_fieldsOf hop hpd ?_)
    rw [hf]
    exact wpAny_pure (hQ _ _ s.toks (fun _ _ _ e => e) (Nat.le_refl _) ht)

section
variable {prog : Program} {w : World} {A : Around} {E : Value → Shared → Prop} {s : Shared}
theorem args_sum2 (a : Value) (k : Int) (t : Tok) : argsOk "sum" ⟨[a, .int k t], []⟩ := by unfold argsOk; kernel_rfl

def shiftF {α : Type} (z : α) (f : Nat → α) : Nat → α | 0 => z | n + 1 => f n
theorem preSum_shift (k : Int) (val : Nat → Int) : ∀ n, preSum (shiftF k val) (n + 1) = k + preSum val n
  | 0 => by simp [preSum, shiftF]
  | n + 1 => by rw [preSum, preSum_shift k val n]; simp only [shiftF, preSum]; omega

theorem WalksS.shift {I : Addr} {fp wr : List Addr} {G : Array GenState → Array GenState → Prop} {n : Nat} {P : Nat → Value → Prop} {St : Nat → Shared → Prop} (W : WalksS prog w A I fp wr G n P St) :
    WalksS prog w A I fp wr G (n + 1) (shiftF (fun _ => False) P) (shiftF (fun _ => False) St) where
  sub := W.sub
  grefl := W.grefl
  gtrans := W.gtrans
  frame := fun i s h' tk st htk hk => by
    cases i with
    | zero => exact st.elim
    | succ i => exact W.frame i s h' tk st htk hk
  item := fun i s Q E hi st hQ => by
    cases i with
    | zero => exact st.elim
    | succ i => exact W.item i s Q E (by omega) st hQ
  done := W.done
  self := fun i s Q E st hQ => by
    cases i with
    | zero => exact st.elim
    | succ i => exact W.self i s Q E st hQ

theorem sum_start {x : Value} {k : Int} {t : Tok} {Q : Value → Shared → Prop}
    (h : wpAny (model prog w) A.in1 (pyIter x) (fun it s₂ => ∃ I fp wr G n P St val, it = .ref I ∧ WalksS prog w A.in1 I fp wr G n P St ∧ St 0 s₂ ∧ (∀ b ∈ fp, b < s₂.heap.objs.size) ∧
      (∀ i v, P i v → ∃ t, v = .int (val i) t) ∧ InLong k ∧ (∀ j, j < n → InLong (val j) ∧ InLong (k + preSum val (j + 1))) ∧
      ∀ s' t', Moved wr G s₂ s' → Q (.int (k + preSum val n) t') s') E s) :
    wpAny (model prog w) A (call (.builtin "sum") [x, .int k t]) Q E s := by
  refine call_function_tree F.kind_sum F.plain_sum F.entry_sum (args_sum2 _ _ _) ?_
  unfold Builtin.«sum»
  simp only [List.length_cons, List.length_nil]
  rw [if_neg (by decide)]
  refine wpAny_bind (wpAny_of_eq (show Builtin.Builtins.bindParams "sum" ["start"] 0 ⟨[.int k t], []⟩ = pure [some (.int k t)] from rfl) ?_)
  refine wpAny_bind (wpAny_mono h (fun it s₂ h₂ => ?_) fun _ _ e => e)
  obtain ⟨I, fp, wr, G, n, P, St, val, rfl, W, hst, hfp, hval, hk, hfit, hQ⟩ := h₂
  have hfl : (decide (-(2 ^ 63) ≤ k) && decide (k < 2 ^ 63)) = true := by
    obtain ⟨h1, h2⟩ := hk
    simp only [Bool.and_eq_true, decide_eq_true_eq]
    exact ⟨h1, h2⟩
  dsimp only
  split
  case isFalse hneg => exact absurd hfl hneg
  refine wpAny_bind (wpAny_rule ?_)
  refine wpAny_bind (wpAny_mkInt ?_)
  refine wpAny_bind ?_
  refine wpAny_pure ?_
  simp only [List.forIn_cons, List.forIn_nil]
  refine wpAny_bind (wpAny_bind (wpAny_bind (wpAny_isInstance (T := "int") (b := false) (typeIs_int _ _ _) PySem.sub_int_str ?_)))
  simp only [Bool.false_eq_true, if_false]
  refine wpAny_pure (wpAny_bind (wpAny_bind (wpAny_isInstance (T := "int") (b := false) (typeIs_int _ _ _) PySem.sub_int_bytes ?_)))
  simp only [Bool.false_eq_true, if_false]
  refine wpAny_pure (wpAny_bind (wpAny_bind (wpAny_isInstance (T := "int") (b := false) (typeIs_int _ _ _) PySem.sub_int_bytearray ?_)))
  simp only [Bool.false_eq_true, if_false]
  refine wpAny_pure (wpAny_pure ?_)
  refine wpAny_bind (wpAny_newObj_type ?_)
  have hSf : s₂.heap.objs.size ∉ fp := fun hm => Nat.lt_irrefl _ (hfp _ hm)
  have fit : ∀ j, j < n + 1 → InLong (shiftF k val j) ∧ InLong (preSum (shiftF k val) (j + 1)) := by
    intro j hj
    cases j with
    | zero => exact ⟨hk, by rw [preSum_shift]; simpa [preSum] using hk⟩
    | succ j => rw [preSum_shift]; exact hfit j (by omega)
  have e1 : preSum (shiftF k val) 1 = k := by rw [preSum_shift]; simp [preSum]
  refine wpAny_pure ⟨plainId_quiet F.plain_sum_loop _, codeAny_sum_loopS (WalksS.shift W) (shiftF k val) (fun i v hP => by cases i with | zero => exact hP.elim | succ i => exact hval i v hP) fit s₂.heap.objs.size hSf n 1 _ s₂.toks 0 (by omega) (by omega)
    (W.frame 0 s₂ _ _ hst (by first | exact Nat.le_refl _ | exact Nat.le_succ _ | omega) fun b _ o e => Heap.get?_push_of_some _ e) (by rw [e1]; exact Heap.get?_push_size _ rfl) fun s' t' hm => ?_⟩
  rw [preSum_shift]
  exact hQ s' t' (hm.drop_new (by first | exact Nat.le_refl _ | exact Nat.le_succ _ | omega))
end
end
section
def GenN (prog : Program) (w : World) (A : Around) (n0 a n : Nat) (F : Nat → Value → Prop) (s : Shared) : Prop :=
  ∃ fp wr g St, WalksS prog w A.in4 a fp wr (GenOnlyQ g) n F St ∧ St 0 s ∧ (∀ i s', St i s' → s'.TypeIs (.ref a) "generator") ∧ a ∈ fp ∧ (∀ b ∈ fp, b < s.heap.objs.size) ∧ ∀ b ∈ wr, n0 ≤ b

theorem passing_all (n : Nat) : ∀ k i, n - i = k → i ≤ n → passing (fun _ => true) n i = (List.range n).drop i
  | 0, i, hk, hi => by
    have : i = n := by omega
    subst this
    rw [passing_end]; simp
  | k + 1, i, hk, hi => by
    have hlt : i < n := by omega
    have e := passing_all n k (i + 1) (by omega) hlt
    rw [passing_true hlt rfl, e]
    conv => rhs; rw [List.drop_eq_getElem_cons (by simpa using hlt)]
    simp
theorem passing_all0 (n : Nat) : passing (fun _ => true) n 0 = List.range n := by simpa using passing_all n n 0 (by omega) (by omega)

def Mods (B : Heap) (mg : Str → Option Value) : Prop := ∃ bm ob, BMod B mainGlobals mg bm ob
theorem Mods.keeps {h h' : Heap} {mg : Str → Option Value} (x : Mods h mg) (hk : ∀ b o, h.get? b = some o → h'.get? b = some o) : Mods h' mg := let ⟨bm, ob, M⟩ := x; ⟨bm, ob, M.keeps hk⟩

theorem walkParts2 {prog : Program} {w : World} {A : Around} (hh : A.handled = none) (I ax : Addr) (hne : ax ≠ I) (items : Array Value) (Ts : Nat → Addr) (vals : Nat → Array Value)
    (hit : ∀ j, j < items.size → items[j]? = some (.ref (Ts j))) (hTI : ∀ j, j < items.size → Ts j ≠ I) :
    WalksU prog w A I (I :: ax :: (List.range items.size).map Ts) [I] items.size (fun j v => v = vals j ∧ j < items.size)
      (fun j h => h.IsListIter I ax j ∧ SeqIs h ax items ∧ ∀ k, k < items.size → h.IsTuple (Ts k) (vals k))
      (fun j T h => (j < items.size ∧ T = Ts j) ∧ h.IsListIter I ax (j + 1) ∧ SeqIs h ax items ∧ ∀ k, k < items.size → h.IsTuple (Ts k) (vals k)) :=
  let W := walkParts (prog := prog) (w := w) hh I ax hne items Ts vals hit hTI
  ⟨W.sub, W.frame, fun i s Q E hi st hQ => W.item i s Q E hi st fun T v h tk hv => hQ T v h tk ⟨hv, hi⟩, W.go, W.apart, W.done, W.self⟩

theorem WalksS.monoP {prog : Program} {w : World} {A : Around} {I : Addr} {fp wr : List Addr} {G : Array GenState → Array GenState → Prop} {n : Nat} {P P' : Nat → Value → Prop} {St : Nat → Shared → Prop} (W : WalksS prog w A I fp wr G n P St) (h : ∀ i v, P i v → P' i v) :
    WalksS prog w A I fp wr G n P' St :=
  ⟨W.sub, W.grefl, W.gtrans, W.frame, fun i s Q E hi st hQ => W.item i s Q E hi st fun v s' hv => hQ v s' (h i v hv), W.done, W.self⟩

section
variable {w : World} {A : Around} {E : Value → Shared → Prop} {s : Shared} {g : Heap} {L acc d c P : Addr} {m mg mb : Str → Option Value} {news : List (Addr × Obj)} {n : Nat} {ps : List Part} {vp : Program} {lo : List Str}

theorem genParts {env : Env} {elt : Expr} {xa xb : Str} {p0 p1 p2 pt : Pos} {kt : Nat} {scope : Scope} {cl : List (Str × Addr)} {pos : Pos} {Q : Value → Shared → Prop} {F : Nat → Value → Prop}
    (Fh : Fr g L s.heap m) (X₀ : (top0.heap_1 w.params).In g) (T : TopRead vp lo mg mb g) (hM : Mods g mg) (hacc : s.heap.get? acc = some (accObj d (itemsOf ps) n)) (hps : Parts s.heap ps)
    (hG : AllBare s.gens) (hcode : env.code = .ref c) (hgl : env.globals = mainGlobals) (ht : Tab s.heap c P) (hgP : g.get? P = none)
    (hself : m "self" = some (.ref acc)) (hek : env.scope.kind = .function) (hel : env.kindOf "self" = some .local) (heL : env.locals = L)
    (hh : A.handled = none) (hco : scope.isCoroutine = false) (hclos : closureFor scope env = pure cl) (hcell : ∀ y ∈ scope.names, y.2 ≠ .cell) (h0 : scope.names.lookup (".0" : Str) = some NameKind.local)
    (hxa : scope.names.lookup xa = some .local) (hxb : scope.names.lookup xb = some .local) (hab : xa ≠ xb) (hkind : scope.kind = .function) (hroom : A.depth < recursionLimit)
    (elem : ∀ (code : Value) (C : Addr) (A' : Around) E' (q : Part) i (t : Shared) m₂, A'.handled = none → A'.depth ≤ A.depth + 1 → A'.units ≤ A.units + 8 → ps[i]? = some q → Fr g C t.heap m₂ → m₂ xa = some (.str q.f q.tf) → m₂ xb = some (.str q.p q.tp) →
      wpAny (model P95 w) A' (eval elt (genEnv scope cl C code builtinsNs env)) (fun y s₃ => F i y ∧ Keeps t s₃) E' t)
    (hQ : ∀ a s₅, (∀ b o, b ≠ P → s.heap.get? b = some o → s₅.heap.get? b = some o) → Fr g L s₅.heap m → Tab s₅.heap c P → AllBare s₅.gens → s₅.os = s.os → s₅.drawn = s.drawn → GenN P95 w A s.heap.objs.size a ps.length F s₅ → Q (.ref a) s₅)
    (hs : ∀ x, genFold (.Name "self" p0) env x = pure x) :
    wpAny (model P95 w) A (eval (.GeneratorExp elt [⟨.Tuple [.Name xa p1, .Name xb p2] kt pt, .Name "self" p0, [], 0⟩] scope pos) env) Q E s := by
  obtain ⟨bm, ob, M⟩ := hM
  have X : (top0.heap_1 w.params).In s.heap := X₀.keeps Fh.keep
  refine wpAny_GeneratorExp_walksQTD hh hco hclos hcell h0 hxa hxb hab hkind hroom ?_ hs
  refine wpAny_Name (wpAny_loadName_local hek hel (heL ▸ Fh.ns) hself ?_)
  refine acc_pyIter X hacc (by k_is) (by k_is) ⟨(T.nolimit.keeps Fh.keep).push _, ?_⟩
  have keep₂ : ∀ b o, s.heap.get? b = some o → (s.heap.push { cls := .type "list_iterator", data := .fields #[.ref acc, .int 0 0] }).get? b = some o := fun b o e => Heap.get?_push_of_some _ e
  refine genexprCodeT hcode (ht.keeps keep₂) fun code h₃ tk₃ hx₃ hsz₃ ht₃ => ?_
  replace hx₃ : Heap.ExtBut P (s.heap.push { cls := .type "list_iterator", data := .fields #[.ref acc, .int 0 0] }) h₃ := hx₃
  replace hsz₃ : (s.heap.push { cls := .type "list_iterator", data := .fields #[.ref acc, .int 0 0] }).objs.size ≤ h₃.objs.size := hsz₃
  rw [Heap.size_push] at hsz₃
  have keepg : ∀ b o, g.get? b = some o → h₃.get? b = some o := fun b o e => hx₃ b o (fun e' => by rw [e', hgP] at e; cases e) (keep₂ b o (Fh.keep b o e))
  have keep₃ : ∀ b o, b ≠ P → s.heap.get? b = some o → h₃.get? b = some o := fun b o hb e => hx₃ b o hb (keep₂ b o e)
  have M₃ : BMod h₃ env.globals mg bm ob := hgl ▸ M.keeps keepg
  refine wpAny_builtinsFor M₃.ns M₃.name M₃.ne M₃.obj M₃.cls M₃.dict M₃.data ?_
  have hPlt : P < s.heap.objs.size := let ⟨_, _, _, t⟩ := ht; Heap.lt_size t
  have hPo : ∃ o, s.heap.get? P = some o ∧ o.cls = .none := let ⟨_, _, _, t⟩ := ht; ⟨_, t, rfl⟩
  have hIP : s.heap.objs.size ≠ P := fun e => Nat.lt_irrefl _ (e ▸ hPlt)
  have haccP : acc ≠ P := by rintro rfl; obtain ⟨o, e, ec⟩ := hPo; rw [hacc] at e; cases e; cases ec
  have hTP : ∀ q ∈ ps, q.T ≠ P := by intro q hq e; obtain ⟨o, e', ec⟩ := hPo; rw [← e, hps q hq] at e'; cases e'; cases ec
  have hcP : c ≠ P := by obtain ⟨_, ⟨o, vs, file, tf, flags, tg, inF, text, tt, op, a, r1, r2, r3, r4, r5, r6, b, _, _, r⟩, _⟩ := ht; exact r
  have haccI : acc ≠ s.heap.objs.size := Nat.ne_of_lt (Heap.lt_size hacc)
  have hcS : cStatics < s.heap.objs.size := let ⟨_, hn, _⟩ := T.nolimit.keeps Fh.keep; hn.lt
  have hTI : ∀ j, j < (itemsOf ps).size → (ps.getD j Part.zero).T ≠ s.heap.objs.size := fun j hj => Nat.ne_of_lt (Heap.lt_size (hps _ (getD_mem hj)))
  have hl₃ : h₃.NoLimit := T.nolimit.keeps keepg
  have W := fun A' (hA : A'.handled = none) => walkParts2 (prog := P95) (w := w) (A := A') hA s.heap.objs.size acc haccI (itemsOf ps) (fun j => (ps.getD j Part.zero).T)
    (fun j => #[Value.str (ps.getD j Part.zero).f (ps.getD j Part.zero).tf, Value.str (ps.getD j Part.zero).p (ps.getD j Part.zero).tp]) (fun j hj => itemsOf_get hj) hTI
  refine ⟨s.heap.objs.size, _, [s.heap.objs.size], (itemsOf ps).size, _, _, _, (fun _ => true), F, rfl, W, ?_, ?_, ?_, hl₃, ?_, ?_, ?_⟩
  · exact fun i vals hv => ⟨_, _, hv.1⟩
  · refine ⟨⟨_, hx₃ _ _ hIP (Heap.get?_push_size _ rfl), rfl, rfl⟩, ⟨_, _, keep₃ _ _ haccP hacc, rfl⟩, fun k hk => ⟨_, keep₃ _ _ (hTP _ (getD_mem hk)) (hps _ (getD_mem hk)), rfl, 0, rfl⟩⟩
  · intro b hb
    show b < h₃.objs.size
    rcases List.mem_cons.mp hb with rfl | hb
    · exact hsz₃
    · rcases List.mem_cons.mp hb with rfl | hb
      · exact Nat.lt_trans (Heap.lt_size hacc) hsz₃
      · obtain ⟨j, hj, rfl⟩ := List.mem_map.mp hb
        exact Nat.lt_trans (Heap.lt_size (hps _ (getD_mem (List.mem_range.mp hj)))) hsz₃
  · intro hm
    have := List.mem_singleton.mp hm
    exact Nat.lt_irrefl _ (this ▸ hcS)
  · intro href hk
    have inF : ∀ (t : Shared) m₂, t.heap.Ns h₃.objs.size m₂ → (∀ b ∈ List.range h₃.objs.size, b ∉ [s.heap.objs.size] → ∀ o, href.get? b = some o → t.heap.get? b = some o) → Fr g h₃.objs.size t.heap m₂ := fun t m₂ hn hkp =>
      ⟨hn, fun b o e => hkp b (List.mem_range.mpr (Heap.lt_size (keepg b o e))) (fun hm => by
        have h1 := List.mem_singleton.mp hm
        have h2 := Heap.lt_size (Fh.keep b o e)
        exact Nat.lt_irrefl _ (h1 ▸ h2)) o (hk b o (keepg b o e)), Nat.le_trans Fh.above (Nat.le_of_lt (Nat.lt_trans Fh.ns.lt hsz₃))⟩
    refine ⟨fun A' E' i va vb t m₂ hA hD hU hP hn hma hmb hkp => ?_, fun A' E' i va vb t m₂ hA hD hU hP hp hn hma hmb hkp => ?_⟩
    · exact wpAny_pure ⟨rfl, _, _, rfl, fun _ _ e => e⟩
    · obtain ⟨hv, hi⟩ := hP
      simp only [Array.mk.injEq, List.cons.injEq, and_true] at hv
      obtain ⟨rfl, rfl⟩ := hv
      have hi' : i < ps.length := by rw [← itemsOf_size]; exact hi
      exact elem code _ A' E' (ps.getD i Part.zero) i t m₂ hA hD hU (by simp [hi']) (inF t m₂ hn hkp) hma hmb
  · intro a h₅ tk gs hgb hag hsz₅ hk₅ W' hat
    replace hk₅ : ∀ b o, h₃.get? b = some o → h₅.get? b = some o := hk₅
    replace hag : h₃.objs.size < a := hag
    have Fp : ∀ j y, (∃ i, (passing (fun _ => true) (itemsOf ps).size 0)[j]? = some i ∧ F i y) → F j y := by
      rintro j y ⟨i, e, hy⟩
      rw [passing_all0] at e
      obtain ⟨h1, h2⟩ := List.getElem?_eq_some_iff.mp e
      simp at h2
      exact h2 ▸ hy
    have W2 := W'
    rw [passing_all0, List.length_range, itemsOf_size] at W2
    rw [itemsOf_size] at hat
    have W3 := WalksS.monoP (P' := F) W2 fun j y => by rw [← itemsOf_size, ← passing_all0]; exact Fp j y
    refine hQ a _ (fun b o hb e => hk₅ b o (keep₃ b o hb e)) ⟨(Fh.ns.at' fun o e => hk₅ _ o (keep₃ _ o ?_ e)), (fun b o e => hk₅ b o (keepg b o e)), Fh.above⟩ (ht₃.keeps hk₅) (hG.push hgb) rfl rfl ⟨_, _, _, _, W3, hat, (fun i s' st => st.1.typeIs), List.mem_cons_self, ?_, ?_⟩
    · rintro rfl
      obtain ⟨o, e1, e2⟩ := hPo
      obtain ⟨o', es, ep, e3, e4, _⟩ := Fh.ns
      obtain ⟨_, _, _, t⟩ := ht
      rw [t] at e3; cases e3; cases e4
    · intro b hb
      show b < h₅.objs.size
      rw [hsz₅]
      rcases List.mem_cons.mp hb with rfl | hb
      · exact Nat.lt_succ_self _
      · rcases List.mem_cons.mp hb with rfl | hb
        · exact Nat.lt_succ_of_lt hag
        · exact Nat.lt_succ_of_lt (Nat.lt_trans (List.mem_range.mp hb) hag)
    · intro b hb
      rcases List.mem_cons.mp hb with rfl | hb
      · exact Nat.le_of_lt hsz₃
      · rw [List.mem_singleton.mp hb]; exact Nat.le_refl _
end
end
section
section
variable {w : World} {vp : Program} {lo : List Str} {mg mb : Str → Option Value} {g : Heap} {A' : Around} {E' : Value → Shared → Prop} {t : Shared} {m₂ : Str → Option Value} {C : Addr} {q : Part} {scope : Scope} {cl : List (Str × Addr)} {code : Value} {env : Env}

theorem elen_name {x : Str} {p : Pos} {v : Value} {Q : Value → Shared → Prop} (hk : scope.kind = .function) (hx : scope.names.lookup x = some .local) (F : Fr g C t.heap m₂) (hv : m₂ x = some v) (hd : (x == ("__debug__" : Str)) = false) (h : Q v t) :
    wpAny (model P95 w) A' (eval (.Name x p) (genEnv scope cl C code builtinsNs env)) Q E' t := ldVarG F hv h hk hx hd

theorem elen_glob {x : Str} {p : Pos} {v : Value} {Q : Value → Shared → Prop} (hk : scope.kind = .function) (hg : env.globals = mainGlobals) (hx : scope.names.lookup x = some .globalImplicit) (F : Fr g C t.heap m₂) (X : (top0.heap_1 w.params).In g) (T : TopRead vp lo mg mb g)
    (hv : nsIn (top0.heap_1 w.params) mainGlobals x = some (some v)) (hd : (x == ("__debug__" : Str)) = false) (h : Q v t) :
    wpAny (model P95 w) A' (eval (.Name x p) (genEnv scope cl C code builtinsNs env)) Q E' t :=
  Name_function_global hk hx (loadGlobal_global (env := genEnv scope cl C code builtinsNs env) (show t.heap.Ns env.globals mg from hg ▸ T.g.keeps F.keep) (mg_of X T.g hv) h) hd

theorem elen_boot {x : Str} {p : Pos} {v : Value} {Q : Value → Shared → Prop} (hk : scope.kind = .function) (hg : env.globals = mainGlobals) (hx : scope.names.lookup x = some .globalImplicit) (F : Fr g C t.heap m₂) (X : (top0.heap_1 w.params).In g) (T : TopRead vp lo mg mb g)
    (hn : nsIn (top0.heap_1 w.params) mainGlobals x = some none) (hxn : x ≠ "__name__") (hv : bootBuiltins x = some v) (hd : (x == ("__debug__" : Str)) = false) (h : Q v t) :
    wpAny (model P95 w) A' (eval (.Name x p) (genEnv scope cl C code builtinsNs env)) Q E' t :=
  Name_function_global hk hx (loadGlobal_builtin (env := genEnv scope cl C code builtinsNs env) (show t.heap.Ns env.globals mg from hg ▸ T.g.keeps F.keep) (mg_none_of X T.g hn) (T.b.keeps F.keep) ((T.builtins x hxn).trans hv) h) hd

theorem elemLen {p1 p2 p3 p4 p5 p6 p7 : Pos} (hk : scope.kind = .function) (hg : env.globals = mainGlobals) (hx : scope.names.lookup ("len" : Str) = some .globalImplicit) (hf : scope.names.lookup ("fws" : Str) = some .local) (hp : scope.names.lookup ("part" : Str) = some .local)
    (F : Fr g C t.heap m₂) (X : (top0.heap_1 w.params).In g) (T : TopRead vp lo mg mb g) (hma : m₂ "fws" = some (.str q.f q.tf)) (hmb : m₂ "part" = some (.str q.p q.tp)) (hlf : q.f.length < 1000) (hlp : q.p.length < 1000) :
    wpAny (model P95 w) A' (eval (.BinOp (.Call (.Name "len" p1) [.Name "fws" p2] [] p3) .Add (.Call (.Name "len" p4) [.Name "part" p5] [] p6) p7) (genEnv scope cl C code builtinsNs env)) (fun y s₃ => (∃ t, y = .int (q.f.length + q.p.length) t) ∧ Keeps t s₃) E' t := by
  refine wpAny_BinOp ?_
  walk1
  refine elen_boot hk hg hx F X T (by k_is) (by decide +kernel) (by first | boot_by_name | rfl | kernel_rfl) (by decide) ?_
  walk1
  walk1
  refine elen_name hk hf F hma (by decide) ?_
  walk1
  refine PyProof.Rows.len_str (by omega) ?_
  walk1
  refine elen_boot (t := { t with toks := _ }) hk hg hx F X T (by k_is) (by decide +kernel) (by first | boot_by_name | rfl | kernel_rfl) (by decide) ?_
  walk1
  walk1
  refine elen_name (t := { t with toks := _ }) hk hp F hmb (by decide) ?_
  walk1
  refine PyProof.Rows.len_str (by omega) ?_
  walk1
  exact ⟨⟨_, rfl⟩, _, _, rfl, fun _ _ e => e⟩

end
end
section
def Small (ps : List Part) : Prop := ∀ q ∈ ps, q.f.length < 1000 ∧ q.p.length < 1000
def plen (ps : List Part) (i : Nat) : Int := (ps.getD i Part.zero).f.length + (ps.getD i Part.zero).p.length
def lenOf (ps : List Part) : Int := preSum (plen ps) ps.length
theorem Small.getD {ps : List Part} (h : Small ps) (i : Nat) : (ps.getD i Part.zero).f.length < 1000 ∧ (ps.getD i Part.zero).p.length < 1000 := by
  rw [List.getD_eq_getElem?_getD]
  cases e : ps[i]? with
  | none => exact ⟨by decide, by decide⟩
  | some q => exact h q (List.mem_of_getElem? e)
theorem plen_bound {ps : List Part} (h : Small ps) (i : Nat) : 0 ≤ plen ps i ∧ plen ps i < 2000 := by
  have := h.getD i
  unfold plen
  omega
theorem preSum_bound {ps : List Part} (h : Small ps) : ∀ j, 0 ≤ preSum (plen ps) j ∧ preSum (plen ps) j ≤ 2000 * j
  | 0 => by simp [preSum]
  | j + 1 => by
    have h1 := preSum_bound h j
    have h2 := plen_bound h j
    simp only [preSum]
    omega

section
variable {w : World} {vp : Program} {lo : List Str} {mg mb : Str → Option Value}

theorem sayD3_1 : True := by
  k_with "getAttr ref" => (k_here; k_dflt (refine' getAttr_accK (by k_asm) (by k_asm) (by k_asm) (by k_mem) (by k_mem) (by k_is) (by k_is) (by k_is) (by k_is) (by k_is) (by k_get) (by k_handed) ?_; k_whole))
  trivial

theorem len_raw {A : Around} {s : Shared} {R : Result → Shared → Prop} {B : Heap} {acc d : Addr} {ps : List Part} {n : Nat} {hsh sz : Int} {tq ti : Tok}
    (hB : Base w vp lo mg mb B) (hM : Mods B mg) (st : ∀ b o, B.get? b = some o → s.heap.get? b = some o) (n1 : B.get? acc = none) (n2 : B.get? d = none) (n3 : B.get? 147 = none)
    (hacc : s.heap.get? acc = some (accObj d (itemsOf ps) n)) (hdd : s.heap.get? d = some (accDict hsh tq sz ti)) (hps : Parts s.heap ps) (ht : Tab s.heap 151 147) (hG : AllBare s.gens) (hh : A.handled = none) (hA : A.depth < 890) (hU : A.units < 8900) (hz : ps.length < 1000) (hs1 : Small ps) (hsz : 0 ≤ sz ∧ sz < 1000)
    (h : ∀ s' t', (∀ b o, b ≠ 147 → s.heap.get? b = some o → s'.heap.get? b = some o) → Tab s'.heap 151 147 → AllBare s'.gens → s'.os = s.os → R (.ok (.ret (.int (sz + lenOf ps) t'))) s') :
    codeAny (model P95 w) A (.call (.ref 152) ⟨[.ref acc], []⟩) R s := by
  have X : (top0.heap_1 w.params).In s.heap := hB.X.keeps st
  have T := hB.T.keeps st
  obtain ⟨tps, htc, htt⟩ := id ht
  have hn : ∀ p ∈ [(acc, accObj d (itemsOf ps) n), (d, accDict hsh tq sz ti), (147, { cls := .none, data := .fields tps })], s.heap.get? p.1 = some p.2 := by
    intro q hq
    rcases List.mem_cons.mp hq with rfl | hq
    · exact hacc
    · rcases List.mem_cons.mp hq with rfl | hq
      · exact hdd
      · rcases List.mem_cons.mp hq with rfl | hq
        · exact htt.2
        · cases hq
  have ned : @Ne Nat acc d := by rintro rfl; rw [hacc] at hdd; cases hdd
  refine' enterK (K := top0.heap_1 w.params) (news := [(acc, accObj d (itemsOf ps) n), (d, accDict hsh tq sz ti), (147, { cls := .none, data := .fields tps })]) (binds := [("self", .ref acc)]) X T.nolimit hn ?k6 ?k7 (Nat.lt_trans hA (by decide)) ?k9 ?kB ?_ ?c5 ?c2 ?c3 ?c4; (case k6 => k_is); (case k7 => k_is); (case k9 => first | exact BindsTo.of_eq rfl | exact binds_K X rfl (by k_is) rfl rfl rfl); (case c5 => decide); (case kB => exact locs rfl); (case c2 => exact rfl); (case c3 => exact rfl); (case c4 => exact rfl); intro g' L' h' F' N' kg' l1
  obtain ⟨KX, T'⟩ := base_in hB st (W := [acc, d, 147]) (by intro a ha; rcases List.mem_cons.mp ha with rfl | ha; exact n1; rcases List.mem_cons.mp ha with rfl | ha; exact n2; rcases List.mem_cons.mp ha with rfl | ha; exact n3; cases ha) kg'
  clear X T
  refine noE ?_
  k_fold
  k_steps
  have hM' : Mods g' mg := by
    obtain ⟨bm, ob, M⟩ := hM
    exact ⟨bm, ob, T'.g, M.name, M.ne, kg' _ _ (st _ _ M.obj) (by
      intro hm
      simp only [List.map_cons, List.map_nil, List.mem_cons, List.not_mem_nil, or_false] at hm
      have o := M.obj
      rcases hm with e | e | e
      · rw [e, n1] at o; cases o
      · rw [e, n2] at o; cases o
      · rw [e, n3] at o; cases o), M.cls, M.dict, M.data⟩
  have kh : ∀ b o, s.heap.get? b = some o → h'.get? b = some o := by
    intro b o e
    by_cases hb : b = acc
    · subst hb; rw [hacc] at e; cases e; exact (N' _ (.head _)).1
    by_cases hbd : b = d
    · subst hbd; rw [hdd] at e; cases e; exact (N' _ (.tail _ (.head _))).1
    by_cases hbt : b = 147
    · subst hbt; rw [htt.2] at e; cases e; exact (N' _ (.tail _ (.tail _ (.head _)))).1
    · exact F'.keep b o (kg' b o e (by simp [hb, hbd, hbt]))
  refine genParts (F := fun i y => ∃ t, y = .int (plen ps i) t) F' KX T' hM' (kh _ _ hacc) (fun q hq => kh _ _ (hps q hq)) hG rfl rfl (ht.keeps kh) (N' _ (.tail _ (.tail _ (.head _)))).2.2 rfl rfl rfl rfl hh rfl rfl (by decide) rfl rfl rfl (by decide) rfl (Nat.lt_of_le_of_lt (Nat.succ_le_of_lt hA) (by decide)) ?_ ?_ (fun _ => rfl)
  · intro code C A' E' q i t m₂ hA' hD' hU' hq F2 hma hmb
    have hq' : ps.getD i Part.zero = q := by rw [List.getD_eq_getElem?_getD, hq]; rfl
    have hb := hs1 q (List.mem_of_getElem? hq)
    have e : plen ps i = q.f.length + q.p.length := by unfold plen; rw [hq']
    rw [e]
    refine elemLen ?_ ?_ ?_ ?_ ?_ F2 KX T' hma hmb hb.1 hb.2 <;> rfl
  · intro a s₅ k₅ F₅ ht₅ hG₅ hos₅ hdr₅ hgen
    have N₅ : News g' L' s₅.heap [(acc, accObj d (itemsOf ps) n), (d, accDict hsh tq sz ti)] := by
      intro p hp
      have hne : p.1 ≠ 147 := by
        intro e
        have h2 := htt.2
        rw [← e] at h2
        rcases List.mem_cons.mp hp with rfl | hp
        · rw [hacc] at h2; cases h2
        · rcases List.mem_cons.mp hp with rfl | hp
          · rw [hdd] at h2; cases h2
          · cases hp
      have hp' : p ∈ [(acc, accObj d (itemsOf ps) n), (d, accDict hsh tq sz ti), (147, ({ cls := .none, data := .fields tps } : Obj))] := by
        rcases List.mem_cons.mp hp with rfl | hp
        · exact .head _
        · rcases List.mem_cons.mp hp with rfl | hp
          · exact .tail _ (.head _)
          · cases hp
      exact ⟨k₅ _ _ hne (N' p hp').1, (N' p hp').2⟩
    clear F' N'
    k_steps
    obtain ⟨fp, wr, gi, St, W, hst, hT, ha, hfp, hwr⟩ := hgen
    have W1 := W.in4_1
    have hst1 : St 0 { s₅ with toks := s₅.toks + 1 } := W1.frame 0 s₅ s₅.heap (s₅.toks + 1) hst (Nat.le_succ _) fun _ _ _ e => e
    refine sum_start (W1.self 0 _ _ _ hst1 ⟨a, _, _, _, _, _, _, plen ps, rfl, W1, hst1, hfp, (fun i v hv => hv), ⟨by omega, by omega⟩, (fun j hj => ?_), fun s' t' hm => ?_⟩)
    · have h1 := plen_bound hs1 j
      have h2 := preSum_bound hs1 (j + 1)
      exact ⟨⟨by omega, by omega⟩, ⟨by omega, by omega⟩⟩
    · have up : ∀ b o, b ≠ 147 → s.heap.get? b = some o → s'.heap.get? b = some o := fun b o hb e => hm.heap b o (fun hw => absurd (Heap.lt_size (kh b o e)) (Nat.not_lt_of_le (hwr b hw))) (k₅ b o hb (kh b o e))
      refine h s' t' up ?_ (AllBare.movedS (s := { s₅ with toks := s₅.toks + 1 }) hG₅ hm) (hm.os.trans hos₅)
      refine ht₅.upTo (fun o e => hm.heap _ o (fun hw => ?_) e) (fun o e => hm.heap _ o (fun hw => ?_) e)
      · obtain ⟨_, _, ⟨⟨_, _, e', _⟩, _⟩⟩ := ht
        exact absurd (Heap.lt_size (kh _ _ e')) (Nat.not_lt_of_le (hwr _ hw))
      · exact absurd (Heap.lt_size (kh _ _ htt.2)) (Nat.not_lt_of_le (hwr _ hw))
theorem sayD3_end : True := by
  k_with_none
  trivial
end
end
section
theorem str_ext {a b : Str} (h : a.cps.toList = b.cps.toList) : a = b := by
  cases a; cases b; simp only [Str.mk.injEq]; exact Array.ext' h
theorem cps_append (a b : Str) : (a ++ b).cps.toList = a.cps.toList ++ b.cps.toList := by
  show (a.cps ++ b.cps).toList = _
  simp
theorem join_cps : ∀ l : List Str, (Txt.join "" l).cps.toList = l.flatMap (·.cps.toList) := by
  intro l
  rw [eq_of_beq (join_plain_closes "" l)]
  induction l with
  | nil => rfl
  | cons x r ih =>
    cases r with
    | nil => simp [Str.join]
    | cons y r =>
      show (x ++ ("" : Str) ++ Str.join "" (y :: r)).cps.toList = _
      rw [cps_append, cps_append, ih]
      rw [List.flatMap_cons]
      have : (("" : Str)).cps.toList = [] := by decide
      rw [this, List.append_nil]
      simp
theorem join_two (a b : Str) : Txt.join "" [a, b] = a ++ b := str_ext (by rw [join_cps, cps_append]; simp)
def texts (ps : List Part) : List Str := ps.map fun q => q.f ++ q.p
def textOf (ps : List Part) : Str := Txt.join "" (texts ps)
theorem texts_range (ps : List Part) : (List.range ps.length).map (fun i => (ps.getD i Part.zero).f ++ (ps.getD i Part.zero).p) = texts ps := by
  apply List.ext_getElem
  · simp [texts]
  · intro i h1 h2
    simp at h1
    simp [texts, h1]

section
variable {w : World} {vp : Program} {lo : List Str} {mg mb : Str → Option Value}
theorem str_raw {A : Around} {s : Shared} {R : Result → Shared → Prop} {B : Heap} {acc d : Addr} {ps : List Part} {n : Nat} {hsh sz : Int} {tq ti : Tok}
    (hB : Base w vp lo mg mb B) (hM : Mods B mg) (st : ∀ b o, B.get? b = some o → s.heap.get? b = some o) (n1 : B.get? acc = none) (n2 : B.get? d = none) (n3 : B.get? 154 = none)
    (hacc : s.heap.get? acc = some (accObj d (itemsOf ps) n)) (hdd : s.heap.get? d = some (accDict hsh tq sz ti)) (hps : Parts s.heap ps) (ht : Tab s.heap 158 154) (hG : AllBare s.gens) (hh : A.handled = none) (hA : A.depth < 890) (hU : A.units < 8900) (hz : ps.length < 1000) (hs1 : Small ps) (hj : JoinOk "" (texts ps) = true)
    (h : ∀ s' t', (∀ b o, b ≠ 154 → s.heap.get? b = some o → s'.heap.get? b = some o) → Tab s'.heap 158 154 → AllBare s'.gens → s'.os = s.os → R (.ok (.ret (.str (textOf ps) t'))) s') :
    codeAny (model P95 w) A (.call (.ref 159) ⟨[.ref acc], []⟩) R s := by
  have X : (top0.heap_1 w.params).In s.heap := hB.X.keeps st
  have T := hB.T.keeps st
  obtain ⟨tps, htc, htt⟩ := id ht
  have hn : ∀ p ∈ [(acc, accObj d (itemsOf ps) n), (d, accDict hsh tq sz ti), (154, { cls := .none, data := .fields tps })], s.heap.get? p.1 = some p.2 := by
    intro q hq
    rcases List.mem_cons.mp hq with rfl | hq
    · exact hacc
    · rcases List.mem_cons.mp hq with rfl | hq
      · exact hdd
      · rcases List.mem_cons.mp hq with rfl | hq
        · exact htt.2
        · cases hq
  have ned : @Ne Nat acc d := by rintro rfl; rw [hacc] at hdd; cases hdd
  refine' enterK (K := top0.heap_1 w.params) (news := [(acc, accObj d (itemsOf ps) n), (d, accDict hsh tq sz ti), (154, { cls := .none, data := .fields tps })]) (binds := [("self", .ref acc)]) X T.nolimit hn ?k6 ?k7 (Nat.lt_trans hA (by decide)) ?k9 ?kB ?_ ?c5 ?c2 ?c3 ?c4; (case k6 => k_is); (case k7 => k_is); (case k9 => first | exact BindsTo.of_eq rfl | exact binds_K X rfl (by k_is) rfl rfl rfl); (case c5 => decide); (case kB => exact locs rfl); (case c2 => exact rfl); (case c3 => exact rfl); (case c4 => exact rfl); intro g' L' h' F' N' kg' l1
  obtain ⟨KX, T'⟩ := base_in hB st (W := [acc, d, 154]) (by intro a ha; rcases List.mem_cons.mp ha with rfl | ha; exact n1; rcases List.mem_cons.mp ha with rfl | ha; exact n2; rcases List.mem_cons.mp ha with rfl | ha; exact n3; cases ha) kg'
  clear X T
  refine noE ?_
  k_fold
  k_steps
  have hM' : Mods g' mg := by
    obtain ⟨bm, ob, M⟩ := hM
    exact ⟨bm, ob, T'.g, M.name, M.ne, kg' _ _ (st _ _ M.obj) (by
      intro hm
      simp only [List.map_cons, List.map_nil, List.mem_cons, List.not_mem_nil, or_false] at hm
      have o := M.obj
      rcases hm with e | e | e
      · rw [e, n1] at o; cases o
      · rw [e, n2] at o; cases o
      · rw [e, n3] at o; cases o), M.cls, M.dict, M.data⟩
  have kh : ∀ b o, s.heap.get? b = some o → h'.get? b = some o := by
    intro b o e
    by_cases hb : b = acc
    · subst hb; rw [hacc] at e; cases e; exact (N' _ (.head _)).1
    by_cases hbd : b = d
    · subst hbd; rw [hdd] at e; cases e; exact (N' _ (.tail _ (.head _))).1
    by_cases hbt : b = 154
    · subst hbt; rw [htt.2] at e; cases e; exact (N' _ (.tail _ (.tail _ (.head _)))).1
    · exact F'.keep b o (kg' b o e (by simp [hb, hbd, hbt]))
  refine genParts (F := fun i y => ∃ t, y = .str ((ps.getD i Part.zero).f ++ (ps.getD i Part.zero).p) t) F' KX T' hM' (kh _ _ hacc) (fun q hq => kh _ _ (hps q hq)) hG rfl rfl (ht.keeps kh) (N' _ (.tail _ (.tail _ (.head _)))).2.2 rfl rfl rfl rfl hh rfl rfl (by decide) rfl rfl rfl (by decide) rfl (Nat.lt_of_le_of_lt (Nat.succ_le_of_lt hA) (by decide)) ?_ ?_ (fun _ => rfl)
  · intro code C A' E' q i t m₂ hA' hD' hU' hq F2 hma hmb
    have hq' : ps.getD i Part.zero = q := by rw [List.getD_eq_getElem?_getD, hq]; rfl
    have hb := hs1 q (List.mem_of_getElem? hq)
    rw [hq']
    walk1
    refine elen_glob rfl rfl rfl F2 KX T' (v := .str "" 210) (by k_is) (by decide) ?_
    walk1
    walk1
    walk1
    refine wpAny_Tuple_spliced ?_
    walk1
    refine elen_name rfl rfl F2 hma (by decide) ?_
    walk1
    refine elen_name rfl rfl F2 hmb (by decide) ?_
    walk1
    refine ⟨show 2 ≤ sizeLine by decide, ?_⟩
    walk1
    have e0 : ((List.map (fun x => x.length) [q.f, q.p]).sum + [q.f, q.p].length * ("" : Str).length) ≤ 16777216 := by
      have e1 : (("" : Str)).length = 0 := by decide
      rw [e1]
      simp
      omega
    refine join_tuple (ys := [q.f, q.p]) ⟨_, Heap.get?_push_size _ rfl, rfl, 0, rfl⟩ (.cons _ _ (.cons _ _ .nil)) e0 fun t' k => ⟨⟨t', by rw [join_two]⟩, _, _, rfl, fun _ _ e => Heap.get?_push_of_some _ e⟩
  · intro a s₅ k₅ F₅ ht₅ hG₅ hos₅ hdr₅ hgen
    clear F' N'
    k_steps
    obtain ⟨fp, wr, gi, St, W, hst, hT, ha, hfp, hwr⟩ := hgen
    have W1 := W.in4_2
    have hok : JoinOk "" (texts ps) = true := hj
    refine SC.joinGen W1 hT hst hfp ha (fun j v hv => let ⟨u, e⟩ := hv; ⟨_, u, e⟩) (fun s' lt hm hacc' => ?_) (by rw [sizeLine_eq]; omega)
    have hl : lt.map (·.1) = texts ps := by
      rw [← texts_range]
      apply List.ext_getElem?
      intro j
      have hsz : lt.length = ps.length := by simpa [strValues] using hacc'.1
      by_cases hj : j < ps.length
      · have hj' : j < lt.length := hsz ▸ hj
        obtain ⟨u, hu⟩ := hacc'.2 j (.str lt[j].1 lt[j].2) (by simp [strValues, hj'])
        simp only [Value.str.injEq] at hu
        simp [hj, hj', hu.1]
      · have hj' : ¬ j < lt.length := hsz ▸ hj
        simp [hj, hj']
    rw [hl]
    refine ⟨hok, fun t' k => ?_⟩
    have up : ∀ b o, b ≠ 154 → s.heap.get? b = some o → s'.heap.get? b = some o := fun b o hb e => hm.heap b o (fun hw => absurd (Heap.lt_size (kh b o e)) (Nat.not_lt_of_le (hwr b hw))) (k₅ b o hb (kh b o e))
    have g6 := AllBare.movedS hG₅ hm
    refine h { s' with toks := k } t' up ?_ g6 (hm.os.trans hos₅)
    refine ht₅.upTo (fun o e => hm.heap _ o (fun hw => ?_) e) (fun o e => hm.heap _ o (fun hw => ?_) e)
    · obtain ⟨_, _, ⟨⟨_, _, e', _⟩, _⟩⟩ := ht
      exact absurd (Heap.lt_size (kh _ _ e')) (Nat.not_lt_of_le (hwr _ hw))
    · exact absurd (Heap.lt_size (kh _ _ htt.2)) (Nat.not_lt_of_le (hwr _ hw))
end
end
section
abbrev tabO (ps : Array Value) : Obj := { cls := .none, data := .fields ps }
theorem tab_of {w : World} {h : Heap} {c P : Addr} {ps : Array Value} (X : (top0.heap_1 w.params).In h) (e : codeHdIn (top0.heap_1 w.params) c P = true) (ht : h.get? P = some (tabO ps)) (htr : TriplesOk ps.toList) : Tab h c P :=
  ⟨ps, (codeHd_of_K X e).code ht htr, (codeHd_of_K X e).tab ht⟩
theorem Tab.out {h : Heap} {c P : Addr} (x : Tab h c P) : ∃ ps, h.get? P = some (tabO ps) ∧ TriplesOk ps.toList := by
  obtain ⟨ps, ⟨o, vs, file, tf, flags, tg, inF, text, tt, op, a, r1, r2, r3, r4, r5, r6, b, b1, b2, r⟩, ⟨_, t⟩⟩ := x
  exact ⟨ps, t, b2⟩
theorem hd151 (w : World) : codeHdIn (top0.heap_1 w.params) 151 147 = true := by kernel_rfl
theorem hd158 (w : World) : codeHdIn (top0.heap_1 w.params) 158 154 = true := by kernel_rfl

theorem updF_K {h₀ h h' : Heap} {L a : Addr} {m : Str → Option Value} {news : List (Addr × Obj)} {G : Obj → List (Addr × Obj)} {o o' : Obj} (F : Fr h₀ L h m) (N : News h₀ L h news) (U : UpdF a o news G) (k : ∀ b o, b ≠ a → h.get? b = some o → h'.get? b = some o) (ho : h'.get? a = some o') :
    Fr h₀ L h' m ∧ News h₀ L h' (G o') := by
  obtain ⟨pre, post, rfl, e, h1, h2⟩ := U.split
  have D := N (a, o) (by simp)
  refine ⟨⟨F.ns.at' fun o e => k _ o (Ne.symm D.2.1) e, fun b ob e => k b ob (fun q => by have := D.2.2; rw [← q, e] at this; cases this) (F.keep b ob e), F.above⟩, fun q hq => ?_⟩
  rw [e] at hq
  rcases List.mem_append.mp hq with z | z
  · have P := N q (List.mem_append_left _ z); exact ⟨k _ _ (h1 q z) P.1, P.2⟩
  · rcases List.mem_cons.mp z with rfl | z
    · exact ⟨ho, D.2⟩
    · have P := N q (List.mem_append_right _ (List.mem_cons_of_mem _ z)); exact ⟨k _ _ (h2 q z) P.1, P.2⟩
theorem UpdF.mem {a : Addr} {o : Obj} {news : List (Addr × Obj)} {G : Obj → List (Addr × Obj)} (U : UpdF a o news G) : (a, o) ∈ news := by
  obtain ⟨pre, post, rfl, e, h1, h2⟩ := U.split
  simp
theorem neO {h : Heap} {a b : Addr} {o : Obj} (hn : h.get? a = none) (hb : h.get? b = some o) : @Ne Nat a b := by rintro rfl; rw [hn] at hb; cases hb

section
variable {w : World} {vp : Program} {lo : List Str} {A : Around} {s : Shared} {E : Value → Shared → Prop} {h₀ : Heap} {L acc d : Addr} {m : Str → Option Value} {items : Array Value} {n : Nat} {mg mb : Str → Option Value} {hsh sz : Int} {tk ti : Tok} {news : List (Addr × Obj)} {G : Obj → List (Addr × Obj)} {Q : Value → Shared → Prop}

theorem push_K {f p : Value} (F : Fr h₀ L s.heap m) (X₀ : (top0.heap_1 w.params).In h₀) (T : TopRead vp lo mg mb h₀) (N : News h₀ L s.heap news) (U : UpdF acc (accObj d items n) news G) (hdd : (d, accDict hsh tk sz ti) ∈ news) (hA : A.depth < 900) (hU : A.units < 9000) (hz : items.size < 1000)
    (h : ∀ t h' k, s.heap.get? t = none → Fr h₀ L h' m → News h₀ L h' ((t, tupObj f p) :: G (accObj d (items.push (.ref t)) (n + 1))) → Q .none { s with heap := h', toks := k }) : wpAny (model P95 w) A (call (.ref 129) [.ref acc, f, p]) Q E s := by
  have hacc := UpdF.mem U
  refine wpAny_call (push_raw ⟨X₀, T⟩ F.keep (N _ hacc).2.2 (N _ hdd).2.2 (N _ hacc).1 (N _ hdd).1 hA hU hz fun t h' k keep hnt ht ha => ?_)
  obtain ⟨F', N'⟩ := updF_K F N U keep ha
  refine h t h' k hnt F' fun q hq => ?_
  rcases List.mem_cons.mp hq with rfl | hq
  · refine ⟨ht, fun e => ?_, ?_⟩
    · obtain ⟨o, _, _, e1, _⟩ := F.ns
      rw [show L = t from e.symm, hnt] at e1; cases e1
    · cases e : h₀.get? t with
      | none => rfl
      | some o => have := F.keep _ _ e; rw [hnt] at this; cases this
  · exact N' q hq

theorem reset0_K {G2 : Obj → List (Addr × Obj)} (F : Fr h₀ L s.heap m) (X₀ : (top0.heap_1 w.params).In h₀) (T : TopRead vp lo mg mb h₀) (N : News h₀ L s.heap news) (hacc : (acc, accObj d items n) ∈ news) (hdd : (d, accDict hsh tk sz ti) ∈ news) (hA : A.depth < 900) (hU : A.units < 9000) (hz : items.size < 1000)
    (h : ∀ h' n' ti' k, (∀ b o, b ≠ acc → b ≠ d → s.heap.get? b = some o → h'.get? b = some o) → h'.get? acc = some (accObj d #[] n') → h'.get? d = some (accDict hsh tk 0 ti') → Q .none { s with heap := h', toks := k }) : wpAny (model P95 w) A (call (.ref 167) [.ref acc]) Q E s :=
  wpAny_call (reset_raw0 ⟨X₀, T⟩ F.keep (N _ hacc).2.2 (N _ hdd).2.2 (N _ hacc).1 (N _ hdd).1 hA hU hz h)

theorem lenAcc_K {ps : List Part} {tp : Array Value} (F : Fr h₀ L s.heap m) (X₀ : (top0.heap_1 w.params).In h₀) (T : TopRead vp lo mg mb h₀) (hM : Mods h₀ mg) (N : News h₀ L s.heap news) (hacc : (acc, accObj d (itemsOf ps) n) ∈ news) (hdd : (d, accDict hsh tk sz ti) ∈ news)
    (U : UpdF 147 (tabO tp) news G) (htr : TriplesOk tp.toList) (hps : Parts s.heap ps) (hG : AllBare s.gens) (hh : A.handled = none) (hA : A.depth < 880) (hU : A.units < 8880) (hz : ps.length < 1000) (hs1 : Small ps) (hsz : 0 ≤ sz ∧ sz < 1000)
    (h : ∀ s' t' tp', (∀ b o, b ≠ 147 → s.heap.get? b = some o → s'.heap.get? b = some o) → TriplesOk tp'.toList → Fr h₀ L s'.heap m → News h₀ L s'.heap (G (tabO tp')) → AllBare s'.gens → s'.os = s.os → Q (.int (sz + lenOf ps) t') s') :
    wpAny (model P95 w) A (call (.builtin "len") [.ref acc]) Q E s := by
  have X := X₀.keeps F.keep
  have h147 := UpdF.mem U
  refine PySem.W.len_K (C := 185) (f := 152) F X₀ (acc_inst (N _ hacc).1 (N _ hdd).1) (by k_is) (by k_is) (wpAny_call ?_)
  refine len_raw ⟨X₀, T⟩ hM F.keep (N _ hacc).2.2 (N _ hdd).2.2 (N _ h147).2.2 (N _ hacc).1 (N _ hdd).1 hps (tab_of X (hd151 w) (N _ h147).1 htr) hG hh (Nat.lt_of_le_of_lt (Nat.le_of_eq rfl) (Nat.lt_trans hA (by decide))) ?_ hz hs1 hsz fun s' t' keep ht' hG' hos => ?_
  · show A.units + 1 < 8900
    omega
  · obtain ⟨tp', e, htr'⟩ := ht'.out
    obtain ⟨F', N'⟩ := updF_K F N U keep e
    have hb := preSum_bound hs1 ps.length
    refine ⟨⟨?_, ?_⟩, h { s' with toks := s'.toks + 1 } _ tp' keep htr' F' N' hG' hos⟩
    · unfold lenOf; omega
    · unfold lenOf; omega

theorem strAcc_K {ps : List Part} {tp : Array Value} (F : Fr h₀ L s.heap m) (X₀ : (top0.heap_1 w.params).In h₀) (T : TopRead vp lo mg mb h₀) (hM : Mods h₀ mg) (N : News h₀ L s.heap news) (hacc : (acc, accObj d (itemsOf ps) n) ∈ news) (hdd : (d, accDict hsh tk sz ti) ∈ news)
    (U : UpdF 154 (tabO tp) news G) (htr : TriplesOk tp.toList) (hps : Parts s.heap ps) (hG : AllBare s.gens) (hh : A.handled = none) (hA : A.depth < 880) (hU : A.units < 8880) (hz : ps.length < 1000) (hs1 : Small ps) (hj : JoinOk "" (texts ps) = true)
    (h : ∀ s' t' tp', (∀ b o, b ≠ 154 → s.heap.get? b = some o → s'.heap.get? b = some o) → TriplesOk tp'.toList → Fr h₀ L s'.heap m → News h₀ L s'.heap (G (tabO tp')) → AllBare s'.gens → s'.os = s.os → Q (.str (textOf ps) t') s') :
    wpAny (model P95 w) A (call (.type "str") [.ref acc]) Q E s := by
  have X := X₀.keeps F.keep
  have h154 := UpdF.mem U
  refine kso_call (C := 185) (f := 159) ?_ X (acc_inst (N _ hacc).1 (N _ hdd).1) (by k_is) (by k_is) (wpAny_call ?_)
  · show A.units + 1 + 1 < cLine
    have : (8890 : Nat) ≤ cLine := by decide
    omega
  refine str_raw ⟨X₀, T⟩ hM F.keep (N _ hacc).2.2 (N _ hdd).2.2 (N _ h154).2.2 (N _ hacc).1 (N _ hdd).1 hps (tab_of X (hd158 w) (N _ h154).1 htr) hG hh (Nat.lt_of_le_of_lt (Nat.le_of_eq rfl) (Nat.lt_trans hA (by decide))) ?_ hz hs1 hj fun s' t' keep ht' hG' hos => ?_
  · show A.units + 1 + 1 < 8900
    omega
  · obtain ⟨tp', e, htr'⟩ := ht'.out
    obtain ⟨F', N'⟩ := updF_K F N U keep e
    exact h s' _ tp' keep htr' F' N' hG' hos

/-- what was not there in the base is no part of the frame -/
theorem newEntry {h' : Heap} {t : Addr} {o : Obj} (F : Fr h₀ L s.heap m) (hnt : s.heap.get? t = none) (ht : h'.get? t = some o) : h'.get? t = some o ∧ t ≠ L ∧ h₀.get? t = none := by
  refine ⟨ht, fun e => ?_, ?_⟩
  · obtain ⟨o, _, _, e1, _⟩ := F.ns
    rw [show L = t from e.symm, hnt] at e1; cases e1
  · cases e : h₀.get? t with
    | none => rfl
    | some o => have := F.keep _ _ e; rw [hnt] at this; cases this

theorem popFrom_K {k : Nat} {t : Tok} (F : Fr h₀ L s.heap m) (X₀ : (top0.heap_1 w.params).In h₀) (T : TopRead vp lo mg mb h₀) (N : News h₀ L s.heap news) (U : UpdF acc (accObj d items n) news G) (hdd : (d, accDict hsh tk sz ti) ∈ news) (hA : A.depth < 900) (hU : A.units < 9000) (hz : items.size < 1000) (hk : k ≤ items.size)
    (h : ∀ l h' n' k', s.heap.get? l = none → Fr h₀ L h' m → News h₀ L h' ((l, { cls := .type "list", data := .seq (items.toList.drop k).toArray }) :: G (accObj d (items.toList.take k).toArray n')) → Q (.ref l) { s with heap := h', toks := k' }) :
    wpAny (model P95 w) A (call (.ref 137) [.ref acc, .int k t]) Q E s := by
  have hacc := UpdF.mem U
  refine wpAny_call (popFrom_raw ⟨X₀, T⟩ F.keep (N _ hacc).2.2 (N _ hdd).2.2 (N _ hacc).1 (N _ hdd).1 hA hU hz hk fun l h' n' k' keep ha hnl hl => ?_)
  obtain ⟨F', N'⟩ := updF_K F N U keep ha
  refine h l h' n' k' hnl F' fun q hq => ?_
  rcases List.mem_cons.mp hq with rfl | hq
  · exact newEntry F hnl hl
  · exact N' q hq

theorem updF2_K {h h' : Heap} {a b : Addr} {G1 : Obj → List (Addr × Obj)} {G2 : Obj → Obj → List (Addr × Obj)} {oa oa' ob ob' : Obj} (F : Fr h₀ L h m) (N : News h₀ L h news) (U1 : UpdF a oa news G1) (U2 : ∀ o, UpdF b ob (G1 o) (G2 o)) (hab : a ≠ b) (k : ∀ c o, c ≠ a → c ≠ b → h.get? c = some o → h'.get? c = some o) (ha : h'.get? a = some oa') (hb : h'.get? b = some ob') :
    Fr h₀ L h' m ∧ News h₀ L h' (G2 oa' ob') := by
  obtain ⟨pre, post, rfl, e, h1, h2⟩ := U1.split
  obtain ⟨pre2, post2, e3, e4, h3, h4⟩ := (U2 oa').split
  have Da := N (a, oa) (by simp)
  have hbm : (b, ob) ∈ pre ++ (a, oa) :: post := by
    have : (b, ob) ∈ G1 oa' := by rw [e3]; simp
    rw [e] at this
    rcases List.mem_append.mp this with z | z
    · exact List.mem_append_left _ z
    · rcases List.mem_cons.mp z with z | z
      · exact absurd (congrArg Prod.fst z).symm hab
      · exact List.mem_append_right _ (List.mem_cons_of_mem _ z)
  have Db := N (b, ob) hbm
  refine ⟨⟨F.ns.at' fun o e => k _ o (Ne.symm Da.2.1) (Ne.symm Db.2.1) e, fun c oc ec => k c oc (fun q => by have := Da.2.2; rw [← q, ec] at this; cases this) (fun q => by have := Db.2.2; rw [← q, ec] at this; cases this) (F.keep c oc ec), F.above⟩, fun q hq => ?_⟩
  rw [e4] at hq
  have old : ∀ q ∈ G1 oa', q.1 ≠ b → h'.get? q.1 = some q.2 ∧ q.1 ≠ L ∧ h₀.get? q.1 = none := by
    intro q hq hqb
    rw [e] at hq
    rcases List.mem_append.mp hq with z | z
    · have P := N q (List.mem_append_left _ z); exact ⟨k _ _ (h1 q z) hqb P.1, P.2⟩
    · rcases List.mem_cons.mp z with rfl | z
      · exact ⟨ha, Da.2⟩
      · have P := N q (List.mem_append_right _ (List.mem_cons_of_mem _ z)); exact ⟨k _ _ (h2 q z) hqb P.1, P.2⟩
  rcases List.mem_append.mp hq with z | z
  · exact old q (by rw [e3]; exact List.mem_append_left _ z) (h3 q z)
  · rcases List.mem_cons.mp z with rfl | z
    · exact ⟨hb, Db.2⟩
    · exact old q (by rw [e3]; exact List.mem_append_right _ (List.mem_cons_of_mem _ z)) (h4 q z)

theorem resetA_K {G2 : Obj → Obj → List (Addr × Obj)} (F : Fr h₀ L s.heap m) (X₀ : (top0.heap_1 w.params).In h₀) (T : TopRead vp lo mg mb h₀) (N : News h₀ L s.heap news) (U : UpdF acc (accObj d items n) news G) (U2 : ∀ o, UpdF d (accDict hsh tk sz ti) (G o) (G2 o)) (hdd : (d, accDict hsh tk sz ti) ∈ news) (hA : A.depth < 900) (hU : A.units < 9000) (hz : items.size < 1000)
    (h : ∀ h' n' ti' k, Fr h₀ L h' m → News h₀ L h' (G2 (accObj d #[] n') (accDict hsh tk 0 ti')) → Q .none { s with heap := h', toks := k }) : wpAny (model P95 w) A (call (.ref 167) [.ref acc]) Q E s := by
  have hacc := UpdF.mem U
  refine wpAny_call (reset_raw0 ⟨X₀, T⟩ F.keep (N _ hacc).2.2 (N _ hdd).2.2 (N _ hacc).1 (N _ hdd).1 hA hU hz fun h' n' ti' k keep ha hd => ?_)
  obtain ⟨F', N'⟩ := updF2_K F N U U2 (by rintro rfl; have h1 := (N _ hacc).1; have h2 := (N _ hdd).1; rw [h1] at h2; cases h2) keep ha hd
  exact h h' n' ti' k F' N'

theorem resetL_K {l : Addr} {new : Array Value} {ne : Nat} {G2 : Obj → Obj → List (Addr × Obj)} (F : Fr h₀ L s.heap m) (X₀ : (top0.heap_1 w.params).In h₀) (T : TopRead vp lo mg mb h₀) (N : News h₀ L s.heap news) (U : UpdF acc (accObj d items n) news G) (U2 : ∀ o, UpdF d (accDict hsh tk sz ti) (G o) (G2 o)) (hdd : (d, accDict hsh tk sz ti) ∈ news) (hl : (l, { cls := .type "list", data := .seq new ne }) ∈ news) (hA : A.depth < 900) (hU : A.units < 9000) (hz : items.size < 1000) (hz2 : new.size < 1000)
    (h : ∀ h' n' ti' k, Fr h₀ L h' m → News h₀ L h' (G2 (accObj d new n') (accDict hsh tk 0 ti')) → Q .none { s with heap := h', toks := k }) : wpAny (model P95 w) A (call (.ref 167) [.ref acc, .ref l]) Q E s := by
  have hacc := UpdF.mem U
  refine wpAny_call (reset_raw1 ⟨X₀, T⟩ F.keep (N _ hacc).2.2 (N _ hdd).2.2 (N _ hacc).1 (N _ hdd).1 hA hU hz (N _ hl).1 (N _ hl).2.2 hz2 fun h' n' ti' k keep ha hd => ?_)
  obtain ⟨F', N'⟩ := updF2_K F N U U2 (by rintro rfl; have h1 := (N _ hacc).1; have h2 := (N _ hdd).1; rw [h1] at h2; cases h2) keep ha hd
  exact h h' n' ti' k F' N'

theorem pop_K {l : List Value} {y : Value} (F : Fr h₀ L s.heap m) (X₀ : (top0.heap_1 w.params).In h₀) (T : TopRead vp lo mg mb h₀) (N : News h₀ L s.heap news) (U : UpdF acc (accObj d (l ++ [y]).toArray n) news G) (hdd : (d, accDict hsh tk sz ti) ∈ news) (hA : A.depth < 890) (hU : A.units < 8900) (hz : ((l ++ [y]).toArray : Array Value).size < 1000)
    (h : ∀ h' n' k, Fr h₀ L h' m → News h₀ L h' (G (accObj d l.toArray n')) → Q y { s with heap := h', toks := k }) : wpAny (model P95 w) A (call (.ref 145) [.ref acc]) Q E s := by
  have hacc := UpdF.mem U
  refine wpAny_call (pop_raw ⟨X₀, T⟩ F.keep (N _ hacc).2.2 (N _ hdd).2.2 (N _ hacc).1 (N _ hdd).1 hA hU hz fun h' n' k keep ha => ?_)
  obtain ⟨F', N'⟩ := updF_K F N U keep ha
  exact h h' n' k F' N'

theorem pop0_K (F : Fr h₀ L s.heap m) (X₀ : (top0.heap_1 w.params).In h₀) (T : TopRead vp lo mg mb h₀) (N : News h₀ L s.heap news) (hacc : (acc, accObj d #[] n) ∈ news) (hdd : (d, accDict hsh tk sz ti) ∈ news) (hA : A.depth < 890) (hU : A.units < 8900)
    (h : ∀ t t1 t2 h' k, s.heap.get? t = none → Fr h₀ L h' m → News h₀ L h' ((t, tupObj (.str "" t1) (.str "" t2)) :: news) → Q (.ref t) { s with heap := h', toks := k }) : wpAny (model P95 w) A (call (.ref 145) [.ref acc]) Q E s := by
  refine wpAny_call (pop_raw0 ⟨X₀, T⟩ F.keep (N _ hacc).2.2 (N _ hdd).2.2 (N _ hacc).1 (N _ hdd).1 hA hU (by decide) fun t t1 t2 h' k keep hnt ht => ?_)
  obtain ⟨F', N'⟩ := keep_K F N keep
  refine h t t1 t2 h' k hnt F' fun q hq => ?_
  rcases List.mem_cons.mp hq with rfl | hq
  · exact newEntry F hnt ht
  · exact N' q hq

theorem onlyws_K (F : Fr h₀ L s.heap m) (X₀ : (top0.heap_1 w.params).In h₀) (T : TopRead vp lo mg mb h₀) (N : News h₀ L s.heap news) (hacc : (acc, accObj d items n) ∈ news) (hdd : (d, accDict hsh tk sz ti) ∈ news) (hA : A.depth < 900) (hU : A.units < 9000) (hz : items.size < 1000) (hpos : 0 < sz)
    (h : ∀ h' k, (∀ b o, s.heap.get? b = some o → h'.get? b = some o) → Fr h₀ L h' m → News h₀ L h' news → Q (.bool false) { s with heap := h', toks := k }) : wpAny (model P95 w) A (call (.ref 174) [.ref acc]) Q E s :=
  wpAny_call (onlyws_raw ⟨X₀, T⟩ F.keep (N _ hacc).2.2 (N _ hdd).2.2 (N _ hacc).1 (N _ hdd).1 hA hU hz hpos fun h' k keep => h h' k keep (keep_K F N keep).1 (keep_K F N keep).2)
end
end
section
section
variable {w : World} {M : Model} {A : Around} {E : Value → Shared → Prop} {s : Shared} {acc d : Addr} {items : Array Value} {n en : Nat} {es : List DictEntry}

theorem acc_bindAttr {name : Str} {f : Addr} {expr : Bool} {Q : Value → Shared → Prop} (X : (top0.heap_1 w.params).In s.heap) (hacc : s.heap.get? acc = some (accObj d items n)) (hd : s.heap.get? d = some (dictOf es en))
    (h1 : findIn (top0.heap_1 w.params) (.ref 185) "__getattribute__" = some (some (.builtin "list.__getattribute__"))) (h2 : findIn (top0.heap_1 w.params) (.ref 185) "__getattr__" = some none)
    (hm : mroIn (top0.heap_1 w.params) 185 (.type "list") = some true) (hf : findObj (top0.heap_1 w.params) 185 (some (dictOf es en)) name = some (.bind (.builtin "function.__get__") (.ref f))) (hfn : isFn (top0.heap_1 w.params) (.ref f) = true)
    (h : Q (.ref s.heap.objs.size) { s with heap := s.heap.push (methodObj (.ref f) (.ref acc)), toks := s.toks + 1 }) : wpAny (model P95 w) A (getAttr (.ref acc) name expr) Q E s := by
  have I := acc_inst hacc hd
  obtain ⟨hh', g, dr, t, os⟩ := s
  have L0 : Looks (model P95 w) hh' _ _ := acc_type hacc
  have L1 : Looks (model P95 w) hh' _ _ := looks_findIn X h1
  have L2 : Looks (model P95 w) hh' _ _ := looks_findIn X h2
  have L3 : Looks (model P95 w) hh' _ _ := looks_find X I hf
  have B : bindSpecial (.builtin "list.__getattribute__") (.ref acc) = pure (.builtin "list.__getattribute__", [.ref acc]) :=
    (Slot.of (T := "list") (name := "__getattribute__") (owner := "list") (n := "__getattribute__") (by rw [typeLookup_type, builtinLookup_eq_fast]; kernel_rfl) (by decide +kernel) (by decide +kernel) (by decide +kernel)
      (.inl (by decide +kernel)) (by rw [isSubtype_type]; kernel_rfl)).bind _
  refine wpAny_bind (wpAny_mkText (wpAny_holding (wpAny_bind (L0.at (wpAny_bind (L1.at ?_))))))
  show wpAny _ _ (getAttrByItsOwn _ _ _ _ _ _) _ _ _
  refine wpAny_bind (m := typeLookup (.ref 185) "__getattr__") (L2.at ?_)
  refine wpAny_bind (wpAny_attempt (wpAny_holding ?_))
  have e1 : callGetattribute (.ref acc) (.str name t) (.builtin "list.__getattribute__") expr = (bindSpecial (.builtin "list.__getattribute__") (.ref acc) >>= fun gf => call gf.1 (gf.2 ++ [.str name t])) := by cases expr <;> rfl
  rw [e1, B]
  refine wpAny_bind (wpAny_pure ?_)
  refine wpAny_call (acc_call (nm := "__getattribute__") (b := Builtin.«object.__getattribute__») (K := top0.heap_1 w.params) X hacc hm (.inl (by decide +kernel)) (by decide +kernel) (by unfold argsOk; kernel_rfl) (by decide +kernel) PySem.F.entry_list_ga ?_)
  unfold Builtin.«object.__getattribute__»
  repeat (first | (with_reducible refine wpAny_bind (wpAny_holding (wpAny_call ?_))) | (with_reducible refine wpAny_bind (wpAny_call ?_)) | (with_reducible refine wpAny_call ?_) | lk)
  refine fn_get (K := top0.heap_1 w.params) X (beq_iff_eq.mp hfn) (wpAny_pure ?_)
  show wpAny _ _ (handedOut (.ref hh'.objs.size)) _ _ _
  exact handed_on rfl h

theorem starCall {env : Env} {o e : Expr} {name : Str} {apos pos p : Pos} {Q : Value → Shared → Prop}
    (h : wpAny M A (eval o env) (fun ov s₁ => wpAny M A (getAttr ov name true) (fun f s₂ => wpAny M A (callWith pos f [] (backTo pos (starEach [.Starred e p] env)) []) Q E s₂) E s₁) E s)
    (he : eval (.Call (.Attribute o name apos) [.Starred e p] [] pos) env = (do
      let ov ← eval o env
      standAt apos.atName
      let (f, first) ← holding [ov] (do pure (← getAttr ov name true, []))
      callWith pos f first (backTo pos (starEach [.Starred e p] env)) []) := by rfl) :
    wpAny M A (eval (.Call (.Attribute o name apos) [.Starred e p] [] pos) env) Q E s := by
  rw [he]
  exact wpAny_bind (wpAny_mono h (fun ov s₁ h₁ => wpAny_bind (wpAny_standAt (wpAny_bind (wpAny_holding (wpAny_bind (wpAny_mono h₁ (fun f s₂ h₂ => wpAny_pure h₂) fun _ _ x => x)))))) fun _ _ x => x)

/-- the bound push called with a pair's two items -/
theorem pushStar {env : Env} {e : Expr} {pos p : Pos} {q T : Addr} {x y : Value} {Q : Value → Shared → Prop} (X : (top0.heap_1 w.params).In s.heap) (hq : s.heap.get? q = some (methodObj (.ref 129) (.ref acc))) (hT : s.heap.get? T = some (tupObj x y))
    (he : ∀ Q' : Value → Shared → Prop, Q' (.ref T) s → wpAny (model P95 w) A (eval e env) Q' E s)
    (h : ∀ h', (∀ b o, s.heap.get? b = some o → h'.get? b = some o) → codeAny (model P95 w) A (.call (.ref 129) ⟨[.ref acc, x, y], []⟩) (fun r s' => match r with | .ok (.ret v) => Q v s' | .ok _ => False | .error e => E e s') { s with heap := h' })
    (hs : starEach [.Starred e p] env = [(true, eval e env)] := by rfl) :
    wpAny (model P95 w) A (callWith pos (.ref q) [] (backTo pos (starEach [.Starred e p] env)) []) Q E s := by
  rw [hs]
  refine ks_call (P := MethP (top0.heap_1 w.params) q 129 (.ref acc)) rfl (keeps_M (by k_is)) (ks_lone (he _ ?_))
  have z : wpAny (model P95 w) A (collect (.ref T)) (fun vs s₂ => MethP (top0.heap_1 w.params) q 129 (.ref acc) s₂.heap ∧ wpAny (model P95 w) A (call (.ref q) ([] ++ vs)) Q E s₂) E s := by
    refine wpAny_collect_seq T (.inr rfl) hT rfl rfl (fun h' hk => ⟨⟨hk _ _ hq, X.keeps hk⟩, ?_⟩) (show 2 ≤ sizeLine by decide)
    exact wpAny_call (method_call (hk _ _ hq) (h h' hk))
  unfold StarOf notIterableAtAll
  exact wpAny_bind (wpAny_specialOf ⟨_, hT, rfl⟩ PySem.F.slot_tuple_iter.lookup (wpAny_pure ⟨rfl, z⟩))
end

section
variable {w : World} {vp : Program} {lo : List Str} {A : Around} {s : Shared} {E : Value → Shared → Prop} {h₀ : Heap} {L acc d : Addr} {m : Str → Option Value} {items : Array Value} {n : Nat} {mg mb : Str → Option Value} {hsh sz : Int} {tk ti : Tok} {news : List (Addr × Obj)} {G : Obj → List (Addr × Obj)} {Q : Value → Shared → Prop}

theorem push_KR {f p : Value} {R : Result → Shared → Prop} (F : Fr h₀ L s.heap m) (X₀ : (top0.heap_1 w.params).In h₀) (T : TopRead vp lo mg mb h₀) (N : News h₀ L s.heap news) (U : UpdF acc (accObj d items n) news G) (hdd : (d, accDict hsh tk sz ti) ∈ news) (hA : A.depth < 900) (hU : A.units < 9000) (hz : items.size < 1000)
    (h : ∀ t h' k, s.heap.get? t = none → Fr h₀ L h' m → News h₀ L h' ((t, tupObj f p) :: G (accObj d (items.push (.ref t)) (n + 1))) → R (.ok (.ret .none)) { s with heap := h', toks := k }) : codeAny (model P95 w) A (.call (.ref 129) ⟨[.ref acc, f, p], []⟩) R s := by
  have hacc := UpdF.mem U
  refine push_raw ⟨X₀, T⟩ F.keep (N _ hacc).2.2 (N _ hdd).2.2 (N _ hacc).1 (N _ hdd).1 hA hU hz fun t h' k keep hnt ht ha => ?_
  obtain ⟨F', N'⟩ := updF_K F N U keep ha
  refine h t h' k hnt F' fun q hq => ?_
  rcases List.mem_cons.mp hq with rfl | hq
  · exact newEntry F hnt ht
  · exact N' q hq

/-- acc.push( *pair ), the pair a name of the frame -/
theorem pushStar_K {env : Env} {o e : Expr} {apos pos p : Pos} {T : Addr} {x y : Value} (F : Fr h₀ L s.heap m) (X₀ : (top0.heap_1 w.params).In h₀) (T' : TopRead vp lo mg mb h₀) (N : News h₀ L s.heap news) (U : UpdF acc (accObj d items n) news G) (hdd : (d, accDict hsh tk sz ti) ∈ news) (hA : A.depth < 900) (hU : A.units < 9000) (hz : items.size < 1000)
    (hT : s.heap.get? T = some (tupObj x y))
    (ho : ∀ Q' : Value → Shared → Prop, Q' (.ref acc) { s with toks := s.toks + 1 } → wpAny (model P95 w) A (eval o env) Q' E s) (he : ∀ (Q' : Value → Shared → Prop) (s' : Shared), Fr h₀ L s'.heap m → Q' (.ref T) s' → wpAny (model P95 w) A (eval e env) Q' E s')
    (h : ∀ t h' k, s.heap.get? t = none → Fr h₀ L h' m → News h₀ L h' ((t, tupObj x y) :: G (accObj d (items.push (.ref t)) (n + 1))) → Q .none { s with heap := h', toks := k })
    (hs : starEach [.Starred e p] env = [(true, eval e env)] := by rfl)
    (hev : eval (.Call (.Attribute o "push" apos) [.Starred e p] [] pos) env = (do
      let ov ← eval o env
      standAt apos.atName
      let (f, first) ← holding [ov] (do pure (← getAttr ov "push" true, []))
      callWith pos f first (backTo pos (starEach [.Starred e p] env)) []) := by rfl) :
    wpAny (model P95 w) A (eval (.Call (.Attribute o "push" apos) [.Starred e p] [] pos) env) Q E s := by
  have hacc := UpdF.mem U
  refine starCall (ho _ ?_) hev
  have Fp : Fr h₀ L (s.heap.push (methodObj (.ref 129) (.ref acc))) m := F.push _
  have Np : News h₀ L (s.heap.push (methodObj (.ref 129) (.ref acc))) news := fun q hq => ⟨Heap.get?_push_of_some _ (N q hq).1, (N q hq).2⟩
  refine acc_bindAttr (f := 129) (s := { s with toks := s.toks + 1 }) (X₀.keeps F.keep) (N _ hacc).1 (N _ hdd).1 (by k_is) (by k_is) (by k_is) ?_ (by k_is) ?_
  · exact findObj_fn (by k_is) (by k_is) (by k_is) (by k_is) (by decide +kernel) (by rw [lookIn_dict]; k_get)
  · refine pushStar (X₀.keeps Fp.keep) (Heap.get?_push_size _ rfl) (Heap.get?_push_of_some _ hT) (fun Q' hq => he Q' _ Fp hq) (fun h' hk => ?_) hs
    obtain ⟨F2, N2⟩ := keep_K (m := m) Fp Np hk
    refine push_KR F2 X₀ T' N2 U hdd hA hU hz fun t h2 k hnt F3 N3 => h t h2 k ?_ F3 N3
    cases e1 : s.heap.get? t with
    | none => rfl
    | some o' => have := hk _ _ (Heap.get?_push_of_some _ e1); rw [hnt] at this; cases this
end
end
section
def marksB (x : Str) : Bool := decide (x.cps.size ≤ 2) && x.cps.all fun c => c == 46 || c == 58
def whiteB (x : Str) : Bool := x == "" || x == " " || x == "\t"
def endB2 (x : Str) : Bool := decide (x.cps.size < 100) && match x.cps.toList with | [] => true | c :: _ => c == 10 || c == 58
def roomB (k : Int) : Bool := decide (0 ≤ k) && decide (k < 7)
def strP (p : Str → Bool) : Value → Bool | .str x _ => p x | _ => false
def intP (p : Int → Bool) : Value → Bool | .int x _ => p x | _ => false
section
variable {prog : Program} {w : World} {A : Around} {E : Value → Shared → Prop} {s : Shared} {h₀ : Heap} {L l : Addr} {news : List (Addr × Obj)} {its : Array Value} {c : Nat} {value slice : Expr} {k n : Int} {u : Tok} {Q : Value → Shared → Prop}
theorem pick_at (N : News h₀ L s.heap news) (hm : (l, listOf its c) ∈ news) (h0 : 0 ≤ k) (h1 : k < its.size) (hz : its.size < 1000) (P : Value → Bool) (hP : its.all P = true) (h : ∀ v, P v = true → Q v s)
    (hs : subscripted slice false (.ref l) (.int k u) = operate [.ref l, .int k u] (getItem (.ref l) (.int k u)) := by with_unfolding_all rfl) :
    wpAny (model prog w) A (subscriptTail value slice (.ref l) (.int k u)) Q E s := by
  have hl : s.heap.IsList l its := ⟨_, (N _ hm).1, rfl, _, rfl⟩
  have hk : k.toNat < its.size := by omega
  have hx : its[k.toNat]? = some its[k.toNat] := Array.getElem?_eq_getElem hk
  refine tail_any hl.typeIs slot_list_getitem.lookup (wpAny_getItem_list hl h0 (by omega) hx (h _ ?_)) hs
  exact (Array.all_eq_true.mp hP) k.toNat hk
theorem pickS {x0 m : Int} (p : Str → Bool) (N : News h₀ L s.heap news) (hm : (l, listOf its c) ∈ news) (h0 : decide (0 < m) = true) (h1 : m.toNat ≤ its.size) (hz : its.size < 1000) (hP : its.all (strP p) = true) (h : ∀ x t, p x = true → Q (.str x t) s)
    (hs : subscripted slice false (.ref l) (.int (x0.fmod m) u) = operate [.ref l, .int (x0.fmod m) u] (getItem (.ref l) (.int (x0.fmod m) u)) := by with_unfolding_all rfl) :
    wpAny (model prog w) A (subscriptTail value slice (.ref l) (.int (x0.fmod m) u)) Q E s := by
  have h0' := of_decide_eq_true h0
  have h2 := Int.fmod_lt_of_pos x0 h0'
  refine pick_at N hm (Int.fmod_nonneg_of_pos _ h0') (by omega) hz (strP p) hP (fun v hv => ?_) hs
  cases v <;> first | cases hv | skip
  exact h _ _ hv
theorem pickI {x0 m : Int} (p : Int → Bool) (N : News h₀ L s.heap news) (hm : (l, listOf its c) ∈ news) (h0 : decide (0 < m) = true) (h1 : m.toNat ≤ its.size) (hz : its.size < 1000) (hP : its.all (intP p) = true) (h : ∀ x t, p x = true → Q (.int x t) s)
    (hs : subscripted slice false (.ref l) (.int (x0.fmod m) u) = operate [.ref l, .int (x0.fmod m) u] (getItem (.ref l) (.int (x0.fmod m) u)) := by with_unfolding_all rfl) :
    wpAny (model prog w) A (subscriptTail value slice (.ref l) (.int (x0.fmod m) u)) Q E s := by
  have h0' := of_decide_eq_true h0
  have h2 := Int.fmod_lt_of_pos x0 h0'
  refine pick_at N hm (Int.fmod_nonneg_of_pos _ h0') (by omega) hz (intP p) hP (fun v hv => ?_) hs
  cases v <;> first | cases hv | skip
  exact h _ _ hv
end
def Held (p : Prop) : Prop := p
theorem Held.go {p : Prop} (h : Held p) : p := h
end
section
abbrev fmtDict (h1 h2 h3 h4 h5 h6 : Int) (k1 k2 k3 k4 k5 k6 : Tok) (ml : Int) (tm : Tok) (cw : Str) (tc : Tok) (cl : Int) (tl : Tok) (mk : Str) (tmk : Tok) (ll acc : Addr) : Obj :=
  dictOf [⟨h1, .str "_maxlen" k1, .int ml tm⟩, ⟨h2, .str "_continuation_ws" k2, .str cw tc⟩, ⟨h3, .str "_continuation_ws_len" k3, .int cl tl⟩, ⟨h4, .str "_splitchars" k4, .str mk tmk⟩, ⟨h5, .str "_lines" k5, .ref ll⟩, ⟨h6, .str "_current_line" k6, .ref acc⟩] 6

theorem mods_in {vp : Program} {lo : List Str} {mg mb : Str → Option Value} {B g h : Heap} {W : List Addr} (hM : Mods B mg) (T' : TopRead vp lo mg mb g) (st : ∀ b o, B.get? b = some o → h.get? b = some o) (hW : ∀ a ∈ W, B.get? a = none)
    (kg : ∀ b o, h.get? b = some o → b ∉ W → g.get? b = some o) : Mods g mg := by
  obtain ⟨bm, ob, M⟩ := hM
  exact ⟨bm, ob, T'.g, M.name, M.ne, kg _ _ (st _ _ M.obj) (fun hm => by have o := M.obj; rw [hW _ hm] at o; cases o), M.cls, M.dict, M.data⟩

def isTup (o : Obj) : Bool := match o.cls with | .type "tuple" => true | _ => false
theorem parts_in {ps : List Part} {g h : Heap} {news : List (Addr × Obj)} (hps : Parts h ps) (hn : ∀ p ∈ news, h.get? p.1 = some p.2) (kg : ∀ b o, h.get? b = some o → b ∉ news.map (·.1) → g.get? b = some o) (ht : (news.all fun p => !isTup p.2) = true) : Parts g ps := by
  intro q hq
  refine kg _ _ (hps q hq) fun hm => ?_
  obtain ⟨p, hp, e⟩ := List.mem_map.mp hm
  have h1 := hn p hp
  have h2 := List.all_eq_true.mp ht p hp
  rw [e, hps q hq] at h1
  rw [← Option.some.inj h1] at h2
  cases h2

section
theorem sayE1x_1 : True := by
  k_with "call ref" => (k_here; (with_reducible show wpAny _ _ (call (Value.ref _) _) _ _ _); refine Held.go ?_)
  trivial
theorem sayE1x_2 : True := by
  k_with "call type:str" => (k_here; (with_reducible show wpAny _ _ (call (Value.type "str") [Value.ref _]) _ _ _); refine Held.go ?_)
  trivial
theorem sayE1x_3 : True := by
  k_with "call builtin:len" => (k_here; (with_reducible show wpAny _ _ (call (Value.builtin "len") [Value.ref _]) _ _ _); refine Held.go ?_)
  trivial
theorem sayE1x_4 : True := by
  k_with "getMethod ref" => (k_here; k_dflt (first | (refine' acc_getMethod (by k_in) (by exact News.get (by k_asm) (by k_mem)) (by exact News.get (by k_asm) (by k_mem)) (by k_is) (by k_is) (by k_is) (by k_is) (by decide) (by k_get) ?_)))
  trivial

theorem itemsOf_snoc (l : List Part) (q : Part) : itemsOf (l ++ [q]) = ((l.map fun r => Value.ref r.T) ++ [Value.ref q.T]).toArray := by simp [itemsOf]
theorem itemsOf_push (l : List Part) (q : Part) : (itemsOf l).push (.ref q.T) = itemsOf (l ++ [q]) := by simp [itemsOf]
theorem itemsOf_push' (l : List Part) (t : Addr) (q : Part) : (l.map (fun q => Value.ref q.T)).toArray.push (.ref t) = itemsOf (l ++ [{ q with T := t }]) := by simp [itemsOf]
theorem texts_snoc (l : List Part) (q : Part) : texts (l ++ [q]) = texts l ++ [q.f ++ q.p] := by simp [texts]

theorem nil_or_snoc (ps : List Part) : ps = [] ∨ ∃ l q, ps = l ++ [q] := by
  rcases List.eq_nil_or_concat ps with h | ⟨l, q, h⟩
  · exact .inl h
  · exact .inr ⟨l, q, by rw [h]; simp⟩

theorem parts_but {h h' : Heap} {P : Addr} {tp : Array Value} {ps : List Part} (hps : Parts h ps) (hP : h.get? P = some (tabO tp)) (k : ∀ b o, b ≠ P → h.get? b = some o → h'.get? b = some o) : Parts h' ps := by
  intro q hq
  refine k _ _ (fun e => ?_) (hps q hq)
  have := hps q hq
  rw [e, hP] at this
  cases this

theorem newline_raw {w : World} {vp : Program} {lo : List Str} {A : Around} {s : Shared} {R : Result → Shared → Prop} {B : Heap} {fm fd ll acc d : Addr} {ps : List Part} {n c : Nat} {mg mb : Str → Option Value} {hsh sz h1 h2 h3 h4 h5 h6 ml cl : Int} {tq ti k1 k2 k3 k4 k5 k6 tm tc tl tmk : Tok} {cw mk : Str} {li t1 t2 : Array Value}
    (hB : Base w vp lo mg mb B) (hM : Mods B mg) (st : ∀ b o, B.get? b = some o → s.heap.get? b = some o) (hn0 : ∀ a ∈ [fd, fm, ll, d, acc, 147, 154], B.get? a = none)
    (hfd : s.heap.get? fd = some (fmtDict h1 h2 h3 h4 h5 h6 k1 k2 k3 k4 k5 k6 ml tm cw tc cl tl mk tmk ll acc)) (hfm : s.heap.get? fm = some (instObj 101 fd)) (hll : s.heap.get? ll = some (listOf li c))
    (hdd : s.heap.get? d = some (accDict hsh tq sz ti)) (hacc : s.heap.get? acc = some (accObj d (itemsOf ps) n)) (h147 : s.heap.get? 147 = some (tabO t1)) (h154 : s.heap.get? 154 = some (tabO t2)) (tr1 : TriplesOk t1.toList) (tr2 : TriplesOk t2.toList)
    (ord : @LT.lt Nat _ 154 fd ∧ @LT.lt Nat _ fd fm ∧ @LT.lt Nat _ fm ll ∧ @LT.lt Nat _ ll d ∧ @LT.lt Nat _ d acc)
    (hps : Parts s.heap ps) (hG : AllBare s.gens) (hh : A.handled = none) (hz : ps.length < 100) (hs1 : Small ps) (hsz : 0 ≤ sz ∧ sz < 1000) (hli : li.size < 1000) (hne : ∀ q ∈ ps, q.p ≠ "") (hok : ∀ q ∈ ps, PyData.strOk q.f = true ∧ PyData.strOk q.p = true) (hj : JoinOk "" (texts ps) = true) (hpos : 0 < sz) (hA : A.depth < 800) (hU : A.units < 8000)
    (h : ∀ s' n' c' ti' t' t1' t2', (∀ b o, b ∉ [ll, d, acc, 147, 154] → s.heap.get? b = some o → s'.heap.get? b = some o) → s'.heap.get? ll = some (listOf (li.push (.str (textOf ps) t')) c') → s'.heap.get? d = some (accDict hsh tq 0 ti') → s'.heap.get? acc = some (accObj d #[] n') → s'.heap.get? 147 = some (tabO t1') → s'.heap.get? 154 = some (tabO t2') → TriplesOk t1'.toList → TriplesOk t2'.toList → AllBare s'.gens → s'.os = s.os → R (.ok (.ret .none)) s') :
    codeAny (model P95 w) A (.call (.ref 63) ⟨[.ref fm], []⟩) R s := by
  have X : (top0.heap_1 w.params).In s.heap := hB.X.keeps st
  have T := hB.T.keeps st
  have hn : ∀ p ∈ [(fd, fmtDict h1 h2 h3 h4 h5 h6 k1 k2 k3 k4 k5 k6 ml tm cw tc cl tl mk tmk ll acc), (fm, instObj 101 fd), (ll, listOf li c), (d, accDict hsh tq sz ti), (acc, accObj d (itemsOf ps) n), (147, tabO t1), (154, tabO t2)], s.heap.get? p.1 = some p.2 := by
    intro q hq
    simp only [List.mem_cons, List.not_mem_nil, or_false] at hq
    rcases hq with rfl | rfl | rfl | rfl | rfl | rfl | rfl <;> assumption
  obtain ⟨o1, o2, o3, o4, o5⟩ := ord
  refine' enterK (K := top0.heap_1 w.params) (news := [(fd, fmtDict h1 h2 h3 h4 h5 h6 k1 k2 k3 k4 k5 k6 ml tm cw tc cl tl mk tmk ll acc), (fm, instObj 101 fd), (ll, listOf li c), (d, accDict hsh tq sz ti), (acc, accObj d (itemsOf ps) n), (147, tabO t1), (154, tabO t2)]) (binds := [("self", .ref fm)]) X T.nolimit hn ?k6 ?k7 (Nat.lt_trans hA (by decide)) ?k9 ?kB ?_ ?c5 ?c2 ?c3 ?c4; (case k6 => k_is); (case k7 => k_is); (case k9 => first | exact BindsTo.of_eq rfl | exact binds_K X rfl (by k_is) rfl rfl rfl); (case c5 => decide); (case kB => exact locs rfl); (case c2 => exact rfl); (case c3 => exact rfl); (case c4 => exact rfl); intro g' L' h' F' N' kg' l1
  obtain ⟨KX, T'⟩ := base_in hB st (W := [fd, fm, ll, d, acc, 147, 154]) hn0 kg'
  have hM' : Mods g' mg := mods_in hM T' st (W := [fd, fm, ll, d, acc, 147, 154]) hn0 kg'
  have hpg : Parts g' ps := parts_in hps hn kg' rfl
  clear X T
  refine noE ?_
  k_fold
  have dA : (A.deeper (envOf "_ValueFormatter.newline" default L' 63 (.ref 62))).depth < 880 := Nat.lt_of_lt_of_le (Nat.succ_lt_succ hA) (by decide)
  have dU : (A.deeper (envOf "_ValueFormatter.newline" default L' 63 (.ref 62))).units < 8880 := Nat.lt_of_lt_of_le (Nat.add_lt_add_right hU 3) (by decide)
  repeat' (first | (k_unfold; (try dsimp only)) | walk1 | (dsimp only; walk1) | fail "no step")
  rcases nil_or_snoc ps with rfl | ⟨l, q, rfl⟩
  · refine pop0_K (F := F') (X₀ := KX) (T := T') (N := N') (by k_mem) (by k_mem) (Nat.lt_of_lt_of_le (Nat.succ_lt_succ hA) (by decide)) (Nat.lt_of_lt_of_le (Nat.add_lt_add_right hU 3) (by decide)) fun t t1' t2' h2 kk hnt F2 N2 => ?_
    have x1 : @Ne Nat t acc := neO hnt (N' (acc, _) (by k_mem)).1
    have x2 : @Ne Nat t d := neO hnt (N' (d, _) (by k_mem)).1
    have x3 : @Ne Nat t ll := neO hnt (N' (ll, _) (by k_mem)).1
    have x4 : @Ne Nat t 147 := neO hnt (N' (147, _) (by k_mem)).1
    have x5 : @Ne Nat t 154 := neO hnt (N' (154, _) (by k_mem)).1
    clear F' N'
    repeat' (first | (k_unfold; (try dsimp only)) | walk1 | (dsimp only; walk1) | fail "no step")
    rename Fr _ _ _ _ => F3
    rename News _ _ _ _ => N3
    refine pushStar_K (acc := acc) (d := d) (T := t) (x := .str "" t1') (y := .str "" t2') (items := itemsOf []) (n := n) F3 KX T' N3 (by k_updF) (by k_mem) (Nat.lt_of_lt_of_le (Nat.succ_lt_succ hA) (by decide)) (Nat.lt_of_lt_of_le (Nat.add_lt_add_right hU 3) (by decide)) (by decide) (N3 (t, _) (by k_mem)).1 ?_ ?_ ?_
    · intro Q' hq
      repeat' (first | (k_unfold; (try dsimp only)) | walk1 | (dsimp only; walk1) | fail "no step")
      exact hq
    · intro Q' s' F9 hq
      exact wpAny_Name (wpAny_loadName_local rfl rfl F9.ns rfl hq)
    · intro t3 h3 k3 hnt3 F4 N4
      have y1 : @Ne Nat t3 acc := neO hnt3 (N3 (acc, _) (by k_mem)).1
      have y2 : @Ne Nat t3 d := neO hnt3 (N3 (d, _) (by k_mem)).1
      have y3 : @Ne Nat t3 ll := neO hnt3 (N3 (ll, _) (by k_mem)).1
      have y4 : @Ne Nat t3 147 := neO hnt3 (N3 (147, _) (by k_mem)).1
      have y5 : @Ne Nat t3 154 := neO hnt3 (N3 (154, _) (by k_mem)).1
      rw [itemsOf_push [] ⟨t3, "", t1', "", t2'⟩] at N4
      have hpx : Parts h3 [⟨t3, "", t1', "", t2'⟩] := by
        intro r hr
        rw [List.mem_singleton.mp hr]
        exact (N4 (t3, _) (by k_mem)).1
      have l0 : (("" : Str)).length < 1000 := by decide
      have hsx : Small [⟨t3, "", t1', "", t2'⟩] := by
        intro r hr
        rw [List.mem_singleton.mp hr]
        exact ⟨l0, l0⟩
      have hzx : [(⟨t3, "", t1', "", t2'⟩ : Part)].length < 1000 := show 1 < 1000 by decide
      have hjx : JoinOk "" (texts [⟨t3, "", t1', "", t2'⟩]) = true := show JoinOk "" [("" : Str) ++ ("" : Str)] = true from by decide +kernel
      clear F3 N3
      repeat' (first | (k_unfold; (try dsimp only)) | walk1 | (dsimp only; walk1) | fail "no step")
      rename Fr _ _ _ _ => F4
      rename News _ _ _ _ => N4
      refine lenAcc_K (acc := acc) (d := d) (ps := [⟨t3, "", t1', "", t2'⟩]) (tp := t1) F4 KX T' hM' N4 (by k_mem) (by k_mem) (by k_updF) tr1 hpx hG hh dA dU hzx hsx hsz fun s5 t5 tp5 kp5 tr5 F5 N5 G5 os5 => ?_
      have hpx5 : Parts s5.heap [⟨t3, "", t1', "", t2'⟩] := parts_but hpx (N4 (147, _) (by k_mem)).1 kp5
      have hgt : sz + lenOf [⟨t3, "", t1', "", t2'⟩] > 0 := by have := (preSum_bound hsx ([⟨t3, "", t1', "", t2'⟩] : List Part).length).1; unfold lenOf; omega
      clear F4 N4 kp5
      repeat' (first | (k_unfold; (try dsimp only)) | walk1 | (dsimp only; walk1) | fail "no step")
      rename Fr _ _ _ _ => F6
      rename News _ _ _ _ => N6
      refine onlyws_K (acc := acc) (d := d) (items := itemsOf [⟨t3, "", t1', "", t2'⟩]) F6 KX T' N6 (by k_mem) (by k_mem) (Nat.lt_trans dA (by decide)) (Nat.lt_trans dU (by decide)) (by rw [itemsOf_size]; omega) hpos fun h7 k7 kp7 F7 N7 => ?_
      have hpx7 : Parts h7 [⟨t3, "", t1', "", t2'⟩] := fun r hr => kp7 _ _ (hpx5 r hr)
      clear F6 N6 kp7
      repeat' (first | (k_unfold; (try dsimp only)) | walk1 | (dsimp only; walk1) | fail "no step")
      rename Fr _ _ _ _ => F6
      rename News _ _ _ _ => N6
      refine strAcc_K (acc := acc) (d := d) (ps := [⟨t3, "", t1', "", t2'⟩]) (tp := t2) F6 KX T' hM' N6 (by k_mem) (by k_mem) (by k_updF) tr2 hpx7 G5 hh dA dU hzx hsx hjx fun s8 t8 tp8 kp8 tr8 F8 N8 G8 os8 => ?_
      clear F6 N6 kp8
      repeat' (first | (k_unfold; (try dsimp only)) | walk1 | (dsimp only; walk1) | fail "no step")
      rename Fr _ _ _ _ => F9
      rename News _ _ _ _ => N9
      refine resetA_K (acc := acc) (d := d) (items := itemsOf [⟨t3, "", t1', "", t2'⟩]) F9 KX T' N9 (by k_updF) (by intro o; k_updF) (by k_mem) (Nat.lt_trans dA (by decide)) (Nat.lt_trans dU (by decide)) (by rw [itemsOf_size]; omega) fun hA n10 ti10 k10 F10 N10 => ?_
      clear F9 N9
      repeat' (first | (k_unfold; (try dsimp only)) | walk1 | (dsimp only; walk1) | fail "no step")
      rename Fr _ _ _ _ => F10
      rename News _ _ _ _ => N10
      have etx : textOf [] = textOf [⟨t3, "", t1', "", t2'⟩] := show Txt.join "" [] = Txt.join "" [("" : Str) ++ ("" : Str)] from by decide +kernel
      have ell := (N10 (ll, _) (by k_mem)).1
      rw [← etx] at ell
      refine h _ n10 _ ti10 t8 tp5 tp8 (fun b o hb e => ?_) ell (N10 (d, _) (by k_mem)).1 (N10 (acc, _) (by k_mem)).1 (N10 (147, _) (by k_mem)).1 (N10 (154, _) (by k_mem)).1 tr5 tr8 G8 (os8.trans os5)
      by_cases hb1 : b = fd
      · subst hb1; rw [hfd] at e; cases e; exact (N10 (_, _) (by k_mem)).1
      by_cases hb2 : b = fm
      · subst hb2; rw [hfm] at e; cases e; exact (N10 (_, _) (by k_mem)).1
      · exact F10.keep b o (kg' b o e (by simp at hb; simp [hb, hb1, hb2]))
  · have hsz1 : (itemsOf (l ++ [q])).size < 1000 := by rw [itemsOf_size]; omega
    rw [itemsOf_snoc] at N' hsz1
    have hqg := hpg q (by simp)
    have hqp : q.p ≠ "" := hne q (by simp)
    have hrq := reads_tuple_at hqg rfl rfl (ReadsAll.cons (Reads.str q.f q.tf) (ReadsAll.cons (Reads.str q.p q.tp) ReadsAll.nil))
    refine pop_K (acc := acc) (d := d) F' KX T' N' (by k_updF) (by k_mem) (Nat.lt_trans dA (by decide)) (Nat.lt_trans dU (by decide)) hsz1 fun h2 n2 k2 F2 N2 => ?_
    clear F' N'
    repeat' (first | (k_unfold; (try dsimp only)) | walk1 | (dsimp only; walk1) | fail "no step")
    rename Fr _ _ _ _ => F3
    rename News _ _ _ _ => N3
    have eqf : PyData.eqv (.tuple [.str q.f, .str q.p]) (.tuple [.str " ", .str ""]) = false := by simp [PyData.eqv, PyData.eqvAll, hqp]
    refine ne_dataH (Reads.keeps F3.keep hrq) (reads_tuple_at (N3 _ (.head _)).1 rfl rfl (ReadsAll.cons (Reads.str _ _) (ReadsAll.cons (Reads.str _ _) ReadsAll.nil))) (by first | rfl | decide +kernel | simp [SeqAt.shaped, PyData.canLay0, PyData.canLayAll0, PyData.depth, PyData.depthAll, (hok q (by simp)).1, (hok q (by simp)).2]) (by first | rfl | decide +kernel | simp [SeqAt.shaped, PyData.canLay0, PyData.canLayAll0, PyData.depth, PyData.depthAll, (hok q (by simp)).1, (hok q (by simp)).2]) (Nat.lt_of_lt_of_le (Nat.add_lt_add_right dU 64) (by decide)) ?_
    rw [eqf]
    repeat' (first | (k_unfold; (try dsimp only)) | walk1 | (dsimp only; walk1) | fail "no step")
    rename Fr _ _ _ _ => F3
    rename News _ _ _ _ => N3
    refine pushStar_K (acc := acc) (d := d) (T := q.T) (x := .str q.f q.tf) (y := .str q.p q.tp) F3 KX T' N3 (by k_updF) (by k_mem) (Nat.lt_trans dA (by decide)) (Nat.lt_trans dU (by decide)) (by simp at hsz1 ⊢; omega) (F3.keep _ _ hqg) ?_ ?_ ?_
    · intro Q' hq
      repeat' (first | (k_unfold; (try dsimp only)) | walk1 | (dsimp only; walk1) | fail "no step")
      exact hq
    · intro Q' s' F9 hq
      exact wpAny_Name (wpAny_loadName_local rfl rfl F9.ns rfl hq)
    · intro t3 h3 k3 hnt3 F4 N4
      have y1 : @Ne Nat t3 acc := neO hnt3 (N3 (acc, _) (by k_mem)).1
      have y2 : @Ne Nat t3 d := neO hnt3 (N3 (d, _) (by k_mem)).1
      have y3 : @Ne Nat t3 ll := neO hnt3 (N3 (ll, _) (by k_mem)).1
      have y4 : @Ne Nat t3 147 := neO hnt3 (N3 (147, _) (by k_mem)).1
      have y5 : @Ne Nat t3 154 := neO hnt3 (N3 (154, _) (by k_mem)).1
      rw [itemsOf_push' l t3 q] at N4
      have hpx : Parts h3 (l ++ [{ q with T := t3 }]) := by
        intro r hr
        rcases List.mem_append.mp hr with hr | hr
        · exact F4.keep _ _ (hpg r (List.mem_append_left _ hr))
        · rw [List.mem_singleton.mp hr]
          exact (N4 (t3, _) (by k_mem)).1
      have hsx : Small (l ++ [{ q with T := t3 }]) := by
        intro r hr
        rcases List.mem_append.mp hr with hr | hr
        · exact hs1 r (List.mem_append_left _ hr)
        · rw [List.mem_singleton.mp hr]
          exact hs1 q (by simp)
      have hzx : (l ++ [{ q with T := t3 }]).length < 1000 := by
        have : (l ++ [q]).length < 1000 := by omega
        simpa using this
      have etx : textOf (l ++ [q]) = textOf (l ++ [{ q with T := t3 }]) := by unfold textOf; rw [texts_snoc, texts_snoc]
      have hjx : JoinOk "" (texts (l ++ [{ q with T := t3 }])) = true := by rw [texts_snoc]; rw [texts_snoc] at hj; exact hj
      clear F3 N3
      repeat' (first | (k_unfold; (try dsimp only)) | walk1 | (dsimp only; walk1) | fail "no step")
      rename Fr _ _ _ _ => F4
      rename News _ _ _ _ => N4
      refine lenAcc_K (acc := acc) (d := d) (ps := (l ++ [{ q with T := t3 }])) (tp := t1) F4 KX T' hM' N4 (by k_mem) (by k_mem) (by k_updF) tr1 hpx hG hh dA dU hzx hsx hsz fun s5 t5 tp5 kp5 tr5 F5 N5 G5 os5 => ?_
      have hpx5 : Parts s5.heap (l ++ [{ q with T := t3 }]) := parts_but hpx (N4 (147, _) (by k_mem)).1 kp5
      have hgt : sz + lenOf (l ++ [{ q with T := t3 }]) > 0 := by have := (preSum_bound hsx ((l ++ [{ q with T := t3 }]) : List Part).length).1; unfold lenOf; omega
      clear F4 N4 kp5
      repeat' (first | (k_unfold; (try dsimp only)) | walk1 | (dsimp only; walk1) | fail "no step")
      rename Fr _ _ _ _ => F6
      rename News _ _ _ _ => N6
      refine onlyws_K (acc := acc) (d := d) (items := itemsOf (l ++ [{ q with T := t3 }])) F6 KX T' N6 (by k_mem) (by k_mem) (Nat.lt_trans dA (by decide)) (Nat.lt_trans dU (by decide)) (by rw [itemsOf_size]; omega) hpos fun h7 k7 kp7 F7 N7 => ?_
      have hpx7 : Parts h7 (l ++ [{ q with T := t3 }]) := fun r hr => kp7 _ _ (hpx5 r hr)
      clear F6 N6 kp7
      repeat' (first | (k_unfold; (try dsimp only)) | walk1 | (dsimp only; walk1) | fail "no step")
      rename Fr _ _ _ _ => F6
      rename News _ _ _ _ => N6
      refine strAcc_K (acc := acc) (d := d) (ps := (l ++ [{ q with T := t3 }])) (tp := t2) F6 KX T' hM' N6 (by k_mem) (by k_mem) (by k_updF) tr2 hpx7 G5 hh dA dU hzx hsx hjx fun s8 t8 tp8 kp8 tr8 F8 N8 G8 os8 => ?_
      clear F6 N6 kp8
      repeat' (first | (k_unfold; (try dsimp only)) | walk1 | (dsimp only; walk1) | fail "no step")
      rename Fr _ _ _ _ => F9
      rename News _ _ _ _ => N9
      refine resetA_K (acc := acc) (d := d) (items := itemsOf (l ++ [{ q with T := t3 }])) F9 KX T' N9 (by k_updF) (by intro o; k_updF) (by k_mem) (Nat.lt_trans dA (by decide)) (Nat.lt_trans dU (by decide)) (by rw [itemsOf_size]; omega) fun hA n10 ti10 k10 F10 N10 => ?_
      clear F9 N9
      repeat' (first | (k_unfold; (try dsimp only)) | walk1 | (dsimp only; walk1) | fail "no step")
      rename Fr _ _ _ _ => F10
      rename News _ _ _ _ => N10
      have ell := (N10 (ll, _) (by k_mem)).1
      rw [← etx] at ell
      refine h _ n10 _ ti10 t8 tp5 tp8 (fun b o hb e => ?_) ell (N10 (d, _) (by k_mem)).1 (N10 (acc, _) (by k_mem)).1 (N10 (147, _) (by k_mem)).1 (N10 (154, _) (by k_mem)).1 tr5 tr8 G8 (os8.trans os5)
      by_cases hb1 : b = fd
      · subst hb1; rw [hfd] at e; cases e; exact (N10 (_, _) (by k_mem)).1
      by_cases hb2 : b = fm
      · subst hb2; rw [hfm] at e; cases e; exact (N10 (_, _) (by k_mem)).1
      · exact F10.keep b o (kg' b o e (by simp at hb; simp [hb, hb1, hb2]))
theorem sayE1x_end : True := by
  k_with_none
  trivial
end
end
section
section
variable {prog : Program} {w : World} {A : Around} {E : Value → Shared → Prop} {s : Shared} {env : Env}

theorem forWalk {x : Str} {px pos : Pos} {iter : Expr} {body orelse : List Stmt} {Q : Flow → Shared → Prop}
    (h : wpAny (model prog w) A (eval iter env) (fun xv s₁ => wpAny (model prog w) A (pyIter xv) (fun it s₂ => ∃ I fp wr n P St, ∃ J : Nat → Shared → Prop, it = .ref I ∧ Walks prog w A I fp wr n P St ∧ St 0 s₂.heap ∧ J 0 s₂ ∧
      (∀ i (s : Shared) v h' tk, i < n → J i s → St i s.heap → P i v → St (i + 1) h' → (∀ b o, b ∉ wr → s.heap.get? b = some o → h'.get? b = some o) →
        wpAny (model prog w) A (assign (.Name x px) env v) (fun _ s₃ => wpAny (model prog w) A (execs body env) (fun f s₄ => match f with | .next | .cont => J (i + 1) s₄ ∧ St (i + 1) s₄.heap | .brk => Q .next s₄ | .ret v => Q (.ret v) s₄) (fun _ _ => False) s₃) (fun _ _ => False) { s with heap := h', toks := tk }) ∧
      (∀ (s : Shared) h' tk, J n s → St n s.heap → (∀ b o, b ∉ wr → s.heap.get? b = some o → h'.get? b = some o) → wpAny (model prog w) A (execs orelse env) (fun f s₄ => Q f s₄) (fun _ _ => False) { s with heap := h', toks := tk })) E s₁) E s)
    (hs : ∀ x, foldedSetIterable iter env x = pure x := by intro _; rfl) :
    wpAny (model prog w) A (exec (.For (.Name x px) iter body orelse pos) env) Q E s := by
  refine wpAny_For (wpAny_mono h (fun xv s₁ h₁ => wpAny_mono h₁ (fun it s₂ h₂ => ?_) fun _ _ e => e) fun _ _ e => e) hs
  obtain ⟨I, fp, wr, n, P, St, J, rfl, W, hst, hJ, turn, done⟩ := h₂
  refine codeAny_forLoop (fun k s => ∃ i, n - i = k ∧ i ≤ n ∧ J i s ∧ St i s.heap) (fun k s hI => ?_) n ⟨0, rfl, Nat.zero_le _, hJ, hst⟩
  obtain ⟨i, hk, hi, hJi, hSt⟩ := hI
  by_cases hlt : i < n
  · refine W.item i s _ _ hlt hSt fun v h' tk hP hSt' hkeep => ?_
    refine wpAny_mono (turn i s v h' tk hlt hJi hSt hP hSt' hkeep) (fun _ s₃ h₃ => wpAny_mono h₃ (fun f s₄ h₄ => ?_) fun _ _ e => e.elim) fun _ _ e => e.elim
    cases f with
    | next => exact ⟨n - (i + 1), by omega, i + 1, rfl, hlt, h₄⟩
    | cont => exact ⟨n - (i + 1), by omega, i + 1, rfl, hlt, h₄⟩
    | brk => exact h₄
    | ret v => exact h₄
  · have hin : i = n := by omega
    subst hin
    refine W.done s _ _ hSt fun h' tk hkeep => ?_
    exact wpAny_mono (done s h' tk hJi hSt hkeep) (fun f s₄ h₄ => h₄) fun _ _ e => e.elim
end
end
section
theorem rangeDown (n : Nat) : Builtin.Range.rangeSize (n : Int) 0 (-1) = n := by
  unfold Builtin.Range.rangeSize
  rw [if_neg (by decide)]
  split
  · simp
  · omega
theorem smallDown (n : Nat) (h : n < 1000) : Builtin.Range.small (n : Int) 0 (-1) = true := by
  unfold Builtin.Range.small
  rw [rangeDown]
  have h1 : Builtin.Range.rangeFitsLong (n : Int) = true := by unfold Builtin.Range.rangeFitsLong; simp; omega
  have h2 : Builtin.Range.rangeFitsLong 0 = true := by decide
  have h3 : Builtin.Range.rangeFitsLong (-1) = true := by decide
  simp [h1, h2, h3]

theorem subInt_acc {w : World} {A : Around} {E : Value → Shared → Prop} {s : Shared} {acc d : Addr} {items : Array Value} {n : Nat} {value slice : Expr} {k : Int} {t : Tok} {v : Value} {Q : Value → Shared → Prop} (X : (top0.heap_1 w.params).In s.heap) (hacc : s.heap.get? acc = some (accObj d items n)) (h0 : 0 ≤ k) (hfit : k < 1000) (hv : items[k.toNat]? = some v) (h : Q v s)
    (hs : subscripted slice false (.ref acc) (.int k t) = operate [.ref acc, .int k t] (getItem (.ref acc) (.int k t)) := by rfl) (ht : ∀ o r, letTemporaryGo value o r = pure () := by intro _ _; rfl) :
    wpAny (model P95 w) A (subscriptTail value slice (.ref acc) (.int k t)) Q E s := by
  unfold subscriptTail
  refine wpAny_bind (m := getitemInPython (.ref acc)) (acc_inPython X hacc (by k_is) ?_)
  rw [hs]
  refine wpAny_bind (wpAny_operating (acc_getItem_int X hacc (by k_is) (by k_is) (by k_is) h0 hfit hv ?_))
  exact wpAny_bind (wpAny_of_eq (ht _ _) (wpAny_pure h))
end
section
structure After (s s' : Shared) (ll d acc : Addr) (hsh : Int) (tq : Tok) (ps ps' : List Part) (sz' : Int) (li' : Array Value) : Prop where
  keep : ∀ b o, b ∉ [ll, d, acc, 147, 154] → s.heap.get? b = some o → s'.heap.get? b = some o
  lines : ∃ c', s'.heap.get? ll = some (listOf li' c')
  dict : ∃ ti', s'.heap.get? d = some (accDict hsh tq sz' ti')
  acc : ∃ n', s'.heap.get? acc = some (accObj d (itemsOf ps') n')
  t147 : ∃ t', s'.heap.get? 147 = some (tabO t') ∧ TriplesOk t'.toList
  t154 : ∃ t', s'.heap.get? 154 = some (tabO t') ∧ TriplesOk t'.toList
  parts : Parts s'.heap ps'
  fresh : ∀ q ∈ ps', q ∈ ps ∨ s.heap.get? q.T = none
  gens : AllBare s'.gens
  os : s'.os = s.os

def Ends (q : Part) (c : Nat) : Prop := q.p.cps.back? = some c
def NoneEnds (ps : List Part) (c : Nat) : Prop := ∀ q ∈ ps, ¬ Ends q c

/-- what one chunk does -/
inductive Step (mk : Str) (ml : Int) (f p : Str) (ps : List Part) (sz : Int) (li : Array Value) : List Part → Int → Array Value → Prop
  | stay {q : Part} : q.f = f → q.p = p → sz + lenOf (ps ++ [q]) ≤ ml → Step mk ml f p ps sz li (ps ++ [q]) sz li
  | cut {q q₀ : Part} {j c i : Nat} {r : Part} {t : Tok} : q.f = f → q.p = p → ml < sz + lenOf (ps ++ [q]) → mk.cps[j]? = some c → (∀ (j' : Nat) (c' : Nat), j' < j → mk.cps[j']? = some c' → NoneEnds ps c') →
      i < ps.length → ps[i]? = some r → Ends r c → (∀ k q, i < k → ps[k]? = some q → ¬ Ends q c) → Step mk ml f p ps sz li (ps.drop (i + 1) ++ [q]) 0 (li.push (.str (textOf (ps.take (i + 1))) t))
  | ended {q q₀ : Part} {t : Tok} : q₀.f = f → q₀.p = p → ml < sz + lenOf (ps ++ [q₀]) → (∀ (j : Nat) (c : Nat), mk.cps[j]? = some c → NoneEnds ps c) → 0 < sz → q.f = (if f = ("" : Str) then (" " : Str) else f) → q.p = p → Step mk ml f p ps sz li [q] 0 (li.push (.str (textOf ps) t))
  | grown {q q₀ : Part} : q₀.f = f → q₀.p = p → ml < sz + lenOf (ps ++ [q₀]) → (∀ (j : Nat) (c : Nat), mk.cps[j]? = some c → NoneEnds ps c) → ¬ 0 < sz → q.f = f → q.p = p → Step mk ml f p ps sz li (ps ++ [q]) sz li

theorem fr_snoc {g : Heap} {ps l : List Part} {q : Part} (hl : ∀ r ∈ l, r ∈ ps) (hq : g.get? q.T = none) : ∀ r ∈ l ++ [q], r ∈ ps ∨ g.get? r.T = none := by
  intro r hr
  rcases List.mem_append.mp hr with hr | hr
  · exact .inl (hl r hr)
  · rw [List.mem_singleton.mp hr]; exact .inr hq
theorem not_tup {h : Heap} {a : Addr} {q : Part} {o : Obj} (hq : h.get? q.T = some q.obj) (ho : h.get? a = some o) (hn : isTup o = false) : q.T ≠ a := by
  rintro rfl
  rw [hq] at ho
  cases ho
  cases hn
theorem after_of {g : Heap} {L : Addr} {M : Str → Option Value} {s s' : Shared} {news : List (Addr × Obj)} {fd fm ll d acc : Addr} {fo mo : Obj} {li' : Array Value} {c' n' : Nat} {hsh sz' : Int} {tq ti' : Tok} {ps ps' : List Part} {t1' t2' : Array Value}
    (kg : ∀ b o, s.heap.get? b = some o → b ∉ [fd, fm, ll, d, acc, 147, 154] → g.get? b = some o) (hfd : s.heap.get? fd = some fo) (hfm : s.heap.get? fm = some mo) (F : Fr g L s'.heap M) (N : News g L s'.heap news)
    (m1 : (fd, fo) ∈ news) (m2 : (fm, mo) ∈ news) (m3 : (ll, listOf li' c') ∈ news) (m4 : (d, accDict hsh tq sz' ti') ∈ news) (m5 : (acc, accObj d (itemsOf ps') n') ∈ news) (m6 : (147, tabO t1') ∈ news) (m7 : (154, tabO t2') ∈ news)
    (tr1 : TriplesOk t1'.toList) (tr2 : TriplesOk t2'.toList) (hps : Parts s'.heap ps') (hG : AllBare s'.gens) (hos : s'.os = s.os) (u1 : isTup fo = false) (u2 : isTup mo = false) (hfr : ∀ q ∈ ps', q ∈ ps ∨ g.get? q.T = none) : After s s' ll d acc hsh tq ps ps' sz' li' := by
  refine ⟨fun b o hb e => ?_, ⟨_, (N _ m3).1⟩, ⟨_, (N _ m4).1⟩, ⟨_, (N _ m5).1⟩, ⟨_, (N _ m6).1, tr1⟩, ⟨_, (N _ m7).1, tr2⟩, hps, fun q hq => ?_, hG, hos⟩
  · by_cases hb1 : b = fd
    · subst hb1; rw [hfd] at e; cases e; exact (N _ m1).1
    by_cases hb2 : b = fm
    · subst hb2; rw [hfm] at e; cases e; exact (N _ m2).1
    · exact F.keep b o (kg b o e (by simp at hb; simp [hb, hb1, hb2]))
  · rcases hfr q hq with e | e
    · exact .inl e
    · have hq' := hps q hq
      refine .inr (fresh_of kg e ?_)
      simp only [List.mem_cons, List.not_mem_nil, or_false, not_or]
      exact ⟨not_tup hq' (N _ m1).1 u1, not_tup hq' (N _ m2).1 u2, not_tup hq' (N _ m3).1 rfl, not_tup hq' (N _ m4).1 rfl, not_tup hq' (N _ m5).1 rfl, not_tup hq' (N _ m6).1 rfl, not_tup hq' (N _ m7).1 rfl⟩

theorem item_last {x : Str} {c : Nat} (h : 0 < x.length) : (Txt.item x (-1) == (⟨#[c]⟩ : Str)) = decide (x.cps.back? = some c) := by
  have hi : seqIndex? (-1) x.length = some (x.length - 1) := by
    rw [seqIndex_neg (by omega) (by omega)]; congr 1; omega
  have hl : x.length - 1 < x.cps.size := by show x.length - 1 < x.length; omega
  have hc : Txt.charAt x (-1) = some (x.cps[x.length - 1]) := by
    unfold Txt.charAt
    rw [hi]
    simp [hl]
  have hb : x.cps.back? = some (x.cps[x.length - 1]) := by
    rw [Array.back?_eq_getElem?]
    show x.cps[x.length - 1]? = _
    rw [Array.getElem?_eq_getElem hl]
  unfold Txt.item
  rw [hc, hb]
  show decide ((⟨#[x.cps[x.length - 1]]⟩ : Str) = ⟨#[c]⟩) = _
  simp

theorem texts_sum {ps : List Part} (h : Small ps) : ((texts ps).map (·.length)).sum ≤ 2000 * ps.length := by
  induction ps with
  | nil => simp [texts]
  | cons q r ih =>
    have h1 := ih fun x hx => h x (List.mem_cons_of_mem _ hx)
    have h2 := h q List.mem_cons_self
    have e : (q.f ++ q.p).length = q.f.length + q.p.length := by show (q.f.cps ++ q.p.cps).size = _; simp [Str.length]
    simp only [texts, List.map_cons, List.sum_cons, List.length_cons] at h1 ⊢
    rw [e]
    omega
theorem joinSmall {ps : List Part} (h : Small ps) (hz : ps.length < 1000) : JoinOk "" (texts ps) = true := by
  have e1 : (("" : Str)).length = 0 := by decide
  have h1 := texts_sum h
  exact joinOk_of (by rw [e1]; omega)
end
section
theorem newline_K {w : World} {vp : Program} {lo : List Str} {A : Around} {s : Shared} {E : Value → Shared → Prop} {h₀ : Heap} {L fm fd ll acc d : Addr} {m : Str → Option Value} {ps : List Part} {n c : Nat} {mg mb : Str → Option Value} {hsh sz h1 h2 h3 h4 h5 h6 ml cl : Int} {tq ti k1 k2 k3 k4 k5 k6 tm tc tl tmk : Tok} {cw mk : Str} {li t1 t2 : Array Value} {news : List (Addr × Obj)} {Q : Value → Shared → Prop}
    (F : Fr h₀ L s.heap m) (X₀ : (top0.heap_1 w.params).In h₀) (T : TopRead vp lo mg mb h₀) (hM : Mods h₀ mg) (N : News h₀ L s.heap news)
    (m1 : (fd, fmtDict h1 h2 h3 h4 h5 h6 k1 k2 k3 k4 k5 k6 ml tm cw tc cl tl mk tmk ll acc) ∈ news) (m2 : (fm, instObj 101 fd) ∈ news) (m3 : (ll, listOf li c) ∈ news) (m4 : (d, accDict hsh tq sz ti) ∈ news) (m5 : (acc, accObj d (itemsOf ps) n) ∈ news) (m6 : (147, tabO t1) ∈ news) (m7 : (154, tabO t2) ∈ news)
    (tr1 : TriplesOk t1.toList) (tr2 : TriplesOk t2.toList) (ord : @LT.lt Nat _ 154 fd ∧ @LT.lt Nat _ fd fm ∧ @LT.lt Nat _ fm ll ∧ @LT.lt Nat _ ll d ∧ @LT.lt Nat _ d acc)
    (hps : Parts s.heap ps) (hG : AllBare s.gens) (hh : A.handled = none) (hz : ps.length < 100) (hs1 : Small ps) (hsz : 0 ≤ sz ∧ sz < 1000) (hli : li.size < 1000) (hne : ∀ q ∈ ps, q.p ≠ "") (hok : ∀ q ∈ ps, PyData.strOk q.f = true ∧ PyData.strOk q.p = true) (hpos : 0 < sz) (hA : A.depth < 800) (hU : A.units < 8000)
    (h : ∀ s' n' c' ti' t' t1' t2', Fr h₀ L s'.heap m → News h₀ L s'.heap [(fd, fmtDict h1 h2 h3 h4 h5 h6 k1 k2 k3 k4 k5 k6 ml tm cw tc cl tl mk tmk ll acc), (fm, instObj 101 fd), (ll, listOf (li.push (.str (textOf ps) t')) c'), (d, accDict hsh tq 0 ti'), (acc, accObj d (itemsOf []) n'), (147, tabO t1'), (154, tabO t2')] →
      TriplesOk t1'.toList → TriplesOk t2'.toList → AllBare s'.gens → s'.os = s.os → Q .none s') :
    wpAny (model P95 w) A (call (.ref 63) [.ref fm]) Q E s := by
  refine wpAny_call (newline_raw (B := h₀) ⟨X₀, T⟩ hM F.keep ?_ (N _ m1).1 (N _ m2).1 (N _ m3).1 (N _ m4).1 (N _ m5).1 (N _ m6).1 (N _ m7).1 tr1 tr2 ord hps hG hh hz hs1 hsz hli hne hok (joinSmall hs1 (by omega)) hpos hA hU fun s' n' c' ti' t' t1' t2' keep e3 e4 e5 e6 e7 tr1' tr2' G' os' => ?_)
  · intro a ha
    simp only [List.mem_cons, List.not_mem_nil, or_false] at ha
    rcases ha with rfl | rfl | rfl | rfl | rfl | rfl | rfl
    · exact (N _ m1).2.2
    · exact (N _ m2).2.2
    · exact (N _ m3).2.2
    · exact (N _ m4).2.2
    · exact (N _ m5).2.2
    · exact (N _ m6).2.2
    · exact (N _ m7).2.2
  · obtain ⟨o1, o2, o3, o4, o5⟩ := ord
    have inn : ∀ b, b ∈ [ll, d, acc, 147, 154] → b ≠ L ∧ h₀.get? b = none := by
      intro b hb
      simp only [List.mem_cons, List.not_mem_nil, or_false] at hb
      rcases hb with rfl | rfl | rfl | rfl | rfl
      · exact (N _ m3).2
      · exact (N _ m4).2
      · exact (N _ m5).2
      · exact (N _ m6).2
      · exact (N _ m7).2
    have nfd : fd ∉ [ll, d, acc, 147, 154] := by
      intro hm
      simp only [List.mem_cons, List.not_mem_nil, or_false] at hm
      rcases hm with e | e | e | e | e <;> (replace e := eqN e; omega)
    have nfm : fm ∉ [ll, d, acc, 147, 154] := by
      intro hm
      simp only [List.mem_cons, List.not_mem_nil, or_false] at hm
      rcases hm with e | e | e | e | e <;> (replace e := eqN e; omega)
    refine h s' n' c' ti' t' t1' t2' ⟨F.ns.at' fun o e => keep _ o (fun hm => (inn _ hm).1 rfl) e, fun b o e => keep b o (fun hm => by rw [(inn _ hm).2] at e; cases e) (F.keep b o e), F.above⟩ ?_ tr1' tr2' G' os'
    intro p hp
    simp only [List.mem_cons, List.not_mem_nil, or_false] at hp
    rcases hp with rfl | rfl | rfl | rfl | rfl | rfl | rfl
    · exact ⟨keep _ _ nfd (N _ m1).1, (N _ m1).2⟩
    · exact ⟨keep _ _ nfm (N _ m2).1, (N _ m2).2⟩
    · exact ⟨e3, (N _ m3).2⟩
    · exact ⟨e4, (N _ m4).2⟩
    · exact ⟨e5, (N _ m5).2⟩
    · exact ⟨e6, (N _ m6).2⟩
    · exact ⟨e7, (N _ m7).2⟩
end
section
/-- a state within the loops: the frame's names but some are as they were, the ledger stands -/
def InLoop (g : Heap) (L : Addr) (news : List (Addr × Obj)) (M0 : Str → Option Value) (s5 s : Shared) : Prop :=
  ∃ M : Str → Option Value, M "self" = M0 "self" ∧ M "fws" = M0 "fws" ∧ M "string" = M0 "string" ∧ Fr g L s.heap M ∧ News g L s.heap news ∧ s.gens = s5.gens ∧ s.os = s5.os
def InInner (g : Heap) (L : Addr) (news : List (Addr × Obj)) (fm : Addr) (f : Str) (tf : Tok) (p : Str) (tp : Tok) (ch : Nat) (u : Tok) (ps : List Part) (s5 : Shared) (i : Nat) (s : Shared) : Prop :=
  (∃ M2 : Str → Option Value, M2 "self" = some (.ref fm) ∧ M2 "fws" = some (.str f tf) ∧ M2 "string" = some (.str p tp) ∧ M2 "ch" = some (.str ⟨#[ch]⟩ u) ∧ Fr g L s.heap M2 ∧ News g L s.heap news ∧ s.gens = s5.gens ∧ s.os = s5.os) ∧ ∀ k q, ps.length ≤ k + i → ps[k]? = some q → ¬ Ends q ch
def InOuter (g : Heap) (L : Addr) (news : List (Addr × Obj)) (M0 : Str → Option Value) (s5 : Shared) (mk : Str) (ps : List Part) (i : Nat) (s : Shared) : Prop :=
  InLoop g L news M0 s5 s ∧ ∀ (j : Nat) (c : Nat), j < i → mk.cps[j]? = some c → NoneEnds ps c
theorem itemsOf_take (l : List Part) (k : Nat) : ((itemsOf l).toList.take k).toArray = itemsOf (l.take k) := by simp [itemsOf, List.map_take]
theorem itemsOf_drop (l : List Part) (k : Nat) : ((itemsOf l).toList.drop k).toArray = itemsOf (l.drop k) := by simp [itemsOf, List.map_drop]
theorem leave_iter {g h h' : Heap} {L I : Addr} {M : Str → Option Value} {news : List (Addr × Obj)} (F : Fr g L h M) (N : News g L h news) (hI : @LT.lt Nat _ L I) (hIn : ∀ p ∈ news, @LT.lt Nat _ p.1 I) (k : ∀ b o, b ∉ [I] → h.get? b = some o → h'.get? b = some o) :
    Fr g L h' M ∧ News g L h' news := by
  have hg : g.get? I = none := by
    cases e : g.get? I with
    | none => rfl
    | some x => exact absurd (Nat.lt_of_lt_of_le (Heap.lt_size e) F.above) (Nat.not_lt_of_lt hI)
  exact ⟨⟨F.ns.at' fun o e => k _ o (by simp; exact Nat.ne_of_lt hI) e, fun b x e => k b x (by simp; rintro rfl; rw [hg] at e; cases e) (F.keep b x e), F.above⟩, fun p hp => ⟨k _ _ (by simp; exact Nat.ne_of_lt (hIn p hp)) (N p hp).1, (N p hp).2⟩⟩
theorem enter_iter {g h h' : Heap} {L I : Addr} {M : Str → Option Value} {news : List (Addr × Obj)} {o : Obj} (F : Fr g L h M) (N : News g L h news) (hI : @LT.lt Nat _ L I) (hIn : ∀ p ∈ news, @LT.lt Nat _ p.1 I) (k : ∀ b o, b ∉ [I] → h.get? b = some o → h'.get? b = some o) (ho : h'.get? I = some o) :
    Fr g L h' M ∧ News g L h' ((I, o) :: news) := by
  have hg : g.get? I = none := by
    cases e : g.get? I with
    | none => rfl
    | some x => exact absurd (Nat.lt_of_lt_of_le (Heap.lt_size e) F.above) (Nat.not_lt_of_lt hI)
  refine ⟨⟨F.ns.at' fun o e => k _ o (by simp; exact Nat.ne_of_lt hI) e, fun b x e => k b x (by simp; rintro rfl; rw [hg] at e; cases e) (F.keep b x e), F.above⟩, fun p hp => ?_⟩
  rcases List.mem_cons.mp hp with rfl | hp
  · exact ⟨ho, Nat.ne_of_gt hI, hg⟩
  · exact ⟨k _ _ (by simp; exact Nat.ne_of_lt (hIn p hp)) (N p hp).1, (N p hp).2⟩

theorem str_nil {f : Str} (h : ((f.length : Nat) : Int) = 0) : f = "" := by
  obtain ⟨c⟩ := f
  have h1 : c.size = 0 := Int.ofNat_inj.mp h
  have h2 : c = #[] := Array.eq_empty_of_size_eq_zero h1
  subst h2
  rfl
theorem str_nnil {f : Str} (h : ((f.length : Nat) : Int) ≠ 0) : f ≠ "" := by
  rintro rfl
  exact h rfl
section

theorem sayF1_1 : True := by
  k_with "lvar" => (first | assumption | exact if_pos rfl | (refine (if_neg (by decide)).trans ?_; walk_at "lvar"))
  trivial
theorem sayF1_2 : True := by
  k_with "eval Name" => (name_kind "local"; refine wpAny_Name (wpAny_loadName_local rfl rfl (Fr.ns (by k_asm)) (by walk_at "lvar") ?_))
  trivial
theorem sayF1_3 : True := by
  k_with "unpackItems ref" => (k_here; k_dflt (refine' unpackItemsN_ (by k_asm) (by k_asm) (by kun_tup) (by assumption) (by exact rfl) ?_; k_whole); intro _ _ _; (try k_sweep))
  trivial
theorem sayF1_4 : True := by
  k_with "assign Tuple" => (k_here; (with_reducible show wpAny _ _ (assign (Expr.Tuple _ _ _) _ (Value.ref _)) _ _ _); k_dflt (refine' unpackN_ (by k_asm) (by k_asm) (by kun_tup) (by assumption) (by exact rfl) (by exact rfl) ?_; k_whole); intro _ _ _; (try k_sweep))
  trivial
theorem sayF1_5 : True := by
  k_with "call ref" => (k_here; k_dflt (refine' partCount_K (by k_asm) (by k_asm) (by k_asm) (by k_asm) (by k_mem) (by k_mem) (by exact Nat.lt_trans (by assumption) (by decide)) (by exact Nat.lt_trans (by assumption) (by decide)) (by rw [itemsOf_size]; assumption) ?_; k_whole); intro _ _ _ _ _; (try k_sweep))
  trivial
theorem sayF1_6 : True := by
  k_with "getAttr ref" => (k_here; k_dflt (refine' getAttr_accK (by k_asm) (by k_asm) (by k_asm) (by k_mem) (by k_mem) (by k_is) (by k_is) (by k_is) (by k_is) (by k_is) (by k_get) (by k_handed) ?_; k_whole))
  trivial
theorem sayF1_7 : True := by
  k_with "getMethod ref" => (k_here; k_dflt (first | (refine' acc_getMethod (by k_in) (by exact News.get (by k_asm) (by k_mem)) (by exact News.get (by k_asm) (by k_mem)) (by k_is) (by k_is) (by k_is) (by k_is) (by decide) (by k_get) ?_)))
  trivial

theorem append_raw {f p : Str} {tf tp : Tok} {w : World} {vp : Program} {lo : List Str} {A : Around} {s : Shared} {R : Result → Shared → Prop} {B : Heap} {fm fd ll acc d : Addr} {ps : List Part} {n c : Nat} {mg mb : Str → Option Value} {hsh sz h1 h2 h3 h4 h5 h6 ml cl : Int} {tq ti k1 k2 k3 k4 k5 k6 tm tc tl tmk : Tok} {cw mk : Str} {li t1 t2 : Array Value}
    (hB : Base w vp lo mg mb B) (hM : Mods B mg) (st : ∀ b o, B.get? b = some o → s.heap.get? b = some o) (hn0 : ∀ a ∈ [fd, fm, ll, d, acc, 147, 154], B.get? a = none)
    (hfd : s.heap.get? fd = some (fmtDict h1 h2 h3 h4 h5 h6 k1 k2 k3 k4 k5 k6 ml tm cw tc cl tl mk tmk ll acc)) (hfm : s.heap.get? fm = some (instObj 101 fd)) (hll : s.heap.get? ll = some (listOf li c))
    (hdd : s.heap.get? d = some (accDict hsh tq sz ti)) (hacc : s.heap.get? acc = some (accObj d (itemsOf ps) n)) (h147 : s.heap.get? 147 = some (tabO t1)) (h154 : s.heap.get? 154 = some (tabO t2)) (tr1 : TriplesOk t1.toList) (tr2 : TriplesOk t2.toList)
    (ord : @LT.lt Nat _ 154 fd ∧ @LT.lt Nat _ fd fm ∧ @LT.lt Nat _ fm ll ∧ @LT.lt Nat _ ll d ∧ @LT.lt Nat _ d acc)
    (hps : Parts s.heap ps) (hG : AllBare s.gens) (hh : A.handled = none) (hz : ps.length < 100) (hs1 : Small ps) (hsz : 0 ≤ sz ∧ sz < 1000) (hli : li.size < 1000) (hne : ∀ q ∈ ps, q.p ≠ "") (hok : ∀ q ∈ ps, PyData.strOk q.f = true ∧ PyData.strOk q.p = true) (hA : A.depth < 700) (hU : A.units < 7000) (hf : f.length < 1000) (hp : p.length < 1000) (hmk : ∀ c ∈ mk.cps, c = 46 ∨ c = 58)
    (h : ∀ s' ps' sz' li', After s s' ll d acc hsh tq ps ps' sz' li' → Step mk ml f p ps sz li ps' sz' li' → R (.ok (.ret .none)) s') :
    codeAny (model P95 w) A (.call (.ref 98) ⟨[.ref fm, .str f tf, .str p tp], []⟩) R s := by
  have X : (top0.heap_1 w.params).In s.heap := hB.X.keeps st
  have T := hB.T.keeps st
  have hn : ∀ p ∈ [(fd, fmtDict h1 h2 h3 h4 h5 h6 k1 k2 k3 k4 k5 k6 ml tm cw tc cl tl mk tmk ll acc), (fm, instObj 101 fd), (ll, listOf li c), (d, accDict hsh tq sz ti), (acc, accObj d (itemsOf ps) n), (147, tabO t1), (154, tabO t2)], s.heap.get? p.1 = some p.2 := by
    intro q hq
    simp only [List.mem_cons, List.not_mem_nil, or_false] at hq
    rcases hq with rfl | rfl | rfl | rfl | rfl | rfl | rfl <;> assumption
  obtain ⟨o1, o2, o3, o4, o5⟩ := ord
  refine' enterK (K := top0.heap_1 w.params) (news := [(fd, fmtDict h1 h2 h3 h4 h5 h6 k1 k2 k3 k4 k5 k6 ml tm cw tc cl tl mk tmk ll acc), (fm, instObj 101 fd), (ll, listOf li c), (d, accDict hsh tq sz ti), (acc, accObj d (itemsOf ps) n), (147, tabO t1), (154, tabO t2)]) (binds := [("self", .ref fm), ("fws", .str f tf), ("string", .str p tp)]) X T.nolimit hn ?k6 ?k7 (Nat.lt_trans hA (by decide)) ?k9 ?kB ?_ ?c5 ?c2 ?c3 ?c4; (case k6 => k_is); (case k7 => k_is); (case k9 => first | exact BindsTo.of_eq rfl | exact binds_K X rfl (by k_is) rfl rfl rfl); (case c5 => decide); (case kB => exact locs rfl); (case c2 => exact rfl); (case c3 => exact rfl); (case c4 => exact rfl); intro g' L' h' F' N' kg' l1
  obtain ⟨KX, T'⟩ := base_in hB st (W := [fd, fm, ll, d, acc, 147, 154]) hn0 kg'
  have hM' : Mods g' mg := mods_in hM T' st (W := [fd, fm, ll, d, acc, 147, 154]) hn0 kg'
  have hpg : Parts g' ps := parts_in hps hn kg' rfl
  clear X T
  refine noE ?_
  k_fold
  have dA : (A.deeper (envOf "_ValueFormatter._append_chunk" default L' 98 (.ref 97))).depth < 780 := Nat.lt_of_lt_of_le (Nat.succ_lt_succ hA) (by decide)
  have dU : (A.deeper (envOf "_ValueFormatter._append_chunk" default L' 98 (.ref 97))).units < 7780 := Nat.lt_of_lt_of_le (Nat.add_lt_add_right hU 3) (by decide)
  k_steps
  rename Fr _ _ _ _ => F3
  rename News _ _ _ _ => N3
  refine push_K (acc := acc) (d := d) (items := itemsOf ps) (n := n) F3 KX T' N3 (by k_updF) (by k_mem) (Nat.lt_trans dA (by decide)) (Nat.lt_trans dU (by decide)) (by rw [itemsOf_size]; omega) fun t h3 k3 hnt F4 N4 => ?_
  have y1 : @Ne Nat t acc := neO hnt (N3 (acc, _) (by k_mem)).1
  have y2 : @Ne Nat t d := neO hnt (N3 (d, _) (by k_mem)).1
  have y3 : @Ne Nat t ll := neO hnt (N3 (ll, _) (by k_mem)).1
  have y4 : @Ne Nat t 147 := neO hnt (N3 (147, _) (by k_mem)).1
  have y5 : @Ne Nat t 154 := neO hnt (N3 (154, _) (by k_mem)).1
  rw [itemsOf_push ps ⟨t, f, tf, p, tp⟩] at N4
  have hpx : Parts h3 (ps ++ [⟨t, f, tf, p, tp⟩]) := by
    intro r hr
    rcases List.mem_append.mp hr with hr | hr
    · exact F4.keep _ _ (hpg r hr)
    · rw [List.mem_singleton.mp hr]
      exact (N4 (t, _) (by k_mem)).1
  have hsx : Small (ps ++ [⟨t, f, tf, p, tp⟩]) := by
    intro r hr
    rcases List.mem_append.mp hr with hr | hr
    · exact hs1 r hr
    · rw [List.mem_singleton.mp hr]
      exact ⟨hf, hp⟩
  have hzx : (ps ++ [(⟨t, f, tf, p, tp⟩ : Part)]).length < 1000 := by simp; omega
  clear F3 N3
  k_steps
  rename Fr _ _ _ _ => F4
  rename News _ _ _ _ => N4
  refine lenAcc_K (acc := acc) (d := d) (ps := ps ++ [⟨t, f, tf, p, tp⟩]) (tp := t1) F4 KX T' hM' N4 (by k_mem) (by k_mem) (by k_updF) tr1 hpx hG hh (Nat.lt_trans dA (by decide)) (Nat.lt_trans dU (by decide)) hzx hsx hsz fun s5 t5 tp5 kp5 tr5 F5 N5 G5 os5 => ?_
  have hpx5 : Parts s5.heap (ps ++ [⟨t, f, tf, p, tp⟩]) := parts_but hpx (N4 (147, _) (by k_mem)).1 kp5
  clear F4 N4 kp5
  k_steps
  rotate_left
  · rename Fr _ _ _ _ => F6
    rename News _ _ _ _ => N6
    exact h _ _ _ _ (after_of (fun b o e hb => kg' b o e hb) hfd hfm F6 N6 (by k_mem) (by k_mem) (by k_mem) (by k_mem) (by k_mem) (by k_mem) (by k_mem) tr5 tr2 hpx5 G5 os5 rfl rfl (fr_snoc (fun r hr => hr) (N6 (t, _) (by k_mem)).2.2)) (Step.stay (q := ⟨t, f, tf, p, tp⟩) rfl rfl (by omega))
  rename Fr _ _ _ _ => F6
  rename News _ _ _ _ => N6
  refine forWalk ?_
  k_steps
  have hhD : ∀ e, (A.deeper e).handled = none := fun _ => hh
  have hasc : (mk.cps.all fun c => decide (c < 128)) = true := by
    rw [Array.all_eq_true_iff_forall_mem]
    intro c hc
    rcases hmk c hc with rfl | rfl <;> decide
  refine wpAny_pyIter_ascii hasc ?_
  rename Fr _ _ _ _ => F6
  rename News _ _ _ _ => N6
  have hI0 : @LT.lt Nat _ L' s5.heap.objs.size := F6.ns.lt
  have hI1 := fun p hp => Heap.lt_size (N6 p hp).1
  refine ⟨s5.heap.objs.size, _, _, _, _, _, (fun i s => InOuter g' L' _ _ s5 mk ps i s), rfl, Walks.strAscii (hhD _) _ mk tmk, ⟨_, Heap.get?_push_size _ rfl, rfl, rfl⟩, ⟨⟨_, rfl, rfl, rfl, F6.push _, (fun p hp => ⟨Heap.get?_push_of_some _ (N6 p hp).1, (N6 p hp).2⟩), rfl, rfl⟩, fun j c hj => absurd hj (Nat.not_lt_zero _)⟩, ?_, ?_⟩
  · intro j s' v h2 tk2 hj hJ hSt hP hSt2 hk2
    obtain ⟨⟨M, m1, m2, m3, F7, N7, g7, o7⟩, hno⟩ := hJ
    obtain ⟨ch, u, hch, rfl⟩ := hP
    obtain ⟨oI, hoI, hoI2⟩ := hSt2
    obtain ⟨F8, N8⟩ := enter_iter F7 N7 hI0 hI1 hk2 hoI
    clear F7 N7 F6 N6
    have m1 : M "self" = some (.ref fm) := m1
    have m2 : M "fws" = some (.str f tf) := m2
    have m3 : M "string" = some (.str p tp) := m3
    have l2 : @LT.lt Nat _ acc s5.heap.objs.size := hI1 (acc, _) (by k_mem)
    have l3 : @LT.lt Nat _ t s5.heap.objs.size := hI1 (t, _) (by k_mem)
    k_steps
    refine forWalk ?_
    k_steps
    rename Fr _ _ _ _ => F9
    rename News _ _ _ _ => N9
    rename IsRange _ _ _ _ _ _ _ _ => hR
    have e0 : (((itemsOf (ps ++ [⟨t, f, tf, p, tp⟩])).size : Nat) : Int) - 1 = (ps.length : Int) := by rw [itemsOf_size]; simp
    rw [e0] at hR
    refine wpAny_pyIter_range hR (smallDown _ (by omega)) ?_
    rw [rangeDown]
    have hJ0 : @LT.lt Nat _ L' (Heap.objs _).size := F9.ns.lt
    have hJ1 := fun p hp => Heap.lt_size (N9 p hp).1
    refine ⟨_, _, _, _, _, _, (fun i s => InInner g' L' _ fm f tf p tp ch u ps s5 i s), rfl, Walks.range (hhD _) _ (ps.length : Int) (-1) ps.length, ?_, ⟨⟨_, (if_neg (by decide)).trans m1, (if_neg (by decide)).trans m2, (if_neg (by decide)).trans m3, if_pos rfl, F9.push _, (fun p hp => ⟨Heap.get?_push_of_some _ (N9 p hp).1, (N9 p hp).2⟩), g7, o7⟩, fun k q hk e => ?_⟩, ?_, ?_⟩
    · show Heap.get? _ _ = _
      rw [Heap.get?_push_size _ rfl]
      simp
    · rw [List.getElem?_eq_none (by omega)] at e
      cases e
    · intro i2 s2 v2 h4 tk4 hi2 hJ2 hSt2 hP2 hSt3 hk3
      obtain ⟨⟨M2, r1, r2, r3, r4, F10, N10, g10, o10⟩, hno2⟩ := hJ2
      obtain ⟨t10, rfl⟩ := hP2
      obtain ⟨F11, N11⟩ := enter_iter F10 N10 hJ0 hJ1 hk3 hSt3
      clear F10 N10 F9 N9
      have l4 : @LT.lt Nat _ acc _ := hJ1 (acc, _) (by k_mem)
      have l5 : @LT.lt Nat _ t _ := hJ1 (t, _) (by k_mem)
      have l6 : @LT.lt Nat _ s5.heap.objs.size _ := hJ1 (s5.heap.objs.size, _) (by k_mem)
      have hcm : ch = 46 ∨ ch = 58 := hmk ch (Array.mem_of_getElem? hch)
      have hk4 : ps.length - 1 - i2 < ps.length := by omega
      obtain ⟨q, hq⟩ : ∃ q, ps[ps.length - 1 - i2]? = some q := ⟨_, List.getElem?_eq_getElem hk4⟩
      have hqg := hpg q (List.mem_of_getElem? hq)
      have hqne := hne q (List.mem_of_getElem? hq)
      have hl2 : q.p.length < 1000 := (hs1 q (List.mem_of_getElem? hq)).2
      have hl1 : 0 < q.p.length := by
        rcases Nat.eq_zero_or_pos q.p.length with e | e
        · exact absurd (str_ext (by rw [List.length_eq_zero_iff.mp (show q.p.cps.toList.length = 0 from e)]; decide)) hqne
        · exact e
      have hit : (itemsOf (ps ++ [(⟨t, f, tf, p, tp⟩ : Part)]))[((ps.length : Int) + (i2 : Int) * (-1) - 1).toNat]? = some (.ref q.T) := by
        have e1 : ((ps.length : Int) + (i2 : Int) * (-1) - 1).toNat = ps.length - 1 - i2 := by omega
        rw [e1]
        simp only [itemsOf, List.getElem?_toArray, List.getElem?_map]
        rw [List.getElem?_append_left hk4, hq]
        rfl
      rcases hcm with rfl | rfl
      · skip
        k_steps
        rename Fr _ _ _ _ => F12
        rename News _ _ _ _ => N12
        refine subInt_acc (KX.keeps F12.keep) (N12 (acc, _) (by k_mem)).1 (by omega) (by omega) hit ?_
        have htq := F12.keep _ _ hqg
        k_steps
        refine item_tupleT (j := 1) (x := .str q.p q.tp) ⟨_, htq, rfl, 0, rfl⟩ (by decide) (by decide) (by rfl) (by rfl) ?_
        clear htq
        k_steps
        all_goals (try (exfalso; omega))
        · rename Fr _ _ _ _ => F13
          rename News _ _ _ _ => N13
          rename (Txt.item q.p (-1) == _) = true => hend
          rw [item_last hl1, decide_eq_true_eq] at hend
          have e5 : (ps.length : Int) + (i2 : Int) * (-1) = ((ps.length - i2 : Nat) : Int) := by omega
          rw [e5]
          refine popFrom_K (k := ps.length - i2) (acc := acc) (d := d) (items := itemsOf (ps ++ [⟨t, f, tf, p, tp⟩])) F13 KX T' N13 (by k_updF) (by k_mem) (Nat.lt_trans dA (by decide)) (Nat.lt_trans dU (by decide)) (by rw [itemsOf_size]; omega) (by rw [itemsOf_size]; simp; omega) fun l h6 n6 k6 hnl F14 N14 => ?_
          have q1 : @Ne Nat l acc := neO hnl (N13 (acc, _) (by k_mem)).1
          have q2 : @Ne Nat l d := neO hnl (N13 (d, _) (by k_mem)).1
          have q3 : @Ne Nat l ll := neO hnl (N13 (ll, _) (by k_mem)).1
          have q4 : @Ne Nat l 147 := neO hnl (N13 (147, _) (by k_mem)).1
          have q5 : @Ne Nat l 154 := neO hnl (N13 (154, _) (by k_mem)).1
          rw [itemsOf_take, itemsOf_drop, List.take_append_of_le_length (by omega), List.drop_append_of_le_length (by omega)] at N14
          clear F13 N13
          k_steps
          rename Fr _ _ _ _ => F15
          rename News _ _ _ _ => N15
          have G10 : AllBare s2.gens := g10.symm ▸ G5
          have hpt : Parts g' (ps.take (ps.length - i2)) := fun r hr => hpg r (List.mem_of_mem_take hr)
          have hst : Small (ps.take (ps.length - i2)) := fun r hr => hs1 r (List.mem_of_mem_take hr)
          have hzt : (ps.take (ps.length - i2)).length < 1000 := by simp; omega
          refine strAcc_K (acc := acc) (d := d) (ps := ps.take (ps.length - i2)) (tp := t2) F15 KX T' hM' N15 (by k_mem) (by k_mem) (by k_updF) tr2 (fun r hr => F15.keep _ _ (hpt r hr)) G10 hh (Nat.lt_trans dA (by decide)) (Nat.lt_trans dU (by decide)) hzt hst (joinSmall hst hzt) fun s8 t8 tp8 kp8 tr8 F8 N8 G8 os8 => ?_
          clear F15 N15 kp8
          k_steps
          rename Fr _ _ _ _ => F16
          rename News _ _ _ _ => N16
          refine resetL_K (acc := acc) (d := d) (l := l) F16 KX T' N16 (by k_updF) (by intro o; k_updF) (by k_mem) (by k_mem) (Nat.lt_trans dA (by decide)) (Nat.lt_trans dU (by decide)) (by rw [itemsOf_size]; exact hzt) (by rw [itemsOf_size]; simp; omega) fun h9 n9 ti9 k9 F17 N17 => ?_
          clear F16 N16
          k_steps
          rename Fr _ _ _ _ => F18
          rename News _ _ _ _ => N18
          have e6 : ps.length - i2 = (ps.length - 1 - i2) + 1 := by omega
          rw [e6] at N18
          refine h _ _ _ _ (after_of (fun b o e hb => kg' b o e hb) hfd hfm F18 N18 (by k_mem) (by k_mem) (by k_mem) (by k_mem) (by k_mem) (by k_mem) (by k_mem) tr5 tr8 (fun r hr => ?_) G8 (os8.trans (o10.trans os5)) rfl rfl (fr_snoc (fun r hr => List.mem_of_mem_drop hr) (N18 (t, _) (by k_mem)).2.2)) (Step.cut (q := ⟨t, f, tf, p, tp⟩) (q₀ := Part.zero) (j := j) (i := ps.length - 1 - i2) (r := q) rfl rfl (by omega) hch hno (by omega) hq hend fun k q' hk hq' => hno2 k q' (by omega) hq')
          rcases List.mem_append.mp hr with hr | hr
          · exact F18.keep _ _ (hpg r (List.mem_of_mem_drop hr))
          · rw [List.mem_singleton.mp hr]
            exact (N18 (t, _) (by k_mem)).1
        · rename Fr _ _ _ _ => F13
          rename News _ _ _ _ => N13
          rename (Txt.item q.p (-1) == _) = false => hend
          rw [item_last hl1, decide_eq_false_iff_not] at hend
          refine ⟨⟨_, (if_neg (by decide)).trans ((if_neg (by decide)).trans r1), (if_neg (by decide)).trans ((if_neg (by decide)).trans r2), (if_neg (by decide)).trans ((if_neg (by decide)).trans r3), (if_neg (by decide)).trans ((if_neg (by decide)).trans r4), F13, (fun p hp => N13 p (.tail _ hp)), g10, o10⟩, fun k q' hk hq' => ?_⟩
          by_cases hkk : k = ps.length - 1 - i2
          · rw [hkk, hq] at hq'; cases hq'; exact hend
          · exact hno2 k q' (by omega) hq'
        · rename News _ _ _ _ => N13
          exact (N13 _ (.head _)).1
      · skip
        k_steps
        rename Fr _ _ _ _ => F12
        rename News _ _ _ _ => N12
        refine subInt_acc (KX.keeps F12.keep) (N12 (acc, _) (by k_mem)).1 (by omega) (by omega) hit ?_
        have htq := F12.keep _ _ hqg
        k_steps
        refine item_tupleT (j := 1) (x := .str q.p q.tp) ⟨_, htq, rfl, 0, rfl⟩ (by decide) (by decide) (by rfl) (by rfl) ?_
        clear htq
        k_steps
        all_goals (try (exfalso; omega))
        · rename Fr _ _ _ _ => F13
          rename News _ _ _ _ => N13
          rename (Txt.item q.p (-1) == _) = true => hend
          rw [item_last hl1, decide_eq_true_eq] at hend
          have e5 : (ps.length : Int) + (i2 : Int) * (-1) = ((ps.length - i2 : Nat) : Int) := by omega
          rw [e5]
          refine popFrom_K (k := ps.length - i2) (acc := acc) (d := d) (items := itemsOf (ps ++ [⟨t, f, tf, p, tp⟩])) F13 KX T' N13 (by k_updF) (by k_mem) (Nat.lt_trans dA (by decide)) (Nat.lt_trans dU (by decide)) (by rw [itemsOf_size]; omega) (by rw [itemsOf_size]; simp; omega) fun l h6 n6 k6 hnl F14 N14 => ?_
          have q1 : @Ne Nat l acc := neO hnl (N13 (acc, _) (by k_mem)).1
          have q2 : @Ne Nat l d := neO hnl (N13 (d, _) (by k_mem)).1
          have q3 : @Ne Nat l ll := neO hnl (N13 (ll, _) (by k_mem)).1
          have q4 : @Ne Nat l 147 := neO hnl (N13 (147, _) (by k_mem)).1
          have q5 : @Ne Nat l 154 := neO hnl (N13 (154, _) (by k_mem)).1
          rw [itemsOf_take, itemsOf_drop, List.take_append_of_le_length (by omega), List.drop_append_of_le_length (by omega)] at N14
          clear F13 N13
          k_steps
          rename Fr _ _ _ _ => F15
          rename News _ _ _ _ => N15
          have G10 : AllBare s2.gens := g10.symm ▸ G5
          have hpt : Parts g' (ps.take (ps.length - i2)) := fun r hr => hpg r (List.mem_of_mem_take hr)
          have hst : Small (ps.take (ps.length - i2)) := fun r hr => hs1 r (List.mem_of_mem_take hr)
          have hzt : (ps.take (ps.length - i2)).length < 1000 := by simp; omega
          refine strAcc_K (acc := acc) (d := d) (ps := ps.take (ps.length - i2)) (tp := t2) F15 KX T' hM' N15 (by k_mem) (by k_mem) (by k_updF) tr2 (fun r hr => F15.keep _ _ (hpt r hr)) G10 hh (Nat.lt_trans dA (by decide)) (Nat.lt_trans dU (by decide)) hzt hst (joinSmall hst hzt) fun s8 t8 tp8 kp8 tr8 F8 N8 G8 os8 => ?_
          clear F15 N15 kp8
          k_steps
          rename Fr _ _ _ _ => F16
          rename News _ _ _ _ => N16
          refine resetL_K (acc := acc) (d := d) (l := l) F16 KX T' N16 (by k_updF) (by intro o; k_updF) (by k_mem) (by k_mem) (Nat.lt_trans dA (by decide)) (Nat.lt_trans dU (by decide)) (by rw [itemsOf_size]; exact hzt) (by rw [itemsOf_size]; simp; omega) fun h9 n9 ti9 k9 F17 N17 => ?_
          clear F16 N16
          k_steps
          rename Fr _ _ _ _ => F18
          rename News _ _ _ _ => N18
          have e6 : ps.length - i2 = (ps.length - 1 - i2) + 1 := by omega
          rw [e6] at N18
          refine h _ _ _ _ (after_of (fun b o e hb => kg' b o e hb) hfd hfm F18 N18 (by k_mem) (by k_mem) (by k_mem) (by k_mem) (by k_mem) (by k_mem) (by k_mem) tr5 tr8 (fun r hr => ?_) G8 (os8.trans (o10.trans os5)) rfl rfl (fr_snoc (fun r hr => List.mem_of_mem_drop hr) (N18 (t, _) (by k_mem)).2.2)) (Step.cut (q := ⟨t, f, tf, p, tp⟩) (q₀ := Part.zero) (j := j) (i := ps.length - 1 - i2) (r := q) rfl rfl (by omega) hch hno (by omega) hq hend fun k q' hk hq' => hno2 k q' (by omega) hq')
          rcases List.mem_append.mp hr with hr | hr
          · exact F18.keep _ _ (hpg r (List.mem_of_mem_drop hr))
          · rw [List.mem_singleton.mp hr]
            exact (N18 (t, _) (by k_mem)).1
        · rename Fr _ _ _ _ => F13
          rename News _ _ _ _ => N13
          rename (Txt.item q.p (-1) == _) = false => hend
          rw [item_last hl1, decide_eq_false_iff_not] at hend
          refine ⟨⟨_, (if_neg (by decide)).trans ((if_neg (by decide)).trans r1), (if_neg (by decide)).trans ((if_neg (by decide)).trans r2), (if_neg (by decide)).trans ((if_neg (by decide)).trans r3), (if_neg (by decide)).trans ((if_neg (by decide)).trans r4), F13, (fun p hp => N13 p (.tail _ hp)), g10, o10⟩, fun k q' hk hq' => ?_⟩
          by_cases hkk : k = ps.length - 1 - i2
          · rw [hkk, hq] at hq'; cases hq'; exact hend
          · exact hno2 k q' (by omega) hq'
        · rename News _ _ _ _ => N13
          exact (N13 _ (.head _)).1
    · intro s2 h4 tk4 hJ2 hSt2 hk3
      obtain ⟨⟨M2, r1, r2, r3, r4, F10, N10, g10, o10⟩, hno2⟩ := hJ2
      obtain ⟨F11, N11⟩ := leave_iter F10 N10 hJ0 hJ1 hk3
      clear F10 N10 F9 N9
      k_steps
      · rename Fr _ _ _ _ => F13
        rename News _ _ _ _ => N13
        refine ⟨⟨M2, r1, r2, r3, F13, (fun p hp => N13 p (.tail _ hp)), g10, o10⟩, fun j' c' hj' hc' q hq => ?_⟩
        by_cases hjj : j' = j
        · rw [hjj, hch] at hc'; cases hc'
          obtain ⟨k, hk⟩ := List.mem_iff_getElem?.mp hq
          exact hno2 k q (by omega) hk
        · exact hno j' c' (by omega) hc' q hq
      · rename News _ _ _ _ => N13
        exact ⟨oI, (N13 _ (.head _)).1, hoI2⟩
  · intro s' h2 tk2 hJ hSt hk2
    obtain ⟨⟨M, m1, m2, m3, F7, N7, g7, o7⟩, hno⟩ := hJ
    obtain ⟨F8, N8⟩ := leave_iter F7 N7 hI0 hI1 hk2
    clear F7 N7 F6 N6
    have m1 : M "self" = some (.ref fm) := m1
    have m2 : M "fws" = some (.str f tf) := m2
    have m3 : M "string" = some (.str p tp) := m3
    have hnone : ∀ (j : Nat) (c : Nat), mk.cps[j]? = some c → NoneEnds ps c := fun j c hc => hno j c (by obtain ⟨hl, _⟩ := Array.getElem?_eq_some_iff.mp hc; exact hl) hc
    have G7 : AllBare s'.gens := g7.symm ▸ G5
    rw [itemsOf_snoc] at N8
    k_steps
    rename Fr _ _ _ _ => F9
    rename News _ _ _ _ => N9
    refine pop_K (acc := acc) (d := d) F9 KX T' N9 (by k_updF) (by k_mem) (Nat.lt_trans dA (by decide)) (Nat.lt_trans dU (by decide)) (by simp; omega) fun h10 n10 k10 F10 N10 => ?_
    clear F9 N9
    dsimp only
    k_steps
    · rename Fr _ _ _ _ => F11
      rename News _ _ _ _ => N11
      have hps11 : Parts _ ps := fun r hr => F11.keep _ _ (hpg r hr)
      refine newline_K (sz := sz) F11 KX T' hM' N11 (by k_mem) (by k_mem) (by k_mem) (by k_mem) (by k_mem) (by k_mem) (by k_mem) tr5 tr2 ⟨o1, o2, o3, o4, o5⟩ hps11 G7 hh hz hs1 hsz hli hne hok (by omega) (Nat.lt_trans dA (by decide)) (Nat.lt_trans dU (by decide)) fun s12 n12 c12 ti12 t12 tb12 tc12 F12 N12 tra12 trb12 G12 os12 => ?_
      clear F11 N11 hps11
      k_steps
      · rename Fr _ _ _ _ => F13
        rename News _ _ _ _ => N13
        refine push_K (acc := acc) (d := d) (items := itemsOf []) F13 KX T' N13 (by k_updF) (by k_mem) (Nat.lt_trans dA (by decide)) (Nat.lt_trans dU (by decide)) (by decide) fun t2 h14 k14 hnt2 F14 N14 => ?_
        rw [itemsOf_push [] ⟨t2, f, tf, p, tp⟩] at N14
        have hpx : Parts h14 ([] ++ [⟨t2, f, tf, p, tp⟩]) := by
          intro r hr
          rcases List.mem_append.mp hr with hr | hr
          · cases hr
          · rw [List.mem_singleton.mp hr]
            exact (N14 (t2, _) (by k_mem)).1
        clear F13 N13
        k_steps
        rename Fr _ _ _ _ => F15
        rename News _ _ _ _ => N15
        exact h _ _ _ _ (after_of (fun b o e hb => kg' b o e hb) hfd hfm F15 N15 (by k_mem) (by k_mem) (by k_mem) (by k_mem) (by k_mem) (by k_mem) (by k_mem) tra12 trb12 hpx G12 (os12.trans (o7.trans os5)) rfl rfl (fr_snoc (l := []) (fun r hr => absurd hr List.not_mem_nil) (N15 (t2, _) (by k_mem)).2.2)) (Step.ended (q := ⟨t2, f, tf, p, tp⟩) (q₀ := ⟨t, f, tf, p, tp⟩) rfl rfl (by omega) hnone (by omega) ((if_neg (str_nnil (by assumption))).symm) rfl)
      · rename Fr _ _ _ _ => F13
        rename News _ _ _ _ => N13
        refine push_K (acc := acc) (d := d) (items := itemsOf []) F13 KX T' N13 (by k_updF) (by k_mem) (Nat.lt_trans dA (by decide)) (Nat.lt_trans dU (by decide)) (by decide) fun t2 h14 k14 hnt2 F14 N14 => ?_
        rw [itemsOf_push [] ⟨t2, " ", tk, p, tp⟩] at N14
        have hpx : Parts h14 ([] ++ [⟨t2, " ", tk, p, tp⟩]) := by
          intro r hr
          rcases List.mem_append.mp hr with hr | hr
          · cases hr
          · rw [List.mem_singleton.mp hr]
            exact (N14 (t2, _) (by k_mem)).1
        clear F13 N13
        k_steps
        rename Fr _ _ _ _ => F15
        rename News _ _ _ _ => N15
        exact h _ _ _ _ (after_of (fun b o e hb => kg' b o e hb) hfd hfm F15 N15 (by k_mem) (by k_mem) (by k_mem) (by k_mem) (by k_mem) (by k_mem) (by k_mem) tra12 trb12 hpx G12 (os12.trans (o7.trans os5)) rfl rfl (fr_snoc (l := []) (fun r hr => absurd hr List.not_mem_nil) (N15 (t2, _) (by k_mem)).2.2)) (Step.ended (q := ⟨t2, " ", tk, p, tp⟩) (q₀ := ⟨t, f, tf, p, tp⟩) rfl rfl (by omega) hnone (by omega) ((if_pos (str_nil (by assumption))).symm) rfl)
    · rename Fr _ _ _ _ => F11
      rename News _ _ _ _ => N11
      refine push_K (acc := acc) (d := d) (items := itemsOf ps) F11 KX T' N11 (by k_updF) (by k_mem) (Nat.lt_trans dA (by decide)) (Nat.lt_trans dU (by decide)) (by rw [itemsOf_size]; omega) fun t2 h13 k13 hnt2 F13 N13 => ?_
      rw [itemsOf_push ps ⟨t2, f, tf, p, tp⟩] at N13
      have hpx : Parts h13 (ps ++ [⟨t2, f, tf, p, tp⟩]) := by
        intro r hr
        rcases List.mem_append.mp hr with hr | hr
        · exact F13.keep _ _ (hpg r hr)
        · rw [List.mem_singleton.mp hr]
          exact (N13 (t2, _) (by k_mem)).1
      clear F11 N11
      k_steps
      rename Fr _ _ _ _ => F14
      rename News _ _ _ _ => N14
      exact h _ _ _ _ (after_of (fun b o e hb => kg' b o e hb) hfd hfm F14 N14 (by k_mem) (by k_mem) (by k_mem) (by k_mem) (by k_mem) (by k_mem) (by k_mem) tr5 tr2 hpx G7 (o7.trans os5) rfl rfl (fr_snoc (fun r hr => hr) (N14 (t2, _) (by k_mem)).2.2)) (Step.grown (q := ⟨t2, f, tf, p, tp⟩) (q₀ := ⟨t, f, tf, p, tp⟩) rfl rfl (by omega) hnone (by omega) rfl rfl)
theorem sayF1_end : True := by
  k_with_none
  trivial
end
end
section
open PySem.StrLaws PySem.Builtin.Str
/-- the index of a search's end -/
def hiOf (x : Str) (b : Int) : Nat := min (max 0 (if b < 0 then b + x.length else b)).toNat x.length
def find4 (x y : Str) (b : Int) : Int := match occurrences x y 0 (hiOf x b) 1 with | k :: _ => (k : Int) | [] => -1
def rfind4 (x y : Str) (b : Int) : Int := match lastOccurrence x y 0 (hiOf x b) with | some k => (k : Int) | none => -1
theorem gives_find4 (x y : Str) (b : Int) (t u v z : Tok) : Gives («str.find» ⟨[.str x t, .str y u, .int 0 v, .int b z], []⟩) (.int (find4 x y b)) := by
  show Gives (match occurrences x y 0 (hiOf x b) 1 with | k :: _ => retInt k | [] => (do rule "str.find.not-found"; retInt (-1))) _
  unfold find4
  cases occurrences x y 0 (hiOf x b) 1 with
  | nil => exact .rule (.of_eq rfl)
  | cons k _ => exact .of_eq rfl
theorem gives_rfind4 (x y : Str) (b : Int) (t u v z : Tok) : Gives («str.rfind» ⟨[.str x t, .str y u, .int 0 v, .int b z], []⟩) (.int (rfind4 x y b)) := by
  show Gives (match lastOccurrence x y 0 (hiOf x b) with | some k => retInt k | none => (do rule "str.rfind.not-found"; retInt (-1))) _
  unfold rfind4
  cases lastOccurrence x y 0 (hiOf x b) with
  | none => exact .rule (.of_eq rfl)
  | some k => exact .of_eq rfl
section
variable {prog : Program} {w : World} {A : Around} {E : Value → Shared → Prop} {s : Shared} {x y : Str} {t u v z : Tok} {b : Int} {Q : Value → Shared → Prop}
theorem call_find4 (hq : Q (.int (find4 x y b) s.toks) { s with toks := s.toks + 1 }) : wpAny (model prog w) A (call (.builtin "str.find") [.str x t, .str y u, .int 0 v, .int b z]) Q E s :=
  call_gives F.slot_str_find (typeIs_str _ _ _) F.entry_str_find (F.args_str_find_4 _ _ _ _) (gives_find4 x y b t u v z) hq
theorem call_rfind4 (hq : Q (.int (rfind4 x y b) s.toks) { s with toks := s.toks + 1 }) : wpAny (model prog w) A (call (.builtin "str.rfind") [.str x t, .str y u, .int 0 v, .int b z]) Q E s :=
  call_gives F.slot_str_rfind (typeIs_str _ _ _) F.entry_str_rfind (F.args_str_rfind_4 _ _ _ _) (gives_rfind4 x y b t u v z) hq
end
theorem at_char {x : Str} {c hi k : Nat} (hhi : hi ≤ x.length) : At x ⟨#[c]⟩ hi k ↔ k < hi ∧ x.cps.toList[k]? = some c := by
  have e : (⟨#[c]⟩ : Str).length = 1 := rfl
  have := subAt_one x c k
  constructor
  · intro h
    have h1 : k < hi := by have := h.1; omega
    exact ⟨h1, this.mp ⟨by omega, h.2⟩⟩
  · rintro ⟨h1, h2⟩
    have := this.mpr h2
    exact ⟨by omega, this.2⟩
theorem find4_spec (x : Str) (c : Nat) (b : Int) : (find4 x ⟨#[c]⟩ b = -1 ∧ ∀ k, k < hiOf x b → x.cps.toList[k]? ≠ some c) ∨ ∃ k : Nat, find4 x ⟨#[c]⟩ b = (k : Int) ∧ k < hiOf x b ∧ x.cps.toList[k]? = some c ∧ ∀ j, j < k → x.cps.toList[j]? ≠ some c := by
  have hhi : hiOf x b ≤ x.length := Nat.min_le_right _ _
  unfold find4
  rw [occ_eq]
  rcases occ_first x ⟨#[c]⟩ (hiOf x b) 1 (Nat.le_refl _) (List.range' 0 (hiOf x b + 1 - 0)) 0 (fun _ _ => Nat.zero_le _) with ⟨h0, hn⟩ | ⟨pre, a, post, e, h0, ha, hn⟩
  · refine .inl ⟨by rw [h0], fun k hk he => hn k (by rw [List.mem_range'_1]; omega) ((at_char hhi).mpr ⟨hk, he⟩)⟩
  · have ha' := (at_char hhi).mp ha
    refine .inr ⟨a, ?_, ha'.1, ha'.2, fun j hj he => hn j (range'_split e j hj) ((at_char hhi).mpr ⟨by omega, he⟩)⟩
    generalize (forIn (List.range' 0 (hiOf x b + 1 - 0)) ((#[] : Array Nat), 0) (occBody x ⟨#[c]⟩ (hiOf x b) 1)).run.fst = arr at h0
    have h1 : arr.toList[0]? = some a := by simpa using h0
    cases hL : arr.toList with
    | nil => rw [hL] at h1; cases h1
    | cons b t => rw [hL] at h1; simp at h1; rw [h1]
theorem rfind4_spec (x : Str) (c : Nat) (b : Int) : (rfind4 x ⟨#[c]⟩ b = -1 ∧ ∀ k, k < hiOf x b → x.cps.toList[k]? ≠ some c) ∨ ∃ k : Nat, rfind4 x ⟨#[c]⟩ b = (k : Int) ∧ k < hiOf x b ∧ x.cps.toList[k]? = some c ∧ ∀ j, k < j → j < hiOf x b → x.cps.toList[j]? ≠ some c := by
  have hhi : hiOf x b ≤ x.length := Nat.min_le_right _ _
  unfold rfind4
  rw [last_eq]
  have key := last_run x ⟨#[c]⟩ (hiOf x b) (List.range' 0 (hiOf x b + 1 - 0)) [] none (fun _ h => nomatch h) (fun _ h => nomatch h) (by simpa using List.pairwise_lt_range' (s := 0) (n := hiOf x b + 1 - 0))
  have mem : ∀ i, i < hiOf x b → i ∈ [] ++ List.range' 0 (hiOf x b + 1 - 0) := fun i hi => by rw [List.nil_append, List.mem_range'_1]; omega
  cases hr : (forIn (List.range' 0 (hiOf x b + 1 - 0)) none (lastBody x ⟨#[c]⟩ (hiOf x b))).run with
  | none => rw [hr] at key; exact .inl ⟨rfl, fun k hk he => key k (mem k hk) ((at_char hhi).mpr ⟨hk, he⟩)⟩
  | some a =>
    rw [hr] at key
    have ha' := (at_char hhi).mp key.1
    exact .inr ⟨a, rfl, ha'.1, ha'.2, fun j hj hh he => key.2 j (mem j hh) hj ((at_char hhi).mpr ⟨hh, he⟩)⟩
theorem find_is4 (x y : Str) : Txt.find x y = find4 x y x.length := by
  have : hiOf x x.length = x.length := by unfold hiOf; split <;> omega
  unfold Txt.find find4
  rw [this]
  cases occurrences x y 0 x.length 1 <;> rfl
end
section
def endA (msg : Str) : Int := if 0 ≤ Txt.find msg "\n" then Txt.find msg "\n" else msg.length
def endB (msg : Str) : Int := if 0 ≤ find4 msg ":" (endA msg) then find4 msg ":" (endA msg) else endA msg
def stripOf (msg : Str) : Str := if 0 ≤ rfind4 msg "." (endB msg) then Txt.slice msg (some (rfind4 msg "." (endB msg) + 1)) (some (endB msg)) else Txt.slice msg (some 0) (some (endB msg))
theorem endA_of {msg : Str} {r : Int} (h : 0 ≤ Txt.find msg "\n" ∧ r = Txt.find msg "\n" ∨ ¬ 0 ≤ Txt.find msg "\n" ∧ r = msg.length) : r = endA msg := by
  unfold endA
  rcases h with ⟨a, b⟩ | ⟨a, b⟩
  · rw [if_pos a]; exact b
  · rw [if_neg a]; exact b
theorem strip_of1 {msg : Str} (a : 0 ≤ find4 msg ":" (endA msg)) (b : 0 ≤ rfind4 msg "." (find4 msg ":" (endA msg))) : stripOf msg = Txt.slice msg (some (rfind4 msg "." (find4 msg ":" (endA msg)) + 1)) (some (find4 msg ":" (endA msg))) := by
  have e : endB msg = find4 msg ":" (endA msg) := if_pos a
  unfold stripOf; rw [e, if_pos b]
theorem strip_of2 {msg : Str} (a : 0 ≤ find4 msg ":" (endA msg)) (b : ¬ 0 ≤ rfind4 msg "." (find4 msg ":" (endA msg))) : stripOf msg = Txt.slice msg (some 0) (some (find4 msg ":" (endA msg))) := by
  have e : endB msg = find4 msg ":" (endA msg) := if_pos a
  unfold stripOf; rw [e, if_neg b]
theorem strip_of3 {msg : Str} (a : ¬ 0 ≤ find4 msg ":" (endA msg)) (b : 0 ≤ rfind4 msg "." (endA msg)) : stripOf msg = Txt.slice msg (some (rfind4 msg "." (endA msg) + 1)) (some (endA msg)) := by
  have e : endB msg = endA msg := if_neg a
  unfold stripOf; rw [e, if_pos b]
theorem strip_of4 {msg : Str} (a : ¬ 0 ≤ find4 msg ":" (endA msg)) (b : ¬ 0 ≤ rfind4 msg "." (endA msg)) : stripOf msg = Txt.slice msg (some 0) (some (endA msg)) := by
  have e : endB msg = endA msg := if_neg a
  unfold stripOf; rw [e, if_neg b]
theorem strip_le (msg : Str) : (stripOf msg).length ≤ msg.length := by
  unfold stripOf
  split <;> exact Txt.slice_le _ _ _
section
theorem sayG1_1 : True := by
  k_with "unpackItems ref" => (k_here; k_dflt (refine' unpackItemsN_ (by k_asm) (by k_asm) (by kun_tup) (by assumption) (by exact rfl) ?_; k_whole); intro _ _ _; (try k_sweep))
  trivial
theorem sayG1_2 : True := by
  k_with "assign Tuple" => (k_here; (with_reducible show wpAny _ _ (assign (Expr.Tuple _ _ _) _ (Value.ref _)) _ _ _); k_dflt (refine' unpackN_ (by k_asm) (by k_asm) (by kun_tup) (by assumption) (by exact rfl) (by exact rfl) ?_; k_whole); intro _ _ _; (try k_sweep))
  trivial
theorem sayG1_3 : True := by
  k_with "call builtin:str.find" => (k_here; refine call_find4 ?_)
  trivial
theorem sayG1_4 : True := by
  k_with "call builtin:str.rfind" => (k_here; refine call_rfind4 ?_)
  trivial
theorem strip_raw {msg : Str} {tm : Tok} {w : World} {vp : Program} {lo : List Str} {A : Around} {s : Shared} {R : Result → Shared → Prop} {B : Heap} {mg mb : Str → Option Value}
    (hB : Base w vp lo mg mb B) (st : ∀ b o, B.get? b = some o → s.heap.get? b = some o) (hA : A.depth < 900) (hU : A.units < 9000) (hh : A.handled = none) (hl : msg.length < 10000) (h : ∀ h' k t, (∀ b o, s.heap.get? b = some o → h'.get? b = some o) → R (.ok (.ret (.str (stripOf msg) t))) { s with heap := h', toks := k }) :
    codeAny (model P95 w) A (.call (.ref 28) ⟨[.str msg tm], []⟩) R s := by
  have X : (top0.heap_1 w.params).In s.heap := hB.X.keeps st
  have T := hB.T.keeps st
  refine' enterK (K := top0.heap_1 w.params) (news := []) (binds := [("msg", .str msg tm)]) X T.nolimit (fun _ hp => absurd hp (List.not_mem_nil)) ?k6 ?k7 (Nat.lt_trans hA (by decide)) ?k9 ?kB ?_ ?c5 ?c2 ?c3 ?c4; (case k6 => k_is); (case k7 => k_is); (case k9 => first | exact BindsTo.of_eq rfl | exact binds_K X rfl (by k_is) rfl rfl rfl); (case c5 => decide); (case kB => exact locs rfl); (case c2 => exact rfl); (case c3 => exact rfl); (case c4 => exact rfl); intro g' L' h' F' N' kg' l1
  obtain ⟨KX, T'⟩ := base_in hB st (W := []) (fun _ hp => absurd hp (List.not_mem_nil)) kg'
  clear X T hB st
  refine noE ?_
  k_fold
  k_steps
  all_goals
    rename Fr _ _ _ _ => F2
    rename (_ ∨ _) => hr
    have e1 := endA_of hr
    subst e1
    refine (fun e2 => Eq.subst (motive := fun r => R (.ok (.ret (.str r _))) _) e2 (h _ _ _ (fun b o e => F2.keep b o (kg' b o e (by simp))))) ?_
    first
    | exact strip_of1 (by assumption) (by assumption)
    | exact strip_of2 (by assumption) (by assumption)
    | exact strip_of3 (by assumption) (by assumption)
    | exact strip_of4 (by assumption) (by assumption)
theorem sayG1_end : True := by
  k_with_none
  trivial
end
end
section
open PySem.StrLaws PySem.Builtin.Str
/-- one sign for another -/
def rep (c d : Nat) (x : Str) : Str := ⟨(x.cps.toList.map fun a => if a = c then d else a).toArray⟩
theorem rep_free (c d : Nat) : ∀ l : List Nat, c ∉ l → l.map (fun a => if a = c then d else a) = l
  | [], _ => rfl
  | k :: r, h => by
    have h1 : ¬ k = c := fun e => h (e ▸ List.mem_cons_self ..)
    rw [List.map_cons, if_neg h1, rep_free c d r fun m => h (List.mem_cons_of_mem _ m)]
theorem rep_join (c d : Nat) : ∀ parts : List Str, (∀ p ∈ parts, c ∉ p.cps.toList) → (Str.join ⟨#[c]⟩ parts).cps.toList.map (fun a => if a = c then d else a) = (Str.join ⟨#[d]⟩ parts).cps.toList
  | [], _ => rfl
  | [p], h => rep_free c d _ (h p (List.mem_singleton.mpr rfl))
  | p :: q :: r, h => by
    have ih := rep_join c d (q :: r) fun a ha => h a (List.mem_cons_of_mem _ ha)
    show (p ++ ⟨#[c]⟩ ++ Str.join ⟨#[c]⟩ (q :: r)).cps.toList.map _ = (p ++ ⟨#[d]⟩ ++ Str.join ⟨#[d]⟩ (q :: r)).cps.toList
    simp only [Str.cps_append, Array.toList_append, List.map_append]
    rw [ih, rep_free c d _ (h p (List.mem_cons_self ..))]
    simp
theorem replace_rep (x : Str) (c d : Nat) : Txt.replace x ⟨#[c]⟩ ⟨#[d]⟩ = rep c d x := by
  have h : (Txt.replace x ⟨#[c]⟩ ⟨#[d]⟩).cps.toList = x.cps.toList.map (fun a => if a = c then d else a) := by
    rw [StrLaws.replace_one, ← rep_join c d _ (StrLaws.split_free x c), StrLaws.join_split]
  unfold rep
  rw [← h]
theorem rep_length (c d : Nat) (x : Str) : (rep c d x).length = x.length := by
  show (rep c d x).cps.size = x.cps.size
  simp [rep]
section
variable {prog : Program} {w : World} {A : Around} {E : Value → Shared → Prop} {s : Shared} {x y z : Str} {t u v : Tok} {Q : Value → Shared → Prop}
theorem call_rep {c d : Nat} (hy : y = ⟨#[c]⟩) (hz : z = ⟨#[d]⟩) (hu : u ≠ 0) (hv : v ≠ 0) (huv : u ≠ v) (hcd : c ≠ d) (hx : x.length ≤ 10000) (hs : 0 < s.toks)
    (hq : ∀ t' k, 0 < k → (rep c d x).length = x.length → Q (.str (rep c d x) t') { s with toks := k }) : wpAny (model prog w) A (call (.builtin "str.replace") [.str x t, .str y u, .str z v]) Q E s := by
  subst hy hz
  have e : (2 : Nat) ^ 24 = 16777216 := by decide
  have hz1 : (⟨#[d]⟩ : Str).length = 1 := rfl
  have hyz : ((⟨#[c]⟩ : Str) == ⟨#[d]⟩) = false := by simp [hcd]
  have hb : x.length + (x.length + 1) * (⟨#[d]⟩ : Str).length ≤ 16777216 := by rw [hz1]; omega
  have hl : tooLong (x.length + (occurrences x ⟨#[c]⟩ 0 x.length (x.length + 1)).length * (⟨#[d]⟩ : Str).length) = false := by
    have h1 := StrLaws.occ_length_le x ⟨#[c]⟩ 0 x.length (x.length + 1)
    unfold tooLong sizeLine
    rw [hz1]
    exact decide_eq_false (by omega)
  refine call_gives F.slot_str_replace (typeIs_str _ _ _) F.entry_str_replace (F.args_str_replace_3 _ _ _)
    (gives_str_replace x ⟨#[c]⟩ ⟨#[d]⟩ t u v fun _ => ⟨by simp [hu, hv], by simp [huv], hyz, hl⟩) ?_
  have hq' := hq
  rw [← replace_rep] at hq'
  unfold Txt.replace at hq'
  cases hc : ((occurrences x ⟨#[c]⟩ 0 x.length (x.length + 1)).isEmpty || ((⟨#[c]⟩ : Str).length == 0 && (⟨#[d]⟩ : Str).length == 0))
  · rw [hc] at hq'
    simp only [Bool.false_eq_true, if_false] at hq' ⊢
    have hlen := rep_length c d x
    rw [← replace_rep] at hlen
    unfold Txt.replace at hlen
    rw [hc] at hlen
    simp only [Bool.false_eq_true, if_false] at hlen
    exact ⟨fits_replaced ⟨#[c]⟩ hb, hq' _ _ (Nat.succ_pos _) hlen⟩
  · rw [hc] at hq'
    simp only [if_true] at hq' ⊢
    exact hq' t s.toks hs trivial
end

theorem post_val_or_strP {s : Shared} {c : Prop} [Decidable c] {y z : Str} {t : Tok} {Q : Value → Shared → Prop} (hs : 0 < s.toks) (h : (if c then y else z).length ≤ sizeLine ∧ ∀ t' k, 0 < k → Q (.str (if c then y else z) t') { s with toks := k }) :
    (if c then Made.val (.str y t) else Made.str z).post Q s := by
  by_cases hc : c
  · rw [if_pos hc]; have h' := h.2 t s.toks hs; rw [if_pos hc] at h'; exact h'
  · rw [if_neg hc]; have h' := h.2 s.toks (s.toks + 1) (Nat.succ_pos _); have h1 := h.1; rw [if_neg hc] at h' h1; exact ⟨h1, h'⟩
theorem slice_nsP {prog : Program} {w : World} {A : Around} {E : Value → Shared → Prop} {s : Shared} {value slice : Expr} {x : Str} {t : Tok} {h₀ : Heap} {L : Addr} {m : Str → Option Value} {news : List (Addr × Obj)} {Q : Value → Shared → Prop} {j : Int} {uj : Tok} (hF : Fr h₀ L s.heap m) (hN : News h₀ L s.heap news) (hp : 0 < s.toks) (h : ∀ h' t' k, 0 < k → Fr h₀ L h' m → News h₀ L h' news → (Txt.slice x none (some j)).length ≤ x.length → Q (.str (Txt.slice x none (some j)) t') { s with heap := h', toks := k })
    (hs : subscripted slice false (.str x t) (.ref s.heap.objs.size) = operate [.ref s.heap.objs.size, .str x t] (getItem (.str x t) (.ref s.heap.objs.size)) := by with_unfolding_all rfl)
    (ht : ∀ r, letTemporaryGo value (.str x t) r = pure () := by intro _; with_unfolding_all rfl) (hsz : x.length ≤ sizeLine := by size_fits) :
    wpAny (model prog w) A (subscriptTail value slice (.str x t) (.ref s.heap.objs.size)) Q E { s with heap := s.heap.push { cls := .type "slice", data := .fields #[.none, .int j uj, .none] } } := by
  refine tail_of_ItemOn ⟨"str", _, F.slot_str_getitem.lookup, typeIs_str _ _ _, wpAny_getItem_str_slice (l := none) (u := some (j, uj)) (st := none) ⟨_, Heap.get?_push_size _ rfl, rfl, rfl⟩ rfl
    (post_val_or_strP hp ⟨Nat.le_trans (Txt.slice_le x _ _) hsz, fun t' k hk => h _ t' k hk (Fr.pushS hF _) (hN.pushKeep _) (Txt.slice_le x _ _)⟩)⟩ hs ht

def rev (x : Str) : Str := ⟨x.cps.toList.reverse.toArray⟩
theorem rev_len (x : Str) : (rev x).length = x.length := by show (rev x).cps.size = x.cps.size; simp [rev]
theorem rev_eq (x : Str) (u : Tok) : Txt.sliceBy x none none (-1, u) = rev x := by
  have h : (Txt.sliceBy x none none (-1, u)).cps.toList = x.cps.toList.reverse := by
    rw [step_rev_list]
    have hlen : x.length = x.cps.toList.length := by simp [Str.length]
    apply List.ext_getElem
    · simp [hlen]
    · intro i h1 h2
      have h3 : i < x.cps.size := by simpa using h2
      have hl : x.length = x.cps.size := rfl
      simp only [List.getElem_map, List.getElem_range, List.getElem_reverse]
      rw [hl]
      have h4 : x.cps.size - 1 - i < x.cps.size := by omega
      simp [Array.getD, h4]
  have e : (Txt.sliceBy x none none (-1, u)) = ⟨(Txt.sliceBy x none none (-1, u)).cps.toList.toArray⟩ := by simp
  rw [e, h]
  rfl
theorem slice_rev {prog : Program} {w : World} {A : Around} {E : Value → Shared → Prop} {s : Shared} {value slice : Expr} {x : Str} {t : Tok} {h₀ : Heap} {L : Addr} {m : Str → Option Value} {news : List (Addr × Obj)} {Q : Value → Shared → Prop} {uk : Tok} (hF : Fr h₀ L s.heap m) (hN : News h₀ L s.heap news) (h : ∀ h' t' c, Fr h₀ L h' m → News h₀ L h' news → (rev x).length = x.length → Q (.str (rev x) t') { s with heap := h', toks := c })
    (hs : subscripted slice false (.str x t) (.ref s.heap.objs.size) = operate [.ref s.heap.objs.size, .str x t] (getItem (.str x t) (.ref s.heap.objs.size)) := by with_unfolding_all rfl)
    (ht : ∀ r, letTemporaryGo value (.str x t) r = pure () := by intro _; with_unfolding_all rfl) (hsz : x.length ≤ sizeLine := by size_fits) :
    wpAny (model prog w) A (subscriptTail value slice (.str x t) (.ref s.heap.objs.size)) Q E { s with heap := s.heap.push { cls := .type "slice", data := .fields #[.none, .none, .int (-1) uk] } } :=
  slice_strK_nn hF hN (by decide) (fun h' t' c F' N' => by rw [rev_eq]; exact h h' t' c F' N' (rev_len x)) hs ht hsz
end
section
/-- how many signs stand behind the last c -/
def after (c : Nat) (l : List Nat) : Nat := (l.reverse.takeWhile (· != c)).length
theorem takeWhile_all {p : Nat → Bool} : ∀ {l : List Nat}, (∀ a ∈ l, p a = true) → l.takeWhile p = l
  | [], _ => rfl
  | a :: r, h => by rw [List.takeWhile_cons, if_pos (h a List.mem_cons_self), takeWhile_all fun b hb => h b (List.mem_cons_of_mem _ hb)]
theorem takeWhile_stop {p : Nat → Bool} {c : Nat} {r : List Nat} (hc : p c = false) : ∀ {l : List Nat}, (∀ a ∈ l, p a = true) → (l ++ c :: r).takeWhile p = l
  | [], _ => by simp [List.takeWhile_cons, hc]
  | a :: q, h => by rw [List.cons_append, List.takeWhile_cons, if_pos (h a List.mem_cons_self), takeWhile_stop hc fun b hb => h b (List.mem_cons_of_mem _ hb)]
theorem after_none {c : Nat} {l : List Nat} (h : c ∉ l) : after c l = l.length := by
  unfold after
  rw [takeWhile_all (fun a ha => by have := List.mem_reverse.mp ha; simp only [bne_iff_ne]; rintro rfl; exact h this), List.length_reverse]
theorem after_some {c : Nat} {a b : List Nat} (h : c ∉ b) : after c (a ++ c :: b) = b.length := by
  unfold after
  rw [List.reverse_append, List.reverse_cons, List.append_assoc]
  rw [show [c] ++ a.reverse = c :: a.reverse from rfl, takeWhile_stop (by simp) (fun x hx => by have := List.mem_reverse.mp hx; simp only [bne_iff_ne]; rintro rfl; exact h this), List.length_reverse]
theorem takeWhile_over {p : Nat → Bool} {r : List Nat} : ∀ {l : List Nat}, (∀ a ∈ l, p a = true) → (l ++ r).takeWhile p = l ++ r.takeWhile p
  | [], _ => rfl
  | a :: q, h => by rw [List.cons_append, List.takeWhile_cons, if_pos (h a List.mem_cons_self), takeWhile_over fun b hb => h b (List.mem_cons_of_mem _ hb), List.cons_append]
theorem after_append_free {c : Nat} {a b : List Nat} (h : c ∉ b) : after c (a ++ b) = b.length + after c a := by
  unfold after
  rw [List.reverse_append, takeWhile_over (fun x hx => by have := List.mem_reverse.mp hx; simp only [bne_iff_ne]; rintro rfl; exact h this), List.length_append, List.length_reverse]
theorem split_at {l : List Nat} {k c : Nat} (h : l[k]? = some c) : l = l.take k ++ c :: l.drop (k + 1) := by
  obtain ⟨h1, h2⟩ := List.getElem?_eq_some_iff.mp h
  rw [← h2, List.getElem_cons_drop, List.take_append_drop]
theorem not_mem_drop {l : List Nat} {k c : Nat} (h : ∀ j, k < j → j < l.length → l[j]? ≠ some c) : c ∉ l.drop (k + 1) := by
  intro hm
  obtain ⟨j, hj⟩ := List.mem_iff_getElem?.mp hm
  rw [List.getElem?_drop] at hj
  obtain ⟨h1, _⟩ := List.getElem?_eq_some_iff.mp hj
  exact h _ (by omega) h1 hj
theorem not_mem_take {l : List Nat} {k c : Nat} (h : ∀ j, j < k → l[j]? ≠ some c) : c ∉ l.take k := by
  intro hm
  obtain ⟨j, hj⟩ := List.mem_iff_getElem?.mp hm
  obtain ⟨h1, _⟩ := List.getElem?_eq_some_iff.mp hj
  have h2 : j < k := by simp at h1; omega
  rw [List.getElem?_take_of_lt h2] at hj
  exact h j h2 hj

/-- an ending: nothing, or a colon or a line feed ahead -/
def EndOk (e : Str) : Prop := e.cps.toList = [] ∨ e.cps.toList[0]? = some 10 ∨ e.cps.toList[0]? = some 58
theorem hiOf_nat {x : Str} {n : Nat} (h : n ≤ x.length) : hiOf x (n : Int) = n := by
  unfold hiOf; split <;> omega
theorem strip_spec {x e : Str} (hx : 10 ∉ x.cps.toList) (he : EndOk e) : ∀ y, y = x.cps.toList.takeWhile (· != 58) → (stripOf (x ++ e)).cps.toList = y.drop (y.length - after 46 y) := by
  intro y hy
  have hL : (x ++ e).cps.toList = x.cps.toList ++ e.cps.toList := by show (x.cps ++ e.cps).toList = _; simp
  have hlen : (x ++ e).length = x.cps.toList.length + e.cps.toList.length := by show (x.cps ++ e.cps).size = _; simp
  generalize hm : x ++ e = msg at hL hlen ⊢
  generalize hxl : x.cps.toList = xl at *
  generalize hel : e.cps.toList = el at *
  have n10 : ("\n" : Str) = ⟨#[10]⟩ := by decide +kernel
  have n58 : (":" : Str) = ⟨#[58]⟩ := by decide +kernel
  have n46 : ("." : Str) = ⟨#[46]⟩ := by decide +kernel
  have hel' : el = [] ∨ el[0]? = some 10 ∨ el[0]? = some 58 := by unfold EndOk at he; rw [hel] at he; exact he
  have inx : ∀ k c, k < xl.length → msg.cps.toList[k]? = some c → xl[k]? = some c := fun k c hk h => by rw [hL, List.getElem?_append_left hk] at h; exact h
  have at0 : msg.cps.toList[xl.length]? = el[0]? := by rw [hL, List.getElem?_append_right (Nat.le_refl _), Nat.sub_self]
  -- the first end
  obtain ⟨nA, hA, hA1, hA2, hA3⟩ : ∃ nA : Nat, endA msg = nA ∧ xl.length ≤ nA ∧ nA ≤ msg.length ∧ (nA = xl.length ∨ el[0]? = some 58 ∧ xl.length < nA) := by
    unfold endA
    rw [find_is4, n10]
    rcases find4_spec msg 10 msg.length with ⟨h, hn⟩ | ⟨k, h, hk, hc, hn⟩
    · rw [h, if_neg (by decide)]
      refine ⟨_, rfl, by omega, Nat.le_refl _, ?_⟩
      rcases hel' with h0 | h0 | h0
      · left; rw [hlen, h0]; simp
      · exfalso
        rw [hiOf_nat (Nat.le_refl _)] at hn
        obtain ⟨h1, _⟩ := List.getElem?_eq_some_iff.mp h0
        exact hn xl.length (by omega) (at0.trans h0)
      · right; obtain ⟨h1, _⟩ := List.getElem?_eq_some_iff.mp h0; exact ⟨h0, by omega⟩
    · rw [h, if_pos (by omega)]
      rw [hiOf_nat (Nat.le_refl _)] at hk
      have hk1 : xl.length ≤ k := by
        rcases Nat.lt_or_ge k xl.length with hlt | hge
        · exact absurd (List.mem_of_getElem? (inx k 10 hlt hc)) hx
        · exact hge
      refine ⟨k, rfl, hk1, by omega, ?_⟩
      rcases hel' with h0 | h0 | h0
      · exfalso; rw [hlen, h0] at hk; simp at hk; omega
      · left
        rcases Nat.lt_or_ge xl.length k with hlt | hge
        · exact absurd (at0.trans h0) (hn _ hlt)
        · omega
      · right
        refine ⟨h0, ?_⟩
        rcases Nat.lt_or_ge xl.length k with hlt | hge
        · exact hlt
        · have : k = xl.length := by omega
          subst this
          rw [at0, h0] at hc
          cases hc
  -- the second end
  obtain ⟨hB, hyt⟩ : endB msg = (y.length : Int) ∧ y = xl.take y.length := by
    unfold endB
    rw [hA, n58]
    rcases find4_spec msg 58 nA with ⟨h, hn⟩ | ⟨k, h, hk, hc, hn⟩
    · rw [h, if_neg (by decide)]
      rw [hiOf_nat hA2] at hn
      have e1 : nA = xl.length := by
        rcases hA3 with h0 | ⟨h0, h1⟩
        · exact h0
        · exact absurd (at0.trans h0) (hn _ h1)
      have e2 : y = xl := by
        rw [hy]
        refine takeWhile_all fun a ha => ?_
        obtain ⟨j, hj⟩ := List.mem_iff_getElem?.mp ha
        obtain ⟨h1, _⟩ := List.getElem?_eq_some_iff.mp hj
        simp only [bne_iff_ne]
        rintro rfl
        exact hn j (by omega) (by rw [hL, List.getElem?_append_left h1]; exact hj)
      rw [e2, e1]
      exact ⟨rfl, by simp⟩
    · rw [h, if_pos (by omega)]
      rw [hiOf_nat hA2] at hk
      have hk1 : k ≤ xl.length := by
        rcases hA3 with h0 | ⟨h0, h1⟩
        · omega
        · rcases Nat.lt_or_ge xl.length k with hlt | hge
          · exact absurd (at0.trans h0) (hn _ hlt)
          · exact hge
      have hno : ∀ a ∈ xl.take k, (a != 58) = true := by
        intro a ha
        simp only [bne_iff_ne]
        rintro rfl
        refine not_mem_take (l := xl) (k := k) (c := 58) (fun j hj hx' => hn j hj ?_) ha
        rw [hL, List.getElem?_append_left (by omega)]
        exact hx'
      have e2 : y = xl.take k := by
        rw [hy]
        rcases Nat.lt_or_ge k xl.length with hlt | hge
        · have h5 := split_at (inx k 58 hlt hc)
          conv => lhs; rw [h5]
          exact takeWhile_stop (by decide) hno
        · rw [List.take_of_length_le hge] at hno ⊢
          exact takeWhile_all hno
      have e3 : y.length = k := by rw [e2]; simp; omega
      rw [e3]
      exact ⟨rfl, e2⟩
  have hyx : y.length ≤ xl.length := by rw [hyt]; simp; omega
  have hyl : y.length ≤ msg.length := by omega
  have yat : ∀ j, j < y.length → msg.cps.toList[j]? = y[j]? := by
    intro j hj
    have h6 : ∀ n, y = xl.take n → j < n → y[j]? = xl[j]? := fun n h hj => by rw [h, List.getElem?_take_of_lt hj]
    rw [h6 _ hyt hj, hL, List.getElem?_append_left (by omega)]
  have ytake : msg.cps.toList.take y.length = y := by
    rw [hL, List.take_append_of_le_length hyx, ← hyt]
  unfold stripOf
  rw [hB, n46]
  have hcl : (msg.cps.toList.length : Int) = msg.length := by simp [Str.length]
  rcases rfind4_spec msg 46 y.length with ⟨h, hn⟩ | ⟨k, h, hk, hc, hn⟩
  · rw [h, if_neg (by decide)]
    rw [hiOf_nat hyl] at hn
    have hfree : 46 ∉ y := by
      intro hm
      obtain ⟨j, hj⟩ := List.mem_iff_getElem?.mp hm
      obtain ⟨h1, _⟩ := List.getElem?_eq_some_iff.mp hj
      exact hn j h1 ((yat j h1).trans hj)
    rw [after_none hfree, Nat.sub_self, List.drop_zero]
    have := eq_of_beq (slice_closes (x := msg) (i := 0) (j := y.length) ⟨Int.le_refl _, by omega, by omega⟩)
    rw [this]
    simp [ytake]
  · rw [h, if_pos (by omega)]
    rw [hiOf_nat hyl] at hk hn
    have hck : y[k]? = some 46 := (yat k hk).symm.trans hc
    have hfree : 46 ∉ y.drop (k + 1) := not_mem_drop fun j h1 h2 h3 => hn j h1 h2 ((yat j h2).trans h3)
    have ea : after 46 y = y.length - (k + 1) := by
      have h5 := split_at hck
      have := after_some (a := y.take k) hfree
      rw [← h5] at this
      rw [this, List.length_drop]
    rw [ea, show y.length - (y.length - (k + 1)) = k + 1 by omega]
    have := eq_of_beq (slice_closes (x := msg) (i := (k : Int) + 1) (j := y.length) ⟨by omega, by omega, by omega⟩)
    rw [this]
    show ((List.drop ((k : Int) + 1).toNat msg.cps.toList).take ((y.length : Int) - ((k : Int) + 1)).toNat) = _
    rw [show ((k : Int) + 1).toNat = k + 1 by omega, show ((y.length : Int) - ((k : Int) + 1)).toNat = y.length - (k + 1) by omega]
    rw [← List.drop_take, ytake]
end
section
/-- what a piece is -/
structure PieceOk (r : Str) : Prop where
  pos : 0 < r.length
  two : r.length ≤ 2
  ok : PyData.strOk r = true
theorem pieceOk_chr {n : Int} (h0 : 0 ≤ n) (h1 : n < 1114112) : PieceOk ⟨#[n.toNat]⟩ := by
  refine ⟨Nat.zero_lt_one, Nat.le_succ 1, ?_⟩
  unfold PyData.strOk
  rw [Array.all_eq_true_iff_forall_mem]
  intro c hc
  have e : c = n.toNat := by simpa using hc
  subst e
  exact decide_eq_true (by omega)
theorem pieceOk_lit {r : Str} (h : (decide (0 < r.length) && decide (r.length ≤ 2) && PyData.strOk r) = true) : PieceOk r := by
  simp only [Bool.and_eq_true, decide_eq_true_eq] at h
  exact ⟨h.1.1, h.1.2, h.2⟩
section
theorem piece_raw {x : Int} {tx : Tok} {w : World} {vp : Program} {lo : List Str} {A : Around} {s : Shared} {R : Result → Shared → Prop} {B : Heap} {mg mb : Str → Option Value}
    (hB : Base w vp lo mg mb B) (st : ∀ b o, B.get? b = some o → s.heap.get? b = some o) (hA : A.depth < 900) (hU : A.units < 9000) (hh : A.handled = none) (h : ∀ h' k r t, (∀ b o, s.heap.get? b = some o → h'.get? b = some o) → PieceOk r → R (.ok (.ret (.str r t))) { s with heap := h', toks := k }) :
    codeAny (model P95 w) A (.call (.ref 196) ⟨[.int x tx], []⟩) R s := by
  have X : (top0.heap_1 w.params).In s.heap := hB.X.keeps st
  have T := hB.T.keeps st
  refine' enterK (K := top0.heap_1 w.params) (news := []) (binds := [("x", .int x tx)]) X T.nolimit (fun _ hp => absurd hp (List.not_mem_nil)) ?k6 ?k7 (Nat.lt_trans hA (by decide)) ?k9 ?kB ?_ ?c5 ?c2 ?c3 ?c4; (case k6 => k_is); (case k7 => k_is); (case k9 => first | exact BindsTo.of_eq rfl | exact binds_K X rfl (by k_is) rfl rfl rfl); (case c5 => decide); (case kB => exact locs rfl); (case c2 => exact rfl); (case c3 => exact rfl); (case c4 => exact rfl); intro g' L' h' F' N' kg' l1
  obtain ⟨KX, T'⟩ := base_in hB st (W := []) (fun _ hp => absurd hp (List.not_mem_nil)) kg'
  clear X T hB st
  refine noE ?_
  k_fold
  k_steps
  all_goals
    rename Fr _ _ _ _ => F2
    refine h _ _ _ _ (fun b o e => F2.keep b o (kg' b o e (by simp))) ?_
    first
    | exact pieceOk_lit (by decide +kernel)
    | exact pieceOk_chr (Int.fmod_nonneg_of_pos _ (by decide)) (by have := Int.fmod_lt_of_pos (x.fdiv 256) (b := 1112064) (by decide); omega)
    | exact pieceOk_chr (by have := Int.fmod_nonneg_of_pos (x.fdiv 256) (b := 1112064) (by decide); omega) (by have := Int.fmod_lt_of_pos (x.fdiv 256) (b := 1112064) (by decide); omega)
end
def boneOf (p : Str) : Str := rep 58 45 (rep 46 45 (Txt.slice p none (some (-1)))) ++ Txt.item p (-1)
section
theorem sayG2_1 : True := by
  k_with "call builtin:str.replace" => (k_here; (first | refine call_rep (c := 46) (d := 45) (by decide +kernel) (by decide +kernel) (show @Ne Nat _ _ by omega) (show @Ne Nat _ _ by omega) (show @Ne Nat _ _ by omega) (by decide) (by first | omega | (simp only [rep_length]; omega)) (by first | exact Nat.succ_pos _ | (dsimp only; omega)) ?_ | refine call_rep (c := 58) (d := 45) (by decide +kernel) (by decide +kernel) (show @Ne Nat _ _ by omega) (show @Ne Nat _ _ by omega) (show @Ne Nat _ _ by omega) (by decide) (by first | omega | (simp only [rep_length]; omega)) (by first | exact Nat.succ_pos _ | (dsimp only; omega)) ?_ | refine call_rep (c := 10) (d := 45) (by decide +kernel) (by decide +kernel) (show @Ne Nat _ _ by omega) (show @Ne Nat _ _ by omega) (show @Ne Nat _ _ by omega) (by decide) (by first | omega | (simp only [rep_length]; omega)) (by first | exact Nat.succ_pos _ | (dsimp only; omega)) ?_); intro _ _ _ _)
  trivial
theorem sayG2_2 : True := by
  k_with "subscriptTail Name Slice str ref" => (k_here; (with_reducible show wpAny _ _ (subscriptTail _ (Expr.Slice none (some _) none _) (Value.str _ _) (Value.ref _)) _ _ _); refine slice_nsP (by k_asm) (by k_asm) (by first | exact Nat.succ_pos _ | (dsimp only; omega)) ?_; intro _ _ _ _ _ _ _)
  trivial
theorem bones_raw {p : Str} {tx : Tok} {w : World} {vp : Program} {lo : List Str} {A : Around} {s : Shared} {R : Result → Shared → Prop} {B : Heap} {mg mb : Str → Option Value}
    (hB : Base w vp lo mg mb B) (st : ∀ b o, B.get? b = some o → s.heap.get? b = some o) (hA : A.depth < 900) (hU : A.units < 9000) (hh : A.handled = none) (hp : 0 < p.length) (hl : p.length < 10) (h : ∀ h' k t, (∀ b o, s.heap.get? b = some o → h'.get? b = some o) → R (.ok (.ret (.str (boneOf p) t))) { s with heap := h', toks := k }) :
    codeAny (model P95 w) A (.call (.ref 203) ⟨[.str p tx], []⟩) R s := by
  have X : (top0.heap_1 w.params).In s.heap := hB.X.keeps st
  have T := hB.T.keeps st
  refine' enterK (K := top0.heap_1 w.params) (news := []) (binds := [("piece", .str p tx)]) X T.nolimit (fun _ hp => absurd hp (List.not_mem_nil)) ?k6 ?k7 (Nat.lt_trans hA (by decide)) ?k9 ?kB ?_ ?c5 ?c2 ?c3 ?c4; (case k6 => k_is); (case k7 => k_is); (case k9 => first | exact BindsTo.of_eq rfl | exact binds_K X rfl (by k_is) rfl rfl rfl); (case c5 => decide); (case kB => exact locs rfl); (case c2 => exact rfl); (case c3 => exact rfl); (case c4 => exact rfl); intro g' L' h' F' N' kg' l1
  obtain ⟨KX, T'⟩ := base_in hB st (W := []) (fun _ hp => absurd hp (List.not_mem_nil)) kg'
  clear X T hB st
  refine noE ?_
  k_fold
  have htk : 0 < s.toks + List.length ([("piece", .str p tx)] : List (Str × Value)) := (by simp only [List.length_cons]; omega)
  generalize s.toks + List.length ([("piece", .str p tx)] : List (Str × Value)) = tk0 at htk ⊢
  show wpAny _ _ _ _ _ _
  k_steps
  rename Fr _ _ _ _ => F2
  exact h _ _ _ (fun b o e => F2.keep b o (kg' b o e (by simp)))
theorem sayG2_end : True := by
  k_with_none
  trivial
end
end
section
theorem strip_K {w : World} {vp : Program} {lo : List Str} {A : Around} {s : Shared} {E : Value → Shared → Prop} {h₀ : Heap} {L : Addr} {m : Str → Option Value} {mg mb : Str → Option Value} {news : List (Addr × Obj)} {Q : Value → Shared → Prop} {msg : Str} {tm : Tok} (F : Fr h₀ L s.heap m) (X₀ : (top0.heap_1 w.params).In h₀) (T : TopRead vp lo mg mb h₀) (N : News h₀ L s.heap news) (hA : A.depth < 900) (hU : A.units < 9000) (hh : A.handled = none) (hl : msg.length < 10000)
    (h : ∀ h' k t, Fr h₀ L h' m → News h₀ L h' news → (stripOf msg).length < 10000 → Q (.str (stripOf msg) t) { s with heap := h', toks := k }) : wpAny (model P95 w) A (call (.ref 28) [.str msg tm]) Q E s := by
  refine wpAny_call (strip_raw ⟨X₀, T⟩ F.keep hA hU hh hl fun h' k t keep => ?_)
  obtain ⟨F', N'⟩ := keep_K F N keep
  exact h h' k t F' N' (Nat.lt_of_le_of_lt (strip_le msg) hl)
theorem rep_mem {a c d : Nat} {x : Str} (h : a ∈ (rep c d x).cps.toList) : a = d ∨ a ∈ x.cps.toList ∧ a ≠ c := by
  unfold rep at h
  simp only [List.mem_map] at h
  obtain ⟨b, hb, e⟩ := h
  split at e
  · exact .inl e.symm
  · subst e; exact .inr ⟨hb, by assumption⟩
def plainOf (c : Nat) (b : Str) : Str := rep (if c = 46 then 58 else 46) 45 (rep 10 45 b)
theorem plain_no10 {c : Nat} {b : Str} : 10 ∉ (plainOf c b).cps.toList := by
  intro h
  rcases rep_mem h with e | ⟨h1, _⟩
  · cases e
  · rcases rep_mem h1 with e | ⟨_, h2⟩
    · cases e
    · exact h2 rfl
theorem plain_no58 {b : Str} : 58 ∉ (plainOf 46 b).cps.toList := by
  intro h
  rcases rep_mem h with e | ⟨_, h1⟩
  · cases e
  · exact h1 rfl
theorem plain_no46 {b : Str} : 46 ∉ (plainOf 58 b).cps.toList := by
  intro h
  rcases rep_mem h with e | ⟨_, h1⟩
  · cases e
  · exact h1 rfl
theorem after_le (c : Nat) (l : List Nat) : after c l ≤ l.length := by
  unfold after
  have := (List.takeWhile_prefix (p := (· != c)) (l := l.reverse)).length_le
  rwa [List.length_reverse] at this
theorem str_of_list {x y : Str} (h : x.cps.toList = y.cps.toList) : x = y := by
  obtain ⟨⟨a⟩⟩ := x
  obtain ⟨⟨b⟩⟩ := y
  have : a = b := h
  rw [this]
theorem nameA {b e : Str} (he : EndOk e) : (stripOf (plainOf 46 b ++ e)).cps.toList = (plainOf 46 b).cps.toList.drop ((plainOf 46 b).length - after 46 (plainOf 46 b).cps.toList) := by
  have hl : (plainOf 46 b).length = (plainOf 46 b).cps.toList.length := by simp [Str.length]
  rw [hl]
  refine strip_spec plain_no10 he _ (takeWhile_all fun a ha => ?_).symm
  simp only [bne_iff_ne]
  rintro rfl
  exact plain_no58 ha
theorem lenA {b e : Str} (he : EndOk e) : ((stripOf (plainOf 46 b ++ e)).length : Int) = after 46 (plainOf 46 b).cps.toList := by
  have h := congrArg List.length (nameA (b := b) he)
  have h1 := after_le 46 (plainOf 46 b).cps.toList
  have hl : (plainOf 46 b).length = (plainOf 46 b).cps.toList.length := by simp [Str.length]
  have hl2 : (stripOf (plainOf 46 b ++ e)).length = (stripOf (plainOf 46 b ++ e)).cps.toList.length := by simp [Str.length]
  rw [List.length_drop] at h
  omega
theorem sameA {b e : Str} (he : EndOk e) : stripOf (plainOf 46 b ++ e) = Txt.slice (plainOf 46 b) (some (((plainOf 46 b).length : Int) - (stripOf (plainOf 46 b ++ e)).length)) none := by
  have h1 := after_le 46 (plainOf 46 b).cps.toList
  have hl : (plainOf 46 b).length = (plainOf 46 b).cps.toList.length := by simp [Str.length]
  rw [lenA he]
  refine str_of_list ?_
  rw [nameA he, eq_of_beq (slice_closes_from (x := plainOf 46 b) (i := ((plainOf 46 b).length : Int) - after 46 (plainOf 46 b).cps.toList) ⟨by omega, by omega⟩)]
  show _ = List.take _ (List.drop _ _)
  rw [show (((plainOf 46 b).length : Int) - after 46 (plainOf 46 b).cps.toList).toNat = (plainOf 46 b).length - after 46 (plainOf 46 b).cps.toList by omega, List.take_of_length_le]
  rw [List.length_drop]
  omega
theorem nameB {b e : Str} (he : EndOk e) : (stripOf (rev (plainOf 58 b) ++ e)).cps.toList = (plainOf 58 b).cps.toList.reverse.takeWhile (· != 58) := by
  have hr : (rev (plainOf 58 b)).cps.toList = (plainOf 58 b).cps.toList.reverse := rfl
  rw [strip_spec (x := rev (plainOf 58 b)) (by rw [hr, List.mem_reverse]; exact plain_no10) he _ rfl, hr, after_none, Nat.sub_self, List.drop_zero]
  intro h
  exact plain_no46 (List.mem_reverse.mp ((List.takeWhile_prefix _).subset h))
theorem lenB {b e : Str} (he : EndOk e) : ((stripOf (rev (plainOf 58 b) ++ e)).length : Int) = after 58 (plainOf 58 b).cps.toList := by
  have h := congrArg List.length (nameB (b := b) he)
  have hl2 : (stripOf (rev (plainOf 58 b) ++ e)).length = (stripOf (rev (plainOf 58 b) ++ e)).cps.toList.length := by simp [Str.length]
  rw [hl2, h]
  rfl
theorem sameB {b e : Str} (he : EndOk e) : stripOf (rev (plainOf 58 b) ++ e) = Txt.slice (rev (plainOf 58 b)) none (some ((stripOf (rev (plainOf 58 b) ++ e)).length : Int)) := by
  have h1 := after_le 58 (plainOf 58 b).cps.toList
  have hl : (rev (plainOf 58 b)).cps.toList.length = (plainOf 58 b).cps.toList.length := by simp [rev]
  rw [lenB he]
  refine str_of_list ?_
  rw [nameB he, eq_of_beq (slice_closes_to (x := rev (plainOf 58 b)) (j := after 58 (plainOf 58 b).cps.toList) ⟨by omega, by omega⟩)]
  show _ = List.take _ (List.drop _ _)
  rw [show ((after 58 (plainOf 58 b).cps.toList : Int) - 0).toNat = after 58 (plainOf 58 b).cps.toList by omega]
  show _ = List.take _ (List.drop 0 (plainOf 58 b).cps.toList.reverse)
  rw [List.drop_zero]
  unfold after
  exact List.prefix_iff_eq_take.mp (List.takeWhile_prefix _)
section
theorem sayG4_1 : True := by
  k_with "call builtin:str.replace" => (k_here; (first | refine call_rep (c := 46) (d := 45) (by decide +kernel) (by decide +kernel) (show @Ne Nat _ _ by omega) (show @Ne Nat _ _ by omega) (show @Ne Nat _ _ by omega) (by decide) (by first | omega | (simp only [rep_length]; omega)) (by first | exact Nat.succ_pos _ | (dsimp only; omega)) ?_ | refine call_rep (c := 58) (d := 45) (by decide +kernel) (by decide +kernel) (show @Ne Nat _ _ by omega) (show @Ne Nat _ _ by omega) (show @Ne Nat _ _ by omega) (by decide) (by first | omega | (simp only [rep_length]; omega)) (by first | exact Nat.succ_pos _ | (dsimp only; omega)) ?_ | refine call_rep (c := 10) (d := 45) (by decide +kernel) (by decide +kernel) (show @Ne Nat _ _ by omega) (show @Ne Nat _ _ by omega) (show @Ne Nat _ _ by omega) (by decide) (by first | omega | (simp only [rep_length]; omega)) (by first | exact Nat.succ_pos _ | (dsimp only; omega)) ?_); intro _ _ _ _)
  trivial
theorem sayG4_2 : True := by
  k_with "call ref" => (k_here; k_dflt (refine' strip_K (by k_asm) (by k_asm) (by k_asm) (by k_asm) (by exact Nat.lt_trans (by assumption) (by decide)) (by exact Nat.lt_trans (by assumption) (by decide)) (by assumption) (by first | omega | (simp only [cps_len_append, rep_length]; omega)) ?_; k_whole); intro _ _ _ _ _ _; (try k_sweep))
  trivial
theorem sayG4_3 : True := by
  k_with "subscriptTail Name Slice str ref" => (k_here; (with_reducible show wpAny _ _ (subscriptTail _ (Expr.Slice none none (some _) _) (Value.str _ _) (Value.ref _)) _ _ _); refine slice_rev (by k_asm) (by k_asm) ?_; intro _ _ _ _ _ _)
  trivial
theorem cps_len_append (x y : Str) : (x ++ y).length = x.length + y.length := by show (x.cps ++ y.cps).size = _; simp [Str.length]
theorem carriedA_raw {b e : Str} {tb tm te : Tok} {w : World} {vp : Program} {lo : List Str} {A : Around} {s : Shared} {R : Result → Shared → Prop} {B : Heap} {mg mb : Str → Option Value}
    (hB : Base w vp lo mg mb B) (st : ∀ b o, B.get? b = some o → s.heap.get? b = some o) (hA : A.depth < 800) (hU : A.units < 8000) (hh : A.handled = none) (hb : b.length < 1000) (he : e.length < 100) (heo : EndOk e) (h : ∀ h' k t, (∀ b o, s.heap.get? b = some o → h'.get? b = some o) → R (.ok (.ret (.int (after 46 (plainOf 46 b).cps.toList) t))) { s with heap := h', toks := k }) :
    codeAny (model P95 w) A (.call (.ref 210) ⟨[.str b tb, .str "." tm, .str e te], []⟩) R s := by
  have X : (top0.heap_1 w.params).In s.heap := hB.X.keeps st
  have T := hB.T.keeps st
  refine' enterK (K := top0.heap_1 w.params) (news := []) (binds := [("bones", .str b tb), ("mark", .str "." tm), ("ending", .str e te)]) X T.nolimit (fun _ hp => absurd hp (List.not_mem_nil)) ?k6 ?k7 (Nat.lt_trans hA (by decide)) ?k9 ?kB ?_ ?c5 ?c2 ?c3 ?c4; (case k6 => k_is); (case k7 => k_is); (case k9 => first | exact BindsTo.of_eq rfl | exact binds_K X rfl (by k_is) rfl rfl rfl); (case c5 => decide); (case kB => exact locs rfl); (case c2 => exact rfl); (case c3 => exact rfl); (case c4 => exact rfl); intro g' L' h' F' N' kg' l1
  obtain ⟨KX, T'⟩ := base_in hB st (W := []) (fun _ hp => absurd hp (List.not_mem_nil)) kg'
  clear X T hB st
  refine noE ?_
  k_fold
  have htk : 0 < s.toks + List.length ([("bones", .str b tb), ("mark", .str "." tm), ("ending", .str e te)] : List (Str × Value)) := (by simp only [List.length_cons]; omega)
  generalize s.toks + List.length ([("bones", .str b tb), ("mark", .str "." tm), ("ending", .str e te)] : List (Str × Value)) = tk0 at htk ⊢
  show wpAny _ _ _ _ _ _
  have dA : (A.deeper (envOf "_law_carried" default L' 210 (.ref 209))).depth < 880 := Nat.lt_of_lt_of_le (Nat.succ_lt_succ hA) (by decide)
  have dU : (A.deeper (envOf "_law_carried" default L' 210 (.ref 209))).units < 8880 := Nat.lt_of_lt_of_le (Nat.add_lt_add_right hU 3) (by decide)
  k_steps
  · rename Fr _ _ _ _ => F2
    refine (fun e2 => Eq.subst (motive := fun r => R (.ok (.ret (.int r _))) _) e2 (h _ _ _ (fun b o e => F2.keep b o (kg' b o e (by simp))))) ?_
    exact (lenA heo).symm
  · rename ((_ == _) = false) => hne
    exact absurd (sameA heo) (ne_of_beq_false hne)
theorem carriedB_raw {b e : Str} {tb tm te : Tok} {w : World} {vp : Program} {lo : List Str} {A : Around} {s : Shared} {R : Result → Shared → Prop} {B : Heap} {mg mb : Str → Option Value}
    (hB : Base w vp lo mg mb B) (st : ∀ b o, B.get? b = some o → s.heap.get? b = some o) (hA : A.depth < 800) (hU : A.units < 8000) (hh : A.handled = none) (hb : b.length < 1000) (he : e.length < 100) (heo : EndOk e) (h : ∀ h' k t, (∀ b o, s.heap.get? b = some o → h'.get? b = some o) → R (.ok (.ret (.int (after 58 (plainOf 58 b).cps.toList) t))) { s with heap := h', toks := k }) :
    codeAny (model P95 w) A (.call (.ref 210) ⟨[.str b tb, .str ":" tm, .str e te], []⟩) R s := by
  have X : (top0.heap_1 w.params).In s.heap := hB.X.keeps st
  have T := hB.T.keeps st
  refine' enterK (K := top0.heap_1 w.params) (news := []) (binds := [("bones", .str b tb), ("mark", .str ":" tm), ("ending", .str e te)]) X T.nolimit (fun _ hp => absurd hp (List.not_mem_nil)) ?k6 ?k7 (Nat.lt_trans hA (by decide)) ?k9 ?kB ?_ ?c5 ?c2 ?c3 ?c4; (case k6 => k_is); (case k7 => k_is); (case k9 => first | exact BindsTo.of_eq rfl | exact binds_K X rfl (by k_is) rfl rfl rfl); (case c5 => decide); (case kB => exact locs rfl); (case c2 => exact rfl); (case c3 => exact rfl); (case c4 => exact rfl); intro g' L' h' F' N' kg' l1
  obtain ⟨KX, T'⟩ := base_in hB st (W := []) (fun _ hp => absurd hp (List.not_mem_nil)) kg'
  clear X T hB st
  refine noE ?_
  k_fold
  have htk : 0 < s.toks + List.length ([("bones", .str b tb), ("mark", .str ":" tm), ("ending", .str e te)] : List (Str × Value)) := (by simp only [List.length_cons]; omega)
  generalize s.toks + List.length ([("bones", .str b tb), ("mark", .str ":" tm), ("ending", .str e te)] : List (Str × Value)) = tk0 at htk ⊢
  show wpAny _ _ _ _ _ _
  have dA : (A.deeper (envOf "_law_carried" default L' 210 (.ref 209))).depth < 880 := Nat.lt_of_lt_of_le (Nat.succ_lt_succ hA) (by decide)
  have dU : (A.deeper (envOf "_law_carried" default L' 210 (.ref 209))).units < 8880 := Nat.lt_of_lt_of_le (Nat.add_lt_add_right hU 3) (by decide)
  k_steps
  · rename Fr _ _ _ _ => F2
    refine (fun e2 => Eq.subst (motive := fun r => R (.ok (.ret (.int r _))) _) e2 (h _ _ _ (fun b o e => F2.keep b o (kg' b o e (by simp))))) ?_
    exact (lenB heo).symm
  · rename ((_ == _) = false) => hne
    exact absurd (sameB heo) (ne_of_beq_false hne)
theorem sayG4_end : True := by
  k_with_none
  trivial
end

theorem carried_K {w : World} {vp : Program} {lo : List Str} {A : Around} {s : Shared} {E : Value → Shared → Prop} {h₀ : Heap} {L : Addr} {m : Str → Option Value} {mg mb : Str → Option Value} {news : List (Addr × Obj)} {Q : Value → Shared → Prop} {b e : Str} {c : Nat} {tb tm te : Tok} (F : Fr h₀ L s.heap m) (X₀ : (top0.heap_1 w.params).In h₀) (T : TopRead vp lo mg mb h₀) (N : News h₀ L s.heap news) (hc : c = 46 ∨ c = 58) (hA : A.depth < 800) (hU : A.units < 8000) (hh : A.handled = none) (hb : b.length < 1000) (he : e.length < 100) (heo : EndOk e)
    (h : ∀ h' k t, Fr h₀ L h' m → News h₀ L h' news → Q (.int (after c (plainOf c b).cps.toList) t) { s with heap := h', toks := k }) : wpAny (model P95 w) A (call (.ref 210) [.str b tb, .str ⟨#[c]⟩ tm, .str e te]) Q E s := by
  rcases hc with rfl | rfl
  · refine wpAny_call (carriedA_raw ⟨X₀, T⟩ F.keep hA hU hh hb he heo fun h' k t keep => ?_)
    obtain ⟨F', N'⟩ := keep_K F N keep
    exact h h' k t F' N'
  · refine wpAny_call (carriedB_raw ⟨X₀, T⟩ F.keep hA hU hh hb he heo fun h' k t keep => ?_)
    obtain ⟨F', N'⟩ := keep_K F N keep
    exact h h' k t F' N'
theorem piece_K {w : World} {vp : Program} {lo : List Str} {A : Around} {s : Shared} {E : Value → Shared → Prop} {h₀ : Heap} {L : Addr} {m : Str → Option Value} {mg mb : Str → Option Value} {news : List (Addr × Obj)} {Q : Value → Shared → Prop} {x : Int} {tx : Tok} (F : Fr h₀ L s.heap m) (X₀ : (top0.heap_1 w.params).In h₀) (T : TopRead vp lo mg mb h₀) (N : News h₀ L s.heap news) (hA : A.depth < 900) (hU : A.units < 9000) (hh : A.handled = none)
    (h : ∀ h' k r t, Fr h₀ L h' m → News h₀ L h' news → PieceOk r → Q (.str r t) { s with heap := h', toks := k }) : wpAny (model P95 w) A (call (.ref 196) [.int x tx]) Q E s := by
  refine wpAny_call (piece_raw ⟨X₀, T⟩ F.keep hA hU hh fun h' k r t keep ok => ?_)
  obtain ⟨F', N'⟩ := keep_K F N keep
  exact h h' k r t F' N' ok
theorem bones_K {w : World} {vp : Program} {lo : List Str} {A : Around} {s : Shared} {E : Value → Shared → Prop} {h₀ : Heap} {L : Addr} {m : Str → Option Value} {mg mb : Str → Option Value} {news : List (Addr × Obj)} {Q : Value → Shared → Prop} {p : Str} {tx : Tok} (F : Fr h₀ L s.heap m) (X₀ : (top0.heap_1 w.params).In h₀) (T : TopRead vp lo mg mb h₀) (N : News h₀ L s.heap news) (hA : A.depth < 900) (hU : A.units < 9000) (hh : A.handled = none) (hp : PieceOk p)
    (h : ∀ h' k t, Fr h₀ L h' m → News h₀ L h' news → Q (.str (boneOf p) t) { s with heap := h', toks := k }) : wpAny (model P95 w) A (call (.ref 203) [.str p tx]) Q E s := by
  refine wpAny_call (bones_raw ⟨X₀, T⟩ F.keep hA hU hh hp.pos (Nat.lt_of_le_of_lt hp.two (by decide)) fun h' k t keep => ?_)
  obtain ⟨F', N'⟩ := keep_K F N keep
  exact h h' k t F' N'
end
section
theorem newAcc_K {w : World} {vp : Program} {lo : List Str} {A : Around} {s : Shared} {E : Value → Shared → Prop} {h₀ : Heap} {L : Addr} {m : Str → Option Value} {mg mb : Str → Option Value} {news : List (Addr × Obj)} {Q : Value → Shared → Prop} {sz : Int} {ti : Tok}
    (F : Fr h₀ L s.heap m) (X₀ : (top0.heap_1 w.params).In h₀) (T : TopRead vp lo mg mb h₀) (N : News h₀ L s.heap news) (hA : A.depth < 800) (hU : A.units < 8000)
    (h : ∀ d acc h' hsh tk k, @LT.lt Nat _ L d → @LT.lt Nat _ d acc → (∀ p ∈ news, p.1 < d) → Fr h₀ L h' m → News h₀ L h' ((acc, accObj d #[] 0) :: (d, accDict hsh tk sz ti) :: news) → Q (.ref acc) { s with heap := h', toks := k }) :
    wpAny (model P95 w) A (call (.ref 185) [.int sz ti]) Q E s := by
  obtain ⟨hh, g, dr, t, os⟩ := s
  have fresh : ∀ a, hh.objs.size ≤ a → h₀.get? a = none := fun a ha => by
    cases e : h₀.get? a with
    | none => rfl
    | some o => exact absurd (Heap.lt_size (F.keep _ _ e)) (Nat.not_lt.mpr ha)
  have k1 : ∀ b o, hh.get? b = some o → ((hh.push emptyDict).push (accObj hh.objs.size #[] 0)).get? b = some o := fun b o e => Heap.get?_push_of_some _ (Heap.get?_push_of_some _ e)
  have hx : ((hh.push emptyDict).push (accObj hh.objs.size #[] 0)).get? (hh.objs.size + 1) = some (accObj hh.objs.size #[] 0) := by heap_get
  have hd : ((hh.push emptyDict).push (accObj hh.objs.size #[] 0)).get? hh.objs.size = some (dictOf [] 0) := by heap_get
  have hL := F.ns.lt
  refine wpAny_call (acc_make (X₀.keeps F.keep) ?_)
  refine init_raw (B := h₀) ⟨X₀, T⟩ (fun b o e => k1 b o (F.keep b o e)) (fresh _ (Nat.le_succ _)) (fresh _ (Nat.le_refl _)) hx hd ?_ ?_ fun h' hsh tk k' keep ha hd' => ?_
  · have e : (Code.builtin "type.__call__" ⟨[.ref 185, .int sz ti], []⟩).weight = 1 := by first | rfl | kernel_rfl | decide +kernel
    show A.depth + (Code.builtin "type.__call__" ⟨[.ref 185, .int sz ti], []⟩).weight < 890
    rw [e]; omega
  · have e : (Code.builtin "type.__call__" ⟨[.ref 185, .int sz ti], []⟩).cUnits = 1 := by first | rfl | kernel_rfl | decide +kernel
    show A.units + (Code.builtin "type.__call__" ⟨[.ref 185, .int sz ti], []⟩).cUnits < 8900
    rw [e]; omega
  · have k2 : ∀ b o, hh.get? b = some o → h'.get? b = some o := fun b o e => keep b o (Nat.ne_of_lt (Nat.lt_succ_of_lt (Heap.lt_size e))) (Nat.ne_of_lt (Heap.lt_size e)) (k1 b o e)
    obtain ⟨F', N'⟩ := keep_K F N k2
    refine ⟨rfl, h hh.objs.size (hh.objs.size + 1) h' hsh tk k' hL (Nat.lt_succ_self _) (fun p hp => Heap.lt_size (N p hp).1) F' fun q hq => ?_⟩
    rcases List.mem_cons.mp hq with rfl | hq
    · exact ⟨ha, Nat.ne_of_gt (Nat.lt_succ_of_lt hL), fresh _ (Nat.le_succ _)⟩
    · rcases List.mem_cons.mp hq with rfl | hq
      · exact ⟨hd', Nat.ne_of_gt hL, fresh _ (Nat.le_refl _)⟩
      · exact N' q hq
end
section
theorem enterX {prog : Program} {w : World} {A : Around} {s : Shared} {K : Frag} {news : List (Addr × Obj)}
    {R : Result → Shared → Prop} {name qual : Str} {params : Arguments} {body : List Stmt} {scope : Scope} {dV kV doc pm cdv ct oc : Value} {an od : Option Addr} {osl : Array (Option Value)} {f : Addr} {args : Args} {binds : List (Str × Value)}
    (X : K.In s.heap) (lim : s.heap.NoLimit) (hn : ∀ p ∈ news, s.heap.get? p.1 = some p.2)
    (ho : K.lookup f = some ⟨oc, od, .func (fnX name qual params body scope [] dV kV doc pm an cdv ct), osl⟩) (hcd : codeIn K cdv qual = true) (hroom : A.depth < recursionLimit)
    (hbind : BindsTo s (fnX name qual params body scope [] dV kV doc pm an cdv ct) args binds)
    (hkind : ∀ n, ∀ x ∈ binds, scope.names.lookup x.1 = some .local ∨ (scope.names.lookup x.1 = some .cell ∧ ((cellsFrom n scope.names []).lookup x.1).isSome = true))
    (hnd : ((cellsFrom 0 scope.names []).map (·.1)).Nodup)
    (h : ∀ g L' h₁ tk cells, Fr g L' h₁ (bindL (envOfC qual scope L' f cdv).kindOf binds fun _ => none) → News g L' h₁ (cells ++ news) →
      CellsAre (bindC (envOfC qual scope L' f cdv).kindOf binds fun _ => none) (cellsFrom (L' + 1) scope.names []) cells → (∀ b o, s.heap.get? b = some o → b ∉ news.map (·.1) → g.get? b = some o) → (∀ p ∈ news, p.1 < L') →
      wpAny (model prog w) (A.deeper (envOfC qual scope L' f cdv)) (execs body (envOfC qual scope L' f cdv))
        (fun fl s' => R (.ok (.ret (match fl with | .ret v => v | _ => .none))) s')
        (fun e s' => wpAny (model prog w) (A.deeper (envOfC qual scope L' f cdv)) (leaving (envOfC qual scope L' f cdv) e) (fun _ s'' => R (.error e) s'') (fun e' s'' => R (.error e') s'') s')
        { s with heap := h₁, toks := tk })
    (hco : scope.isCoroutine = false := by rfl) (hgen : scope.isGenerator = false := by rfl) (hk : scope.kind = .function := by rfl) : codeAny (model prog w) A (.call (.ref f) args) R s := by
  refine codeAny_call_function hroom (X _ _ ho) rfl hco hgen rfl (codeRec_of X hcd) (hbind _ _ _ _ ?_)
  refine wpAny_newFunctionEnv_cells hk (hkind _) fun env' he s' x => ?_
  subst he
  refine ⟨lim.keeps x.toInCall.keep, codeAny_func ?_⟩
  obtain ⟨h₁, tk, rfl, _⟩ := x.done
  have hk₁ := x.toInCall.keep
  obtain ⟨cells, NC, Y⟩ := Cl.news (h₀ := s.heap) (Nat.le_refl _) fun n c hm => ⟨x.cell n c (lookup_of_mem_nodup (cellsFrom_names scope.names 0 (s.heap.objs.size + 1) [] [] rfl ▸ hnd) hm), x.above n c hm⟩
  refine h (hideAll s.heap (news.map (·.1))) s.heap.objs.size h₁ tk cells ⟨x.toInCall.ns, fun b o e => hk₁ b o (of_hideAll _ e), Nat.le_of_eq (hideAll_size _ _)⟩ (fun p hp => ?_) Y (fun b o e nb => hideAll_get _ e nb) (fun p hp => Heap.lt_size (hn p hp))
  rcases List.mem_append.mp hp with hp | hp
  · refine ⟨(NC p hp).1, (NC p hp).2.1, ?_⟩
    cases q : (hideAll s.heap (news.map (·.1))).get? p.1 with
    | none => rfl
    | some o => have := of_hideAll _ q; rw [(NC p hp).2.2] at this; cases this
  · exact ⟨hk₁ _ _ (hn p hp), Nat.ne_of_lt (Heap.lt_size (hn p hp)), hideAll_none _ (List.mem_map_of_mem hp)⟩
end
section
section
theorem sayH2_1 : True := by
  k_with "call ref" => (k_here; k_dflt (refine' newAcc_K (by k_asm) (by k_asm) (by k_asm) (by k_asm) (by assumption) (by assumption) ?_; k_whole); intro _ _ _ _ _ _ _ _ z9l1 _ _; (try (k_lt z9l1; revert z9l1; intro _)); (try k_sweep))
  trivial
theorem fmtInit_raw {w : World} {vp : Program} {lo : List Str} {A : Around} {s : Shared} {R : Result → Shared → Prop} {B : Heap} {fm fd : Addr} {mg mb : Str → Option Value} {sz ml : Int} {th tm tc tmk : Tok} {cw mk : Str}
    (hB : Base w vp lo mg mb B) (st : ∀ b o, B.get? b = some o → s.heap.get? b = some o) (n1 : B.get? fm = none) (n2 : B.get? fd = none)
    (hfm : s.heap.get? fm = some (instObj 101 fd)) (hfd : s.heap.get? fd = some (dictOf [] 0)) (hA : A.depth < 700) (hU : A.units < 7000) (hcw : cw.length < 1000)
    (h : ∀ h' ll d acc h1 h2 h3 h4 h5 h6 k1 k2 k3 k4 k5 k6 tl hsh tq k', (∀ b o, b ≠ fm → b ≠ fd → s.heap.get? b = some o → h'.get? b = some o) → @LT.lt Nat _ fm ll → @LT.lt Nat _ ll d → @LT.lt Nat _ d acc →
      h'.get? fd = some (fmtDict h1 h2 h3 h4 h5 h6 k1 k2 k3 k4 k5 k6 ml tm cw tc cw.length tl mk tmk ll acc) → h'.get? fm = some (instObj 101 fd) → h'.get? ll = some (listOf #[] 0) → h'.get? d = some (accDict hsh tq sz th) → h'.get? acc = some (accObj d #[] 0) → R (.ok (.ret .none)) { s with heap := h', toks := k' }) :
    codeAny (model P95 w) A (.call (.ref 42) ⟨[.ref fm, .int sz th, .int ml tm, .str cw tc, .str mk tmk], []⟩) R s := by
  have X : (top0.heap_1 w.params).In s.heap := hB.X.keeps st
  have T := hB.T.keeps st
  have hn : ∀ p ∈ [(fm, instObj 101 fd), (fd, dictOf [] 0)], s.heap.get? p.1 = some p.2 := by
    intro q hq
    rcases List.mem_cons.mp hq with rfl | hq
    · exact hfm
    · rcases List.mem_cons.mp hq with rfl | hq
      · exact hfd
      · cases hq
  have ned : @Ne Nat fm fd := by rintro rfl; rw [hfm] at hfd; cases hfd
  refine' enterK (K := top0.heap_1 w.params) (news := [(fm, instObj 101 fd), (fd, dictOf [] 0)]) (binds := [("self", .ref fm), ("headerlen", .int sz th), ("maxlen", .int ml tm), ("continuation_ws", .str cw tc), ("splitchars", .str mk tmk)]) X T.nolimit hn ?k6 ?k7 (Nat.lt_trans hA (by decide)) ?k9 ?kB ?_ ?c5 ?c2 ?c3 ?c4; (case k6 => k_is); (case k7 => k_is); (case k9 => first | exact BindsTo.of_eq rfl | exact binds_K X rfl (by k_is) rfl rfl rfl); (case c5 => decide); (case kB => exact locs rfl); (case c2 => exact rfl); (case c3 => exact rfl); (case c4 => exact rfl); intro g' L' h' F' N' kg' l1
  obtain ⟨KX, T'⟩ := base_in hB st (W := [fm, fd]) (by intro a ha; rcases List.mem_cons.mp ha with rfl | ha; exact n1; rcases List.mem_cons.mp ha with rfl | ha; exact n2; cases ha) kg'
  have dA : (A.deeper (envOf "_ValueFormatter.__init__" default L' 42 (.ref 41))).depth < 800 := Nat.lt_of_lt_of_le (Nat.succ_lt_succ hA) (by decide)
  have dU : (A.deeper (envOf "_ValueFormatter.__init__" default L' 42 (.ref 41))).units < 8000 := Nat.lt_of_lt_of_le (Nat.add_lt_add_right hU 3) (by decide)
  clear X T hB st
  refine noE ?_
  k_fold
  k_steps
  rename Fr _ _ _ _ => F2
  rename News _ _ _ _ => N2
  rename (_ < _ ∧ _ < _ ∧ _ < _) => o3
  rename (fm < _ ∧ fd < _) => o4
  exact h _ _ _ _ _ _ _ _ _ _ _ _ _ _ _ _ _ _ _ _ (fun b o hb hbd e => F2.keep b o (kg' b o e (by simp [hb, hbd]))) o4.1 o3.1 (by assumption) (N2 _ (.tail _ (.tail _ (.tail _ (.tail _ (.head _)))))).1 (N2 _ (.tail _ (.tail _ (.tail _ (.head _))))).1 (N2 _ (.tail _ (.tail _ (.head _)))).1 (N2 _ (.tail _ (.head _))).1 (N2 _ (.head _)).1
theorem sayH2_end : True := by
  k_with_none
  trivial
end
theorem newFmt_K {w : World} {vp : Program} {lo : List Str} {A : Around} {s : Shared} {E : Value → Shared → Prop} {h₀ : Heap} {L : Addr} {m : Str → Option Value} {mg mb : Str → Option Value} {news : List (Addr × Obj)} {Q : Value → Shared → Prop} {sz ml : Int} {th tm tc tmk : Tok} {cw mk : Str}
    (F : Fr h₀ L s.heap m) (X₀ : (top0.heap_1 w.params).In h₀) (T : TopRead vp lo mg mb h₀) (N : News h₀ L s.heap news) (hA : A.depth < 600) (hU : A.units < 6000) (hcw : cw.length < 1000)
    (h : ∀ fd fm ll d acc h' h1 h2 h3 h4 h5 h6 k1 k2 k3 k4 k5 k6 tl hsh tq k, (∀ p ∈ news, p.1 < fd) → @LT.lt Nat _ L fd → @LT.lt Nat _ fd fm → @LT.lt Nat _ fm ll → @LT.lt Nat _ ll d → @LT.lt Nat _ d acc → Fr h₀ L h' m →
      News h₀ L h' ((fd, fmtDict h1 h2 h3 h4 h5 h6 k1 k2 k3 k4 k5 k6 ml tm cw tc cw.length tl mk tmk ll acc) :: (fm, instObj 101 fd) :: (ll, listOf #[] 0) :: (d, accDict hsh tq sz th) :: (acc, accObj d #[] 0) :: news) → Q (.ref fm) { s with heap := h', toks := k }) :
    wpAny (model P95 w) A (call (.ref 101) [.int sz th, .int ml tm, .str cw tc, .str mk tmk]) Q E s := by
  obtain ⟨hh, g, dr, t, os⟩ := s
  have X := X₀.keeps F.keep
  have fresh : ∀ a, hh.objs.size ≤ a → h₀.get? a = none := fun a ha => by
    cases e : h₀.get? a with
    | none => rfl
    | some o => exact absurd (Heap.lt_size (F.keep _ _ e)) (Nat.not_lt.mpr ha)
  have k1 : ∀ b o, hh.get? b = some o → ((hh.push emptyDict).push (instObj 101 hh.objs.size)).get? b = some o := fun b o e => Heap.get?_push_of_some _ (Heap.get?_push_of_some _ e)
  have hx : ((hh.push emptyDict).push (instObj 101 hh.objs.size)).get? (hh.objs.size + 1) = some (instObj 101 hh.objs.size) := by heap_get
  have hd : ((hh.push emptyDict).push (instObj 101 hh.objs.size)).get? hh.objs.size = some (dictOf [] 0) := by heap_get
  have hL := F.ns.lt
  have hi : findIn (top0.heap_1 w.params) (.ref 101) "__init__" = some (some (.ref 42)) := by k_is
  have hf : isFn (top0.heap_1 w.params) (.ref 42) = true := by k_is
  refine wpAny_call (make_core (makes_of X (by k_is)) (looks_findIn X hi) (fun self => bind_fn X self (beq_iff_eq.mp hf)) (.inl rfl) ?_)
  refine fmtInit_raw (B := h₀) (fm := hh.objs.size + 1) (fd := hh.objs.size) ⟨X₀, T⟩ (fun b o e => k1 b o (F.keep b o e)) (fresh _ (Nat.le_succ _)) (fresh _ (Nat.le_refl _)) hx hd ?_ ?_ hcw fun h' ll d acc h1 h2 h3 h4 h5 h6 k1' k2 k3 k4 k5 k6 tl hsh tq k keep o1 o2 o3 e1 e2 e3 e4 e5 => ?_
  · have e : (Code.builtin "type.__call__" ⟨[.ref 101, .int sz th, .int ml tm, .str cw tc, .str mk tmk], []⟩).weight = 1 := by first | rfl | kernel_rfl | decide +kernel
    show A.depth + (Code.builtin "type.__call__" ⟨[.ref 101, .int sz th, .int ml tm, .str cw tc, .str mk tmk], []⟩).weight < 700
    rw [e]; omega
  · have e : (Code.builtin "type.__call__" ⟨[.ref 101, .int sz th, .int ml tm, .str cw tc, .str mk tmk], []⟩).cUnits = 1 := by first | rfl | kernel_rfl | decide +kernel
    show A.units + (Code.builtin "type.__call__" ⟨[.ref 101, .int sz th, .int ml tm, .str cw tc, .str mk tmk], []⟩).cUnits < 7000
    rw [e]; omega
  · have kk : ∀ b o, hh.get? b = some o → h'.get? b = some o := fun b o e => keep b o (Nat.ne_of_lt (Nat.lt_succ_of_lt (Heap.lt_size e))) (Nat.ne_of_lt (Heap.lt_size e)) (k1 b o e)
    obtain ⟨F', N'⟩ := keep_K F N kk
    have hLn : @LT.lt Nat _ L hh.objs.size := hL
    have fr : ∀ b o, @LE.le Nat _ hh.objs.size b → h'.get? b = some o → h'.get? b = some o ∧ b ≠ L ∧ h₀.get? b = none := fun b o hb e => ⟨e, (fun q => by rw [q] at hb; exact absurd hLn (Nat.not_lt.mpr hb)), fresh b hb⟩
    have o1' : @LT.lt Nat _ (hh.objs.size + 1) ll := o1
    refine ⟨rfl, h hh.objs.size (hh.objs.size + 1) ll d acc h' h1 h2 h3 h4 h5 h6 k1' k2 k3 k4 k5 k6 tl hsh tq k (fun p hp => Heap.lt_size (N p hp).1) hL (Nat.lt_succ_self _) o1 o2 o3 F' fun q hq => ?_⟩
    rcases List.mem_cons.mp hq with rfl | hq
    · exact fr _ _ (Nat.le_refl _) e1
    rcases List.mem_cons.mp hq with rfl | hq
    · exact fr _ _ (Nat.le_succ _) e2
    rcases List.mem_cons.mp hq with rfl | hq
    · exact fr _ _ (by omega) e3
    rcases List.mem_cons.mp hq with rfl | hq
    · exact fr _ _ (by omega) e4
    rcases List.mem_cons.mp hq with rfl | hq
    · exact fr _ _ (by omega) e5
    · exact N' q hq
end
section
def rowL (ps : List Part) : List Nat := ps.flatMap fun q => q.f.cps.toList ++ q.p.cps.toList
def bonesL (ps : List Part) : List Nat := ps.flatMap fun q => q.f.cps.toList ++ (boneOf q.p).cps.toList
structure PartOk (q : Part) : Prop where
  w : whiteB q.f = true
  p : PieceOk q.p
def PartsOk (ps : List Part) : Prop := ∀ q ∈ ps, PartOk q
theorem rowL_append (a b : List Part) : rowL (a ++ b) = rowL a ++ rowL b := by simp [rowL]
theorem bonesL_append (a b : List Part) : bonesL (a ++ b) = bonesL a ++ bonesL b := by simp [bonesL]
theorem rowL_one (q : Part) : rowL [q] = q.f.cps.toList ++ q.p.cps.toList := by simp [rowL]
theorem bonesL_one (q : Part) : bonesL [q] = q.f.cps.toList ++ (boneOf q.p).cps.toList := by simp [bonesL]
theorem slen (x : Str) : x.length = x.cps.toList.length := by simp [Str.length]
theorem textOf_cps (ps : List Part) : (textOf ps).cps.toList = rowL ps := by
  unfold textOf
  rw [join_cps]
  simp only [texts, List.flatMap_map, rowL]
  congr 1
  funext q
  rw [cps_append]
theorem lenOf_take (ps : List Part) : ∀ j, j ≤ ps.length → preSum (plen ps) j = ((rowL (ps.take j)).length : Int)
  | 0, _ => by simp [preSum, rowL]
  | j + 1, h => by
    have e : ps[j]? = some ps[j] := List.getElem?_eq_getElem (by omega)
    rw [preSum, lenOf_take ps j (by omega), List.take_add_one, e, rowL_append]
    simp only [Option.toList_some, rowL_one, List.length_append, plen, List.getD_eq_getElem?_getD, e, Option.getD_some]
    rw [slen, slen]
    omega
theorem lenOf_eq (ps : List Part) : lenOf ps = ((rowL ps).length : Int) := by
  unfold lenOf
  rw [lenOf_take ps _ (Nat.le_refl _), List.take_length]
def hide (a : Nat) : Nat := if a = 46 then 45 else if a = 58 then 45 else a
theorem boneOf_cps {p : Str} {z : Nat} {l : List Nat} (h : p.cps.toList = l ++ [z]) : (boneOf p).cps.toList = l.map hide ++ [z] := by
  have hlen : p.length = l.length + 1 := by rw [slen, h]; simp
  have e1 : (Txt.slice p none (some (-1))).cps.toList = l := by
    rw [eq_of_beq (slice_closes_to_neg (x := p) (j := -1) (k := (p.length : Int) - 1) (by decide) (by omega) (by omega))]
    simp [h, hlen]
  have e3 : Txt.item p (-1) = ⟨#[z]⟩ := by
    have := item_last (x := p) (c := z) (by omega)
    rw [← beq_iff_eq, this, decide_eq_true_eq]
    have : p.cps = (l ++ [z]).toArray := by rw [← h]
    rw [this]; simp
  unfold boneOf
  rw [cps_append, e3]
  simp only [rep, e1, List.map_map]
  congr 1
  apply List.map_congr_left
  intro a _
  simp only [Function.comp, hide]
  split <;> simp_all
theorem split_last {x : Str} (h : 0 < x.length) : ∃ l z, x.cps.toList = l ++ [z] := by
  rw [slen] at h
  exact ⟨x.cps.toList.dropLast, x.cps.toList.getLast (by intro e; rw [e] at h; cases h), (List.dropLast_concat_getLast _).symm⟩
theorem boneOf_len {p : Str} (h : 0 < p.length) : (boneOf p).cps.toList.length = p.cps.toList.length := by
  obtain ⟨l, z, e⟩ := split_last h
  rw [boneOf_cps e, e]; simp
theorem bonesL_len {ps : List Part} (h : PartsOk ps) : (bonesL ps).length = (rowL ps).length := by
  induction ps with
  | nil => rfl
  | cons q r ih =>
    have h1 := ih fun x hx => h x (List.mem_cons_of_mem _ hx)
    have h2 := boneOf_len (h q List.mem_cons_self).p.pos
    simp only [bonesL, rowL, List.flatMap_cons, List.length_append] at h1 ⊢
    omega
/-- what _law_carried hides, sign for sign -/
def phi (c a : Nat) : Nat := let b := if a = 10 then 45 else a; if b = (if c = 46 then 58 else 46) then 45 else b
theorem plainOf_cps (c : Nat) (b : Str) : (plainOf c b).cps.toList = b.cps.toList.map (phi c) := by
  unfold plainOf rep
  simp only [List.map_map]
  rfl
theorem phi_eq {c a : Nat} (hc : c = 46 ∨ c = 58) : phi c a = c ↔ a = c := by
  unfold phi
  rcases hc with rfl | rfl <;> simp <;> constructor <;> intro h <;> (try split at h) <;> (try split at h) <;> simp_all
theorem no_white {f : Str} {c : Nat} (hc : c = 46 ∨ c = 58) (h : whiteB f = true) : c ∉ f.cps.toList := by
  have e1 : ("" : Str).cps.toList = [] := by decide +kernel
  have e2 : (" " : Str).cps.toList = [32] := by decide +kernel
  have e3 : ("\t" : Str).cps.toList = [9] := by decide +kernel
  simp only [whiteB, Bool.or_eq_true, beq_iff_eq] at h
  rcases h with (rfl | rfl) | rfl
  · rw [e1]; exact List.not_mem_nil
  · rw [e2]; rcases hc with rfl | rfl <;> decide
  · rw [e3]; rcases hc with rfl | rfl <;> decide
theorem phi_mem {c : Nat} (hc : c = 46 ∨ c = 58) {l : List Nat} : c ∈ l.map (phi c) ↔ c ∈ l := by
  simp only [List.mem_map]
  exact ⟨fun ⟨a, ha, e⟩ => (phi_eq hc).mp e ▸ ha, fun h => ⟨c, h, (phi_eq hc).mpr rfl⟩⟩
theorem hide_no {c : Nat} (hc : c = 46 ∨ c = 58) (l : List Nat) : c ∉ l.map hide := by
  simp only [List.mem_map, not_exists, not_and]
  intro a _ e
  unfold hide at e
  rcases hc with rfl | rfl <;> split at e <;> (try split at e) <;> simp_all
theorem part_ends {c : Nat} (hc : c = 46 ∨ c = 58) {q : Part} (hq : PartOk q) (he : Ends q c) : ∃ a, (bonesL [q]).map (phi c) = a ++ [c] := by
  obtain ⟨l, z, e⟩ := split_last hq.p.pos
  have hz : z = c := by
    unfold Ends at he
    have : q.p.cps = (l ++ [z]).toArray := by rw [← e]
    rw [this] at he; simpa using he
  rw [bonesL_one, boneOf_cps e, hz]
  refine ⟨(q.f.cps.toList ++ l.map hide).map (phi c), ?_⟩
  simp [(phi_eq hc).mpr rfl]
theorem part_free {c : Nat} (hc : c = 46 ∨ c = 58) {q : Part} (hq : PartOk q) (he : ¬ Ends q c) : c ∉ bonesL [q] := by
  obtain ⟨l, z, e⟩ := split_last hq.p.pos
  have hz : z ≠ c := by
    rintro rfl
    refine he ?_
    unfold Ends
    have : q.p.cps = (l ++ [z]).toArray := by rw [← e]
    rw [this]; simp
  rw [bonesL_one, boneOf_cps e]
  simp only [List.mem_append, List.mem_singleton, not_or]
  exact ⟨no_white hc hq.w, hide_no hc l, fun h => hz h.symm⟩
theorem free_all {c : Nat} (hc : c = 46 ∨ c = 58) {ps : List Part} (h : PartsOk ps) (hn : NoneEnds ps c) : c ∉ bonesL ps := by
  intro hm
  unfold bonesL at hm
  obtain ⟨q, hq, hm⟩ := List.mem_flatMap.mp hm
  exact part_free hc (h q hq) (hn q hq) (by rw [bonesL_one]; exact hm)
/-- what is told of a mark, by the parts -/
def tellL (c : Nat) (ps : List Part) : Nat := after c ((bonesL ps).map (phi c))
theorem tell_none {c : Nat} (hc : c = 46 ∨ c = 58) {ps : List Part} (h : PartsOk ps) (hn : NoneEnds ps c) : tellL c ps = (rowL ps).length := by
  unfold tellL
  rw [after_none (fun hm => free_all hc h hn ((phi_mem hc).mp hm)), List.length_map, bonesL_len h]
theorem tell_cut {c : Nat} (hc : c = 46 ∨ c = 58) {ps : List Part} (h : PartsOk ps) {i : Nat} {r : Part} (hi : ps[i]? = some r) (he : Ends r c) (hn : ∀ k q, i < k → ps[k]? = some q → ¬ Ends q c) : tellL c ps = (rowL (ps.drop (i + 1))).length := by
  have hr : r ∈ ps := List.mem_of_getElem? hi
  obtain ⟨a, ea⟩ := part_ends hc (h r hr) he
  have hd : PartsOk (ps.drop (i + 1)) := fun q hq => h q (List.mem_of_mem_drop hq)
  have hnd : NoneEnds (ps.drop (i + 1)) c := by
    intro q hq
    obtain ⟨k, hk⟩ := List.mem_iff_getElem?.mp hq
    rw [List.getElem?_drop] at hk
    exact hn _ q (by omega) hk
  have e : ps = ps.take i ++ [r] ++ ps.drop (i + 1) := by
    have h1 : ps.take (i + 1) = ps.take i ++ [r] := by rw [List.take_add_one, hi]; rfl
    rw [← h1, List.take_append_drop]
  unfold tellL
  conv => lhs; rw [e]
  rw [bonesL_append, bonesL_append, List.map_append, List.map_append, ea]
  have := after_some (c := c) (a := (bonesL (ps.take i)).map (phi c) ++ a) (b := (bonesL (ps.drop (i + 1))).map (phi c)) (fun hm => free_all hc hd hnd ((phi_mem hc).mp hm))
  rw [show List.map (phi c) (bonesL (ps.take i)) ++ (a ++ [c]) ++ List.map (phi c) (bonesL (ps.drop (i + 1))) = (List.map (phi c) (bonesL (ps.take i)) ++ a) ++ c :: List.map (phi c) (bonesL (ps.drop (i + 1))) by simp, this, List.length_map, bonesL_len hd]
def toldL (mk : Str) (ps : List Part) : List Int := mk.cps.toList.map fun c => (tellL c ps : Int)
def sizesL (mk : Str) (ps : List Part) : List Int := (toldL mk ps).filter fun k => decide (k < ((rowL ps).length : Int))
theorem marks_mem {mk : Str} (h : marksB mk = true) : ∀ c ∈ mk.cps.toList, c = 46 ∨ c = 58 := by
  intro c hc
  simp only [marksB, Bool.and_eq_true] at h
  have := Array.all_eq_true_iff_forall_mem.mp h.2 c (by simpa using hc)
  simpa using this
theorem sizes_none {mk : Str} {ps : List Part} (hm : marksB mk = true) (h : PartsOk ps) (hn : ∀ (j c : Nat), mk.cps[j]? = some c → NoneEnds ps c) : sizesL mk ps = [] := by
  unfold sizesL toldL
  rw [List.filter_eq_nil_iff]
  intro k hk
  obtain ⟨c, hc, rfl⟩ := List.mem_map.mp hk
  obtain ⟨j, hj⟩ := List.mem_iff_getElem?.mp hc
  rw [tell_none (marks_mem hm c hc) h (hn j c (by simpa using hj))]
  simp
theorem row_cut {ps : List Part} (h : PartsOk ps) {i : Nat} {r : Part} (hi : ps[i]? = some r) : (rowL (ps.drop (i + 1))).length < (rowL ps).length := by
  have hr : r ∈ ps := List.mem_of_getElem? hi
  have e : ps = ps.take i ++ [r] ++ ps.drop (i + 1) := by
    have h1 : ps.take (i + 1) = ps.take i ++ [r] := by rw [List.take_add_one, hi]; rfl
    rw [← h1, List.take_append_drop]
  conv => rhs; rw [e]
  rw [rowL_append, rowL_append, rowL_one]
  have := (h r hr).p.pos
  rw [slen] at this
  simp only [List.length_append]
  omega
theorem sizes_cut {mk : Str} {ps : List Part} (hm : marksB mk = true) (h : PartsOk ps) {j c i : Nat} {r : Part} (hj : mk.cps[j]? = some c) (hb : ∀ (j' c' : Nat), j' < j → mk.cps[j']? = some c' → NoneEnds ps c') (hi : ps[i]? = some r) (he : Ends r c) (hn : ∀ k q, i < k → ps[k]? = some q → ¬ Ends q c) :
    ∃ rest, sizesL mk ps = ((rowL (ps.drop (i + 1))).length : Int) :: rest := by
  have hj' : mk.cps.toList[j]? = some c := by simpa using hj
  have e := split_at hj'
  have hc := marks_mem hm c (List.mem_of_getElem? hj')
  unfold sizesL toldL
  rw [e, List.map_append, List.filter_append, List.map_cons]
  have e1 : List.filter (fun k => decide (k < ((rowL ps).length : Int))) (List.map (fun c => (tellL c ps : Int)) (List.take j mk.cps.toList)) = [] := by
    rw [List.filter_eq_nil_iff]
    intro k hk
    obtain ⟨c', hc', rfl⟩ := List.mem_map.mp hk
    obtain ⟨j', hj2⟩ := List.mem_iff_getElem?.mp hc'
    have hlt : j' < j := by
      obtain ⟨h1, _⟩ := List.getElem?_eq_some_iff.mp hj2
      simp at h1; omega
    rw [List.getElem?_take_of_lt hlt] at hj2
    rw [tell_none (marks_mem hm c' (List.mem_of_getElem? hj2)) h (hb j' c' hlt (by simpa using hj2))]
    simp
  rw [e1, tell_cut hc h hi he hn, List.filter_cons, if_pos (by simpa using row_cut h hi)]
  exact ⟨_, rfl⟩
section
variable {mk f p : Str} {ml sz sz' : Int} {ps ps' : List Part} {li li' : Array Value}
theorem len_snoc {ps : List Part} {q : Part} : lenOf (ps ++ [q]) = ((rowL ps).length : Int) + (q.f.length + q.p.length : Nat) := by
  rw [lenOf_eq, rowL_append, rowL_one, slen, slen]
  simp only [List.length_append]
  omega
theorem step_narrow (S : Step mk ml f p ps sz li ps' sz' li') (hw : ¬ ml < sz + (rowL ps).length + (f.length + p.length : Nat)) : ∃ q, q.f = f ∧ q.p = p ∧ ps' = ps ++ [q] ∧ sz' = sz ∧ li' = li := by
  cases S with
  | stay h1 h2 h3 => exact ⟨_, h1, h2, rfl, rfl, rfl⟩
  | cut h1 h2 h3 => rw [len_snoc, h1, h2] at h3; exact absurd (by omega) hw
  | ended h1 h2 h3 => rw [len_snoc, h1, h2] at h3; exact absurd (by omega) hw
  | grown h1 h2 h3 => rw [len_snoc, h1, h2] at h3; exact absurd (by omega) hw
theorem step_cut (hm : marksB mk = true) (h : PartsOk ps) (S : Step mk ml f p ps sz li ps' sz' li') (hw : ml < sz + (rowL ps).length + (f.length + p.length : Nat)) {a : Int} {rest : List Int} (hs : sizesL mk ps = a :: rest) :
    ∃ q i t, q.f = f ∧ q.p = p ∧ ps' = ps.drop (i + 1) ++ [q] ∧ sz' = 0 ∧ li' = li.push (.str (textOf (ps.take (i + 1))) t) ∧ a = ((rowL (ps.drop (i + 1))).length : Int) := by
  cases S with
  | stay h1 h2 h3 => rw [len_snoc, h1, h2] at h3; exact absurd hw (by omega)
  | @cut q q₀ j c i r t h1 h2 h3 h4 h5 h6 h7 h8 h9 =>
    obtain ⟨rest', e⟩ := sizes_cut hm h h4 h5 h7 h8 h9
    rw [e] at hs
    exact ⟨_, i, _, h1, h2, rfl, rfl, rfl, (List.cons.inj hs).1.symm⟩
  | ended h1 h2 h3 h4 => rw [sizes_none hm h h4] at hs; cases hs
  | grown h1 h2 h3 h4 => rw [sizes_none hm h h4] at hs; cases hs
theorem step_ended (hm : marksB mk = true) (h : PartsOk ps) (S : Step mk ml f p ps sz li ps' sz' li') (hw : ml < sz + (rowL ps).length + (f.length + p.length : Nat)) (hs : sizesL mk ps = []) (hpos : 0 < sz) :
    ∃ q t, q.f = (if f = ("" : Str) then (" " : Str) else f) ∧ q.p = p ∧ ps' = [q] ∧ sz' = 0 ∧ li' = li.push (.str (textOf ps) t) := by
  cases S with
  | stay h1 h2 h3 => rw [len_snoc, h1, h2] at h3; exact absurd hw (by omega)
  | @cut q q₀ j c i r t h1 h2 h3 h4 h5 h6 h7 h8 h9 =>
    obtain ⟨rest', e⟩ := sizes_cut hm h h4 h5 h7 h8 h9
    rw [e] at hs; cases hs
  | ended h1 h2 h3 h4 h5 h6 h7 => exact ⟨_, _, h6, h7, rfl, rfl, rfl⟩
  | grown h1 h2 h3 h4 h5 => exact absurd hpos h5
theorem step_grown (hm : marksB mk = true) (h : PartsOk ps) (S : Step mk ml f p ps sz li ps' sz' li') (hw : ml < sz + (rowL ps).length + (f.length + p.length : Nat)) (hs : sizesL mk ps = []) (hpos : ¬ 0 < sz) :
    ∃ q, q.f = f ∧ q.p = p ∧ ps' = ps ++ [q] ∧ sz' = sz ∧ li' = li := by
  cases S with
  | stay h1 h2 h3 => rw [len_snoc, h1, h2] at h3; exact absurd hw (by omega)
  | @cut q q₀ j c i r t h1 h2 h3 h4 h5 h6 h7 h8 h9 =>
    obtain ⟨rest', e⟩ := sizes_cut hm h h4 h5 h7 h8 h9
    rw [e] at hs; cases hs
  | ended h1 h2 h3 h4 h5 => exact absurd h5 hpos
  | grown h1 h2 h3 h4 h5 h6 h7 => exact ⟨_, h6, h7, rfl, rfl, rfl⟩
end
end
section
open LCg
def TurnEnd (h₀ : Heap) (L : Addr) (m : Str → Option Value) (s : Shared) (b : List (Addr × Obj)) (k : Int) (y : Value) (s₂ : Shared) : Prop :=
  ∃ h' tk' t nw, s₂ = { s with heap := h', toks := tk' } ∧ Fr h₀ L h' m ∧ News h₀ L h' nw ∧ (∀ p ∈ b, p ∈ nw) ∧ y = .int k t
def TestEnd (h₀ : Heap) (L : Addr) (m : Str → Option Value) (s : Shared) (b : List (Addr × Obj)) (r : Bool) (ok : Bool) (s₂ : Shared) : Prop :=
  ok = r ∧ ∃ h' tk' nw, s₂ = { s with heap := h', toks := tk' } ∧ Fr h₀ L h' m ∧ News h₀ L h' nw ∧ ∀ q ∈ b, q ∈ nw
theorem compEnv_ok {w : World} {h₀ : Heap} {L : Addr} {h : Heap} {m : Str → Option Value} {x : Str} {v : Value} {scope : Scope} {cl : List (Str × Addr)} {C : Addr} {env : Env} {M : Model} {A : Around} {E : Value → Shared → Prop} {s : Shared} {K : Frag} {mg mb : Str → Option Value} {p : Program} {loose : List Str} {pos : Pos} {Q : Value → Shared → Prop}
    (F : Fr h₀ L s.heap m) (X : K.In h₀) (T : TopRead p loose mg mb h₀) (e : nsIn K mainGlobals x = some (some v)) (h : Q v s) (hg : env.globals = mainGlobals := by rfl)
    (hk : (compEnvC scope cl C env).scope.kind = .function := by rfl) (hx : (compEnvC scope cl C env).kindOf x = some .globalImplicit := by rfl) (hd : (x == ("__debug__" : Str)) = false := by decide) :
    wpAny M A (eval (.Name x pos) (compEnvC scope cl C env)) Q E s :=
  Name_function_global hk hx (loadGlobal_global (env := compEnvC scope cl C env) (show s.heap.Ns env.globals mg from hg ▸ T.g.keeps F.keep) (mg_of X T.g e) h) hd
theorem compEnv_built {h₀ : Heap} {L : Addr} {m : Str → Option Value} {x : Str} {v : Value} {scope : Scope} {cl : List (Str × Addr)} {C : Addr} {env : Env} {M : Model} {A : Around} {E : Value → Shared → Prop} {s : Shared} {K : Frag} {mg mb : Str → Option Value} {p : Program} {loose : List Str} {pos : Pos} {Q : Value → Shared → Prop}
    (F : Fr h₀ L s.heap m) (X : K.In h₀) (T : TopRead p loose mg mb h₀) (e : nsIn K mainGlobals x = some none) (hv : bootBuiltins x = some v) (hn : x ≠ "__name__") (h : Q v s) (hg : env.globals = mainGlobals := by rfl) (hb : env.builtins = builtinsNs := by rfl)
    (hk : (compEnvC scope cl C env).scope.kind = .function := by rfl) (hx : (compEnvC scope cl C env).kindOf x = some .globalImplicit := by rfl) (hd : (x == ("__debug__" : Str)) = false := by decide) :
    wpAny M A (eval (.Name x pos) (compEnvC scope cl C env)) Q E s :=
  Name_function_global hk hx (loadGlobal_builtin (env := compEnvC scope cl C env) (show s.heap.Ns env.globals mg from hg ▸ T.g.keeps F.keep) (mg_none_of X T.g e) (show s.heap.Ns env.builtins mb from hb ▸ T.b.keeps F.keep) ((T.builtins x hn).trans hv) h) hd
section
variable {prog : Program} {w : World} {A : Around} {E : Value → Shared → Prop} {s : Shared} {h₀ : Heap} {L : Addr} {m : Str → Option Value} {env : Env}

theorem Assign_ListComp_S {elt iter : Expr} {x y : Str} {px py : Pos} {scope : Scope} {cl : List (Str × Addr)} {pos spos : Pos} {Q : Flow → Shared → Prop} (_F₀ : Fr h₀ L s.heap m) (hLe : env.locals = L)
    (hsw : swapsWith (.ListComp elt [⟨.Name x px, iter, [], 0⟩] scope pos) (some (.Name y py)) spos.line env = pure true)
    (hclos : closureFor scope env = pure cl) (hcell : ∀ z ∈ scope.names, z.2 ≠ .cell) (hkind : scope.kind = .function)
    (hnames : ∀ z ∈ scope.names, z.2 = .local → scope.names.lookup z.1 = some .local) (hx : scope.names.lookup x = some .local)
    (hy : env.kindOf y = some .local) (hp : (env.scope.kind == .class || (env.scope.kind == .module && env.locals != env.globals)) = false)
    (h : wpAny (model prog w) A (eval iter env) (fun xv s₁ => ∃ mk t news, xv = .str mk t ∧ (mk.cps.all fun c => decide (c < 128)) = true ∧ A.handled = none ∧ mk.cps.size ≤ sizeLine ∧ Fr h₀ L s₁.heap m ∧ News h₀ L s₁.heap news ∧
      ∀ s₂ : Shared, (∃ h, s₂ = { s₁ with heap := h }) → CompRest prog w A h₀ L m env elt x scope cl s₂ (fun _ => True) (SignAt mk) (FinA h₀ L m s₂ y Q) mk.cps.size 0 [] news) E s)
    (hs : ∀ x, foldedSetIterable iter env x = pure x := by intro _; rfl) :
    wpAny (model prog w) A (exec (.Assign [.Name y py] (.ListComp elt [⟨.Name x px, iter, [], 0⟩] scope pos) spos) env) Q E s := by
  subst hLe
  rw [exec_Assign_Name_used _ _ _ _ hsw]
  refine wpAny_bind (wpAny_standAt (wpAny_bind ?_))
  show wpAny _ A (do let _ ← comprehension (.ListComp elt [⟨.Name x px, iter, [], 0⟩] scope pos) scope env _ (newList []) false (eval iter env) (some (assign (.Name y py) env))) _ _ s
  refine wpAny_bind (wpAny_mono (wpAny_comprehension_free (use := some (assign (.Name y py) env)) (Q := fun _ s' => Q .next s') rfl hs hclos hkind hnames
    (wpAny_mono h (fun xv s₁ h₁ => ?_) fun _ _ e => e)) (fun _ s' hq => wpAny_pure (wpAny_pure hq)) fun _ _ e => e)
  obtain ⟨mk, t, news, rfl, hasc, hh, hsz, F, N, R⟩ := h₁
  refine wpAny_pyIter_ascii hasc ?_
  have up : ∀ b o, s₁.heap.get? b = some o → (s₁.heap.push { cls := .type "str_ascii_iterator", data := .fields #[.str mk t, .int 0 0] }).get? b = some o := fun b o e => Heap.get?_push_of_some _ e
  refine block_U (Walks.strAscii hh s₁.heap.objs.size mk t) hsz (fun i h st => by obtain ⟨o, e, _⟩ := st; exact ⟨o, e⟩) (fun i h h' o nw st e e' _ _ _ => by obtain ⟨o', q, r⟩ := st; rw [e] at q; cases q; exact ⟨o, e', r⟩) hcell hkind hx
    ⟨_, Heap.get?_push_size _ rfl, rfl, rfl⟩ (fun b hb => ?_) (F.keeps up) (N.grown up) (Nat.ne_of_lt F.ns.lt) (next_is_new F) (fun p hp => Nat.ne_of_lt (Heap.lt_size (N p hp).1)) trivial (R _ ⟨_, rfl⟩) ?_
  · rw [List.mem_singleton.mp hb]
    show s₁.heap.objs.size < (s₁.heap.push _).objs.size
    rw [Heap.size_push]; exact Nat.lt_succ_self _
  · intro D C h' tk m' ys news' F' N' o1 hn hC₀ hD₀ hCL hDL hCD offC fin
    show wpAny _ A (assign (.Name y py) env (.ref D)) _ _ _
    refine wpAny_assign_Name (wpAny_storeName_local hy F'.ns (fun h₂ hn₂ hs₂ => ?_) hp)
    have hL₀ : h₀.get? env.locals = none := Heap.get?_none_of_le F'.above
    have F₂ : Fr h₀ env.locals h₂ (fun z => if z = y then some (.ref D) else m z) := ⟨hn₂, fun b o e => hs₂.extBut b o (fun q => by rw [q, hL₀] at e; cases e) (F'.keep b o e), F'.above⟩
    refine ⟨m', hn.sameBut hs₂ hCL, fun h'' hs'' => fin D h'' _ (F₂.change hs'' hCL hC₀) (fun p hp => ?_) o1⟩
    have z : h₂.get? p.1 = some p.2 := hs₂.extBut _ _ (N' p hp).2.1 (N' p hp).1
    refine ⟨hs''.extBut _ _ ?_ z, (N' p hp).2⟩
    rcases List.mem_cons.mp hp with rfl | hp
    · exact Ne.symm hCD
    · exact offC p hp

theorem told_rest {elt : Expr} {x : Str} {scope : Scope} {cl : List (Str × Addr)} {news : List (Addr × Obj)} {Fin : List Value → List (Addr × Obj) → Prop} (mk : Str) (g : Nat → Int)
    (turn : ∀ c u I oI C oC D m₂ ys h tk (E' : Value → Shared → Prop), c ∈ mk.cps.toList → NsObj oC m₂ → m₂ x = some (.str ⟨#[c]⟩ u) → Fr h₀ L h m → News h₀ L h ((I, oI) :: (C, oC) :: (D, lst ys) :: news) →
      wpAny (model prog w) A (eval elt (compEnvC scope cl C env)) (TurnEnd h₀ L m s ((I, oI) :: (C, oC) :: (D, lst ys) :: news) (g c)) E' { s with heap := h, toks := tk })
    (fin : ∀ ys, IntsAre ys (mk.cps.toList.map g) → Fin ys news) : CompRest prog w A h₀ L m env elt x scope cl s (fun _ => True) (SignAt mk) Fin mk.cps.size 0 [] news := by
  have snoc : ∀ {vs : List Value} {ks : List Int} {k : Int} {t : Tok}, IntsAre vs ks → IntsAre (vs ++ [.int k t]) (ks ++ [k]) := by
    intro vs ks k t hi
    induction hi with
    | nil => exact .cons _ _ .nil
    | cons a b r ih => exact .cons a b ih
  have key : ∀ (j i : Nat) (ys : List Value), i + j = mk.cps.size → IntsAre ys ((mk.cps.toList.take i).map g) → CompRest prog w A h₀ L m env elt x scope cl s (fun _ => True) (SignAt mk) Fin j i ys news := by
    intro j
    induction j with
    | zero =>
      intro i ys hi hy
      have e : i = mk.cps.toList.length := by simpa using hi
      subst e
      rw [List.take_length] at hy
      exact CompRest.zero (fin ys hy)
    | succ j ih =>
      intro i ys hi hy
      refine CompRest.succ ?_
      intro v I oI C oC D m₂ h tk E' hv hC hx F N off ne
      obtain ⟨c, u, hc, hv'⟩ := hv
      have hc' : mk.cps.toList[i]? = some c := by simpa using hc
      rw [hv'] at hx
      refine wpAny_mono (turn c u I oI C oC D m₂ ys h tk E' (List.mem_of_getElem? hc') hC hx F N) (fun y s₂ hq => ?_) fun _ _ e => e
      obtain ⟨h', tk', t', nw, e, F', N', sub, hy'⟩ := hq
      refine ⟨h', tk', news, e, F', (fun p hp => N' p (sub p hp)), off, trivial, ?_⟩
      rw [hy']
      refine ih (i + 1) _ (by omega) ?_
      rw [List.take_add_one, hc']
      simpa using snoc hy
  exact key mk.cps.size 0 [] (by omega) (by simp only [List.take_zero, List.map_nil]; exact .nil)

theorem sizes_rest {ct elt : Expr} {x : Str} {scope : Scope} {cl : List (Str × Addr)} {news : List (Addr × Obj)} {Fin : List Value → List (Addr × Obj) → Prop} {S : List (Addr × Obj) → Prop} {vs : List Value} {ns : List Int} (p : Int → Bool) (hi : IntsAre vs ns) (hS : S news)
    (turn : ∀ k t I oI C oC D m₂ ys h tk (E' : Value → Shared → Prop), NsObj oC m₂ → m₂ x = some (.int k t) → Fr h₀ L h m → News h₀ L h ((I, oI) :: (C, oC) :: (D, lst ys) :: news) →
      wpAny (model prog w) A (isTrue ct (compEnvC scope cl C env) (eval ct (compEnvC scope cl C env))) (TestEnd h₀ L m s ((I, oI) :: (C, oC) :: (D, lst ys) :: news) (p k)) E' { s with heap := h, toks := tk })
    (el : ∀ k t I oI C oC D m₂ ys h tk (E' : Value → Shared → Prop), NsObj oC m₂ → m₂ x = some (.int k t) → Fr h₀ L h m → News h₀ L h ((I, oI) :: (C, oC) :: (D, lst ys) :: news) →
      wpAny (model prog w) A (eval elt (compEnvC scope cl C env)) (TurnEnd h₀ L m s ((I, oI) :: (C, oC) :: (D, lst ys) :: news) k) E' { s with heap := h, toks := tk })
    (fin : ∀ ys, IntsAre ys (ns.filter p) → Fin ys news) : LCt.CompRestT prog w A h₀ L m env ct elt x scope cl s S (fun i v => vs.toArray[i]? = some v) Fin vs.toArray.size 0 [] news := by
  have snoc : ∀ {vs : List Value} {ks : List Int} {k : Int} {t : Tok}, IntsAre vs ks → IntsAre (vs ++ [.int k t]) (ks ++ [k]) := by
    intro vs ks k t hi
    induction hi with
    | nil => exact .cons _ _ .nil
    | cons a b r ih => exact .cons a b ih
  have hl : vs.toArray.size = ns.length := by rw [List.size_toArray]; exact hi.length
  have key : ∀ (j i : Nat) (ys : List Value), i + j = vs.toArray.size → IntsAre ys ((ns.take i).filter p) → LCt.CompRestT prog w A h₀ L m env ct elt x scope cl s S (fun i v => vs.toArray[i]? = some v) Fin j i ys news := by
    intro j
    induction j with
    | zero =>
      intro i ys hi hy
      have e : i = ns.length := by omega
      subst e
      rw [List.take_length] at hy
      exact LCt.CompRestT.zero (fin ys hy)
    | succ j ih =>
      intro i ys hij hy
      refine LCt.CompRestT.succ ?_
      intro v I oI C oC D m₂ h tk E' hv hC hx F N off ne
      obtain ⟨k, t, e, hk⟩ := IntsAre.at hi i v (by simpa using hv)
      subst e
      refine wpAny_mono (turn k t I oI C oC D m₂ ys h tk E' hC hx F N) (fun ok s₂ hq => ?_) fun _ _ e => e
      obtain ⟨hok, h', tk', nw, rfl, F', N', sub⟩ := hq
      have N'' : News h₀ L h' ((I, oI) :: (C, oC) :: (D, lst ys) :: news) := fun q hq => N' q (sub q hq)
      subst hok
      by_cases hpk : p k = true
      · rw [if_pos hpk]
        refine wpAny_mono (el k t I oI C oC D m₂ ys h' tk' E' hC hx F' N'') (fun y s₃ hq => ?_) fun _ _ e => e
        obtain ⟨h3, tk3, t3, nw3, rfl, F3, N3, sub3, rfl⟩ := hq
        refine ⟨h3, tk3, news, rfl, F3, (fun q hq => N3 q (sub3 q hq)), off, hS, ?_⟩
        refine ih (i + 1) _ (by omega) ?_
        rw [List.take_add_one, hk, List.filter_append]
        simpa [hpk] using snoc hy
      · rw [if_neg hpk]
        refine ⟨h', tk', news, rfl, F', N'', off, hS, ?_⟩
        refine ih (i + 1) _ (by omega) ?_
        rw [List.take_add_one, hk, List.filter_append]
        simpa [hpk] using hy
  exact key vs.toArray.size 0 [] (by omega) (by simp only [List.take_zero, List.filter_nil]; exact .nil)
end
end
section
def partL (ps : List Part) : List (Addr × Obj) := ps.map fun q => (q.T, q.obj)
theorem mem_partL {ps : List Part} {p : Addr × Obj} (h : p ∈ partL ps) : ∃ q ∈ ps, p = (q.T, q.obj) := by
  obtain ⟨q, hq, e⟩ := List.mem_map.mp h
  exact ⟨q, hq, e.symm⟩
structure OffL (L rl : Addr) (ps : List Part) : Prop where
  x4 : ∀ p ∈ partL ps, p.1 ≠ L + 1 + 1 + 1 + 1
  x3 : ∀ p ∈ partL ps, p.1 ≠ L + 1 + 1 + 1
  x2 : ∀ p ∈ partL ps, p.1 ≠ L + 1 + 1
  x1 : ∀ p ∈ partL ps, p.1 ≠ L + 1
  r : ∀ p ∈ partL ps, p.1 ≠ rl
  t1 : ∀ p ∈ partL ps, p.1 ≠ 147
  t2 : ∀ p ∈ partL ps, p.1 ≠ 154
theorem off_at {h : Heap} {ps : List Part} {x : Addr} {o : Obj} (hp : Parts h ps) (ho : h.get? x = some o) (hn : isTup o = false ∨ ∃ v, o.data = .cell v) : ∀ p ∈ partL ps, p.1 ≠ x := by
  intro p hm
  obtain ⟨q, hq, rfl⟩ := mem_partL hm
  rintro rfl
  have := hp q hq
  rw [this] at ho
  cases ho
  rcases hn with hn | ⟨v, hn⟩ <;> cases hn
section
variable {w : World} {vp : Program} {lo : List Str} {A : Around} {s : Shared} {E : Value → Shared → Prop} {h₀ : Heap} {L I D rl fm fd ll acc d el : Addr} {oI oD oR oE ox ob orr oe : Obj} {m : Str → Option Value} {ps : List Part} {n c : Nat} {mg mb : Str → Option Value} {hsh sz h1 h2 h3 h4 h5 h6 ml cl : Int} {tq ti k1 k2 k3 k4 k5 k6 tm tc tl tmk : Tok} {cw mk : Str} {li t1 t2 : Array Value} {Q : Value → Shared → Prop}
theorem append_L {f p : Str} {tf tp : Tok} {vx vb vr ve : Option Value} (F : Fr h₀ L s.heap m) (X₀ : (top0.heap_1 w.params).In h₀) (T : TopRead vp lo mg mb h₀) (hM : Mods h₀ mg)
    (N : News h₀ L s.heap ((I, oI) :: (D, oD) :: (rl, oR) :: (fd, fmtDict h1 h2 h3 h4 h5 h6 k1 k2 k3 k4 k5 k6 ml tm cw tc cl tl mk tmk ll acc) :: (fm, instObj 101 fd) :: (ll, listOf li c) :: (d, accDict hsh tq sz ti) :: (acc, accObj d (itemsOf ps) n) :: (el, oE) :: (L + 1 + 1 + 1 + 1, ox) :: (L + 1 + 1 + 1, ob) :: (L + 1 + 1, orr) :: (L + 1, oe) :: (147, tabO t1) :: (154, tabO t2) :: partL ps))
    (dx : ox.data = .cell vx) (db : ob.data = .cell vb) (dr : orr.data = .cell vr) (de : oe.data = .cell ve) (uR : isTup oR = false)
    (tr1 : TriplesOk t1.toList) (tr2 : TriplesOk t2.toList)
    (ord : @LT.lt Nat _ 147 L ∧ @LT.lt Nat _ 154 L ∧ @LT.lt Nat _ (L + 1 + 1 + 1 + 1) el ∧ @LT.lt Nat _ el fd ∧ @LT.lt Nat _ fd fm ∧ @LT.lt Nat _ fm ll ∧ @LT.lt Nat _ ll d ∧ @LT.lt Nat _ d acc ∧ @LT.lt Nat _ acc rl ∧ @LT.lt Nat _ rl D ∧ @LT.lt Nat _ D I)
    (hG : AllBare s.gens) (hh : A.handled = none) (hz : ps.length < 100) (hs1 : Small ps) (hsz : 0 ≤ sz ∧ sz < 1000) (hli : li.size < 1000) (hne : ∀ q ∈ ps, q.p ≠ "") (hok : ∀ q ∈ ps, PyData.strOk q.f = true ∧ PyData.strOk q.p = true)
    (hA : A.depth < 700) (hU : A.units < 7000) (hf : f.length < 1000) (hp : p.length < 1000) (hmk : ∀ c ∈ mk.cps, c = 46 ∨ c = 58)
    (h : ∀ s' ps' sz' li' c' n' ti' t1' t2', Fr h₀ L s'.heap m → News h₀ L s'.heap ((I, oI) :: (D, oD) :: (rl, oR) :: (fd, fmtDict h1 h2 h3 h4 h5 h6 k1 k2 k3 k4 k5 k6 ml tm cw tc cl tl mk tmk ll acc) :: (fm, instObj 101 fd) :: (ll, listOf li' c') :: (d, accDict hsh tq sz' ti') :: (acc, accObj d (itemsOf ps') n') :: (el, oE) :: (L + 1 + 1 + 1 + 1, ox) :: (L + 1 + 1 + 1, ob) :: (L + 1 + 1, orr) :: (L + 1, oe) :: (147, tabO t1') :: (154, tabO t2') :: partL ps') →
      TriplesOk t1'.toList → TriplesOk t2'.toList → AllBare s'.gens → s'.os = s.os → OffL L rl ps' → Step mk ml f p ps sz li ps' sz' li' → Q .none s') :
    wpAny (model P95 w) A (call (.ref 98) [.ref fm, .str f tf, .str p tp]) Q E s := by
  obtain ⟨o1, o2, o3, o4, o5, o6, o7, o8, o9, o10, o11⟩ := ord
  have sub : ∀ q ∈ ps, (q.T, q.obj) ∈ ((I, oI) :: (D, oD) :: (rl, oR) :: (fd, fmtDict h1 h2 h3 h4 h5 h6 k1 k2 k3 k4 k5 k6 ml tm cw tc cl tl mk tmk ll acc) :: (fm, instObj 101 fd) :: (ll, listOf li c) :: (d, accDict hsh tq sz ti) :: (acc, accObj d (itemsOf ps) n) :: (el, oE) :: (L + 1 + 1 + 1 + 1, ox) :: (L + 1 + 1 + 1, ob) :: (L + 1 + 1, orr) :: (L + 1, oe) :: (147, tabO t1) :: (154, tabO t2) :: partL ps) := by
    intro q hq
    have : (q.T, q.obj) ∈ partL ps := List.mem_map.mpr ⟨q, hq, rfl⟩
    iterate 15 refine List.mem_cons_of_mem _ ?_
    exact this
  have nfd := N (fd, _) (by k_mem)
  have nfm := N (fm, _) (by k_mem)
  have nll := N (ll, _) (by k_mem)
  have nd := N (d, _) (by k_mem)
  have nacc := N (acc, _) (by k_mem)
  have n147 := N (147, _) (by k_mem)
  have n154 := N (154, _) (by k_mem)
  refine wpAny_call (append_raw (B := h₀) ⟨X₀, T⟩ hM F.keep ?_ nfd.1 nfm.1 nll.1 nd.1 nacc.1 n147.1 n154.1 tr1 tr2 ⟨by omega, o5, o6, o7, o8⟩ (fun q hq => (N _ (sub q hq)).1) hG hh hz hs1 hsz hli hne hok hA hU hf hp hmk fun s' ps' sz' li' AF S => ?_)
  · intro a ha
    simp only [List.mem_cons, List.not_mem_nil, or_false] at ha
    rcases ha with rfl | rfl | rfl | rfl | rfl | rfl | rfl
    · exact nfd.2.2
    · exact nfm.2.2
    · exact nll.2.2
    · exact nd.2.2
    · exact nacc.2.2
    · exact n147.2.2
    · exact n154.2.2
  · obtain ⟨c', e3⟩ := AF.lines
    obtain ⟨ti', e4⟩ := AF.dict
    obtain ⟨n', e5⟩ := AF.acc
    obtain ⟨t1', e6, tr1'⟩ := AF.t147
    obtain ⟨t2', e7, tr2'⟩ := AF.t154
    have ko : ∀ a o, (a, o) ∈ ((I, oI) :: (D, oD) :: (rl, oR) :: (fd, fmtDict h1 h2 h3 h4 h5 h6 k1 k2 k3 k4 k5 k6 ml tm cw tc cl tl mk tmk ll acc) :: (fm, instObj 101 fd) :: (ll, listOf li c) :: (d, accDict hsh tq sz ti) :: (acc, accObj d (itemsOf ps) n) :: (el, oE) :: (L + 1 + 1 + 1 + 1, ox) :: (L + 1 + 1 + 1, ob) :: (L + 1 + 1, orr) :: (L + 1, oe) :: (147, tabO t1) :: (154, tabO t2) :: partL ps) → a ∉ [ll, d, acc, 147, 154] → s'.heap.get? a = some o ∧ a ≠ L ∧ h₀.get? a = none := fun a o hm hn => ⟨AF.keep a o hn (N _ hm).1, (N _ hm).2⟩
    have F' : Fr h₀ L s'.heap m := by
      refine ⟨F.ns.at' fun o e => AF.keep _ o (fun hm => ?_) e, fun b o e => AF.keep b o (fun hm => ?_) (F.keep b o e), F.above⟩
      · simp only [List.mem_cons, List.not_mem_nil, or_false] at hm
        rcases hm with e | e | e | e | e <;> (replace e := eqN e; omega)
      · simp only [List.mem_cons, List.not_mem_nil, or_false] at hm
        rcases hm with rfl | rfl | rfl | rfl | rfl
        · rw [nll.2.2] at e; cases e
        · rw [nd.2.2] at e; cases e
        · rw [nacc.2.2] at e; cases e
        · rw [n147.2.2] at e; cases e
        · rw [n154.2.2] at e; cases e
    have kx := ko _ _ (show (I, oI) ∈ _ by k_mem) (by intro hm; simp only [List.mem_cons, List.not_mem_nil, or_false] at hm; rcases hm with e | e | e | e | e <;> (replace e := eqN e; omega))
    have kD := ko _ _ (show (D, oD) ∈ _ by k_mem) (by intro hm; simp only [List.mem_cons, List.not_mem_nil, or_false] at hm; rcases hm with e | e | e | e | e <;> (replace e := eqN e; omega))
    have kr := ko _ _ (show (rl, oR) ∈ _ by k_mem) (by intro hm; simp only [List.mem_cons, List.not_mem_nil, or_false] at hm; rcases hm with e | e | e | e | e <;> (replace e := eqN e; omega))
    have kfd := ko _ _ (show (fd, _) ∈ _ by k_mem) (by intro hm; simp only [List.mem_cons, List.not_mem_nil, or_false] at hm; rcases hm with e | e | e | e | e <;> (replace e := eqN e; omega))
    have kfm := ko _ _ (show (fm, _) ∈ _ by k_mem) (by intro hm; simp only [List.mem_cons, List.not_mem_nil, or_false] at hm; rcases hm with e | e | e | e | e <;> (replace e := eqN e; omega))
    have ke := ko _ _ (show (el, oE) ∈ _ by k_mem) (by intro hm; simp only [List.mem_cons, List.not_mem_nil, or_false] at hm; rcases hm with e | e | e | e | e <;> (replace e := eqN e; omega))
    have k4' := ko _ _ (show (L + 1 + 1 + 1 + 1, ox) ∈ _ by k_mem) (by intro hm; simp only [List.mem_cons, List.not_mem_nil, or_false] at hm; rcases hm with e | e | e | e | e <;> (replace e := eqN e; omega))
    have k3' := ko _ _ (show (L + 1 + 1 + 1, ob) ∈ _ by k_mem) (by intro hm; simp only [List.mem_cons, List.not_mem_nil, or_false] at hm; rcases hm with e | e | e | e | e <;> (replace e := eqN e; omega))
    have k2' := ko _ _ (show (L + 1 + 1, orr) ∈ _ by k_mem) (by intro hm; simp only [List.mem_cons, List.not_mem_nil, or_false] at hm; rcases hm with e | e | e | e | e <;> (replace e := eqN e; omega))
    have k1' := ko _ _ (show (L + 1, oe) ∈ _ by k_mem) (by intro hm; simp only [List.mem_cons, List.not_mem_nil, or_false] at hm; rcases hm with e | e | e | e | e <;> (replace e := eqN e; omega))
    refine h s' ps' sz' li' c' n' ti' t1' t2' F' ?_ tr1' tr2' AF.gens AF.os ⟨off_at AF.parts k4'.1 (.inr ⟨_, dx⟩), off_at AF.parts k3'.1 (.inr ⟨_, db⟩), off_at AF.parts k2'.1 (.inr ⟨_, dr⟩), off_at AF.parts k1'.1 (.inr ⟨_, de⟩), off_at AF.parts kr.1 (.inl uR), off_at AF.parts e6 (.inl rfl), off_at AF.parts e7 (.inl rfl)⟩ S
    refine List.forall_mem_cons.mpr ⟨kx, ?_⟩
    refine List.forall_mem_cons.mpr ⟨kD, ?_⟩
    refine List.forall_mem_cons.mpr ⟨kr, ?_⟩
    refine List.forall_mem_cons.mpr ⟨kfd, ?_⟩
    refine List.forall_mem_cons.mpr ⟨kfm, ?_⟩
    refine List.forall_mem_cons.mpr ⟨⟨e3, nll.2⟩, ?_⟩
    refine List.forall_mem_cons.mpr ⟨⟨e4, nd.2⟩, ?_⟩
    refine List.forall_mem_cons.mpr ⟨⟨e5, nacc.2⟩, ?_⟩
    refine List.forall_mem_cons.mpr ⟨ke, ?_⟩
    refine List.forall_mem_cons.mpr ⟨k4', ?_⟩
    refine List.forall_mem_cons.mpr ⟨k3', ?_⟩
    refine List.forall_mem_cons.mpr ⟨k2', ?_⟩
    refine List.forall_mem_cons.mpr ⟨k1', ?_⟩
    refine List.forall_mem_cons.mpr ⟨⟨e6, n147.2⟩, ?_⟩
    refine List.forall_mem_cons.mpr ⟨⟨e7, n154.2⟩, ?_⟩
    intro p hp
    obtain ⟨q, hq, rfl⟩ := mem_partL hp
    refine ⟨AF.parts q hq, ?_, ?_⟩
    · rintro e
      obtain ⟨o, es, ep, hL, hd, _⟩ := F'.ns
      have e1 : s'.heap.get? L = some q.obj := e ▸ AF.parts q hq
      rw [hL] at e1
      cases e1
      cases hd
    · rcases AF.fresh q hq with hold | hnew
      · exact (N _ (sub q hold)).2.2
      · cases e : h₀.get? q.T with
        | none => rfl
        | some o => have := F.keep _ _ e; rw [hnew] at this; cases this
end
end
section
structure LawSt (g : Heap) (L rl fd fm ll d acc el D : Addr) (oD oE : Obj) (h1 h2 h3 h4 h5 h6 hsh : Int) (k1 k2 k3 k4 k5 k6 tq : Tok) (ml : Int) (tm : Tok) (cw : Str) (tc : Tok) (cl : Int) (tl : Tok) (mk : Str) (tmk : Tok) (os0 : OsState) (i : Nat) (s : Shared)
    (M : Str → Option Value) (ps : List Part) (li rows : Array Value) (xs : List Str) (c n cr : Nat) (sz : Int) (ti tr : Tok) (row bones : Str) (trw tb : Tok) (ox ob orr oe : Obj) (vx : Option Value) (t1 t2 : Array Value) : Prop where
  F : Fr g L s.heap M
  N : News g L s.heap ( (D, oD) :: (rl, (listOf rows cr)) :: (fd, fmtDict h1 h2 h3 h4 h5 h6 k1 k2 k3 k4 k5 k6 ml tm cw tc cl tl mk tmk ll acc) :: (fm, instObj 101 fd) :: (ll, listOf li c) :: (d, accDict hsh tq sz ti) :: (acc, accObj d (itemsOf ps) n) :: (el, oE) :: (L + 1 + 1 + 1 + 1, ox) :: (L + 1 + 1 + 1, ob) :: (L + 1 + 1, orr) :: (L + 1, oe) :: (147, tabO t1) :: (154, tabO t2) :: partL ps)
  mMarks : M "marks" = some (.str mk tmk)
  mRoom : M "room" = some (.int sz tr)
  mWidth : M "width" = some (.int ml tm)
  mMaker : M "maker" = some (.ref fm)
  mRows : M "rows" = some (.ref rl)
  dx : ox.data = .cell vx
  db : ob.data = .cell (some (.str bones tb))
  dr : orr.data = .cell (some (.str row trw))
  de : oe.data = .cell (some (.ref el))
  tr1 : TriplesOk t1.toList
  tr2 : TriplesOk t2.toList
  hG : AllBare s.gens
  os : s.os = os0
  off : OffL L rl ps
  po : PartsOk ps
  len : ps.length ≤ i
  sz0 : 0 ≤ sz
  sz1 : sz < 7
  er : row.cps.toList = rowL ps
  eb : bones.cps.toList = bonesL ps
  xl : StrsAre li.toList xs
  xr : StrsAre rows.toList xs
  xn : xs.length ≤ i
  xo : ∀ x ∈ xs, PyData.strOk x = true
def LawInv (g : Heap) (L rl fd fm ll d acc el D : Addr) (oD oE : Obj) (h1 h2 h3 h4 h5 h6 hsh : Int) (k1 k2 k3 k4 k5 k6 tq : Tok) (ml : Int) (tm : Tok) (cw : Str) (tc : Tok) (cl : Int) (tl : Tok) (mk : Str) (tmk : Tok) (os0 : OsState) (i : Nat) (s : Shared) : Prop :=
  ∃ M ps li rows xs c n cr sz ti tr row bones trw tb ox ob orr oe vx t1 t2, LawSt g L rl fd fm ll d acc el D oD oE h1 h2 h3 h4 h5 h6 hsh k1 k2 k3 k4 k5 k6 tq ml tm cw tc cl tl mk tmk os0 i s M ps li rows xs c n cr sz ti tr row bones trw tb ox ob orr oe vx t1 t2
theorem white_len {f : Str} (h : whiteB f = true) : f.length ≤ 1 ∧ PyData.strOk f = true := by
  simp only [whiteB, Bool.or_eq_true, beq_iff_eq] at h
  rcases h with (rfl | rfl) | rfl
  · exact ⟨by decide +kernel, by decide +kernel⟩
  · exact ⟨by decide +kernel, by decide +kernel⟩
  · exact ⟨by decide +kernel, by decide +kernel⟩
theorem parts_small {ps : List Part} (h : PartsOk ps) : Small ps := fun q hq => by
  have h1 := (white_len (h q hq).w).1
  have h2 := (h q hq).p.two
  exact ⟨by omega, by omega⟩
theorem parts_ne {ps : List Part} (h : PartsOk ps) : ∀ q ∈ ps, q.p ≠ "" := fun q hq e => by
  have h2 := (h q hq).p.pos
  rw [e] at h2
  exact absurd h2 (by decide +kernel)
theorem parts_strOk {ps : List Part} (h : PartsOk ps) : ∀ q ∈ ps, PyData.strOk q.f = true ∧ PyData.strOk q.p = true := fun q hq => ⟨(white_len (h q hq).w).2, (h q hq).p.ok⟩
theorem row_len {ps : List Part} (h : PartsOk ps) : (rowL ps).length ≤ 3 * ps.length := by
  induction ps with
  | nil => simp [rowL]
  | cons q r ih =>
    have h1 := ih fun x hx => h x (List.mem_cons_of_mem _ hx)
    have h2 := (h q List.mem_cons_self).p.two
    have h3 := (white_len (h q List.mem_cons_self).w).1
    rw [slen] at h2 h3
    simp only [rowL, List.flatMap_cons, List.length_append, List.length_cons] at h1 ⊢
    omega
theorem strOk_append {a b : Str} (ha : PyData.strOk a = true) (hb : PyData.strOk b = true) : PyData.strOk (a ++ b) = true := by
  unfold PyData.strOk at *
  rw [Array.all_eq_true_iff_forall_mem] at *
  intro c hc
  have : c ∈ a.cps ++ b.cps := hc
  rcases Array.mem_append.mp this with h | h
  · exact ha c h
  · exact hb c h
theorem strOk_row {x : Str} {ps : List Part} (h : PartsOk ps) (e : x.cps.toList = rowL ps) : PyData.strOk x = true := by
  unfold PyData.strOk
  rw [Array.all_eq_true_iff_forall_mem]
  intro c hc
  have hc' : c ∈ rowL ps := by rw [← e]; simpa using hc
  obtain ⟨q, hq, hm⟩ := List.mem_flatMap.mp hc'
  have hs := parts_strOk h q hq
  unfold PyData.strOk at hs
  rw [Array.all_eq_true_iff_forall_mem, Array.all_eq_true_iff_forall_mem] at hs
  rcases List.mem_append.mp hm with hm | hm
  · exact hs.1 c (by simpa using hm)
  · exact hs.2 c (by simpa using hm)
theorem strs_snoc {y : Str} {t : Tok} : ∀ {vs : List Value} {ys : List Str}, StrsAre vs ys → StrsAre (vs ++ [.str y t]) (ys ++ [y])
  | _, _, .nil => .cons y t .nil
  | _, _, .cons z u r => .cons z u (strs_snoc r)
theorem enter_iter2 {g h h' : Heap} {L I : Addr} {M : Str → Option Value} {news : List (Addr × Obj)} {o : Obj} (F : Fr g L h M) (N : News g L h news) (hI : @LT.lt Nat _ L I) (hIn : ∀ p ∈ news, p.1 ≠ I) (k : ∀ b o, b ∉ [I] → h.get? b = some o → h'.get? b = some o) (ho : h'.get? I = some o) :
    Fr g L h' M ∧ News g L h' ((I, o) :: news) := by
  have hg : g.get? I = none := by
    cases e : g.get? I with
    | none => rfl
    | some x => exact absurd (Nat.lt_of_lt_of_le (Heap.lt_size e) F.above) (Nat.not_lt_of_lt hI)
  refine ⟨⟨F.ns.at' fun o e => k _ o (by simp; exact Nat.ne_of_lt hI) e, fun b x e => k b x (by simp; rintro rfl; rw [hg] at e; cases e) (F.keep b x e), F.above⟩, fun p hp => ?_⟩
  rcases List.mem_cons.mp hp with rfl | hp
  · exact ⟨ho, Nat.ne_of_gt hI, hg⟩
  · exact ⟨k _ _ (by simp; exact hIn p hp) (N p hp).1, (N p hp).2⟩
theorem leave_iter2 {g h h' : Heap} {L I : Addr} {M : Str → Option Value} {news : List (Addr × Obj)} (F : Fr g L h M) (N : News g L h news) (hI : @LT.lt Nat _ L I) (hIn : ∀ p ∈ news, p.1 ≠ I) (k : ∀ b o, b ∉ [I] → h.get? b = some o → h'.get? b = some o) :
    Fr g L h' M ∧ News g L h' news := by
  have hg : g.get? I = none := by
    cases e : g.get? I with
    | none => rfl
    | some x => exact absurd (Nat.lt_of_lt_of_le (Heap.lt_size e) F.above) (Nat.not_lt_of_lt hI)
  exact ⟨⟨F.ns.at' fun o e => k _ o (by simp; exact Nat.ne_of_lt hI) e, fun b x e => k b x (by simp; rintro rfl; rw [hg] at e; cases e) (F.keep b x e), F.above⟩, fun p hp => ⟨k _ _ (by simp; exact hIn p hp) (N p hp).1, (N p hp).2⟩⟩
theorem iter_ne {h : Heap} {I D : Addr} {i : Nat} {ps : List Part} (hit : h.IsListIter I D i) (hp : Parts h ps) : ∀ p ∈ partL ps, p.1 ≠ I := by
  obtain ⟨o, ho, hc, _⟩ := hit
  exact off_at hp ho (.inl (by unfold isTup; rw [hc]; rfl))
theorem parts_of {g h : Heap} {L : Addr} {news : List (Addr × Obj)} {ps : List Part} (N : News g L h news) (hs : ∀ p ∈ partL ps, p ∈ news) : Parts h ps := fun q hq => (N _ (hs _ (List.mem_map.mpr ⟨q, hq, rfl⟩))).1
theorem endB2_len {e : Str} (h : endB2 e = true) : e.length < 100 := by
  simp only [endB2, Bool.and_eq_true, decide_eq_true_eq] at h
  exact h.1
theorem endB2_ok {e : Str} (h : endB2 e = true) : EndOk e := by
  simp only [endB2, Bool.and_eq_true] at h
  unfold EndOk
  have h2 := h.2
  cases e1 : e.cps.toList with
  | nil => exact .inl rfl
  | cons c r =>
    rw [e1] at h2
    simp only [Bool.or_eq_true, beq_iff_eq] at h2
    rcases h2 with rfl | rfl
    · exact .inr (.inl rfl)
    · exact .inr (.inr rfl)
theorem tell_eq {c : Nat} {b : Str} {ps : List Part} (h : b.cps.toList = bonesL ps) : (after c (plainOf c b).cps.toList : Int) = (tellL c ps : Int) := by
  rw [plainOf_cps, h]; rfl
theorem marks_ascii {mk : Str} (h : marksB mk = true) : (mk.cps.all fun c => decide (c < 128)) = true := by
  rw [Array.all_eq_true_iff_forall_mem]
  intro c hc
  rcases marks_mem h c (by simpa using hc) with rfl | rfl <;> decide
theorem marks_size {mk : Str} (h : marksB mk = true) : mk.cps.size ≤ 2 := by
  simp only [marksB, Bool.and_eq_true, decide_eq_true_eq] at h
  exact h.1
end
section
section
variable {prog : Program} {w : World} {A : Around} {E : Value → Shared → Prop} {s : Shared} {ll rl D2 D3 : Addr} {li rows : Array Value} {c cr : Nat} {xs : List Str} {ns : List Int} {vs : List Value} {Q : Value → Shared → Prop}
theorem shaped_strs (xo : ∀ x ∈ xs, PyData.strOk x = true) : SeqAt.shaped (.list (xs.map .str)) = true := by
  simp only [SeqAt.shaped, PyData.canLay0, PyData.depth, canLayAll_strs', depthAll_strs', Bool.and_eq_true, decide_eq_true_eq]
  exact ⟨List.all_eq_true.mpr xo, by omega⟩
theorem ne_strs (h1 : s.heap.get? ll = some (listOf li c)) (h2 : s.heap.get? rl = some (listOf rows cr)) (xl : StrsAre li.toList xs) (xr : StrsAre rows.toList xs) (xo : ∀ x ∈ xs, PyData.strOk x = true) (hu : A.units + 64 < cLine)
    (h : Q (.bool false) s) : wpAny (model prog w) A (compareOp .NotEq (.ref ll) (.ref rl)) Q E s := by
  refine ne_dataH (reads_list_at h1 rfl rfl (xl.reads _)) (reads_list_at h2 rfl rfl (xr.reads _)) (shaped_strs xo) (shaped_strs xo) hu ?_
  rw [SeqAt.eqv_refl _ (SeqAt.canLay_of_shaped (shaped_strs xo))]
  exact h
theorem canLayAll_ints : ∀ ns : List Int, PyData.canLayAll0 (ns.map .int) = true
  | [] => rfl
  | _ :: r => by simp only [List.map_cons, PyData.canLayAll0, PyData.canLay0, Bool.true_and]; exact canLayAll_ints r
theorem depthAll_ints : ∀ ns : List Int, PyData.depthAll (ns.map .int) = 0
  | [] => rfl
  | _ :: r => by simp only [List.map_cons, PyData.depthAll, PyData.depth, depthAll_ints r]; rfl
theorem shaped_ints (ns : List Int) : SeqAt.shaped (.list (ns.map .int)) = true := by
  simp only [SeqAt.shaped, PyData.canLay0, PyData.depth, canLayAll_ints, depthAll_ints, Bool.and_eq_true, decide_eq_true_eq]
  exact ⟨trivial, by omega⟩
theorem ne_nil (h1 : s.heap.get? D2 = some (listOf vs.toArray c)) (h2 : s.heap.get? D3 = some (listOf #[] cr)) (hi : IntsAre vs ns) (hu : A.units + 64 < cLine)
    (h : Q (.bool (!ns.isEmpty)) s) : wpAny (model prog w) A (compareOp .NotEq (.ref D2) (.ref D3)) Q E s := by
  refine ne_dataH (reads_list_at h1 rfl rfl (IntsAre.reads _ hi)) (reads_list_at (xs := []) h2 rfl rfl .nil) (shaped_ints ns) (shaped_ints []) hu ?_
  have e : PyData.eqv (.list (ns.map .int)) (.list []) = ns.isEmpty := by cases ns <;> rfl
  rw [e]
  exact h
theorem in_told (h1 : s.heap.get? D2 = some (listOf vs.toArray c)) (hi : IntsAre vs ns) (hn : ∀ k ∈ ns, 0 ≤ k) {t : Tok} (h : Q (.bool false) s) : wpAny (model prog w) A (compareOp .In (.int (-1) t) (.ref D2)) Q E s := by
  refine in_list_ints (ns := ns) ⟨_, h1, rfl, _, rfl⟩ hi ?_
  have e : ns.any (· == -1) = false := by
    rw [List.any_eq_false]
    intro k hk
    have := hn k hk
    simp only [beq_iff_eq]
    omega
  rw [e]
  exact h
end
section
variable {prog : Program} {w : World} {A : Around} {E : Value → Shared → Prop} {s : Shared} {x y : Str} {t u : Tok} {Q : Value → Shared → Prop}
theorem addS (hs : x.length + y.length ≤ 16777216) (h : ∀ t' k, (x ++ y).length = x.length + y.length → Q (.str (x ++ y) t') { s with toks := k }) : wpAny (model prog w) A (binaryOp .Add (.str x t) (.str y u)) Q E s := by
  refine add_str (hsz := by rw [sizeLine_eq]; omega) fun t' k => h t' k ?_
  show (x.cps ++ y.cps).size = _
  simp [Str.length]
end
section
variable {prog : Program} {w : World} {A : Around} {E : Value → Shared → Prop} {s : Shared} {h₀ : Heap} {L l : Addr} {news : List (Addr × Obj)} {vs : List Value} {a : Int} {rest : List Int} {c : Nat} {value slice : Expr} {u : Tok} {Q : Value → Shared → Prop}
theorem first_int (N : News h₀ L s.heap news) (hm : (l, listOf vs.toArray c) ∈ news) (hi : IntsAre vs (a :: rest)) (h : ∀ t, Q (.int a t) s)
    (hs : subscripted slice false (.ref l) (.int 0 u) = operate [.ref l, .int 0 u] (getItem (.ref l) (.int 0 u)) := by with_unfolding_all rfl) :
    wpAny (model prog w) A (subscriptTail value slice (.ref l) (.int 0 u)) Q E s := by
  cases hi with
  | cons _ t r =>
    have hl : s.heap.IsList l _ := ⟨_, (N _ hm).1, rfl, _, rfl⟩
    exact tail_any hl.typeIs slot_list_getitem.lookup (wpAny_getItem_list (k := 0) (x := .int a t) hl (by decide) (by decide) rfl (h t)) hs
end
section
variable {prog : Program} {w : World} {A : Around} {E : Value → Shared → Prop} {s : Shared} {D2 D3 : Addr} {c cr : Nat} {ns : List Int} {vs : List Value} {Q : Value → Shared → Prop} {a : Int}
theorem ne_nil_f (h1 : s.heap.get? D2 = some (listOf vs.toArray c)) (h2 : s.heap.get? D3 = some (listOf #[] cr)) (hi : IntsAre vs []) (hu : A.units + 64 < cLine)
    (h : Q (.bool false) s) : wpAny (model prog w) A (compareOp .NotEq (.ref D2) (.ref D3)) Q E s := ne_nil h1 h2 hi hu h
theorem ne_nil_t (h1 : s.heap.get? D2 = some (listOf vs.toArray c)) (h2 : s.heap.get? D3 = some (listOf #[] cr)) (hi : IntsAre vs (a :: ns)) (hu : A.units + 64 < cLine)
    (h : Q (.bool true) s) : wpAny (model prog w) A (compareOp .NotEq (.ref D2) (.ref D3)) Q E s := ne_nil h1 h2 hi hu h
end
theorem slice_from_list {x : Str} {l1 l2 : List Nat} {k : Int} (h : x.cps.toList = l1 ++ l2) (hk : k = l1.length) : (Txt.slice x (some k) none).cps.toList = l2 := by
  subst hk
  rw [eq_of_beq (slice_closes_from (x := x) (i := (l1.length : Int)) ⟨by omega, by rw [h, List.length_append]; omega⟩)]
  simp [h]
  rw [List.take_of_length_le (by omega)]
theorem slice_to_list {x : Str} {l1 l2 : List Nat} {k : Int} (h : x.cps.toList = l1 ++ l2) (hk : k = l1.length) : (Txt.slice x none (some k)).cps.toList = l1 := by
  subst hk
  rw [eq_of_beq (slice_closes_to (x := x) (j := (l1.length : Int)) ⟨by omega, by rw [h, List.length_append]; omega⟩)]
  simp [h]
end
section
/-- the law's turn behind its test of the width -/
structure TailSt (g : Heap) (L rl fd fm ll d acc el D : Addr) (oD oE : Obj) (h1 h2 h3 h4 h5 h6 hsh : Int) (k1 k2 k3 k4 k5 k6 tq : Tok) (ml : Int) (tm : Tok) (cw : Str) (tc : Tok) (cl : Int) (tl : Tok) (mk : Str) (tmk : Tok) (os0 : OsState) (i : Nat)
    (I : Addr) (oI : Obj) (p : Str) (tp : Tok) (ps : List Part) (li : Array Value) (c n : Nat) (sz : Int) (ti : Tok) (t1 t2 : Array Value) (s : Shared)
    (M : Str → Option Value) (rows : Array Value) (xs : List Str) (cr : Nat) (tr tf : Tok) (f row bones : Str) (trw tb : Tok) (ox ob orr oe : Obj) (vx : Option Value) : Prop where
  F : Fr g L s.heap M
  N : News g L s.heap ((I, oI) :: (D, oD) :: (rl, (listOf rows cr)) :: (fd, fmtDict h1 h2 h3 h4 h5 h6 k1 k2 k3 k4 k5 k6 ml tm cw tc cl tl mk tmk ll acc) :: (fm, instObj 101 fd) :: (ll, listOf li c) :: (d, accDict hsh tq sz ti) :: (acc, accObj d (itemsOf ps) n) :: (el, oE) :: (L + 1 + 1 + 1 + 1, ox) :: (L + 1 + 1 + 1, ob) :: (L + 1 + 1, orr) :: (L + 1, oe) :: (147, tabO t1) :: (154, tabO t2) :: partL ps)
  mMarks : M "marks" = some (.str mk tmk)
  mRoom : M "room" = some (.int sz tr)
  mWidth : M "width" = some (.int ml tm)
  mMaker : M "maker" = some (.ref fm)
  mRows : M "rows" = some (.ref rl)
  mWhite : M "white" = some (.str f tf)
  mPiece : M "piece" = some (.str p tp)
  dx : ox.data = .cell vx
  db : ob.data = .cell (some (.str bones tb))
  dr : orr.data = .cell (some (.str row trw))
  de : oe.data = .cell (some (.ref el))
  tr1 : TriplesOk t1.toList
  tr2 : TriplesOk t2.toList
  hG : AllBare s.gens
  os : s.os = os0
  po : PartsOk ps
  len : ps.length ≤ i + 1
  sz0 : 0 ≤ sz
  sz1 : sz < 7
  erow : textOf ps = row ++ f ++ p
  eb : (bones ++ f ++ boneOf p).cps.toList = bonesL ps
  xl : StrsAre li.toList xs
  xr : StrsAre rows.toList xs
  xn : xs.length ≤ i + 1
  xo : ∀ x ∈ xs, PyData.strOk x = true
  hr : row.length < 1000
  hb : bones.length < 1000
  hf : f.length ≤ 1
structure Joined (J : Shared → Prop) (f : Flow) (s : Shared) : Prop where
  flow : f = .next
  inv : J s
end
section
section
theorem sayH1v_1 : True := by
  k_with "call ref" => (k_here; (with_reducible show wpAny _ _ (call (Value.ref 101) _) _ _ _); k_dflt (refine' newFmt_K (by k_asm) (by k_asm) (by k_asm) (by k_asm) (by exact Nat.le_of_ble_eq_true rfl) (by exact Nat.le_of_ble_eq_true rfl) (by decide +kernel) ?_; k_whole); intro _ _ _ _ _ _ _ _ _ _ _ _ _ _ _ _ _ _ _ _ _ _ z9l1 _ _ _ _ _ _ _; (try (k_lt z9l1; revert z9l1; intro _)); (try k_sweep))
  trivial
theorem sayH1v_2 : True := by
  k_with "subscriptTail" => (k_here; (with_reducible show wpAny _ _ (subscriptTail _ _ (Value.ref _) (Value.int _ _)) _ _ _); k_dflt (first | refine pickI roomB (by k_asm) (by k_mem) (by decide) (by exact Nat.le_of_ble_eq_true rfl) (by exact Nat.le_of_ble_eq_true rfl) (by with_unfolding_all rfl) ?_ | refine pickS whiteB (by k_asm) (by k_mem) (by decide) (by exact Nat.le_of_ble_eq_true rfl) (by exact Nat.le_of_ble_eq_true rfl) (by with_unfolding_all rfl) ?_ | refine pickS marksB (by k_asm) (by k_mem) (by decide) (by exact Nat.le_of_ble_eq_true rfl) (by exact Nat.le_of_ble_eq_true rfl) (by with_unfolding_all rfl) ?_ | refine pickS endB2 (by k_asm) (by k_mem) (by decide) (by omega) (by omega) (by assumption) ?_); intro _ _ _)
  trivial
theorem sayH1v_3 : True := by
  k_with "lvar" => (first | with_reducible assumption | with_reducible exact if_pos rfl | (with_reducible refine (if_neg (by decide +kernel)).trans ?_; walk_at "lvar"))
  trivial
theorem sayH1v_4 : True := by
  k_with "eval Name" => (name_kind "local"; refine wpAny_Name (wpAny_loadName_local rfl rfl (Fr.ns (by k_asm)) (by walk_at "lvar") ?_))
  trivial
theorem sayH1v_5 : True := by
  k_with "eval Name" => (k_here; (with_reducible show wpAny _ _ (eval (Expr.Name _ _) (compEnvC _ _ _ _)) _ _ _); k_dflt (first | refine LCgL.ld_own (by k_asm) (by k_mem) (by assumption) (by assumption) ?_ | (refine' lcf_free (by k_asm) (by rfl) (by k_mem) (by k_asm) ?_ rfl rfl; k_whole) | (refine' lcf_cell (by k_asm) (by rfl) (by k_mem) (by k_asm) ?_ rfl rfl; k_whole) | refine compEnv_ok (by k_asm) (by k_asm) (by k_asm) (by k_is) ?_ | refine compEnv_built (by k_asm) (by k_asm) (by k_asm) (by k_is) (by boot_by_name) (by decide) ?_))
  trivial
theorem sayH1v_6 : True := by
  k_with "call ref" => (k_here; (with_reducible show wpAny _ _ (call (Value.ref 210) _) _ _ _); k_dflt (refine' carried_K (by k_asm) (by k_asm) (by k_asm) (by k_asm) (by assumption) (by exact Nat.le_of_ble_eq_true rfl) (by exact Nat.le_of_ble_eq_true rfl) (by rfl) (by assumption) (by exact endB2_len (by assumption)) (by exact endB2_ok (by assumption)) ?_; k_whole); intro _ _ _ _ _; (try k_sweep))
  trivial
theorem sayH1v_7 : True := by
  k_with "compareOp NotEq ref ref" => (k_here; refine Held.go ?_)
  trivial
theorem sayH1v_8 : True := by
  k_with "compareOp In int ref" => (k_here; refine Held.go ?_)
  trivial
theorem sayH1v_9 : True := by
  k_with "binaryOp Add str str" => (k_here; (with_reducible show wpAny _ _ (binaryOp Operator.Add (Value.str _ _) (Value.str _ _)) _ _ _); refine addS (by omega) ?_; intro _ _ _)
  trivial
theorem sayH1v_10 : True := by
  k_with "call ref" => (k_here; (with_reducible show wpAny _ _ (call (Value.ref 98) _) _ _ _); refine Held.go ?_)
  trivial
theorem sayH1v_11 : True := by
  k_with "call type:str" => (k_here; (with_reducible show wpAny _ _ (call (Value.type "str") [Value.ref _]) _ _ _); refine Held.go ?_)
  trivial
theorem sayH1v_12 : True := by
  k_with "call builtin:len" => (k_here; (with_reducible show wpAny _ _ (call (Value.builtin "len") [Value.ref _]) _ _ _); refine Held.go ?_)
  trivial
theorem sayH1v_13 : True := by
  k_with "subscriptTail Name" => (k_here; (with_reducible show wpAny _ _ (subscriptTail _ _ (Value.ref _) (Value.int 0 _)) _ _ _); k_dflt (refine' first_int (by k_asm) (by k_mem) (by assumption) ?_); intro _)
  trivial
theorem sayH1v_14 : True := by
  k_with "call builtin:list.append" => (k_here; (with_reducible show wpAny _ _ (call (Value.builtin _) [Value.ref _, _]) _ _ _); refine Held.go ?_)
  trivial
local macro_rules | `(tactic| k_all) => `(tactic| assumption)
local macro_rules | `(tactic| lcg_sub) => `(tactic| exact fun p hp => by repeat (first | exact hp | refine List.mem_cons_of_mem _ ?_))
theorem sayH1v_15 : True := by
  k_with "call ref" => (k_here; (with_reducible show wpAny _ _ (call (Value.ref 196) _) _ _ _); k_dflt (refine' piece_K (by k_asm) (by k_asm) (by k_asm) (by k_asm) (by exact Nat.le_of_ble_eq_true rfl) (by exact Nat.le_of_ble_eq_true rfl) (by rfl) ?_; k_whole); intro _ _ _ _ _ _ _; (try k_sweep))
  trivial
theorem sayH1v_16 : True := by
  k_with "call ref" => (k_here; (with_reducible show wpAny _ _ (call (Value.ref 203) _) _ _ _); k_dflt (refine' bones_K (by k_asm) (by k_asm) (by k_asm) (by k_asm) (by exact Nat.le_of_ble_eq_true rfl) (by exact Nat.le_of_ble_eq_true rfl) (by rfl) (by assumption) ?_; k_whole); intro _ _ _ _ _; (try k_sweep))
  trivial
theorem sayH1v_17 : True := by
  k_with "exec Assign cons ListComp" => (k_here; refine Held.go ?_)
  trivial
theorem law_raw {w : World} {vp : Program} {lo : List Str} {s : Shared} {R : Result → Shared → Prop} {B : Heap} {a : Addr} {vs : List Value} {ns : List Int} {mg mb : Str → Option Value} {t1 t2 : Array Value}
    (hB : Base w vp lo mg mb B) (hM : Mods B mg) (st : ∀ b o, B.get? b = some o → s.heap.get? b = some o) (hn0 : ∀ a ∈ [147, 154], B.get? a = none)
    (h147 : s.heap.get? 147 = some (tabO t1)) (h154 : s.heap.get? 154 = some (tabO t2)) (tr1 : TriplesOk t1.toList) (tr2 : TriplesOk t2.toList)
    (hl : B.IsList a vs.toArray) (hi : IntsAre vs ns) (hlen : ns.length ≤ 63) (hG : AllBare s.gens)
    (h : ∀ s', (∀ b o, b ∉ [147, 154] → s.heap.get? b = some o → s'.heap.get? b = some o) → (∃ t, s'.heap.get? 147 = some (tabO t)) → (∃ t, s'.heap.get? 154 = some (tabO t)) → AllBare s'.gens → s'.os = s.os → R (.ok (.ret (.bool true))) s') :
    codeAny (model P95 w) callerA (.call (.ref 215) ⟨[.ref a], []⟩) R s := by
  have X : (top0.heap_1 w.params).In s.heap := hB.X.keeps st
  have T := hB.T.keeps st
  have hn : ∀ p ∈ [((147 : Addr), tabO t1), (154, tabO t2)], s.heap.get? p.1 = some p.2 := by
    intro q hq
    simp only [List.mem_cons, List.not_mem_nil, or_false] at hq
    rcases hq with rfl | rfl <;> assumption
  refine' enterX (K := top0.heap_1 w.params) (news := [(147, tabO t1), (154, tabO t2)]) (binds := [("script", .ref a)]) X T.nolimit hn ?k6 ?k7 (by decide) ?k9 ?kB ?kD ?_ ?c2 ?c3 ?c4; (case k6 => k_is); (case k7 => k_is); (case k9 => first | exact BindsTo.of_eq rfl | exact binds_K X rfl (by k_is) rfl rfl rfl); (case kB => exact kindsX rfl); (case kD => decide +kernel); (case c2 => exact rfl); (case c3 => exact rfl); (case c4 => exact rfl); intro g' L' h' tk' cells' F' N' Y' kg' l1; (try k_lt l1); k_cells Y'; (try simp only [List.cons_append, List.nil_append] at N'); (try dsimp only)
  rename_i ox0 ob0 or0 oe0 dx0 db0 dr0 de0
  obtain ⟨KX, T'⟩ := base_in hB st (W := [147, 154]) hn0 kg'
  have hM' : Mods g' mg := mods_in hM T' st (W := [147, 154]) hn0 kg'
  have kB : ∀ b o, B.get? b = some o → g'.get? b = some o := fun b o e => kg' b o (st b o e) fun hm => by rw [hn0 b hm] at e; cases e
  have hl' : g'.IsList a vs.toArray := let ⟨o, e, r⟩ := hl; ⟨o, kB _ _ e, r⟩
  clear X T hl
  refine noE ?_
  k_fold
  repeat' (first | (k_unfold; (try dsimp only)) | walk1 | (dsimp only; walk1) | fail "no step")
  refine forWalk ?_
  repeat' (first | (k_unfold; (try dsimp only)) | walk1 | (dsimp only; walk1) | fail "no step")
  rename_i el q1 l1a q3 oe de q4 q5 q6 q7 q8 q9 lm q10 l1b mk tmk hmk q11 q12 lr q13 l1c rm trm hrm q14 q15 q16 fd fm ll d acc q17 h1 h2 h3 h4 h5 h6 k1 k2 k3 k4 k5 k6 tl hsh tq q18 o1 o2 o3 o4 o5 l1d q19 q20 rl q21 l1e q22 q23 orr dr q24 ob db lit q25 l1f D1 ws1 q26 hI1 l1g D ws hp F5 N5 hI hC hL l1h
  obtain ⟨M5, ml, tm, cw, tc, cl, eits, F6, mMarks, mRoom, mWidth, mMaker, mRows, nfd, nel, he1, he2⟩ : ∃ (M5 : Str → Option Value) (ml : Int) (tm : Tok) (cw : Str) (tc : Tok) (cl : Int) (eits : Array Value), Fr g' L' hp M5 ∧ M5 "marks" = some (.str mk tmk) ∧ M5 "room" = some (.int rm trm) ∧ M5 "width" = some (.int ml tm) ∧ M5 "maker" = some (.ref fm) ∧ M5 "rows" = some (.ref rl) ∧
      (hp.get? fd = some (fmtDict h1 h2 h3 h4 h5 h6 k1 k2 k3 k4 k5 k6 ml tm cw tc cl tl mk tmk ll acc) ∧ fd ≠ L' ∧ g'.get? fd = none) ∧ (hp.get? el = some (listOf eits 0) ∧ el ≠ L' ∧ g'.get? el = none) ∧ eits.size = 8 ∧ eits.all (strP endB2) = true :=
    ⟨_, _, _, _, _, _, _, F5, rfl, rfl, rfl, rfl, rfl, N5 (fd, _) (by k_mem), N5 (el, _) (by k_mem), rfl, by with_unfolding_all rfl⟩
  have N6 : News g' L' hp ( (D, listOf ws.toArray 0) :: (rl, (listOf #[] 0)) :: (fd, fmtDict h1 h2 h3 h4 h5 h6 k1 k2 k3 k4 k5 k6 ml tm cw tc cl tl mk tmk ll acc) :: (fm, instObj 101 fd) :: (ll, listOf #[] 0) :: (d, accDict hsh tq rm trm) :: (acc, accObj d (itemsOf []) 0) :: (el, listOf eits 0) :: (L' + 1 + 1 + 1 + 1, ox0) :: (L' + 1 + 1 + 1, ob) :: (L' + 1 + 1, orr) :: (L' + 1, oe) :: (147, tabO t1) :: (154, tabO t2) :: partL []) := by
    refine List.forall_mem_cons.mpr ⟨N5 (D, _) (by k_mem), ?_⟩
    refine List.forall_mem_cons.mpr ⟨N5 (rl, _) (by k_mem), ?_⟩
    refine List.forall_mem_cons.mpr ⟨nfd, ?_⟩
    refine List.forall_mem_cons.mpr ⟨N5 (fm, _) (by k_mem), ?_⟩
    refine List.forall_mem_cons.mpr ⟨N5 (ll, _) (by k_mem), ?_⟩
    refine List.forall_mem_cons.mpr ⟨N5 (d, _) (by k_mem), ?_⟩
    refine List.forall_mem_cons.mpr ⟨N5 (acc, _) (by k_mem), ?_⟩
    refine List.forall_mem_cons.mpr ⟨nel, ?_⟩
    refine List.forall_mem_cons.mpr ⟨N5 (L' + 1 + 1 + 1 + 1, _) (by k_mem), ?_⟩
    refine List.forall_mem_cons.mpr ⟨N5 (L' + 1 + 1 + 1, _) (by k_mem), ?_⟩
    refine List.forall_mem_cons.mpr ⟨N5 (L' + 1 + 1, _) (by k_mem), ?_⟩
    refine List.forall_mem_cons.mpr ⟨N5 (L' + 1, _) (by k_mem), ?_⟩
    refine List.forall_mem_cons.mpr ⟨N5 (147, _) (by k_mem), ?_⟩
    refine List.forall_mem_cons.mpr ⟨N5 (154, _) (by k_mem), ?_⟩
    exact List.forall_mem_nil _
  have hDl := News.isList N5 (List.Mem.head _)
  have ord0 : @LT.lt Nat _ 147 L' ∧ @LT.lt Nat _ 154 L' ∧ @LT.lt Nat _ (L' + 1 + 1 + 1 + 1) el ∧ @LT.lt Nat _ el fd ∧ @LT.lt Nat _ fd fm ∧ @LT.lt Nat _ fm ll ∧ @LT.lt Nat _ ll d ∧ @LT.lt Nat _ d acc ∧ @LT.lt Nat _ acc rl ∧ @LT.lt Nat _ rl D :=
    ⟨l1.1, l1.2, l1a.1, by omega, o2, o3, o4, o5, by omega, by omega⟩
  have hI0 : @LT.lt Nat _ L' hp.objs.size := F5.ns.lt
  have hDI : @LT.lt Nat _ D hp.objs.size := Heap.lt_size (N5 (D, _) (by k_mem)).1
  have hlen10 : ws.length ≤ 10 := by
    have := hI.length
    rw [List.length_take] at this
    omega
  clear F5 N5 nfd nel l1a l1b l1c l1d l1e l1f l1g l1h o1 o2 o3 o4 o5 hI1
  refine wpAny_pyIter_list hDl ?_
  generalize hsz : hp.objs.size = I at hI0 hDI
  refine ⟨I, _, _, _, _, _, (fun i s' => LawInv g' L' rl fd fm ll d acc el D (listOf ws.toArray 0) (listOf eits 0) h1 h2 h3 h4 h5 h6 hsh k1 k2 k3 k4 k5 k6 tq ml tm cw tc cl tl mk tmk s.os i s'), by rw [← hsz], Walks.list rfl I D (Nat.ne_of_lt hDI) ws.toArray, ?_, ?_, ?_, ?_⟩
  · subst hsz
    exact ⟨⟨_, Heap.get?_push_size _ rfl, rfl, rfl⟩, hDl.push _⟩
  · subst hsz
    refine ⟨M5, [], #[], #[], [], 0, 0, 0, rm, _, trm, "", "", _, _, ox0, ob, orr, oe, _, t1, t2, ⟨F6.push _, fun p hp => ⟨Heap.get?_push_of_some _ (N6 p hp).1, (N6 p hp).2⟩, mMarks, mRoom, mWidth, mMaker, mRows, dx0, db, dr, de, tr1, tr2, hG, rfl, ?_, ?_, ?_, ?_, ?_, ?_, ?_, ?_, ?_, ?_, ?_⟩⟩
    · exact ⟨List.forall_mem_nil _, List.forall_mem_nil _, List.forall_mem_nil _, List.forall_mem_nil _, List.forall_mem_nil _, List.forall_mem_nil _, List.forall_mem_nil _⟩
    · exact List.forall_mem_nil _
    · exact Nat.le_refl _
    · simp only [roomB, Bool.and_eq_true, decide_eq_true_eq] at hrm; exact hrm.1
    · simp only [roomB, Bool.and_eq_true, decide_eq_true_eq] at hrm; exact hrm.2
    · exact (by decide +kernel : ("" : Str).cps.toList = [])
    · exact (by decide +kernel : ("" : Str).cps.toList = [])
    · exact .nil
    · exact .nil
    · exact Nat.le_refl _
    · exact fun x hx => absurd hx List.not_mem_nil
  · intro i s' v hh3 tk3 hi9 hJ hSt hP hSt2 hk3
    obtain ⟨M, ps, li, rows, xs, c, n, cr, sz, ti, tro, row, bones, trw, tb, ox, ob, orr, oe, vx, u1, u2, J⟩ := hJ
    obtain ⟨F7, N7, mMarks, mRoom, mWidth, mMaker, mRows, dx, db, dr, de, tr1, tr2, hG, hos, off, po, hplen, sz0, sz1, er, eb, xl, xr, xn, xo⟩ := J
    obtain ⟨⟨oI, hoI, hoI2⟩, hDl2⟩ := hSt2
    have hi10 : i < 10 := by simp at hi9; omega
    have hoff : ∀ p ∈ partL ps, p.1 ≠ I := iter_ne hSt.1 (parts_of N7 (by lcg_sub))
    obtain ⟨F8, N8⟩ := enter_iter2 F7 N7 hI0 (by (iterate 14 refine List.forall_mem_cons.mpr ⟨by k_ne, ?_⟩); exact hoff) hk3 hoI
    obtain ⟨x4, x3, x2, x1, xrl, x147, x154⟩ := off
    obtain ⟨k, tx, e, hkx⟩ := IntsAre.at hI i v (by simpa using hP)
    subst e
    clear F7 N7 F6 N6 hk3 hSt hP
    repeat' (first | (k_unfold; (try dsimp only)) | walk1 | (dsimp only; walk1) | fail "no step")
    rename_i ox2 dx2 q30 lw q31 l1w f tf hwf q32 q33 q34 q35 p tp okp q36 F9 N9
    obtain ⟨oa1, oa2, oa3, oa4, oa5, oa6, oa7, oa8, oa9, oa10⟩ := ord0
    have hlf := white_len hwf
    have hlp := okp.two
    have hls : li.size < 1000 := by
      have := xl.length
      have e9 : li.size = li.toList.length := by simp
      omega
    unfold Held
    refine append_L F9 KX T' hM' (fun q hq => N9 q (.tail _ hq)) dx2 db dr de rfl tr1 tr2 ⟨oa1, oa2, oa3, oa4, oa5, oa6, oa7, oa8, oa9, oa10, hDI⟩ hG rfl (by omega) (parts_small po) ⟨sz0, by omega⟩ hls (parts_ne po) (parts_strOk po) (Nat.le_of_ble_eq_true rfl) (Nat.le_of_ble_eq_true rfl) (by omega) (by omega) (fun c hc => marks_mem hmk c (by simpa using hc)) fun s6 ps' sz' li' c' n' ti' w1 w2 F11 N11 trw1 trw2 G11 os11 off' S => ?_
    clear F9 N9 x4 x3 x2 x1 xrl x147 x154 dx
    obtain ⟨x4, x3, x2, x1, xrl, x147, x154⟩ := off'
    have hrow := row_len po
    have hrl0 : row.length = (rowL ps).length := by rw [slen, er]
    have hbl0 : bones.length = (rowL ps).length := by rw [slen, eb, bonesL_len po]
    have hrl : row.length < 1000 := by omega
    have hbl : bones.length < 1000 := by omega
    have hlf1 : f.length ≤ 1 := hlf.1
    have hbo : (boneOf p).length ≤ 2 := by rw [slen, boneOf_len okp.pos, ← slen]; exact hlp
    refine wpAny_execs_cons (wpAny_mono (Q := Joined fun s' => ∃ M rows xs cr tr tf f row bones trw tb ox ob orr oe vx, TailSt g' L' rl fd fm ll d acc el D (listOf ws.toArray 0) (listOf eits 0) h1 h2 h3 h4 h5 h6 hsh k1 k2 k3 k4 k5 k6 tq ml tm cw tc cl tl mk tmk s.os i I oI p tp ps' li' c' n' sz' ti' w1 w2 s' M rows xs cr tr tf f row bones trw tb ox ob orr oe vx) ?_ ?_ fun _ _ x => x)
    · repeat' (first | (k_unfold; (try dsimp only)) | walk1 | (dsimp only; walk1) | fail "no step")
      · unfold Held
        refine Assign_ListComp_S F11 rfl (by with_unfolding_all rfl) (by with_unfolding_all rfl) (by decide) (by rfl) (by decide) (by rfl) (by rfl) (by rfl) ?_
        first | walk1 | (dsimp only; walk1)
        have hms := marks_size hmk
        refine ⟨mk, tmk, _, rfl, marks_ascii hmk, rfl, (by rw [sizeLine_eq]; omega), F11, N11, fun s2 hs2 => ?_⟩
        obtain ⟨hg2, rfl⟩ := hs2
        refine told_rest mk (fun c => (tellL c ps : Int)) (fun c u I2 oI2 C2 oC2 D2 m2 ys2 hh2 tk2 E2 hc hC hx F12 N12 => ?_) (fun ys hys => ?_)
        · have hcm := marks_mem hmk c hc
          clear F11 N11
          repeat' (first | (k_unfold; (try dsimp only)) | walk1 | (dsimp only; walk1) | fail "no step")
          rename Fr _ _ _ _ => Fx
          rename News _ _ _ _ => Nx
          exact ⟨_, _, _, _, rfl, Fx, Nx, fun p hp => hp, congrArg (fun k => Value.int k _) (tell_eq eb)⟩
        · clear F11 N11
          unfold LCg.FinA
          intro D2 h12 tk12 F12 N12 of12
          repeat' (first | (k_unfold; (try dsimp only)) | walk1 | (dsimp only; walk1) | fail "no step")
          unfold Held
          rename Fr _ _ _ _ => Fc
          rename News _ _ _ _ => Nc
          refine in_told (Nc (D2, _) (by k_mem)).1 hys (fun k hk => by obtain ⟨c, _, rfl⟩ := List.mem_map.mp hk; omega) ?_
          repeat' (first | (k_unfold; (try dsimp only)) | walk1 | (dsimp only; walk1) | fail "no step")
          unfold Held
          rename Fr _ _ _ _ => Fd
          rename News _ _ _ _ => Nd
          have hysz : ys.toArray.size ≤ sizeLine := by
            have := hys.length
            rw [List.size_toArray, this, List.length_map, sizeLine_eq]
            have e9 : mk.cps.toList.length = mk.cps.size := by simp
            omega
          refine LCt.Assign_ListComp_T Fd rfl (by with_unfolding_all rfl) (by with_unfolding_all rfl) (by decide) (by rfl) (by decide) (by rfl) (by rfl) (by rfl) ?_
          first | walk1 | (dsimp only; walk1)
          refine LCt.CompSrcT.ledger rfl Fd Nd (show (D2, _) ∈ _ by k_mem) hysz fun g3 => ?_
          refine sizes_rest (fun k => decide (k < ((rowL ps).length : Int))) hys (.inr ⟨_, (show (D2, _) ∈ _ by k_mem), rfl, _, rfl⟩) (fun k t I2 oI2 C2 oC2 D3 m2 ys2 hh2 tk2 E2 hC hx F13 N13 => ?_) (fun k t I2 oI2 C2 oC2 D3 m2 ys2 hh2 tk2 E2 hC hx F13 N13 => ?_) (fun ys2 hys2 => ?_)
          · clear Fd Nd
            repeat' (first | (k_unfold; (try dsimp only)) | walk1 | (dsimp only; walk1) | fail "no step")
            rename Fr _ _ _ _ => Fx
            rename News _ _ _ _ => Nx
            refine ⟨?_, _, _, _, rfl, Fx, Nx, fun p hp => hp⟩
            rw [hrl0]
          · clear Fd Nd
            repeat' (first | (k_unfold; (try dsimp only)) | walk1 | (dsimp only; walk1) | fail "no step")
            rename Fr _ _ _ _ => Fx
            rename News _ _ _ _ => Nx
            exact ⟨_, _, _, _, rfl, Fx, Nx, fun p hp => hp, rfl⟩
          · clear Fd Nd
            unfold LCg.FinA
            intro D3 h13 tk13 F13 N13 of13
            repeat' (first | (k_unfold; (try dsimp only)) | walk1 | (dsimp only; walk1) | fail "no step")
            unfold Held
            rename Fr _ _ _ _ => Fe
            rename News _ _ _ _ => Ne
            have hys3 : IntsAre ys2 (sizesL mk ps) := hys2
            clear hys2 hys of12 of13
            try clear F13
            try clear N13
            try clear F12
            try clear N12
            rename (D3 < _ ∧ _) => l1z
            clear l1z
            rcases hsz2 : sizesL mk ps with _ | ⟨a9, rest9⟩
            · rw [hsz2] at hys3
              refine' ne_nil_f (vs := ys2) ?ka8 ?kb8 hys3 (Nat.le_of_ble_eq_true rfl) ?_
              case ka8 => exact (Ne (D3, _) (by k_mem)).1
              case kb8 => exact (Ne (_, _) (by k_mem)).1
              have Nf : News g' L' _ _ := fun p hp => Ne p (.tail _ (.tail _ (.tail _ hp)))
              clear Ne hys3
              repeat' (first | (k_unfold; (try dsimp only)) | walk1 | (dsimp only; walk1) | fail "no step")
              · unfold Held
                rename Fr _ _ _ _ => Fg
                rename News _ _ _ _ => Ng
                have hrsz : rows.size ≤ sizeLine := by
                  have := xr.length
                  have e9 : rows.size = rows.toList.length := by simp
                  rw [sizeLine_eq]; omega
                refine' append_K ?k1 ?k2 ?k3 ?_ ?z; (case k1 => exact Fg); (case k2 => exact Ng); (case k3 => k_upd); (case z => exact hrsz)
                intro h15 F15 N15
                obtain ⟨q, tq2, e1, e2, e3, e4, e5⟩ := step_ended hmk po S (by omega) hsz2 (by omega)
                subst e3 e4 e5
                clear Fg Ng
                try clear Nf
                try clear Fe
                have hrt : row = textOf ps := str_ext (by rw [er, textOf_cps])
                have hXL : StrsAre (li.push (.str (textOf ps) tq2)).toList (xs ++ [textOf ps]) := by rw [Array.toList_push]; exact strs_snoc xl
                have hXR : StrsAre (rows.push (.str row trw)).toList (xs ++ [textOf ps]) := by rw [Array.toList_push, ← hrt]; exact strs_snoc xr
                have hXO : ∀ x ∈ xs ++ [textOf ps], PyData.strOk x = true := by
                  intro x hx
                  rcases List.mem_append.mp hx with hx | hx
                  · exact xo x hx
                  · rw [List.mem_singleton.mp hx]; exact strOk_row po (textOf_cps ps)
                have hXN : (xs ++ [textOf ps]).length ≤ i + 1 := by rw [List.length_append, List.length_singleton]; omega
                have hpl' : [q].length ≤ i + 1 := by rw [List.length_singleton]; omega
                have e0 : ("" : Str).cps.toList = [] := by decide +kernel
                have hsp : whiteB " " = true := by decide +kernel
                repeat' (first | (k_unfold; (try dsimp only)) | walk1 | (dsimp only; walk1) | fail "no step")
                · rename ((f == _) = true) => hf0
                  have e1' : q.f = " " := by rw [e1, if_pos (eq_of_beq hf0)]
                  have po' : PartsOk [q] := by
                    intro r hr
                    rw [List.mem_singleton.mp hr]; exact ⟨by rw [e1']; exact hsp, by rw [e2]; exact okp⟩
                  have erow : textOf [q] = "" ++ " " ++ p := str_ext (by rw [textOf_cps, rowL_one, e1', e2, cps_append, cps_append, e0, List.nil_append])
                  have ebones : ("" ++ " " ++ boneOf p).cps.toList = bonesL [q] := by rw [bonesL_one, e1', e2, cps_append, cps_append, e0, List.nil_append]
                  rename Fr _ _ _ _ => Fz
                  rename News _ _ _ _ => Nz
                  exact ⟨rfl, _, _, _, _, _, _, " ", "", "", _, _, _, _, _, _, _, ⟨Fz, Nz, (by walk_at "lvar"), (by walk_at "lvar"), (by walk_at "lvar"), (by walk_at "lvar"), (by walk_at "lvar"), (by walk_at "lvar"), (by walk_at "lvar"), (by assumption), (by assumption), (by assumption), (by assumption), trw1, trw2, G11, os11.trans hos, po', hpl', (Int.le_refl 0), (show (0 : Int) < 7 by decide), erow, ebones, hXL, hXR, hXN, hXO, (by first | assumption | decide +kernel | (rw [slen, es2]; omega)), (by first | assumption | decide +kernel | (rw [slen, es3, bonesL_len poD]; omega)), (by first | assumption | decide +kernel)⟩⟩
                · rename ((f == _) = false) => hf0
                  have e1' : q.f = f := by rw [e1, if_neg (ne_of_beq_false hf0)]
                  have po' : PartsOk [q] := by
                    intro r hr
                    rw [List.mem_singleton.mp hr]; exact ⟨by rw [e1']; exact hwf, by rw [e2]; exact okp⟩
                  have erow : textOf [q] = "" ++ f ++ p := str_ext (by rw [textOf_cps, rowL_one, e1', e2, cps_append, cps_append, e0, List.nil_append])
                  have ebones : ("" ++ f ++ boneOf p).cps.toList = bonesL [q] := by rw [bonesL_one, e1', e2, cps_append, cps_append, e0, List.nil_append]
                  rename Fr _ _ _ _ => Fz
                  rename News _ _ _ _ => Nz
                  exact ⟨rfl, _, _, _, _, _, _, f, "", "", _, _, _, _, _, _, _, ⟨Fz, Nz, (by walk_at "lvar"), (by walk_at "lvar"), (by walk_at "lvar"), (by walk_at "lvar"), (by walk_at "lvar"), (by walk_at "lvar"), (by walk_at "lvar"), (by assumption), (by assumption), (by assumption), (by assumption), trw1, trw2, G11, os11.trans hos, po', hpl', (Int.le_refl 0), (show (0 : Int) < 7 by decide), erow, ebones, hXL, hXR, hXN, hXO, (by first | assumption | decide +kernel | (rw [slen, es2]; omega)), (by first | assumption | decide +kernel | (rw [slen, es3, bonesL_len poD]; omega)), (by first | assumption | decide +kernel)⟩⟩
              · obtain ⟨q, e1, e2, e3, e4, e5⟩ := step_grown hmk po S (by omega) hsz2 (by omega)
                replace e4 := e4.symm
                replace e5 := e5.symm
                subst e3 e4 e5
                have po' : PartsOk (ps ++ [q]) := by
                  intro r hr
                  rcases List.mem_append.mp hr with hr | hr
                  · exact po r hr
                  · rw [List.mem_singleton.mp hr]; exact ⟨by rw [e1]; exact hwf, by rw [e2]; exact okp⟩
                have erow : textOf (ps ++ [q]) = row ++ f ++ p := str_ext (by rw [textOf_cps, rowL_append, rowL_one, e1, e2, cps_append, cps_append, er]; simp)
                have hpl' : (ps ++ [q]).length ≤ i + 1 := by simp; omega
                have ebones : (bones ++ f ++ boneOf p).cps.toList = bonesL (ps ++ [q]) := by rw [bonesL_append, bonesL_one, e1, e2, cps_append, cps_append, eb]; simp
                have elen : lenOf (ps ++ [q]) = ((row ++ f ++ p).length : Int) := by rw [lenOf_eq, slen, ← erow, textOf_cps]
                rename Fr _ _ _ _ => Fz
                rename News _ _ _ _ => Nz
                exact ⟨rfl, _, _, _, _, _, _, f, row, bones, _, _, _, _, _, _, _, ⟨Fz, Nz, (by walk_at "lvar"), (by walk_at "lvar"), (by walk_at "lvar"), (by walk_at "lvar"), (by walk_at "lvar"), (by walk_at "lvar"), (by walk_at "lvar"), (by assumption), (by assumption), (by assumption), (by assumption), trw1, trw2, G11, os11.trans hos, po', hpl', sz0, sz1, erow, ebones, xl, xr, (Nat.le_succ_of_le xn), xo, (by first | assumption | decide +kernel | (rw [slen, es2]; omega)), (by first | assumption | decide +kernel | (rw [slen, es3, bonesL_len poD]; omega)), (by first | assumption | decide +kernel)⟩⟩
            · rw [hsz2] at hys3
              refine' ne_nil_t (vs := ys2) ?ka9 ?kb9 hys3 (Nat.le_of_ble_eq_true rfl) ?_
              case ka9 => exact (Ne (D3, _) (by k_mem)).1
              case kb9 => exact (Ne (_, _) (by k_mem)).1
              repeat' (first | (k_unfold; (try dsimp only)) | walk1 | (dsimp only; walk1) | fail "no step")
              unfold Held
              rename Fr _ _ _ _ => Fg
              rename News _ _ _ _ => Ng
              generalize hplc : (row.length : Int) - List.getD (a9 :: rest9) (Int.toNat 0) 0 = place at *
              have hpl2 : (row.length : Int) - a9 = place := hplc
              obtain ⟨q, i0, tq2, e1, e2, e3, e4, e5, e6⟩ := step_cut hmk po S (by omega) hsz2
              subst e3 e4 e5
              have hT : (rowL (ps.take (i0 + 1))).length + (rowL (ps.drop (i0 + 1))).length = (rowL ps).length := by rw [← List.length_append, ← rowL_append, List.take_append_drop]
              have hpl3 : place = ((rowL (ps.take (i0 + 1))).length : Int) := by omega
              have poT : PartsOk (ps.take (i0 + 1)) := fun r hr => po r (List.mem_of_mem_take hr)
              have poD : PartsOk (ps.drop (i0 + 1)) := fun r hr => po r (List.mem_of_mem_drop hr)
              have er2 : row.cps.toList = rowL (ps.take (i0 + 1)) ++ rowL (ps.drop (i0 + 1)) := by rw [er, ← rowL_append, List.take_append_drop]
              have eb2 : bones.cps.toList = bonesL (ps.take (i0 + 1)) ++ bonesL (ps.drop (i0 + 1)) := by rw [eb, ← bonesL_append, List.take_append_drop]
              have es1 : Txt.slice row none (some place) = textOf (ps.take (i0 + 1)) := str_ext (by rw [slice_to_list er2 hpl3, textOf_cps])
              have es2 : (Txt.slice row (some place) none).cps.toList = rowL (ps.drop (i0 + 1)) := slice_from_list er2 hpl3
              have es3 : (Txt.slice bones (some place) none).cps.toList = bonesL (ps.drop (i0 + 1)) := slice_from_list eb2 (by rw [bonesL_len poT]; exact hpl3)
              have hXL : StrsAre (li.push (.str (textOf (ps.take (i0 + 1))) tq2)).toList (xs ++ [textOf (ps.take (i0 + 1))]) := by rw [Array.toList_push]; exact strs_snoc xl
              have hXO : ∀ x ∈ xs ++ [textOf (ps.take (i0 + 1))], PyData.strOk x = true := by
                intro x hx
                rcases List.mem_append.mp hx with hx | hx
                · exact xo x hx
                · rw [List.mem_singleton.mp hx]; exact strOk_row poT (textOf_cps _)
              have hXN : (xs ++ [textOf (ps.take (i0 + 1))]).length ≤ i + 1 := by rw [List.length_append, List.length_singleton]; omega
              have hpl' : (ps.drop (i0 + 1) ++ [q]).length ≤ i + 1 := by rw [List.length_append, List.length_drop, List.length_singleton]; omega
              have po' : PartsOk (ps.drop (i0 + 1) ++ [q]) := by
                intro r hr
                rcases List.mem_append.mp hr with hr | hr
                · exact poD r hr
                · rw [List.mem_singleton.mp hr]; exact ⟨by rw [e1]; exact hwf, by rw [e2]; exact okp⟩
              have erow : textOf (ps.drop (i0 + 1) ++ [q]) = Txt.slice row (some place) none ++ f ++ p := str_ext (by rw [textOf_cps, rowL_append, rowL_one, e1, e2, cps_append, cps_append, es2]; simp)
              have ebones : (Txt.slice bones (some place) none ++ f ++ boneOf p).cps.toList = bonesL (ps.drop (i0 + 1) ++ [q]) := by rw [bonesL_append, bonesL_one, e1, e2, cps_append, cps_append, es3]; simp
              have hrsz : rows.size ≤ sizeLine := by
                have := xr.length
                have e9 : rows.size = rows.toList.length := by simp
                rw [sizeLine_eq]; omega
              rw [es1]
              have Nf : News g' L' _ _ := fun p hp => Ng p (.tail _ (.tail _ (.tail _ hp)))
              clear Ng
              try clear Ne
              refine' append_K ?k1 ?k2 ?k3 ?_ ?z; (case k1 => exact Fg); (case k2 => exact Nf); (case k3 => k_upd); (case z => exact hrsz)
              intro h15 F15 N15
              have hXR : ∀ t, StrsAre (rows.push (.str (textOf (ps.take (i0 + 1))) t)).toList (xs ++ [textOf (ps.take (i0 + 1))]) := fun t => by rw [Array.toList_push]; exact strs_snoc xr
              clear Fg Nf
              try clear Fe
              repeat' (first | (k_unfold; (try dsimp only)) | walk1 | (dsimp only; walk1) | fail "no step")
              rename Fr _ _ _ _ => Fz
              rename News _ _ _ _ => Nz
              exact ⟨rfl, _, _, _, _, _, _, f, (Txt.slice row (some place) none), (Txt.slice bones (some place) none), _, _, _, _, _, _, _, ⟨Fz, Nz, (by walk_at "lvar"), (by walk_at "lvar"), (by walk_at "lvar"), (by walk_at "lvar"), (by walk_at "lvar"), (by walk_at "lvar"), (by walk_at "lvar"), (by assumption), (by assumption), (by assumption), (by assumption), trw1, trw2, G11, os11.trans hos, po', hpl', (Int.le_refl 0), (show (0 : Int) < 7 by decide), erow, ebones, hXL, (hXR _), hXN, hXO, (by first | assumption | decide +kernel | (rw [slen, es2]; omega)), (by first | assumption | decide +kernel | (rw [slen, es3, bonesL_len poD]; omega)), (by first | assumption | decide +kernel)⟩⟩
      · rename (¬ ml < _) => hnw
        obtain ⟨q, e1, e2, e3, e4, e5⟩ := step_narrow S (by omega)
        replace e4 := e4.symm
        replace e5 := e5.symm
        subst e3 e4 e5
        have po' : PartsOk (ps ++ [q]) := by
          intro r hr
          rcases List.mem_append.mp hr with hr | hr
          · exact po r hr
          · rw [List.mem_singleton.mp hr]; exact ⟨by rw [e1]; exact hwf, by rw [e2]; exact okp⟩
        have erow : textOf (ps ++ [q]) = row ++ f ++ p := str_ext (by rw [textOf_cps, rowL_append, rowL_one, e1, e2, cps_append, cps_append, er]; simp)
        have hpl' : (ps ++ [q]).length ≤ i + 1 := by simp; omega
        have ebones : (bones ++ f ++ boneOf p).cps.toList = bonesL (ps ++ [q]) := by rw [bonesL_append, bonesL_one, e1, e2, cps_append, cps_append, eb]; simp
        rename Fr _ _ _ _ => Fz
        rename News _ _ _ _ => Nz
        exact ⟨rfl, _, _, _, _, _, _, f, row, bones, _, _, _, _, _, _, _, ⟨Fz, Nz, (by walk_at "lvar"), (by walk_at "lvar"), (by walk_at "lvar"), (by walk_at "lvar"), (by walk_at "lvar"), (by walk_at "lvar"), (by walk_at "lvar"), (by assumption), (by assumption), (by assumption), (by assumption), trw1, trw2, G11, os11.trans hos, po', hpl', sz0, sz1, erow, ebones, xl, xr, (Nat.le_succ_of_le xn), xo, (by first | assumption | decide +kernel | (rw [slen, es2]; omega)), (by first | assumption | decide +kernel | (rw [slen, es3, bonesL_len poD]; omega)), (by first | assumption | decide +kernel)⟩⟩
    · rintro f7' s7 ⟨rfl, M7, rows7, xs7, cr7, tr7, tf7, f7, row7, bones7, trw7, tb7, ox7, ob7, orr7, oe7, vx7, ⟨F13, N13, nMarks, nRoom, nWidth, nMaker, nRows, nWhite, nPiece, dx7, db7, dr7, de7, tz1, tz2, G13, os13, po7, hpl7, z70, z71, erow, ebones, xl7, xr7, xn7, xo7, hr7, hb7, hf7⟩⟩
      clear F11 N11 S
      have elen : lenOf ps' = ((row7 ++ f7 ++ p : Str).length : Int) := by rw [lenOf_eq, slen, ← erow, textOf_cps]
      clear dx2 db dr de mMarks mRoom mWidth mMaker mRows
      clear tr1 tr2 xl xr xn xo er eb sz0 sz1 po hplen hrow hrl0 hbl0 hrl hbl hlf1 hlf hls
      dsimp only
      repeat' (first | (k_unfold; (try dsimp only)) | walk1 | (dsimp only; walk1) | fail "no step")
      unfold Held
      rename Fr _ _ _ _ => Fa
      rename News _ _ _ _ => Na
      refine ne_strs (Na (ll, _) (by k_mem)).1 (Na (rl, _) (by k_mem)).1 xl7 xr7 xo7 (Nat.le_of_ble_eq_true rfl) ?_
      repeat' (first | (k_unfold; (try dsimp only)) | walk1 | (dsimp only; walk1) | fail "no step")
      rename Fr _ _ _ _ => Fb
      rename News _ _ _ _ => Nb
      unfold Held
      refine strAcc_K (acc := acc) (d := d) (ps := ps') (tp := w2) Fb KX T' hM' Nb (by k_mem) (by k_mem) (by k_updF) tz2 (parts_of Nb (by lcg_sub)) G13 rfl (Nat.le_of_ble_eq_true rfl) (Nat.le_of_ble_eq_true rfl) (by omega) (parts_small po7) (joinSmall (parts_small po7) (by omega)) fun s8 t8 tp8 kp8 tr8 F8b N8b G8 os8 => ?_
      rw [erow]
      repeat' (first | (k_unfold; (try dsimp only)) | walk1 | (dsimp only; walk1) | fail "no step")
      · rename ((_ != _) = true) => hbad
        simp at hbad
      rename Fr _ _ _ _ => Fc
      rename News _ _ _ _ => Nc
      unfold Held
      refine lenAcc_K (acc := acc) (d := d) (ps := ps') (tp := w1) Fc KX T' hM' Nc (by k_mem) (by k_mem) (by k_updF) tz1 (parts_of Nc (by lcg_sub)) G8 rfl (Nat.le_of_ble_eq_true rfl) (Nat.le_of_ble_eq_true rfl) (by omega) (parts_small po7) ⟨z70, Int.lt_trans z71 (by decide)⟩ fun s10 t10 tp10 kp10 tr10 F10 N10 G10 os10 => ?_
      repeat' (first | (k_unfold; (try dsimp only)) | walk1 | (dsimp only; walk1) | fail "no step")
      · exfalso
        omega
      · rename Fr _ _ _ _ => Fz
        rename News _ _ _ _ => Nz
        exact ⟨_, ps', _, _, _, _, _, _, _, _, _, (row7 ++ f7 ++ p), _, _, _, _, _, _, _, _, _, _, ⟨Fz, fun p hp => Nz p (.tail _ hp), (by walk_at "lvar"), (by walk_at "lvar"), (by walk_at "lvar"), (by walk_at "lvar"), (by walk_at "lvar"), (by assumption), (by assumption), (by assumption), (by assumption), tr10, tr8, G10, os10.trans (os8.trans os13), ⟨x4, x3, x2, x1, xrl, x147, x154⟩, po7, hpl7, z70, z71, (by rw [← erow, textOf_cps]), ebones, xl7, xr7, xn7, xo7⟩⟩
      · rename News _ _ _ _ => Nz
        exact ⟨oI, (Nz (I, _) (by k_mem)).1, hoI2⟩
      · rename News _ _ _ _ => Nz
        exact News.isList Nz (show (D, _) ∈ _ by k_mem)
  · intro s' h3 tk3 hJ hSt hk3
    obtain ⟨M, ps, li, rows, xs, c, n, cr, sz, ti, tro, row, bones, trw, tb, ox, ob, orr, oe, vx, u1, u2, J⟩ := hJ
    obtain ⟨F7, N7, mMarks, mRoom, mWidth, mMaker, mRows, dx, db, dr, de, tr1, tr2, hG, hos, off, po, hplen, sz0, sz1, er, eb, xl, xr, xn, xo⟩ := J
    have hoff : ∀ p ∈ partL ps, p.1 ≠ I := iter_ne hSt.1 (parts_of N7 (by lcg_sub))
    obtain ⟨F8, N8⟩ := leave_iter2 F7 N7 hI0 (by (iterate 14 refine List.forall_mem_cons.mpr ⟨by k_ne, ?_⟩); exact hoff) hk3
    clear F7 N7 F6 N6 hk3
    repeat' (first | (k_unfold; (try dsimp only)) | walk1 | (dsimp only; walk1) | fail "no step")
    exact h _ (fun b o hb e => F8.keep b o (kg' b o e (by simpa using hb))) ⟨u1, (N8 (147, _) (by k_mem)).1⟩ ⟨u2, (N8 (154, _) (by k_mem)).1⟩ hG hos
theorem sayH1v_end : True := by
  k_with_none
  trivial
end
end
section
def ads : List Addr := [2, 3, 15, 17, 18, 20, 21, 22, 24, 25, 27, 28, 36, 38, 39, 41, 42, 43, 45, 46, 48, 49, 50, 52, 53, 55, 56, 57, 59, 60, 62, 63, 64, 66, 67, 69, 70, 71, 73, 74, 76, 77, 78, 80, 81, 83, 84, 85, 87, 88, 90, 91, 92, 94, 95, 97, 98, 99, 100, 101, 102, 103, 106, 109, 114, 115, 116, 118, 119, 121, 122, 123, 125, 126, 128, 129, 130, 131, 133, 134, 136, 137, 138, 139, 141, 142, 144, 145, 146, 148, 149, 151, 152, 153, 155, 156, 158, 159, 160, 161, 163, 164, 166, 167, 168, 170, 171, 173, 174, 175, 176, 178, 179, 181, 182, 183, 184, 185, 186, 187, 190, 192, 193, 195, 196, 197, 199, 200, 202, 203, 204, 206, 207, 209, 210, 211, 214, 215]
/-- the law, from the state behind the top -/
theorem law_holds {w : World} {s₁ : Shared} {p : Program} {loose : List Str} {mean : ExcName → Option Value} {mg mb : Str → Option Value} {a : Addr} {vs : List Value} {ns : List Int} {R : Result → Shared → Prop}
    (KX : (top0.heap_1 w.params).In s₁.heap) (hT8 : ∀ P ∈ [147, 154], s₁.heap.get? P = some (tabObj #[])) (T : Top p loose mean mg mb s₁.heap) (hM : Mods s₁.heap mg)
    (hL : s₁.heap.IsList a vs.toArray) (hI : IntsAre vs ns) (hlen : ns.length ≤ 63) (hg : s₁.gens = #[])
    (h : ∀ s', OldK s₁.heap s'.heap → AllBare s'.gens → s'.os = s₁.os → R (.ok (.ret (.bool true))) s') :
    codeAny (model P95 w) callerA (.call (.ref 215) ⟨[.ref a], []⟩) R s₁ := by
  have hT : TabsAt [(151, 147), (158, 154)] s₁.heap := by
    intro q hq
    rcases List.mem_cons.mp hq with rfl | hq
    · exact ⟨codeHd_of_K KX (hd151 w), hT8 147 (by decide)⟩
    · rcases List.mem_cons.mp hq with rfl | hq
      · exact ⟨codeHd_of_K KX (hd158 w), hT8 154 (by decide)⟩
      · cases hq
  have X₀ : (top0.heap_1 w.params).In (ghostOf s₁.heap [(151, 147), (158, 154)]) := ghost_K hT KX (by kernel_rfl)
  have T₀ := topRead_of (ghost_top hT T)
  have hM₀ : Mods (ghostOf s₁.heap [(151, 147), (158, 154)]) mg := by
    obtain ⟨bm, ob, M⟩ := hM
    exact ⟨bm, ob, T₀.g, M.name, M.ne, ghost_get hT M.obj (fun e => by have := M.cls; rw [e] at this; cases this), M.cls, M.dict, M.data⟩
  refine law_raw ⟨X₀, T₀⟩ hM₀ (fun b o e => of_hideAll _ e) (fun b hb => hideAll_none _ (by simpa using hb)) (hT8 147 (by decide)) (hT8 154 (by decide)) ?tr ?tr (ghost_list hT hL) hI hlen (.of_eq hg) fun s' keep e1 e2 hG hos => ?_
  case tr => exact trivial
  have grown : ∀ b o, b ∈ [147, 154] → s₁.heap.get? b = some o → isCodeTable s₁.heap b ∧ o = tabObj #[] ∧ ∃ ps, s'.heap.get? b = some (tabObj ps) := by
    intro b o hb e
    have hb2 := hb
    simp only [List.mem_cons, List.not_mem_nil, or_false] at hb2
    rcases hb2 with rfl | rfl
    · have q := hT (151, 147) (.head _)
      exact ⟨(q.1.tab q.2).isCodeTable, Option.some.inj (e.symm.trans q.2), e1⟩
    · have q := hT (158, 154) (.tail _ (.head _))
      exact ⟨(q.1.tab q.2).isCodeTable, Option.some.inj (e.symm.trans q.2), e2⟩
  refine h s' ⟨fun b o e => ?_, fun b o e => ?_⟩ hG hos
  · by_cases hb : b ∈ [147, 154]
    · obtain ⟨ht, rfl, ps, hP⟩ := grown b o hb e
      exact .inr (.inl ⟨ht, rfl, #[], ps, rfl, by rw [Array.empty_append]; exact hP⟩)
    · exact .inl (keep b o hb e)
  · by_cases hb : b ∈ [147, 154]
    · obtain ⟨_, _, ps, hP⟩ := grown b o hb e
      exact ⟨_, hP⟩
    · exact ⟨o, keep b o hb e⟩
end
section
theorem fin : PySem.Challenge.rw_pk0095_01.Holds := by
  refine holds_law said0 fun _ => top0 ?_
  intro w s₀ s₁ mg mb G Y fa o pm cd doc dV kV ho hd hcd hD hmg hg args vals as hpre hlay hrd hwl hlo
  have KX := km_in_of Y
  have hT8 := km_tabs_of Y
  refine Ground.open G ?_
  intro T B D TE TW
  have hM : Mods s₁.heap mg := by
    obtain ⟨bm, ob, M⟩ := bmod_of_top T
    exact ⟨bm, ob, M⟩
  wrow_args hpre hlay hrd hwl hlo
  first | refine callC_kw (enter_call ?_) | refine enter_call ?_ | refine callC_kw (enter_callW ?_) | refine enter_callW ?_ | w_how
  have e215 : fa = 215 := by
    have e0 : nsIn (top0.heap_1 w.params) mainGlobals "law" = some (some (.ref 215)) := by kernel_rfl
    have e1 := mg_of KX T.g e0
    have e2 : mg "law" = some (.ref fa) := hmg
    rw [e1] at e2
    cases e2
    rfl
  subst e215
  rename IntsAre _ _ => hI
  rename Heap.IsList _ _ _ => hL
  refine law_holds KX hT8 T hM hL hI (by omega) hg fun s' hold hG hos => ?_
  refine ⟨.inl ⟨.bool true, .bool true, [], rfl, ?_, .bool _, ?_, ?_⟩, hold, hos, hG⟩
  · intro cls
    first | rfl | exact raisesW_false (by wrow_none_raised) cls
  · first | rfl | kernel_rfl | wrow_post
  · exact fun _ => ⟨List.nodup_nil, fun a h => absurd h List.not_mem_nil⟩
end
end Mine
theorem PySem.Challenge.cw_pk0095_01_holds : PySem.Challenge.rw_pk0095_01.Holds := by
  exact Mine.fin

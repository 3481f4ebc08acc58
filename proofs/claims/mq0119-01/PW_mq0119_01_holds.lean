import PyProof.Rows.All
import Wide.All
import OpenK.AllK
import Wide.FinOn
import PySem.Challenge.RW_mq0119_01
set_option Elab.async false
set_option linter.all false
section
open PySem PySem.W PyProof.Rows
namespace Mine
local macro_rules | `(tactic| o_head ($_ $K $as $e $_)) => `(tactic| o_head ((kmHook $K $as $e) [56, 63, 123]))
set_option maxRecDepth 100000 in
set_option maxHeartbeats 8000000 in
open_top hd for PySem.Challenge.rw_mq0119_01

end Mine
end
open PySem.W in
theorem Mine.quiet : True := by
  w_top off
  trivial
section
open PySem PySem.W PyProof.Rows PySem.Calls
set_option maxRecDepth 100000
namespace Mine

/-- every object of h but those at W is in h' as it was -/
noncomputable def Ext (W : List Addr) (h h' : Heap) : Prop := ∀ b o, b ∉ W → h.get? b = some o → h'.get? b = some o
theorem Ext.refl (W : List Addr) (h : Heap) : Ext W h h := fun _ _ _ e => e
theorem Ext.trans {W : List Addr} {h h' h'' : Heap} (a : Ext W h h') (b : Ext W h' h'') : Ext W h h'' := fun x o hx e => b x o hx (a x o hx e)
theorem Ext.mono {W W' : List Addr} {h h' : Heap} (a : Ext W h h') (hs : ∀ b ∈ W, b ∈ W') : Ext W' h h' := fun x o hx e => a x o (fun q => hx (hs _ q)) e
/-- what a call of ours leaves -/
structure Post (W : List Addr) (s s' : Shared) : Prop where
  ext : Ext W s.heap s'.heap
  os : s'.os = s.os
  bare : AllBare s'.gens
  size : s.heap.objs.size ≤ s'.heap.objs.size
theorem Post.trans {W : List Addr} {s s' s'' : Shared} (a : Post W s s') (b : Post W s' s'') : Post W s s'' := ⟨a.ext.trans b.ext, b.os.trans a.os, b.bare, Nat.le_trans a.size b.size⟩
theorem Post.mono {W W' : List Addr} {s s' : Shared} (a : Post W s s') (hs : ∀ b ∈ W, b ∈ W') : Post W' s s' := ⟨a.ext.mono hs, a.os, a.bare, a.size⟩

theorem frExt {h₀ h h' : Heap} {L : Addr} {m : Str → Option Value} {W : List Addr} (F : Fr h₀ L h m) (E : Ext W h h') (hL : L ∉ W) (hW : ∀ b ∈ W, h₀.get? b = none) : Fr h₀ L h' m := by
  obtain ⟨oL, es, ep, hL', r⟩ := F.ns
  refine ⟨⟨oL, es, ep, E _ _ hL hL', r⟩, fun b o e => E b o (fun q => ?_) (F.keep b o e), F.above⟩
  rw [hW b q] at e; cases e
theorem newsExt {h₀ h h' : Heap} {L : Addr} {news : List (Addr × Obj)} {W : List Addr} (N : News h₀ L h news) (E : Ext W h h') (hW : ∀ p ∈ news, p.1 ∉ W) : News h₀ L h' news :=
  fun p hp => ⟨E _ _ (hW p hp) (N p hp).1, (N p hp).2⟩

section
variable {prog : Program} {w : World} {A₀ A : Around} {s : Shared} {base h₀ : Heap} {outer : List Env} {L : Addr} {m : Str → Option Value} {env : Env} {news : List (Addr × Obj)} {K : Frag}
  {Q E : Value → Shared → Prop} {p : Program} {loose : List Str} {mean : ExcName → Option Value} {mg mb : Str → Option Value} {name qual : Str} {params : Arguments} {body : List Stmt} {scope : Scope} {dV kV doc pm cdv ct oc : Value} {an od : Option Addr} {osl : Array (Option Value)} {f : Addr} {args : List Value} {kw : List (Str × Value)} {binds : List (Str × Value)}

/-- a call of a plain def: its frame, over the heap less the ledger's own objects -/
theorem enterE (B : Below A₀ base outer h₀) (F : Fr h₀ L s.heap m) (X₀ : K.In h₀) (N : News h₀ L s.heap news) (T : Top p loose mean mg mb h₀) (hA : A.frames = some (env :: outer)) (hf : env.frame = some L) (hke : env.scope.kind = .function)
    (ho : K.lookup f = some ⟨oc, od, .func (fnOf name qual params body scope dV kV doc pm an cdv ct), osl⟩) (hcd : codeIn K cdv qual = true) (hroom : A.depth < recursionLimit)
    (hbind : BindsTo s (fnOf name qual params body scope dV kV doc pm an cdv ct) ⟨args, kw⟩ binds) (hloc : ∀ y ∈ binds, scope.names.lookup y.1 = some .local)
    (h : ∀ g L' h₁, (∀ b o, b ∉ news.map (·.1) → s.heap.get? b = some o → g.get? b = some o) → s.heap.objs.size ≤ L' → (∀ p ∈ news, p.1 < L') → Fr g L' h₁ (fun y => binds.reverse.lookup y) → News g L' h₁ news → Below A base (env :: outer) g → K.In g → Top p loose mean mg mb g →
      wpAny (model prog w) (A.deeper (envOf qual scope L' f cdv)) (execs body (envOf qual scope L' f cdv))
        (fun fl s' => Q (match fl with | .ret v => v | _ => .none) s')
        (fun e s' => wpAny (model prog w) (A.deeper (envOf qual scope L' f cdv)) (leaving (envOf qual scope L' f cdv) e) (fun _ s'' => E e s'') (fun e' s'' => E e' s'') s')
        { s with heap := h₁, toks := s.toks + binds.length })
    (hco : scope.isCoroutine = false) (hgen : scope.isGenerator = false) (hk : scope.kind = .function)
    (hcell : ∀ x ∈ scope.names, x.2 ≠ .cell) : wpAny (model prog w) A (call (.ref f) args kw) Q E s := by
  refine wpAny_call ?_
  obtain ⟨FG, BG, st, lv⟩ := groundX (R := fun _ _ => True) B F N hA hf hke
  refine codeAny_call_def (fd := fnX name qual params body scope [] dV kV doc pm an cdv ct) (body := body) (binds := binds) hroom ((X₀.keeps F.keep) _ _ ho) rfl (T.nolimit.keeps F.keep) (codeRec_of (X₀.keeps F.keep) hcd) rfl hbind hcell hloc (fun h₁ hns hk₁ => ?_) hco hgen hk
  exact wpAny_mono (h _ s.heap.objs.size h₁ (fun b o hb e => hideAll_get _ e hb) (Nat.le_refl _) (fun p hp => Heap.lt_size (N p hp).1) ⟨hns, fun b o e => hk₁ b o (of_hideAll _ e), Nat.le_of_eq (hideAll_size _ _)⟩
    (fun p hp => ⟨hk₁ _ _ (N p hp).1, Nat.ne_of_lt (Heap.lt_size (N p hp).1), hideAll_none _ (List.mem_map_of_mem hp)⟩) BG (X₀.keeps st) (T.keeps st)) (fun fl s' hl => hl) fun _ _ y => y
end
end Mine
end
section
open PySem PySem.W PyProof.Rows PySem.Calls PySem.Builtin PySem.Builtin.List
set_option maxRecDepth 100000
namespace Mine

noncomputable abbrev accObj (dx : Addr) (vs : Array Value) (n : Nat) : Obj := ⟨.ref 94, some dx, .seq vs n, #[]⟩

section
variable {prog : Program} {w : World} {A : Around} {E : Value → Shared → Prop} {s : Shared} {K : Frag} {x C dx : Addr} {ox : Obj} {od : Option Obj} {vs : Array Value} {n : Nat} {sl : Array (Option Value)} {odx : Option Addr}

theorem acc_type {M : Model} {h : Heap} (hx : h.get? x = some ⟨.ref C, odx, .seq vs n, sl⟩) : Looks M h (typeOf (.ref x)) (.ref C) := (Looks.ld hx).andThen .now
theorem acc_inst {M : Model} {h : Heap} (X : K.In h) (hx : h.get? x = some ⟨.ref C, odx, .seq vs n, sl⟩) {base : Value} {r : Bool} (hm : mroIn K C base = some r) : Looks M h (isInstance (.ref x) base) r := (acc_type hx).andThen (looks_mroIn X hm)

theorem check_meth {M : Model} {i owner n : String} {self : Value} {rest : List Value} {Q : Unit → Shared → Prop}
    (hk : builtinKind i = some .method) (hs : splitId i = some (owner, n)) (hi : Looks M s.heap (isInstance self (.type owner)) true) (ha : argsOk i ⟨self :: rest, []⟩) (q : Q () s) :
    wpAny M A (checkBuiltinCall i ⟨self :: rest, []⟩) Q E s := by
  simp only [checkBuiltinCall, hk, hs]
  refine wpAny_bind (hi.here ?_)
  simp only [Bool.not_true, Bool.false_eq_true, if_false]
  cases hsig : Manifest.signature? i with
  | none => exact wpAny_pure q
  | some sig =>
    simp only [argsOk, hsig] at ha
    have h2 : Bind.checkArgs i sig ⟨self :: rest, []⟩ = pure () := ha
    show wpAny M A (Bind.checkArgs i sig ⟨self :: rest, []⟩) Q E s
    rw [h2]; exact wpAny_pure q

theorem call_meth_acc {i nm : String} {b : Builtin} {self : Value} {rest : List Value} {Q : Value → Shared → Prop} (hp : plainId i = true) (hb : entryFor table i = some b) (hk : builtinKind i = some .method) (hs : splitId i = some ("list", nm))
    (hi : Looks (model prog w) s.heap (isInstance self (.type "list")) true) (ha : argsOk i ⟨self :: rest, []⟩)
    (h : wpAny (model prog w) A.in1 (b ⟨self :: rest, []⟩) (fun fin s' => ∃ v, fin = .done (.ret v) ∧ Q v s') E s) : wpAny (model prog w) A (call (.builtin i) (self :: rest)) Q E s := by
  refine wpAny_call (codeAny_call_builtin hp hb (check_meth hk hs hi ha (wpAny_mono h (fun fin s' h' => ?_) fun _ _ h' => h')))
  obtain ⟨v, rfl, hv⟩ := h'; exact hv
theorem call_slot_acc {i nm : String} {b : Builtin} {self : Value} {rest : List Value} {Q : Value → Shared → Prop} (hp : plainId i = true) (hb : entryFor table i = some b) (hk : builtinKind i = some .slot) (hs : splitId i = some ("list", nm))
    (hi : Looks (model prog w) s.heap (isInstance self (.type "list")) true) (ha : argsOk i ⟨self :: rest, []⟩)
    (h : wpAny (model prog w) A.in1 (b ⟨self :: rest, []⟩) (fun fin s' => ∃ v, fin = .done (.ret v) ∧ Q v s') E s) : wpAny (model prog w) A (call (.builtin i) (self :: rest)) Q E s := by
  refine wpAny_call (codeAny_call_builtin hp hb (check_slot hk hs hi ha (wpAny_mono h (fun fin s' h' => ?_) fun _ _ h' => h')))
  obtain ⟨v, rfl, hv⟩ := h'; exact hv

theorem canon_list_ga : (Manifest.canonical "list.__getattribute__" != "object.__getattribute__") = false := by decide +kernel
theorem getMethod_acc {name : Str} {f : Value} {ty : String} {pl : Sem Bool} {Q : Value × List Value → Shared → Prop} {es : List DictEntry} {ne : Nat} (X : K.In s.heap) (I : InstAt s.heap x ox C (some (dictOf es ne)))
    (hga : findIn K (.ref C) "__getattribute__" = some (some (.builtin "list.__getattribute__"))) (hk : findIn K (.ref C) "__getattr__" = some none)
    (hf : findIn K (.ref C) name = some (some f)) (ht : typeIn K f = some (.type ty)) (hty : (ty == "function" || ty == "method_descriptor" || ty == "wrapper_descriptor") = true)
    (hl : getL name es = some none) (h : Q (f, [.ref x]) s) : wpAny (model prog w) A (getMethod (.ref x) name pl) Q E s := by
  unfold getMethod specialOf
  refine wpAny_bind (wpAny_bind (I.type.here ((looks_findIn X hga).here ?_)))
  dsimp only
  rw [canon_list_ga, if_neg (by decide)]
  refine wpAny_bind (wpAny_bind (I.type.here ((looks_findIn X hk).here ?_)))
  refine wpAny_bind (wpAny_bind (I.type.here ((looks_findIn X hf).here (wpAny_bind ((looks_typeIn X ht).here ?_)))))
  rw [if_neg (by
    simp only [Bool.or_eq_true, beq_iff_eq] at hty
    rcases hty with (rfl | rfl) | rfl <;> decide +kernel)]
  refine wpAny_bind (wpAny_loadPart I.at_ ?_)
  have hd := I.dict
  cases e : ox.dict with
  | none => exact wpAny_bind (wpAny_rule (wpAny_pure h))
  | some dx =>
    rw [e] at hd
    refine wpAny_bind (wpAny_bind (wpAny_loadPart hd ?_))
    rw [nsLook_of (show lookIn name (dictOf es ne) = some none from hl)]
    exact wpAny_pure (wpAny_bind (wpAny_rule (wpAny_pure h)))
end

namespace FF
theorem plain_append : plainId "list.append" = true := by decide +kernel
theorem kind_append : builtinKind "list.append" = some .method := by decide +kernel
theorem split_append : splitId "list.append" = some ("list", "append") := by decide +kernel
theorem entry_append : entryFor table "list.append" = some Builtin.«list.append» := entryFor_of_tree (by kernel_rfl)
theorem args_append (a b : Value) : argsOk "list.append" ⟨[a, b], []⟩ := by unfold argsOk; kernel_rfl
end FF

section
variable {prog : Program} {w : World} {A : Around} {E : Value → Shared → Prop} {s : Shared} {K : Frag} {x C dx : Addr} {vs : Array Value} {n : Nat} {sl : Array (Option Value)} {odx : Option Addr}
theorem acc_append {v : Value} {Q : Value → Shared → Prop} (X : K.In s.heap) (hx : s.heap.get? x = some ⟨.ref C, odx, .seq vs n, sl⟩) (hm : mroIn K C (.type "list") = some true) (hsz : vs.size ≤ sizeLine)
    (hQ : ∀ h', h'.get? x = some ⟨.ref C, odx, .seq (vs.push v) (n + 1), sl⟩ → Heap.SameBut x s.heap h' → Q .none { s with heap := h' }) :
    wpAny (model prog w) A (call (.builtin "list.append") [.ref x, v]) Q E s := by
  refine call_meth_acc FF.plain_append FF.entry_append FF.kind_append FF.split_append (acc_inst X hx hm) (FF.args_append _ _) ?_
  show wpAny _ _ (updateSeq x (·.push v) >>= fun _ => ret .none) _ _ s
  refine wpAny_bind (wpAny_updateSeq hx rfl (wpAny_pure ⟨.none, rfl, hQ _ ?_ (Heap.SameBut.update ..)⟩))
  rw [Heap.get?_update_self _ hx (by simp [Obj.mapSeq, Obj.isFreed])]
  simp [Obj.mapSeq]
end
end Mine
end
section
open PySem PySem.W PyProof.Rows PySem.Calls PySem.Builtin PySem.Builtin.List
set_option maxRecDepth 100000
namespace Mine

theorem instAcc {h₀ h : Heap} {L x dx : Addr} {vs : Array Value} {n : Nat} {news : List (Addr × Obj)} {od : Obj} (N : News h₀ L h news) (h1 : (x, accObj dx vs n) ∈ news) (h2 : (dx, od) ∈ news) : InstAt h x (accObj dx vs n) 94 (some od) :=
  ⟨(N _ h1).1, rfl, rfl, (N _ h2).1⟩
theorem updSame {h₀ h h' : Heap} {L d : Addr} {m : Str → Option Value} {news news' : List (Addr × Obj)} {o o' : Obj} (F : Fr h₀ L h m) (N : News h₀ L h news) (U : Upd d o o' news news') (hs : Heap.SameBut d h h') (hd : h'.get? d = some o') :
    Fr h₀ L h' m ∧ News h₀ L h' news' := by
  obtain ⟨pre, post, rfl, rfl, h1, h2⟩ := U.split
  have D := N (d, o) (by simp)
  obtain ⟨oL, es, ep, hL, r⟩ := F.ns
  refine ⟨⟨⟨oL, es, ep, (hs.2 L (Ne.symm D.2.1)).trans hL, r⟩, fun b ob q => (hs.2 b fun z => ?_).trans (F.keep b ob q), F.above⟩, fun p hp => ?_⟩
  · have := D.2.2; rw [← z, q] at this; cases this
  · rcases List.mem_append.mp hp with q | q
    · have P := N p (List.mem_append_left _ q); exact ⟨(hs.2 _ (h1 p q)).trans P.1, P.2⟩
    · rcases List.mem_cons.mp q with rfl | q
      · exact ⟨hd, D.2⟩
      · have P := N p (List.mem_append_right _ (.tail _ q)); exact ⟨(hs.2 _ (h2 p q)).trans P.1, P.2⟩
theorem updMem {d : Addr} {o o' : Obj} {news news' : List (Addr × Obj)} (U : Upd d o o' news news') : (d, o) ∈ news := by
  obtain ⟨pre, post, rfl, rfl, h1, h2⟩ := U.split
  simp

section
variable {prog : Program} {w : World} {A : Around} {E : Value → Shared → Prop} {s : Shared} {K : Frag} {x dx L : Addr} {h₀ : Heap} {m : Str → Option Value} {vs : Array Value} {n : Nat} {news news' : List (Addr × Obj)}
theorem acc_append_K {v : Value} {Q : Value → Shared → Prop} (F : Fr h₀ L s.heap m) (X₀ : K.In h₀) (N : News h₀ L s.heap news) (U : Upd x (accObj dx vs n) (accObj dx (vs.push v) (n + 1)) news news') (hm : mroIn K 94 (.type "list") = some true) (hsz : vs.size ≤ sizeLine)
    (h : ∀ h', Fr h₀ L h' m → News h₀ L h' news' → Q .none { s with heap := h' }) : wpAny (model prog w) A (call (.builtin "list.append") [.ref x, v]) Q E s :=
  acc_append (X₀.keeps F.keep) (N _ (updMem U)).1 hm hsz fun h' hx hs => let ⟨F', N'⟩ := updSame F N U hs hx; h h' F' N'
end
end Mine
end
section
open PySem PySem.W PyProof.Rows PySem.Calls PySem.Builtin PySem.Builtin.List
set_option maxRecDepth 100000
namespace Mine

/-- an object that holds a row of items, whatever its class -/
noncomputable def SeqAt (h : Heap) (a : Addr) (items : Array Value) : Prop := ∃ o n, h.get? a = some o ∧ o.data = .seq items n
theorem SeqAt.at {h h' : Heap} {a : Addr} {items : Array Value} (x : SeqAt h a items) (k : ∀ o, h.get? a = some o → h'.get? a = some o) : SeqAt h' a items := let ⟨o, n, e, r⟩ := x; ⟨o, n, k o e, r⟩
theorem SeqAt.lt {h : Heap} {a : Addr} {items : Array Value} (x : SeqAt h a items) : a < h.objs.size := let ⟨_, _, e, _⟩ := x; Heap.lt_size e

section
variable {prog : Program} {w : World} {A : Around} {E : Value → Shared → Prop} {s : Shared}
theorem next_item {it l : Addr} {i : Nat} {items : Array Value} {x : Value} {Q : Option Value → Shared → Prop} (hit : s.heap.IsListIter it l i) (hl : SeqAt s.heap l items) (hx : items[i]? = some x)
    (hQ : ∀ h', h'.IsListIter it l (i + 1) → Heap.SameBut it s.heap h' → Q (some x) { s with heap := h' }) : wpAny (model prog w) A (pyNext (.ref it)) Q E s := by
  obtain ⟨o, ho, hc, hd⟩ := id hit
  obtain ⟨ol, nl, hol, hdl⟩ := hl
  unfold pyNext
  refine wpAny_bind (wpAny_attempt (wpAny_callSpecial?_slot (name := Str.ofString "__next__") hit.typeIs slot_listiter_next (wpAny_call_entry slot_listiter_next hit.typeIs entry_listiter_next ?_ (args_listiter_next _))))
  show wpAny _ _ (field (.ref it) 0 >>= _) _ _ s
  refine wpAny_bind (wpAny_field ho hd (x := .ref l) rfl ?_)
  show wpAny _ _ (field (.ref it) 1 >>= _) _ _ s
  refine wpAny_bind (wpAny_field ho hd (x := .int i 0) rfl ?_)
  show wpAny _ _ (seqItems? (.ref l) >>= _) _ _ s
  refine wpAny_bind (wpAny_seqItems hol hdl ?_)
  simp only [Int.toNat_natCast, hx]
  refine wpAny_bind (wpAny_setField ho hd (by simp) (wpAny_pure ⟨x, rfl, wpAny_pure (hQ _ ?_ (Heap.SameBut.update ..))⟩))
  exact ⟨_, Heap.get?_update_self _ ho (Obj.isFreed_of_fields (Obj.data_mapFields hd _)), (Obj.cls_mapFields ..).trans hc, by rw [Obj.data_mapFields hd]; simp [rawInt]⟩
theorem next_end {it l : Addr} {i : Nat} {items : Array Value} {Q : Option Value → Shared → Prop} (hh : A.handled = none) (hit : s.heap.IsListIter it l i) (hl : SeqAt s.heap l items) (hx : items[i]? = none)
    (hQ : ∀ h', Heap.ExtBut it s.heap h' → s.heap.objs.size ≤ h'.objs.size → Q none { s with heap := h' }) : wpAny (model prog w) A (pyNext (.ref it)) Q E s := by
  obtain ⟨o, ho, hc, hd⟩ := id hit
  obtain ⟨ol, nl, hol, hdl⟩ := hl
  unfold pyNext
  refine wpAny_bind (wpAny_attempt (wpAny_callSpecial?_slot (name := Str.ofString "__next__") hit.typeIs slot_listiter_next (wpAny_call_entry slot_listiter_next hit.typeIs entry_listiter_next ?_ (args_listiter_next _))))
  show wpAny _ _ (field (.ref it) 0 >>= _) _ _ s
  refine wpAny_bind (wpAny_field ho hd (x := .ref l) rfl ?_)
  show wpAny _ _ (field (.ref it) 1 >>= _) _ _ s
  refine wpAny_bind (wpAny_field ho hd (x := .int i 0) rfl ?_)
  show wpAny _ _ (seqItems? (.ref l) >>= _) _ _ s
  refine wpAny_bind (wpAny_seqItems hol hdl ?_)
  simp only [Int.toNat_natCast, hx]
  refine wpAny_bind (wpAny_rule (wpAny_bind (wpAny_setField ho hd (by simp) ?_)))
  show wpAny _ _ (newExc (.type "StopIteration") [] >>= _) _ _ _
  refine wpAny_bind ?_
  simp only [newExc, newTuple]
  refine wpAny_bind (wpAny_newObj_type ?_ (by size_fits))
  refine wpAny_bind (m := firstArgMember _ _) (wpAny_of_eq (a := Value.none) (by first | rfl | (simp only [firstArgMember]; rfl)) ?_)
  refine wpAny_newObj_type ?_ (by size_fits)
  simp only [raiseNew]
  refine wpAny_bind (wpAny_handled ?_)
  rw [show A.in1.handled = none from hh]
  refine wpAny_bind (wpAny_pure (wpAny_throw ?_))
  refine wpAny_bind (wpAny_isInstance (T := "StopIteration") (b := true) ⟨_, Heap.get?_push_size _ rfl, rfl⟩ isSubtype_stop ?_)
  refine wpAny_pure (hQ _ (((Heap.SameBut.update ..).extBut.push _).push _) ?_)
  rw [Heap.size_push, Heap.size_push, (Heap.SameBut.update ..).1]
  omega

theorem seqTuples (hh : A.handled = none) (I ax : Addr) (hne : ax ≠ I) (items : Array Value) (Ts : Nat → Addr) (vals : Nat → Array Value)
    (hit : ∀ j, j < items.size → items[j]? = some (.ref (Ts j))) (hTI : ∀ j, j < items.size → Ts j ≠ I) :
    WalksU prog w A I (I :: ax :: (List.range items.size).map Ts) [I] items.size (fun j v => v = vals j)
      (fun j h => h.IsListIter I ax j ∧ SeqAt h ax items ∧ ∀ k, k < items.size → h.IsTuple (Ts k) (vals k))
      (fun j T h => (j < items.size ∧ T = Ts j) ∧ h.IsListIter I ax (j + 1) ∧ SeqAt h ax items ∧ ∀ k, k < items.size → h.IsTuple (Ts k) (vals k)) where
  sub := fun b hb => by simp at hb; simp [hb]
  frame := fun _ _ _ st hk => ⟨st.1.at fun o e => hk I (by simp) o e, st.2.1.at fun o e => hk ax (by simp) o e,
    fun k hk' => (st.2.2 k hk').at fun o e => hk (Ts k) (List.mem_cons_of_mem _ (List.mem_cons_of_mem _ (List.mem_map.mpr ⟨k, List.mem_range.mpr hk', rfl⟩))) o e⟩
  item := fun i s Q E hi st hQ => by
    refine next_item st.1 st.2.1 (x := .ref (Ts i)) (hit i hi) fun h' hit' hs' => ?_
    have tup : ∀ k, k < items.size → h'.IsTuple (Ts k) (vals k) := fun k hk' => (st.2.2 k hk').extBut hs'.extBut (hTI k hk')
    exact hQ (Ts i) (vals i) h' s.toks rfl (tup i hi) ⟨⟨hi, rfl⟩, hit', st.2.1.at fun o e => hs'.extBut _ o hne e, tup⟩ fun b o hb e => hs'.extBut b o (fun h => hb (by simp [h])) e
  go := fun _ _ _ _ _ s Q _ hm hQ => wpAny_letOwnedTupleGo_listiter hm.2.1 (hQ s.heap hm.2 fun _ _ _ e => e)
  apart := fun j T _ hm hmem => by
    rcases List.mem_cons.mp hmem with e | e
    · exact hTI j hm.1.1 (hm.1.2 ▸ e)
    · cases e
  done := fun s Q E st hQ => next_end hh st.1 st.2.1 (by simp) fun h' he' _ => hQ h' s.toks fun b o hb e => he' b o (fun h => hb (by simp [h])) e
  self := fun _ _ _ _ st hQ => wpAny_pyIter_listiter st.1 hQ
end

namespace FF
theorem plain_iter : plainId "list.__iter__" = true := by decide +kernel
theorem kind_iter : builtinKind "list.__iter__" = some .slot := by decide +kernel
theorem split_iter : splitId "list.__iter__" = some ("list", "__iter__") := by decide +kernel
theorem entry_iter : entryFor table "list.__iter__" = some Builtin.«list.__iter__» := entryFor_of_tree (by kernel_rfl)
theorem args_iter (a : Value) : argsOk "list.__iter__" ⟨[a], []⟩ := by unfold argsOk; kernel_rfl
theorem bind_iter (self : Value) : bindSpecial (.builtin "list.__iter__") self = pure (.builtin "list.__iter__", [self]) := slot_list_iter.bind self
end FF
noncomputable abbrev iterObj (l : Addr) (i : Nat) : Obj := { cls := .type "list_iterator", data := .fields #[.ref l, .int i 0] }

section
variable {prog : Program} {w : World} {A : Around} {E : Value → Shared → Prop} {s : Shared} {K : Frag} {x C : Addr} {vs : Array Value} {n : Nat} {sl : Array (Option Value)} {odx : Option Addr}
theorem iter_acc {Q : Value → Shared → Prop} (X : K.In s.heap) (hx : s.heap.get? x = some ⟨.ref C, odx, .seq vs n, sl⟩) (hm : mroIn K C (.type "list") = some true) (hf : findIn K (.ref C) "__iter__" = some (some (.builtin "list.__iter__")))
    (hQ : Q (.ref s.heap.objs.size) { s with heap := s.heap.push (iterObj x 0) }) : wpAny (model prog w) A (pyIter (.ref x)) Q E s := by
  have L := acc_type (M := model prog w) hx
  have F := looks_findIn (M := model prog w) X hf
  have S : Looks (model prog w) s.heap (specialOf (.ref x) "__iter__") (some (.builtin "list.__iter__")) := L.andThen F
  unfold pyIter
  refine wpAny_bind (S.here ?_)
  show wpAny _ _ (callSpecialIfBoundUnlessNone? (.ref x) "__iter__" _ >>= _) Q E s
  refine wpAny_bind ?_
  simp only [callSpecialIfBoundUnlessNone?, bindSpecialIfBound?]
  refine wpAny_holding (wpAny_bind (wpAny_bind (S.here ?_)))
  simp only [FF.bind_iter]
  refine wpAny_bind (wpAny_askSetting (wpAny_ite ?_))
  have fin : wpAny (model prog w) A (call (.builtin "list.__iter__") [.ref x]) (fun v s' => wpAny (model prog w) A (match (some v : Option Value) with
      | some it => do
        match ← specialOf it "__next__" with
        | none => rule "iter.non-iterator"; raiseError "TypeError" s!"iter() returned non-iterator of type '{← typeNameOf it}'"
        | some _ => pure it
      | none => do
        match ← bindSpecialIfBound? (.ref x) "__getitem__" with
        | none => rule "iter.not-iterable"; raiseError "TypeError" s!"'{← typeNameOf (.ref x)}' object is not iterable"
        | some _ => rule "iter.getitem-fallback"; newFields "iterator" [(.ref x), ← mkInt 0]) Q E s') E s := by
    refine call_slot_acc FF.plain_iter FF.entry_iter FF.kind_iter FF.split_iter (acc_inst X hx hm) (FF.args_iter _) ?_
    show wpAny _ _ (do ret (← newFields "list_iterator" [.ref x, rawInt 0])) _ _ s
    refine wpAny_bind (wpAny_newObj_type (wpAny_pure ⟨_, rfl, ?_⟩) (by size_fits))
    refine wpAny_bind (wpAny_specialOf (T := "list_iterator") ⟨_, Heap.get?_push_size _ rfl, rfl⟩ slot_listiter_next.lookup (wpAny_pure hQ))
  split
  · refine wpAny_bind (wpAny_pure (wpAny_pure ?_))
    simp only [show (Value.builtin "list.__iter__" == Value.none) = false from rfl, Bool.false_eq_true, if_false]
    exact wpAny_bind (wpAny_mono fin (fun v s' h => wpAny_pure h) fun _ _ e => e)
  · refine wpAny_tryCatch (wpAny_bind (wpAny_pure (wpAny_pure ?_)))
    simp only [show (Value.builtin "list.__iter__" == Value.none) = false from rfl, Bool.false_eq_true, if_false]
    exact wpAny_bind (wpAny_mono fin (fun v s' h => wpAny_pure h) fun _ _ e => e)
end
end Mine
end
section
open PySem PySem.W PyProof.Rows PySem.Calls PySem.Builtin PySem.Builtin.List
set_option maxRecDepth 100000
namespace Mine

theorem passing_all (n : Nat) : passing (fun _ => true) n 0 = List.range n := by simp [passing]

section
variable {prog : Program} {w : World} {A : Around} {E : Value → Shared → Prop} {s : Shared}
/-- the code of a generator expression: found in its text's table, or laid there -/
theorem code_tab {env : Env} {c P : Addr} {ps : Array Value} {pos : Pos} {qualname : Str} {scope : Scope} {M : Model} {Q : Value → Shared → Prop} (hc : env.code = .ref c) (C : CodeHd s.heap c P) (hP : s.heap.get? P = some (tabObj ps)) (ht : TriplesOk ps.toList)
    (hQ : ∀ code h' tk ps', Heap.ExtBut P s.heap h' → s.heap.objs.size ≤ h'.objs.size → h'.get? P = some (tabObj ps') → TriplesOk ps'.toList → Q code { s with heap := h', toks := tk }) :
    wpAny M A (genexprCode env pos qualname scope) Q E s := by
  cases hf : codeAmong pos ps.toList with
  | some cv => exact wpAny_genexprCode_hit hc (C.code hP ht) hf (hQ cv s.heap s.toks ps (Heap.ExtBut.refl _ _) (Nat.le_refl _) hP ht)
  | none =>
    refine wpAny_genexprCodeX hc (C.code hP ht) (C.tab hP) hf fun c' h' tk hx hge hlt hok _ htab _ => ?_
    refine hQ _ h' tk _ hx (Nat.le_of_lt (Nat.lt_of_le_of_lt hge hlt)) htab.2 ?_
    obtain ⟨_, _, _, _, _, _, _, _, _, op, _, _, _, _, _, _, _, hop, hpd, htr, _⟩ := hok
    rw [htab.2] at hop; cases hop; cases hpd; exact htr

/-- what the making of a generator over a row of pairs leaves -/
structure GenMade (prog : Program) (w : World) (A : Around) (P : Addr) (s : Shared) (n : Nat) (F : Nat → Value → Prop) (a : Addr) (s₅ : Shared) : Prop where
  ext : Heap.ExtBut P s.heap s₅.heap
  size : s.heap.objs.size ≤ s₅.heap.objs.size
  new : s.heap.get? a = none
  tab : ∃ ps', s₅.heap.get? P = some (tabObj ps') ∧ TriplesOk ps'.toList
  os : s₅.os = s.os
  bare : AllBare s.gens → AllBare s₅.gens
  gen : Gen prog w A (s.heap.objs.size - 1) a n F s₅

theorem gen_acc {env : Env} {elt iter : Expr} {xa xb : Str} {pa pb pt : Pos} {kt : Nat} {scope : Scope} {pos : Pos} {Q : Value → Shared → Prop} {K : Frag} {x C dx bm : Addr} {ob : Obj} {mg : Str → Option Value} {vs : Array Value} {nn : Nat} {sl : Array (Option Value)} {c P : Addr} {ps : Array Value}
    (Ts : Nat → Addr) (va vb : Nat → Value) (F : Nat → Value → Prop)
    (hh : A.handled = none) (hco : scope.isCoroutine = false) (hclos : closureFor scope env = pure []) (hcell : ∀ y ∈ scope.names, y.2 ≠ .cell) (h0 : scope.names.lookup (".0" : Str) = some NameKind.local)
    (hxa : scope.names.lookup xa = some .local) (hxb : scope.names.lookup xb = some .local) (hab : xa ≠ xb) (hkind : scope.kind = .function) (hroom : A.depth < recursionLimit)
    (hs : ∀ x, genFold iter env x = pure x)
    (hiter : ∀ Q' : Value → Shared → Prop, Q' (.ref x) s → wpAny (model prog w) A (eval iter env) Q' E s)
    (X : K.In s.heap) (hx : s.heap.get? x = some ⟨.ref C, some dx, .seq vs nn, sl⟩) (hm : mroIn K C (.type "list") = some true) (hf : findIn K (.ref C) "__iter__" = some (some (.builtin "list.__iter__")))
    (hT : ∀ j, j < vs.size → vs[j]? = some (.ref (Ts j)) ∧ s.heap.IsTuple (Ts j) #[va j, vb j])
    (hlim : s.heap.NoLimit) (hcode : env.code = .ref c) (CH : CodeHd s.heap c P) (hP : s.heap.get? P = some (tabObj ps)) (ht : TriplesOk ps.toList) (BM : BMod s.heap env.globals mg bm ob)
    (helt : ∀ (C' : Addr) (code : Value) (A' : Around) E' i (s₂ : Shared) m₂, A'.handled = none → A'.depth ≤ A.depth + 1 → A'.units ≤ A.units + 8 → i < vs.size → s₂.heap.Ns C' m₂ → m₂ xa = some (va i) → m₂ xb = some (vb i) →
      (∀ b o, b ≠ P → s.heap.get? b = some o → s₂.heap.get? b = some o) → wpAny (model prog w) A' (eval elt (genEnv scope [] C' code builtinsNs env)) (fun y s₃ => F i y ∧ Keeps s₂ s₃) E' s₂)
    (hQ : ∀ a s₅, GenMade prog w A P s vs.size F a s₅ → Q (.ref a) s₅) :
    wpAny (model prog w) A (eval (.GeneratorExp elt [⟨.Tuple [.Name xa pa, .Name xb pb] kt pt, iter, [], 0⟩] scope pos) env) Q E s := by
  have hxP : x ≠ P := fun e => by rw [e, hP] at hx; cases hx
  have hTP : ∀ j, j < vs.size → Ts j ≠ P := fun j hj e => by
    obtain ⟨o, ho, hc, _⟩ := (hT j hj).2
    rw [e, hP] at ho; cases ho; cases hc
  have hTlt : ∀ j, j < vs.size → Ts j < s.heap.objs.size := fun j hj => by obtain ⟨_, e, _⟩ := (hT j hj).2; exact Heap.lt_size e
  have hcP : cStatics ≠ P := fun e => by
    obtain ⟨_, hns, _⟩ := id hlim
    obtain ⟨o, es, ep, ho, hd, _⟩ := hns
    rw [e, hP] at ho; cases ho; cases hd
  have hclt : cStatics < s.heap.objs.size := let ⟨_, hn, _⟩ := hlim; hn.lt
  refine wpAny_GeneratorExp_walksQTD hh hco hclos hcell h0 hxa hxb hab hkind hroom (hiter _ (iter_acc X hx hm hf ⟨hlim.push _, ?_⟩)) hs
  have kp : ∀ b o, s.heap.get? b = some o → (s.heap.push (iterObj x 0)).get? b = some o := fun b o e => Heap.get?_push_of_some _ e
  refine code_tab (s := { s with heap := s.heap.push (iterObj x 0) }) hcode (CH.keeps kp) (kp _ _ hP) ht fun code h₃ tk ps' hx₃ hsz₃ hP₃ ht₃ => ?_
  have hI : h₃.get? s.heap.objs.size = some (iterObj x 0) := hx₃ _ _ (fun e => Nat.lt_irrefl _ (e ▸ Heap.lt_size hP)) (Heap.get?_push_size _ rfl)
  have BM₃ : BMod h₃ env.globals mg bm ob := (BM.keeps kp).extBut ((CH.keeps kp).tab (kp _ _ hP)) hx₃
  refine wpAny_builtinsFor BM₃.ns BM₃.name BM₃.ne BM₃.obj BM₃.cls BM₃.dict BM₃.data ?_
  have k₃ : ∀ b o, b ≠ P → s.heap.get? b = some o → h₃.get? b = some o := fun b o hb e => hx₃ b o hb (kp b o e)
  have hsz : s.heap.objs.size < h₃.objs.size := Heap.lt_size hI
  have W := fun (A' : Around) (hA : A'.handled = none) => (seqTuples (prog := prog) (w := w) hA s.heap.objs.size x (Nat.ne_of_lt (Heap.lt_size hx)) vs Ts (fun j => #[va j, vb j]) (fun j hj => (hT j hj).1) fun j hj => Nat.ne_of_lt (hTlt j hj)).bound
  refine ⟨s.heap.objs.size, _, _, vs.size, _, _, _, (fun _ => true), F, rfl, W, (fun i v hv => ⟨_, _, hv.2⟩), ⟨⟨_, hI, rfl, rfl⟩, ⟨_, _, k₃ _ _ hxP hx, rfl⟩, fun k hk => ?_⟩, ?_, ?_, ?_, ?_, ?_⟩
  · obtain ⟨o, ho, r⟩ := (hT k hk).2
    exact ⟨o, k₃ _ _ (hTP k hk) ho, r⟩
  · intro b hb
    show b < h₃.objs.size
    rcases List.mem_cons.mp hb with rfl | hb
    · exact hsz
    · rcases List.mem_cons.mp hb with rfl | hb
      · exact Nat.lt_trans (Heap.lt_size hx) hsz
      · obtain ⟨k, hk, rfl⟩ := List.mem_map.mp hb
        exact Nat.lt_trans (hTlt k (List.mem_range.mp hk)) hsz
  · exact (hlim.push _).extBut hx₃ hcP
  · intro hmem
    rcases List.mem_cons.mp hmem with e | e
    · exact absurd hclt (by rw [e]; exact Nat.lt_irrefl _)
    · cases e
  · intro href hhref
    refine ⟨fun A' E' i a b s₂ m₂ _ _ _ _ _ _ _ _ => ?_, fun A' E' i a b s₂ m₂ h1 h2 h3 hp _ hn ha hb hk => ?_⟩
    · rw [List.forIn_nil]
      exact wpAny_pure ⟨rfl, s₂.heap, s₂.toks, rfl, fun _ _ e => e⟩
    · obtain ⟨hi, e⟩ := hp
      obtain ⟨e1, e2⟩ : a = va i ∧ b = vb i := by simpa using congrArg Array.toList e
      subst e1 e2
      refine helt _ code A' E' i s₂ m₂ h1 h2 h3 hi hn ha hb fun b o hb e => ?_
      have e3 := k₃ b o hb e
      refine hk b (List.mem_range.mpr (Heap.lt_size e3)) (fun hm => ?_) o (hhref _ _ e3)
      rcases List.mem_cons.mp hm with rfl | hm
      · exact absurd (Heap.lt_size e) (Nat.lt_irrefl _)
      · cases hm
  · intro a h₅ tk₅ gs hgb hag hsz₅ hk₅ WS hat
    rw [passing_all] at WS
    refine hQ a _ ⟨fun b o hb e => hk₅ _ _ (k₃ b o hb e), ?_, ?_, ⟨ps', hk₅ _ _ hP₃, ht₃⟩, rfl, fun hb => hb.push hgb, ?_⟩
    · show s.heap.objs.size ≤ h₅.objs.size
      rw [hsz₅]
      exact Nat.le_of_lt (Nat.lt_trans hsz (Nat.lt_trans hag (Nat.lt_succ_self _)))
    · cases e : s.heap.get? a with
      | none => rfl
      | some o =>
        exact absurd (Heap.lt_size e) (Nat.not_lt.mpr (Nat.le_of_lt (Nat.lt_trans hsz hag)))
    · refine ⟨_, _, _, _, ⟨WS.sub, WS.grefl, WS.gtrans, WS.frame, fun i s Q E hi st hQ => ?_, fun s Q E st hQ => ?_, WS.self⟩, hat, (fun i s' st => st.1.typeIs), List.mem_cons_self, ?_, ?_⟩
      · refine WS.item i s Q E (by simpa using hi) st fun v s' hv => ?_
        obtain ⟨i', he, hF⟩ := hv
        have : i' = i := by
          rw [List.getElem?_range hi] at he
          exact (Option.some.inj he).symm
        subst this
        exact hQ v s' hF
      · exact WS.done s Q E (by simpa using st) hQ
      · intro b hb
        show b < h₅.objs.size
        rw [hsz₅]
        rcases List.mem_cons.mp hb with rfl | hb
        · exact Nat.lt_succ_self _
        · rcases List.mem_cons.mp hb with e | hb
          · rw [e]; exact Nat.lt_trans hag (Nat.lt_succ_self _)
          · exact Nat.lt_trans (List.mem_range.mp hb) (Nat.lt_trans hag (Nat.lt_succ_self _))
      · have hpos : s.heap.objs.size - 1 < s.heap.objs.size := Nat.sub_lt (Nat.lt_of_le_of_lt (Nat.zero_le _) hclt) Nat.one_pos
        intro b hb
        rcases List.mem_cons.mp hb with e | hb
        · rw [e]; exact Nat.lt_trans hpos hsz
        · rcases List.mem_cons.mp hb with rfl | hb
          · exact hpos
          · cases hb

/-- a walk whose places are counted from one -/
theorem walkShift {A : Around} {I : Addr} {fp wr : List Addr} {G : Array GenState → Array GenState → Prop} {n : Nat} {P : Nat → Value → Prop} {St : Nat → Shared → Prop} (W : WalksS prog w A I fp wr G n P St) :
    WalksS prog w A I fp wr G (n + 1) (fun i v => ∃ j, i = j + 1 ∧ P j v) (fun i s => ∃ j, i = j + 1 ∧ St j s) where
  sub := W.sub
  grefl := W.grefl
  gtrans := W.gtrans
  frame := fun i s h' tk ⟨j, e, st⟩ a b => ⟨j, e, W.frame j s h' tk st a b⟩
  item := fun i s Q E hi ⟨j, e, st⟩ hQ => by
    subst e
    exact W.item j s Q E (Nat.lt_of_succ_lt_succ hi) st fun v s' hp hs hm => hQ v s' ⟨j, rfl, hp⟩ ⟨j + 1, rfl, hs⟩ hm
  done := fun s Q E ⟨j, e, st⟩ hQ => by
    cases e
    exact W.done s Q E st hQ
  self := fun i s Q E ⟨j, _, st⟩ h => W.self j s Q E st h
noncomputable def valFrom (f : Int) (val : Nat → Int) : Nat → Int
  | 0 => f
  | j + 1 => val j
theorem preSum_from (f : Int) (val : Nat → Int) : ∀ n, preSum (valFrom f val) (n + 1) = f + preSum val n
  | 0 => by simp [preSum, valFrom]
  | n + 1 => by rw [preSum, preSum_from f val n]; simp [preSum, valFrom, Int.add_assoc]

theorem args_sum2 (a b : Value) : argsOk "sum" ⟨[a, b], []⟩ := by unfold argsOk; kernel_rfl
theorem sum_from {h₀ : Heap} {L K a : Addr} {m : Str → Option Value} {n : Nat} {F : Nat → Value → Prop} {Q : Value → Shared → Prop} {f : Int} {tf : Tok} (Fh : Fr h₀ L s.heap m) (G : AllBare s.gens) (X : Gen prog w A K a n F s) (hLK : L ≤ K) (val : Nat → Int) (hval : ∀ j v, F j v → ∃ t, v = .int (val j) t)
    (hQ : ∀ s' t', Fr h₀ L s'.heap m → AllBare s'.gens → s'.os = s.os → (∀ b o, b ≤ K → s.heap.get? b = some o → s'.heap.get? b = some o) → Q (.int (f + preSum val n) t') s') :
    wpAny (model prog w) A (call (.builtin "sum") [.ref a, .int f tf]) Q E s := by
  obtain ⟨fp, wr, g, St, W, hst, _, _, hfp, hwr⟩ := X
  have W := W.in4_1
  refine call_function_tree PySem.F.kind_sum PySem.F.plain_sum PySem.F.entry_sum (args_sum2 _ _) ?_
  unfold Builtin.«sum»
  simp only [List.length_cons, List.length_nil]
  rw [if_neg (by decide)]
  refine wpAny_bind (wpAny_of_eq (show Builtin.Builtins.bindParams "sum" ["start"] 0 ⟨[.int f tf], []⟩ = pure [some (.int f tf)] from rfl) ?_)
  refine wpAny_bind (W.self 0 _ _ _ hst ?_)
  have fin : ∀ (st : Int) (tk : Tok) (u : Nat), (st = 0 ∨ st = 2) → s.toks ≤ u → wpAny (model prog w) A.in1 (do
      for (ty, what, hint) in [("str", "strings", "''"), ("bytes", "bytes", "b''"), ("bytearray", "bytearray", "b''")] do
        if ← isInstance (Value.int f tk) (.type ty) then
          rule "sum.start-refused"; raiseError "TypeError" s!"sum() can't sum {what} [use {hint}.join(seq) instead]"
      again (.builtin "sum.loop" ⟨[.ref a, ← newList [Value.int f tk], rawInt st, rawInt 0], []⟩))
      (fun fin s' => match fin with | .done fl => (match (Except.ok fl : Result) with | .ok (.ret v) => Q v s' | .ok _ => False | .error e => E e s') | .again c' => c'.quiet = true ∧ codeAny (model prog w) A c' (fun r s' => match r with | .ok (.ret v) => Q v s' | .ok _ => False | .error e => E e s') s')
      (fun e s' => E e s') { s with toks := u } := by
    intro st tk u hst2 hu
    simp only [List.forIn_cons, List.forIn_nil]
    refine wpAny_bind (wpAny_bind (wpAny_bind (wpAny_isInstance (T := "int") (b := false) (typeIs_int _ _ _) PySem.sub_int_str ?_)))
    simp only [Bool.false_eq_true, if_false]
    refine wpAny_pure (wpAny_bind (wpAny_bind (wpAny_isInstance (T := "int") (b := false) (typeIs_int _ _ _) sub_int_bytes ?_)))
    simp only [Bool.false_eq_true, if_false]
    refine wpAny_pure (wpAny_bind (wpAny_bind (wpAny_isInstance (T := "int") (b := false) (typeIs_int _ _ _) sub_int_bytearray ?_)))
    simp only [Bool.false_eq_true, if_false]
    refine wpAny_pure (wpAny_pure ?_)
    refine wpAny_bind (wpAny_newObj_type ?_)
    have hSf : s.heap.objs.size ∉ fp := fun hm => Nat.lt_irrefl _ (hfp _ hm)
    have WS := walkShift W
    refine wpAny_pure ⟨plainId_quiet PySem.F.plain_sum_loop _, codeAny_sum_loopAnyS WS (valFrom f val) (fun i v ⟨j, e, hp⟩ => by subst e; exact hval j v hp) s.heap.objs.size hSf n 1 _ tk 0 st hst2 (by omega) (by omega)
      (WS.frame 1 s _ _ ⟨0, rfl, hst⟩ hu fun b _ o e => Heap.get?_push_of_some _ e) ?_ fun s' t' hm => ?_⟩
    · rw [preSum_from]; simp only [preSum, Int.add_zero]; exact Heap.get?_push_size _ rfl
    · rw [preSum_from]
      have hm' := hm.drop_new (s₂ := s) hu
      exact hQ s' t' (Fh.moved hm' fun b hb => Nat.lt_of_le_of_lt hLK (hwr b hb)) (G.movedS hm') hm'.os fun b o hb e => hm'.heap b o (fun hmem => Nat.lt_irrefl _ (Nat.lt_of_lt_of_le (hwr b hmem) hb)) e
  dsimp only
  split
  · exact wpAny_bind (wpAny_rule (wpAny_bind (wpAny_mkInt (wpAny_bind (wpAny_pure (fin 0 _ _ (.inl rfl) (Nat.le_succ _)))))))
  · exact wpAny_bind (wpAny_pure (fin 2 tf s.toks (.inr rfl) (Nat.le_refl _)))
end
end Mine
end
section
open PySem PySem.W PyProof.Rows PySem.Calls
set_option maxRecDepth 100000
namespace Mine

section
variable {prog : Program} {w : World} {A : Around} {E : Value → Shared → Prop} {s : Shared} {env : Env} {mg mb m : Str → Option Value}

theorem name_loc {x : Str} {pos : Pos} {v : Value} {M : Model} {Q : Value → Shared → Prop} (hk : env.scope.kind = .function) (hx : env.kindOf x = some .local) (hn : s.heap.Ns env.locals m) (hv : m x = some v) (h : Q v s)
    (hd : (x == ("__debug__" : Str)) = false := by decide) : wpAny M A (eval (.Name x pos) env) Q E s := wpAny_Name (wpAny_loadName_local hk hx hn hv h) hd
theorem name_blt {x : Str} {pos : Pos} {v : Value} {M : Model} {Q : Value → Shared → Prop} (hk : env.scope.kind = .function) (hx : env.kindOf x = some .globalImplicit) (hg : s.heap.Ns env.globals mg) (hmiss : mg x = none) (hb : s.heap.Ns env.builtins mb) (hv : mb x = some v) (h : Q v s)
    (hd : (x == ("__debug__" : Str)) = false := by decide) : wpAny M A (eval (.Name x pos) env) Q E s := wpAny_Name (ks_loadName_global hk hx (loadGlobal_builtin hg hmiss hb hv h)) hd
theorem name_glb {x : Str} {pos : Pos} {v : Value} {M : Model} {Q : Value → Shared → Prop} (hk : env.scope.kind = .function) (hx : env.kindOf x = some .globalImplicit) (hg : s.heap.Ns env.globals mg) (hv : mg x = some v) (h : Q v s)
    (hd : (x == ("__debug__" : Str)) = false := by decide) : wpAny M A (eval (.Name x pos) env) Q E s := wpAny_Name (ks_loadName_global hk hx (loadGlobal_global hg hv h)) hd

/-- len(x) of a text in a local name -/
theorem len_name {x : Str} {p1 p2 p3 : Pos} {f : Str} {tf : Tok} {Q : Value → Shared → Prop} (hk : env.scope.kind = .function) (hl : env.kindOf "len" = some .globalImplicit) (hx : env.kindOf x = some .local) (hn : s.heap.Ns env.locals m) (hv : m x = some (.str f tf))
    (hg : s.heap.Ns env.globals mg) (hmiss : mg "len" = none) (hb : s.heap.Ns env.builtins mb) (hbv : mb "len" = some (.builtin "len")) (hfit : f.length ≤ 1000000)
    (h : ∀ t k, Q (.int f.length t) { s with toks := k }) (hd : (x == ("__debug__" : Str)) = false := by decide) : wpAny (model prog w) A (eval (.Call (.Name "len" p1) [.Name x p2] [] p3) env) Q E s := by
  refine PySem.Call_name1 rfl (name_blt hk hl hg hmiss hb hbv (PySem.callWith_builtin1 (name_loc hk hx hn hv ?_ hd)))
  exact PySem.P.len_str (by omega) (h _ _)

theorem elt_len {f p : Str} {tf tp : Tok} {p1 p2 p3 p4 p5 p6 p7 : Pos} (hk : env.scope.kind = .function) (hl : env.kindOf "len" = some .globalImplicit) (hx : env.kindOf "fws" = some .local) (hy : env.kindOf "part" = some .local)
    (hn : s.heap.Ns env.locals m) (hv : m "fws" = some (.str f tf)) (hu : m "part" = some (.str p tp))
    (hg : s.heap.Ns env.globals mg) (hmiss : mg "len" = none) (hb : s.heap.Ns env.builtins mb) (hbv : mb "len" = some (.builtin "len")) (hf : f.length ≤ 1000000) (hp : p.length ≤ 1000000) :
    wpAny (model prog w) A (eval (.BinOp (.Call (.Name "len" p1) [.Name "fws" p2] [] p3) .Add (.Call (.Name "len" p4) [.Name "part" p5] [] p6) p7) env)
      (fun y s₃ => (∃ t, y = .int ((f.length : Int) + p.length) t) ∧ Keeps s s₃) E s := by
  refine wpAny_BinOp (len_name hk hl hx hn hv hg hmiss hb hbv hf fun t k => ?_)
  refine len_name (s := { s with toks := k }) hk hl hy hn hu hg hmiss hb hbv hp fun t' k' => ?_
  exact wpAny_add_int ⟨⟨_, rfl⟩, s.heap, _, rfl, fun _ _ e => e⟩

theorem base_name {x y : Str} {pos : Pos} {t : Sem Value} : attributeBase (.Name x pos) y env t = t := rfl

theorem elt_join {f p : Str} {tf tp te : Tok} {p1 p2 p3 p4 p5 p6 : Pos} {kt : Nat} (hline : (p2.endLine == p6.line) = true) (hk : env.scope.kind = .function) (hl : env.kindOf "EMPTYSTRING" = some .globalImplicit) (hx : env.kindOf "fws" = some .local) (hy : env.kindOf "part" = some .local)
    (hn : s.heap.Ns env.locals m) (hv : m "fws" = some (.str f tf)) (hu : m "part" = some (.str p tp))
    (hg : s.heap.Ns env.globals mg) (hge : mg "EMPTYSTRING" = some (.str "" te)) (hf : f.length ≤ 1000000) (hp : p.length ≤ 1000000) :
    wpAny (model prog w) A (eval (.Call (.Attribute (.Name "EMPTYSTRING" p1) "join" p2) [.Tuple [.Name "fws" p3, .Name "part" p4] kt p5] [] p6) env)
      (fun y s₃ => (∃ t, y = .str (Txt.join "" [f, p]) t) ∧ Keeps s s₃) E s := by
  refine wpAny_Call_method base_name rfl hline F.plainAttrs_str F.slot_str_join F.type_str_join (name_glb hk hl hg hge ⟨typeIs_str _ _ _, fun _ e => (nomatch e), ?_⟩)
  refine Calls.callWith_builtin rfl (Calls.evalArgs_plain (wpAny_items_cons (wpAny_Tuple (wpAny_items_cons (name_loc hk hx hn hv (wpAny_items_cons (name_loc hk hy hn hu (wpAny_items_nil ⟨by show 2 ≤ sizeLine; decide, ?_⟩)))))) ))
  refine wpAny_items_nil ?_
  refine join_tuple (ys := [f, p]) ⟨_, Heap.get?_push_size _ rfl, rfl, 0, rfl⟩ (.cons _ _ (.cons _ _ .nil)) ?_ fun t' k => ⟨⟨_, rfl⟩, _, _, rfl, fun b o e => Heap.get?_push_of_some _ e⟩
  simp only [List.map_cons, List.map_nil, List.sum_cons, List.sum_nil, List.length_cons, List.length_nil]
  have : (Str.ofString "").length = 0 := by decide
  rw [this]; omega
end
end Mine
end
section
open PySem PySem.W PyProof.Rows PySem.Calls PySem.Builtin PySem.Builtin.ObjectAttr
set_option maxRecDepth 100000
namespace Mine
namespace FF
theorem plain_ga : plainId "list.__getattribute__" = true := by decide +kernel
theorem kind_ga : builtinKind "list.__getattribute__" = some .slot := by decide +kernel
theorem split_ga : splitId "list.__getattribute__" = some ("list", "__getattribute__") := by decide +kernel
theorem args_ga (a b : Value) : argsOk "list.__getattribute__" ⟨[a, b], []⟩ := by unfold argsOk; kernel_rfl
theorem bind_ga (self : Value) : bindSpecial (.builtin "list.__getattribute__") self = pure (.builtin "list.__getattribute__", [self]) :=
  (Slot.of (T := "list") (name := "__getattribute__") (owner := "list") (n := "__getattribute__") (by rw [typeLookup_type, builtinLookup_eq_fast]; kernel_rfl) (by decide +kernel) (by decide +kernel) (by decide +kernel)
    (.inl (by decide +kernel)) (by rw [isSubtype_type]; kernel_rfl)).bind self
end FF

section
variable {prog : Program} {w : World} {A : Around} {E : Value → Shared → Prop} {s : Shared} {K : Frag} {x C dx : Addr} {vs : Array Value} {n : Nat} {sl : Array (Option Value)} {es : List DictEntry} {ne : Nat} {name : Str} {v : Value} {expr : Bool}
theorem get_acc {Q : Value → Shared → Prop} (X : K.In s.heap) (hx : s.heap.get? x = some ⟨.ref C, some dx, .seq vs n, sl⟩) (hd : s.heap.get? dx = some (dictOf es ne)) (hm : mroIn K C (.type "list") = some true)
    (hga : findIn K (.ref C) "__getattribute__" = some (some (.builtin "list.__getattribute__"))) (hk : findIn K (.ref C) "__getattr__" = some none)
    (hh : hasDictIn K C = true) (ha : findIn K (.ref C) name = some none) (hl : getL name es = some (some v)) (hv : handedIn v = true) (h : Q v { s with toks := s.toks + 1 }) : wpAny (model prog w) A (getAttr (.ref x) name expr) Q E s := by
  have I : InstAt s.heap x ⟨.ref C, some dx, .seq vs n, sl⟩ C (some (dictOf es ne)) := ⟨hx, rfl, rfl, hd⟩
  have hf : findObj K C (some (dictOf es ne)) name = some (.value v) := findObj_own hh ha rfl hl
  obtain ⟨hp, g, d, t, os⟩ := s
  have L0 := I.type (M := model prog w)
  have L1 := looks_findIn (M := model prog w) X hga
  have L2 := looks_findIn (M := model prog w) X hk
  have L3 := looks_find (M := model prog w) X I hf
  unfold getAttr getAttrBy
  refine wpAny_bind (wpAny_mkText (wpAny_holding (wpAny_bind (L0.at (wpAny_bind (L1.at ?_))))))
  show wpAny _ _ (getAttrByItsOwn (.ref x) (.str name t) (.ref C) (.builtin "list.__getattribute__") true expr) _ _ _
  unfold getAttrByItsOwn hookBefore
  refine wpAny_bind ?_
  show wpAny _ _ (typeLookup (.ref C) "__getattr__") _ _ _
  refine L2.at (wpAny_bind (wpAny_attempt (wpAny_holding ?_)))
  unfold callGetattribute
  rw [show (expr && onTheHeap (.builtin "list.__getattribute__")) = false from by cases expr <;> rfl]
  show wpAny _ _ (boundAndCalled (.builtin "list.__getattribute__") (.ref x) (.str name t)) _ _ _
  unfold boundAndCalled
  rw [FF.bind_ga]
  refine wpAny_bind (wpAny_pure ?_)
  refine call_slot_acc (rest := [.str name t]) FF.plain_ga PySem.F.entry_list_ga FF.kind_ga FF.split_ga (acc_inst X hx hm) (FF.args_ga _ _) ?_
  unfold Builtin.«object.__getattribute__»
  refine wpAny_bind (wpAny_pure (wpAny_bind (wpAny_pure (wpAny_bind (L0.at (wpAny_bind (L3.at ?_)))))))
  refine wpAny_pure ⟨v, rfl, ?_⟩
  show wpAny _ _ (handedOut v) _ _ _
  rw [handedOut_of hv]; exact wpAny_pure h
end
end Mine
end
section
open PySem PySem.W PyProof.Rows PySem.Calls
set_option maxRecDepth 100000
namespace Mine

/-- a piece: its blanks and its word -/
noncomputable abbrev Pc := Str × Str
noncomputable def cat : List Str → Str
  | [] => Str.empty
  | x :: r => x ++ cat r
theorem str_nil : (Str.ofString "") = Str.empty := by decide
theorem append_nil' (a : Str) : a ++ Str.empty = a := by
  cases a; show Str.append _ _ = _; simp [Str.append, Str.empty]
theorem join_cat : ∀ l : List Str, Txt.join (Str.ofString "") l = cat l := by
  intro l
  unfold Txt.join
  rw [StrLaws.glued_eq_join, str_nil]
  induction l with
  | nil => rfl
  | cons x r ih =>
    cases r with
    | nil => show x = x ++ cat []; rw [show cat [] = Str.empty from rfl, append_nil']
    | cons y r =>
      show x ++ Str.empty ++ Str.join Str.empty (y :: r) = x ++ cat (y :: r)
      rw [ih, append_nil']
noncomputable def pcTxt (q : Pc) : Str := q.1 ++ q.2
/-- the text of a row of pieces -/
noncomputable def txt (qs : List Pc) : Str := cat (qs.map pcTxt)
theorem cat_length : ∀ l : List Str, (cat l).length = (l.map (·.length)).sum
  | [] => rfl
  | x :: r => by rw [cat, Str.length_append, cat_length r]; rfl
theorem join2 (f p : Str) : Txt.join (Str.ofString "") [f, p] = pcTxt (f, p) := by
  rw [join_cat]; show f ++ (p ++ Str.empty) = f ++ p; rw [append_nil']
noncomputable def Small (qs : List Pc) : Prop := qs.length ≤ 100 ∧ ∀ q ∈ qs, q.1.length ≤ 4 ∧ q.2.length ≤ 4
theorem sum_le {l : List Nat} {B : Nat} (h : ∀ x ∈ l, x ≤ B) : l.sum ≤ l.length * B := by
  induction l with
  | nil => simp
  | cons x r ih =>
    have h1 := h x (.head _)
    have h2 := ih fun y hy => h y (.tail _ hy)
    simp only [List.sum_cons, List.length_cons, Nat.succ_mul]; omega
theorem Small.txt {qs : List Pc} (h : Small qs) : (Mine.txt qs).length ≤ 800 := by
  unfold Mine.txt
  rw [cat_length]
  have := sum_le (l := (qs.map pcTxt).map (·.length)) (B := 8) fun x hx => by
    obtain ⟨y, hy, rfl⟩ := List.mem_map.mp hx
    obtain ⟨q, hq, rfl⟩ := List.mem_map.mp hy
    have := h.2 q hq
    unfold pcTxt
    rw [Str.length_append]; omega
  simp only [List.length_map] at this
  have := h.1
  omega

noncomputable def PcAt (h : Heap) (v : Value) (q : Pc) : Prop := ∃ a tf tp, v = .ref a ∧ h.IsTuple a #[.str q.1 tf, .str q.2 tp]
inductive PcsAt (h : Heap) : List Value → List Pc → Prop
  | nil : PcsAt h [] []
  | cons {v q vs qs} : PcAt h v q → PcsAt h vs qs → PcsAt h (v :: vs) (q :: qs)
section
variable {h h' : Heap} {v : Value} {vs us : List Value} {q : Pc} {qs rs : List Pc}
theorem PcsAt.length (x : PcsAt h vs qs) : vs.length = qs.length := by
  induction x with
  | nil => rfl
  | cons _ _ ih => simp [ih]
theorem PcsAt.append (x : PcsAt h vs qs) (y : PcsAt h us rs) : PcsAt h (vs ++ us) (qs ++ rs) := by
  induction x with
  | nil => exact y
  | cons a _ ih => exact .cons a ih
theorem PcsAt.one (x : PcAt h v q) : PcsAt h [v] [q] := .cons x .nil
theorem PcsAt.take (x : PcsAt h vs qs) : ∀ n, PcsAt h (vs.take n) (qs.take n) := by
  induction x with
  | nil => intro n; simp; exact .nil
  | cons a _ ih =>
    intro n
    cases n with
    | zero => exact .nil
    | succ n => exact .cons a (ih n)
theorem PcsAt.drop (x : PcsAt h vs qs) : ∀ n, PcsAt h (vs.drop n) (qs.drop n) := by
  induction x with
  | nil => intro n; simp; exact .nil
  | cons a r ih =>
    intro n
    cases n with
    | zero => exact .cons a r
    | succ n => exact ih n
theorem PcsAt.get (x : PcsAt h vs qs) : ∀ {j : Nat} {q : Pc}, qs[j]? = some q → ∃ v, vs[j]? = some v ∧ PcAt h v q := by
  induction x with
  | nil => intro j q e; simp at e
  | cons a r ih =>
    intro j q e
    cases j with
    | zero => simp at e; subst e; exact ⟨_, rfl, a⟩
    | succ j => exact ih (by simpa using e)
inductive PcGot (h : Heap) (vs : List Value) (j : Nat) (q : Pc) : Prop
  | mk (T : Addr) (tf tp : Tok) (hv : vs[j]? = some (.ref T)) (ht : h.IsTuple T #[.str q.1 tf, .str q.2 tp]) : PcGot h vs j q
theorem PcsAt.got (x : PcsAt h vs qs) {j : Nat} {q : Pc} (e : qs[j]? = some q) : PcGot h vs j q := by
  obtain ⟨v, hv, a, tf, tp, rfl, ht⟩ := x.get e
  exact ⟨a, tf, tp, hv, ht⟩
theorem PcAt.mono (x : PcAt h v q) (k : ∀ b o, o.cls = .type "tuple" → h.get? b = some o → h'.get? b = some o) : PcAt h' v q := by
  obtain ⟨a, tf, tp, e, o, ho, hc, r⟩ := x
  exact ⟨a, tf, tp, e, o, k _ _ hc ho, hc, r⟩
theorem PcsAt.mono (x : PcsAt h vs qs) (k : ∀ b o, o.cls = .type "tuple" → h.get? b = some o → h'.get? b = some o) : PcsAt h' vs qs := by
  induction x with
  | nil => exact .nil
  | cons a _ ih => exact .cons (a.mono k) ih
/-- none of the addresses holds a tuple -/
noncomputable def NoTup (W : List Addr) (h : Heap) : Prop := ∀ b ∈ W, ∀ o, h.get? b = some o → o.cls ≠ .type "tuple"
theorem NoTup.keep {W : List Addr} (n : NoTup W h) (E : Ext W h h') : ∀ b o, o.cls = .type "tuple" → h.get? b = some o → h'.get? b = some o :=
  fun b o hc e => E b o (fun hb => n b hb o e hc) e
theorem PcsAt.ext {W : List Addr} (x : PcsAt h vs qs) (n : NoTup W h) (E : Ext W h h') : PcsAt h' vs qs := x.mono (n.keep E)
theorem PcAt.ext {W : List Addr} (x : PcAt h v q) (n : NoTup W h) (E : Ext W h h') : PcAt h' v q := x.mono (n.keep E)
end

/-- the sum of the lengths, as the generator's walk reckons it -/
theorem preSum_txt : ∀ (qs : List Pc), preSum (fun j => (((qs[j]?.map fun q => ((q.1.length : Int) + q.2.length)).getD 0))) qs.length = (txt qs).length := by
  have gen : ∀ (qs : List Pc) (k : Nat), k ≤ qs.length → preSum (fun j => (((qs[j]?.map fun q => ((q.1.length : Int) + q.2.length)).getD 0))) k = (txt (qs.take k)).length := by
    intro qs k
    induction k with
    | zero => intro _; rfl
    | succ k ih =>
      intro hk
      have hlt : k < qs.length := hk
      rw [preSum, ih (Nat.le_of_lt hlt), List.take_add_one, List.getElem?_eq_getElem hlt]
      simp only [Option.map_some, Option.getD_some, Option.toList_some, txt, List.map_append, List.map_cons, List.map_nil, cat_length, List.sum_append, List.sum_cons, List.sum_nil, pcTxt, Str.length_append]
      omega
  intro qs
  have := gen qs qs.length (Nat.le_refl _)
  rwa [List.take_length] at this
theorem range_map (qs : List Pc) : (List.range qs.length).map (fun j => ((qs[j]?.map pcTxt).getD Str.empty)) = qs.map pcTxt := by
  apply List.ext_getElem?
  intro j
  by_cases hj : j < qs.length
  · simp [hj]
  · simp [hj]
end Mine
end
section
open PySem PySem.W PyProof.Rows PySem.Calls
set_option maxRecDepth 100000
namespace Mine
noncomputable abbrev accDict (w : World) (k : Tok) (i : Int) (t : Tok) : Obj := dictOf [⟨PyData.keyHash w.params (Str.ofString "_initial_size"), .str (Str.ofString "_initial_size") k, .int i t⟩] 1
noncomputable abbrev tup2 (a b : Value) : Obj := { cls := .type "tuple", data := .seq #[a, b] }
noncomputable def qf (qs : List Pc) (j : Nat) : Str := (qs[j]?.map (·.1)).getD Str.empty
noncomputable def qp (qs : List Pc) (j : Nat) : Str := (qs[j]?.map (·.2)).getD Str.empty

theorem PcsAt.skolem {h : Heap} {vs : Array Value} {qs : List Pc} (x : PcsAt h vs.toList qs) : ∃ (Ts : Nat → Addr) (tf tp : Nat → Tok), ∀ j, j < vs.size → vs[j]? = some (.ref (Ts j)) ∧ h.IsTuple (Ts j) #[.str (qf qs j) (tf j), .str (qp qs j) (tp j)] := by
  have h1 : ∀ j : Nat, ∃ y : Addr × Tok × Tok, j < vs.size → vs[j]? = some (.ref y.1) ∧ h.IsTuple y.1 #[.str (qf qs j) y.2.1, .str (qp qs j) y.2.2] := by
    intro j
    by_cases hj : j < vs.size
    · have hq : j < qs.length := by rw [← x.length]; simpa using hj
      obtain ⟨v, hv, a, tf, tp, rfl, ht⟩ := x.get (List.getElem?_eq_getElem hq)
      refine ⟨(a, tf, tp), fun _ => ⟨by simpa using hv, ?_⟩⟩
      simpa [qf, qp, List.getElem?_eq_getElem hq] using ht
    · exact ⟨(0, 0, 0), fun e => absurd e hj⟩
  obtain ⟨f, hf⟩ := Classical.skolem.mp h1
  exact ⟨fun j => (f j).1, fun j => (f j).2.1, fun j => (f j).2.2, hf⟩
theorem noTup {h₀ h : Heap} {L : Addr} {news : List (Addr × Obj)} (N : News h₀ L h news) (hn : ∀ p ∈ news, p.2.cls ≠ .type "tuple") : NoTup (news.map (·.1)) h := fun b hb o e => by
  obtain ⟨p, hp, rfl⟩ := List.mem_map.mp hb
  rw [(N p hp).1] at e; cases e; exact hn p hp
/-- what lies beside the ledger, seen from the new frame -/
theorem intoFr {h₀ h g h' : Heap} {L L' : Addr} {news : List (Addr × Obj)} {m : Str → Option Value} (N : News h₀ L h news) (hn : ∀ p ∈ news, p.2.cls ≠ .type "tuple") (hg : ∀ b o, b ∉ news.map (·.1) → h.get? b = some o → g.get? b = some o) (F : Fr g L' h' m) :
    ∀ b o, o.cls = .type "tuple" → h.get? b = some o → h'.get? b = some o :=
  fun b o hc e => F.keep b o (hg b o (fun hb => noTup N hn b hb o e hc) e)
theorem qf_len {qs : List Pc} (h : Small qs) (j : Nat) : (qf qs j).length ≤ 1000000 ∧ (qp qs j).length ≤ 1000000 := by
  unfold qf qp
  cases e : qs[j]? with
  | none => exact ⟨by show (0 : Nat) ≤ _; omega, by show (0 : Nat) ≤ _; omega⟩
  | some q =>
    have := h.2 q (List.mem_of_getElem? e)
    exact ⟨by show q.1.length ≤ _; omega, by show q.2.length ≤ _; omega⟩
theorem bmod_top {p : Program} {loose : List Str} {mean : ExcName → Option Value} {mg mb : Str → Option Value} {h : Heap} (T : Top p loose mean mg mb h) : ∃ bm ob, BMod h mainGlobals mg bm ob :=
  let ⟨bm, ob, a, b, c, d, e, f⟩ := T.bmain; ⟨bm, ob, T.g, a, b, c, d, e, f⟩
theorem lt_of_get {h : Heap} {L : Addr} {m : Str → Option Value} (x : h.Ns L m) : L ≤ h.objs.size - 1 := Nat.le_sub_one_of_lt x.lt
theorem updExt {h₀ h h' : Heap} {L d : Addr} {m : Str → Option Value} {news news' : List (Addr × Obj)} {o o' : Obj} (F : Fr h₀ L h m) (N : News h₀ L h news) (U : Upd d o o' news news') (hs : Heap.ExtBut d h h') (hd : h'.get? d = some o') :
    Fr h₀ L h' m ∧ News h₀ L h' news' := by
  obtain ⟨pre, post, rfl, rfl, h1, h2⟩ := U.split
  have D := N (d, o) (by simp)
  obtain ⟨oL, es, ep, hL, r⟩ := F.ns
  refine ⟨⟨⟨oL, es, ep, hs L _ (Ne.symm D.2.1) hL, r⟩, fun b ob q => hs b _ (fun z => ?_) (F.keep b ob q), F.above⟩, fun p hp => ?_⟩
  · have := D.2.2; rw [← z, q] at this; cases this
  · rcases List.mem_append.mp hp with q | q
    · have P := N p (List.mem_append_left _ q); exact ⟨hs _ _ (h1 p q) P.1, P.2⟩
    · rcases List.mem_cons.mp q with rfl | q
      · exact ⟨hd, D.2⟩
      · have P := N p (List.mem_append_right _ (.tail _ q)); exact ⟨hs _ _ (h2 p q) P.1, P.2⟩
theorem newsKeep {h₀ h h' : Heap} {L : Addr} {news : List (Addr × Obj)} (N : News h₀ L h news) (k : ∀ b o, h.get? b = some o → h'.get? b = some o) : News h₀ L h' news := fun p hp => ⟨k _ _ (N p hp).1, (N p hp).2⟩
/-- at a call's end: all but W is as it was -/
theorem extOf {g h h' : Heap} {L' : Addr} {m : Str → Option Value} {news news' : List (Addr × Obj)} {W : List Addr} {h₀ : Heap} {L : Addr} (N : News h₀ L h news) (hg : ∀ b o, b ∉ news.map (·.1) → h.get? b = some o → g.get? b = some o) (F : Fr g L' h' m) (N' : News g L' h' news')
    (hs : ∀ p ∈ news, p.1 ∉ W → p ∈ news') : Ext W h h' := by
  intro b o hb e
  by_cases hm : b ∈ news.map (·.1)
  · obtain ⟨p, hp, rfl⟩ := List.mem_map.mp hm
    rw [(N p hp).1] at e; cases e
    exact (N' p (hs p hp hb)).1
  · exact F.keep b o (hg b o hm e)
theorem genToks {prog : Program} {w : World} {A : Around} {K a : Addr} {n : Nat} {F : Nat → Value → Prop} {s : Shared} {tk : Nat} (X : Gen prog w A K a n F s) (h : s.toks ≤ tk) : Gen prog w A K a n F { s with toks := tk } := by
  obtain ⟨fp, wr, g, St, W, hst, r1, r2, r3, r4⟩ := X
  exact ⟨fp, wr, g, St, W, W.frame 0 s s.heap tk hst h fun _ _ _ e => e, r1, r2, r3, r4⟩
theorem len_val (qs : List Pc) (j : Nat) : ((qf qs j).length : Int) + (qp qs j).length = ((qs[j]?.map fun q => ((q.1.length : Int) + q.2.length)).getD 0) := by
  unfold qf qp
  cases qs[j]? <;> rfl
theorem newsLow {h₀ h h' : Heap} {L : Addr} {news : List (Addr × Obj)} {K : Nat} (N : News h₀ L h news) (hk : ∀ p ∈ news, @LE.le Nat _ p.1 K) (k : ∀ b o, b ≤ K → h.get? b = some o → h'.get? b = some o) : News h₀ L h' news := fun p hp => ⟨k _ _ (hk p hp) (N p hp).1, (N p hp).2⟩
theorem newsLe {h₀ h : Heap} {L : Addr} {news : List (Addr × Obj)} (N : News h₀ L h news) : ∀ p ∈ news, @LE.le Nat _ p.1 (h.objs.size - 1) := fun p hp => Nat.le_sub_one_of_lt (Heap.lt_size (N p hp).1)
theorem fa_nil {α : Type} {P : α → Prop} : ∀ p ∈ ([] : List α), P p := fun _ h => nomatch h
theorem fa_cons {α : Type} {P : α → Prop} {a : α} {l : List α} (h : P a) (t : ∀ p ∈ l, P p) : ∀ p ∈ a :: l, P p := List.forall_mem_cons.2 ⟨h, t⟩
theorem fa_all {news news' : List (Addr × Obj)} : ∀ p ∈ news, p.1 ∉ news.map (·.1) → p ∈ news' := fun _ hp hn => absurd (List.mem_map_of_mem hp) hn
theorem fa_in {W : List Addr} {a : Addr} {q : Prop} (h : a ∈ W) : a ∉ W → q := fun n => absurd h n
theorem fa_out {p q : Prop} (h : q) : p → q := fun _ => h
theorem nm_nil {a : Addr} : a ∉ ([] : List Addr) := nofun
theorem nm_cons {a b : Addr} {l : List Addr} (h : @Ne Nat a b) (t : a ∉ l) : a ∉ b :: l := fun hm => (List.mem_cons.1 hm).elim h t
theorem ncR {a : Addr} : Value.ref a ≠ .type "tuple" := nofun
theorem ncN : Value.none ≠ .type "tuple" := nofun
theorem ncL : Value.type "list" ≠ .type "tuple" := by simp
theorem ncD : Value.type "dict" ≠ .type "tuple" := by simp
theorem rm (a : Nat) {d R b : Nat} (h : d + b < R) (hab : Nat.ble a b = true) : d + a < R := Nat.lt_of_le_of_lt (Nat.add_le_add_left (Nat.le_of_ble_eq_true hab) d) h
end Mine
end
section
open PySem PySem.W PyProof.Rows PySem.Calls
namespace Mine
local macro_rules | `(tactic| k_inst) => `(tactic| (refine' instAcc ?N ?h1 ?h2; (case N => k_asm); (case h1 => k_mem); (case h2 => k_mem)))
local macro_rules | `(tactic| walk_at $s:str) => `(tactic| k_extra $s)
theorem words_m10 : True := by
  k_with_none
  k_with "mine.mem" => (repeat (first | exact List.Mem.head _ | refine List.Mem.tail _ ?_))
  k_with "mine.nm" => ((repeat' (first | exact nm_nil | refine nm_cons ?_ ?_)) <;> (first | assumption | ((try dsimp only); first | decide | (refine neN ?_; omega))))
  k_with "mine.fa1" => (first | exact ncR | exact ncN | exact ncL | exact ncD | (walk_at "mine.mem"; done) | (refine fa_in ?_; walk_at "mine.mem"; done) | (refine fa_out ?_; walk_at "mine.mem"; done) | (refine Or.inl ⟨?_, ?_⟩; (focus (walk_at "mine.mem"; done)); (walk_at "mine.nm"; done)) | (refine Or.inr ⟨by assumption, ?_⟩; walk_at "mine.mem"; done) | (refine neN ?_; omega))
  k_with "mine.fa" => (first | exact fa_all | ((repeat' (first | exact fa_nil | refine fa_cons ?_ ?_)); (all_goals walk_at "mine.fa1"); done) | simp)
  k_with "getAttr ref" => (k_here; k_dflt (refine' get_acc (by k_in) (by exact News.get (by k_asm) (by k_mem)) (by exact News.get (by k_asm) (by k_mem)) (by k_is) (by k_is) (by k_is) (by k_is) (by k_is) (by k_get) (by k_handed) ?_; k_whole))
  trivial
section
open PySem PySem.W PyProof.Rows PySem.Calls


set_option maxRecDepth 100000 in
set_option maxHeartbeats 4000000 in
theorem len_spec {w : World} {dp un : Nat} {gd : Option (List Code)} {cn : Str} {cs : Scope} {a : Addr} {ccd : Value} {cl : List (Str × Addr)} {outer : List Env} {A₀ : Around} {base h₀ : Heap} {L : Addr} {m : Str → Option Value} {s : Shared}
   {loose : List Str} {mean : ExcName → Option Value} {mg mb : Str → Option Value} {p : Program} {Q E : Value → Shared → Prop} {x dx : Addr} {vs : Array Value} {n : Nat} {k t : Tok} {i : Int} {ps : Array Value} {qs : List Pc}
   (B : Below A₀ base outer h₀) (F : Fr h₀ L s.heap m) (X : (Mine.hd.heap_39 w.params).In h₀) (N : News h₀ L s.heap [(x, accObj dx vs n), (dx, accDict w k i t), (56, tabObj ps)]) (T : Top p loose mean mg mb h₀) (hk : cs.kind = .function) (hd : dp + 40 < recursionLimit) (hu : un + 400 < cLine)
   (hps : TriplesOk ps.toList) (hp : PcsAt s.heap vs.toList qs) (hsm : Small qs) (hb : AllBare s.gens)
   (hQ : ∀ s' t' ps', Post [56] s s' → s'.heap.get? 56 = some (tabObj ps') → TriplesOk ps'.toList → Q (.int (i + (txt qs).length) t') s') :
   wpAny (model PySem.Challenge.rw_mq0119_01.row.prog w) (ktrTop dp un gd cn cs L a ccd cl outer) (call (.ref 61) [.ref x]) Q E s := by
  revert X; k_fill; intro X
  (k_dflt (refine' enterE ?k1 ?k2 ?k3 ?k4 ?k5 ?kA ?kF ?kK ?k6 ?k7 ?k8 ?k9 ?kB ?_ ?c2 ?c3 ?c4 ?c5; (case kA => exact rfl); (case kF => exact rfl); (case kK => assumption); (case k1 => k_asm); (case k2 => k_asm); (case k3 => k_asm); (case k4 => k_asm); (case k5 => k_asm); (case k6 => k_is); (case k7 => k_is); (case k8 => (simp only []; omega)); (case k9 => first | exact binds_K (by k_in) rfl (by k_is) rfl rfl rfl | exact BindsTo.of_eq rfl); (case c5 => decide); (case kB => exact locs rfl); (case c2 => exact rfl); (case c3 => exact rfl); (case c4 => exact rfl); k_whole))
  intro g' L' h' hg' hL' hlt' F' N' B' X' T'
  k_lt hlt'
  (try dsimp only); (try k_fold)
  walk1; walk1; walk1; walk1; walk1; walk1
  have hx := (N' (x, accObj dx vs n) (by walk_at "mine.fa")).1
  have hdx := (N' (dx, accDict w k i t) (by walk_at "mine.fa")).1
  have hP := (N' (56, tabObj ps) (by walk_at "mine.fa")).1
  have hx56 : @Ne Nat x 56 := fun e => by rw [e, hP] at hx; cases hx
  have hd56 : @Ne Nat dx 56 := fun e => by rw [e, hP] at hdx; cases hdx
  have XH := X'.keeps F'.keep
  have hp' : PcsAt h' vs.toList qs := hp.mono (intoFr N (by walk_at "mine.fa") hg' F')
  have hlen := hp.length
  obtain ⟨Ts, tf, tp, hT⟩ := hp'.skolem
  obtain ⟨bm, ob, BM⟩ := bmod_top T'
  have hmiss := mg_none_of (n := "len") X' T'.g (by k_is)
  have hbl : mb "len" = some (.builtin "len") := (T'.builtins _ (by decide)).trans (by boot_by_name)
  refine gen_acc (K := Mine.hd.heap_39 w.params) (c := 60) (P := 56) (ps := ps) (mg := mg) (bm := bm) (ob := ob) (x := x) Ts (fun j => .str (qf qs j) (tf j)) (fun j => .str (qp qs j) (tp j)) (fun j y => ∃ t, y = .int (((qf qs j).length : Int) + (qp qs j).length) t)
    rfl rfl rfl (by decide) rfl rfl rfl (by decide) rfl (by show dp + 1 < _; omega) (fun _ => rfl) ?iter XH hx (by k_is) (by k_is) hT (T'.nolimit.keeps F'.keep) rfl (codeHd_of_K XH (by kernel_rfl)) hP hps (BM.keeps F'.keep) ?elt ?_
  case iter => intro Q' h; exact ld F' rfl h
  case elt =>
    intro C' code A' E' j s₂ m₂ _ _ _ hj hn ha hb' hkp
    have hl := qf_len hsm j
    have kk : ∀ b o, b ≠ 56 → g'.get? b = some o → s₂.heap.get? b = some o := fun b o hb e => hkp b o hb (F'.keep b o e)
    exact elt_len rfl rfl rfl rfl hn ha hb' (T'.g.at' fun o e => kk _ o (by decide) e) hmiss (T'.b.at' fun o e => kk _ o (by decide) e) hbl hl.1 hl.2
  intro ga s₅ G
  obtain ⟨ps₅, hP₅, hps₅⟩ := G.tab
  obtain ⟨F₅, N₅⟩ := updExt (o' := tabObj ps₅) F' N' (by k_upd) G.ext hP₅
  have b₅ := G.bare hb
  clear XH
  iterate 4 walk1
  walk1
  refine sum_from (L := L') (m := _) (K := h'.objs.size - 1) (n := vs.size) (F := fun j y => ∃ t, y = .int (((qf qs j).length : Int) + (qp qs j).length) t) F₅ b₅ (genToks G.gen (Nat.le_succ _)) (lt_of_get F'.ns) (fun j => (((qs[j]?.map fun q => ((q.1.length : Int) + q.2.length)).getD 0))) ?hv ?_
  case hv => rintro j v ⟨t, rfl⟩; exact ⟨t, by rw [len_val]⟩
  intro s' t' F₆ b₆ o₆ k₆
  have N₆ := newsLow N₅ (by have := newsLe N'; simpa using this) k₆
  have e : vs.size = qs.length := by simpa using hlen
  rw [e, preSum_txt]
  refine hQ s' t' ps₅ ⟨extOf N hg' F₆ N₆ (by walk_at "mine.fa"), o₆.trans G.os, b₆, Nat.le_trans hL' (Nat.le_of_lt F₆.ns.lt)⟩ (N₆ (56, tabObj ps₅) (by walk_at "mine.fa")).1 hps₅

set_option maxRecDepth 100000 in
set_option maxHeartbeats 4000000 in
theorem str_spec {w : World} {dp un : Nat} {gd : Option (List Code)} {cn : Str} {cs : Scope} {a : Addr} {ccd : Value} {cl : List (Str × Addr)} {outer : List Env} {A₀ : Around} {base h₀ : Heap} {L : Addr} {m : Str → Option Value} {s : Shared}
   {loose : List Str} {mean : ExcName → Option Value} {mg mb : Str → Option Value} {p : Program} {Q E : Value → Shared → Prop} {x dx : Addr} {vs : Array Value} {n : Nat} {k t : Tok} {i : Int} {ps : Array Value} {qs : List Pc}
   (B : Below A₀ base outer h₀) (F : Fr h₀ L s.heap m) (X : (Mine.hd.heap_39 w.params).In h₀) (N : News h₀ L s.heap [(x, accObj dx vs n), (dx, accDict w k i t), (63, tabObj ps)]) (T : Top p loose mean mg mb h₀) (hk : cs.kind = .function) (hd : dp + 40 < recursionLimit) (hu : un + 400 < cLine)
   (hps : TriplesOk ps.toList) (hp : PcsAt s.heap vs.toList qs) (hsm : Small qs) (hb : AllBare s.gens)
   (hQ : ∀ s' t' ps', Post [63] s s' → s'.heap.get? 63 = some (tabObj ps') → TriplesOk ps'.toList → Q (.str (txt qs) t') s') :
   wpAny (model PySem.Challenge.rw_mq0119_01.row.prog w) (ktrTop dp un gd cn cs L a ccd cl outer) (call (.ref 68) [.ref x]) Q E s := by
  revert X; k_fill; intro X
  (k_dflt (refine' enterE ?k1 ?k2 ?k3 ?k4 ?k5 ?kA ?kF ?kK ?k6 ?k7 ?k8 ?k9 ?kB ?_ ?c2 ?c3 ?c4 ?c5; (case kA => exact rfl); (case kF => exact rfl); (case kK => assumption); (case k1 => k_asm); (case k2 => k_asm); (case k3 => k_asm); (case k4 => k_asm); (case k5 => k_asm); (case k6 => k_is); (case k7 => k_is); (case k8 => (simp only []; omega)); (case k9 => first | exact binds_K (by k_in) rfl (by k_is) rfl rfl rfl | exact BindsTo.of_eq rfl); (case c5 => decide); (case kB => exact locs rfl); (case c2 => exact rfl); (case c3 => exact rfl); (case c4 => exact rfl); k_whole))
  intro g' L' h' hg' hL' hlt' F' N' B' X' T'
  k_lt hlt'
  (try dsimp only); (try k_fold)
  iterate 7 walk1
  have hx := (N' (x, accObj dx vs n) (by walk_at "mine.fa")).1
  have hdx := (N' (dx, accDict w k i t) (by walk_at "mine.fa")).1
  have hP := (N' (63, tabObj ps) (by walk_at "mine.fa")).1
  have hx56 : @Ne Nat x 63 := fun e => by rw [e, hP] at hx; cases hx
  have hd56 : @Ne Nat dx 63 := fun e => by rw [e, hP] at hdx; cases hdx
  have XH := X'.keeps F'.keep
  have hp' : PcsAt h' vs.toList qs := hp.mono (intoFr N (by walk_at "mine.fa") hg' F')
  have hlen := hp.length
  obtain ⟨Ts, tf, tp, hT⟩ := hp'.skolem
  obtain ⟨bm, ob, BM⟩ := bmod_top T'
  have hge := mg_of (n := "EMPTYSTRING") X' T'.g (by k_is)
  have hlen' : vs.size = qs.length := by simpa using hlen
  refine gen_acc (K := Mine.hd.heap_39 w.params) (c := 67) (P := 63) (ps := ps) (mg := mg) (bm := bm) (ob := ob) (x := x) Ts (fun j => .str (qf qs j) (tf j)) (fun j => .str (qp qs j) (tp j)) (fun j y => j < qs.length ∧ ∃ t, y = .str (Txt.join "" [qf qs j, qp qs j]) t)
    rfl rfl rfl (by decide) rfl rfl rfl (by decide) rfl (by show dp + 1 < _; omega) (fun _ => rfl) ?iter XH hx (by k_is) (by k_is) hT (T'.nolimit.keeps F'.keep) rfl (codeHd_of_K XH (by kernel_rfl)) hP hps (BM.keeps F'.keep) ?elt ?_
  case iter => intro Q' h; exact ld F' rfl h
  case elt =>
    intro C' code A' E' j s₂ m₂ _ _ _ hj hn ha hb' hkp
    have hl := qf_len hsm j
    have kk : ∀ b o, b ≠ 63 → g'.get? b = some o → s₂.heap.get? b = some o := fun b o hb e => hkp b o hb (F'.keep b o e)
    exact wpAny_mono (elt_join rfl rfl rfl rfl rfl hn ha hb' (T'.g.at' fun o e => kk _ o (by decide) e) hge hl.1 hl.2) (fun y s₃ hy => ⟨⟨hlen' ▸ hj, hy.1⟩, hy.2⟩) fun _ _ e => e
  intro ga s₅ G
  obtain ⟨ps₅, hP₅, hps₅⟩ := G.tab
  obtain ⟨F₅, N₅⟩ := updExt (o' := tabObj ps₅) F' N' (by k_upd) G.ext hP₅
  have b₅ := G.bare hb
  clear XH
  walk1
  have ej : (List.range vs.size).map (fun j => ((qs[j]?.map pcTxt).getD Str.empty)) = qs.map pcTxt := by rw [hlen', range_map]
  refine join_rowsK (L := L') (m := _) (K := h'.objs.size - 1) (n := vs.size) (F := fun j y => j < qs.length ∧ ∃ t, y = .str (Txt.join "" [qf qs j, qp qs j]) t) F₅ b₅ G.gen (lt_of_get F'.ns) (fun j => ((qs[j]?.map pcTxt).getD Str.empty)) ?hv ?hok ?_ ?hsz
  case hv =>
    rintro j v ⟨hj, t, rfl⟩
    refine ⟨t, ?_⟩
    rw [join2]
    simp [qf, qp, hj]
  case hok =>
    rw [ej]
    refine joinOk_of ?_
    have := hsm.txt
    unfold txt at this
    rw [cat_length] at this
    have e0 : (Str.ofString "").length = 0 := by decide
    rw [e0]; omega
  case hsz => have := hsm.1; rw [hlen', sizeLine_eq]; omega
  intro s' t' F₆ b₆ o₆ k₆
  have N₆ := newsLow N₅ (by have := newsLe N'; simpa using this) k₆
  rw [ej, join_cat]
  refine hQ s' t' ps₅ ⟨extOf N hg' F₆ N₆ (by walk_at "mine.fa"), o₆.trans G.os, b₆, Nat.le_trans hL' (Nat.le_of_lt F₆.ns.lt)⟩ (N₆ (63, tabObj ps₅) (by walk_at "mine.fa")).1 hps₅
end
end Mine
end
section
open PySem PySem.W PyProof.Rows PySem.Calls PySem.Builtin PySem.Builtin.List
set_option maxRecDepth 100000
namespace Mine

/-- where a slice from i on begins, in a row of n -/
noncomputable def cut (i : Int) (n : Nat) : Nat := (max 0 (min (if i < 0 then i + n else i) n)).toNat
theorem cut_le (i : Int) (n : Nat) : cut i n ≤ n := by unfold cut; omega
theorem cut_cut (i : Int) (n : Nat) : cut (cut i n : Int) n = cut i n := by
  have h := cut_le i n
  generalize cut i n = c at *
  unfold cut
  rw [if_neg (by omega)]; omega
theorem bounds_from (i : Int) (n : Nat) : sliceBounds (some i) none none n = ((cut i n : Int), (n : Int), 1) := by
  simp only [sliceBounds, Option.getD_none, show (1 : Int) > 0 by decide, if_true]
  congr 1
  unfold cut; omega
theorem bounds_upto (i : Int) (n : Nat) : sliceBounds none (some i) none n = (0, (cut i n : Int), 1) := by
  simp only [sliceBounds, Option.getD_none, show (1 : Int) > 0 by decide, if_true]
  congr 2
  unfold cut; omega
theorem bounds_all (n : Nat) : sliceBounds none none none n = (0, (n : Int), 1) := rfl
theorem pick_from (vs : Array Value) (i : Int) : slicePick vs (some i) none none = (vs.toList.drop (cut i vs.size)).toArray := by
  have := slicePick_from vs (cut i vs.size) (cut_le _ _)
  rw [← this]
  unfold slicePick
  rw [bounds_from, bounds_from]
  have e : cut (cut i vs.size : Int) vs.size = cut i vs.size := cut_cut i vs.size
  rw [e]
theorem pick_upto (vs : Array Value) (i : Int) : slicePick vs none (some i) none = (vs.toList.take (cut i vs.size)).toArray := by
  have := slicePick_upto vs (cut i vs.size) (cut_le _ _)
  rw [← this]
  unfold slicePick
  rw [bounds_upto, bounds_upto]
  have e : cut (cut i vs.size : Int) vs.size = cut i vs.size := cut_cut i vs.size
  rw [e]

section
variable {prog : Program} {w : World} {A : Around} {E : Value → Shared → Prop} {s : Shared} {x sl : Addr} {o : Obj} {vs : Array Value} {n : Nat} {vl vu vst : Value} {lo hi st : Option Int}

theorem parts_here {Q : Value × Value × Value → Shared → Prop} (hs : s.heap.IsSliceOf sl vl vu .none) (pl : IsPart vl lo) (pu : IsPart vu hi) (h : Q (rawPart lo, rawPart hi, .none) s) : wpAny (model prog w) A (listSliceParts (.ref sl)) Q E s := by
  obtain ⟨os, hos, hcs, hds⟩ := hs
  rw [listSliceParts_eq]
  refine wpAny_bind (wpAny_field hos hds (x := .none) rfl (wpAny_bind (wpAny_listPart .none ?_)))
  rw [if_neg (by exact Bool.false_ne_true)]
  refine wpAny_bind (wpAny_field hos hds (x := vl) rfl (wpAny_bind (wpAny_listPart pl ?_)))
  exact wpAny_bind (wpAny_field hos hds (x := vu) rfl (wpAny_bind (wpAny_listPart pu (wpAny_pure h))))
theorem noIndex {Q : Option Int → Shared → Prop} (hs : s.heap.IsSliceOf sl vl vu vst) (h : Q none s) : wpAny (model prog w) A (listSubscript? (.ref sl)) Q E s := by
  obtain ⟨os, hos, hcs, hds⟩ := hs
  unfold listSubscript?
  refine wpAny_bind (wpAny_specialOf (T := "slice") ⟨os, hos, hcs⟩ slice_no_index ?_)
  simp only [Option.isNone_none, if_true]
  exact wpAny_pure h
theorem items_here {Q : Array Value → Shared → Prop} (hx : s.heap.get? x = some o) (hd : o.data = .seq vs n) (h : Q vs s) : wpAny (model prog w) A (listItems (.ref x)) Q E s := by
  unfold listItems
  exact wpAny_bind (wpAny_seqItems hx hd (wpAny_pure h))
theorem upd_here {f : Array Value → Array Value} {Q : Unit → Shared → Prop} {cls : Value} {od : Option Addr} {sls : Array (Option Value)} (hx : s.heap.get? x = some ⟨cls, od, .seq vs n, sls⟩) (hsz : vs.size ≤ sizeLine) (hsz' : (f vs).size ≤ sizeLine + 1)
    (h : ∀ h' n', h'.get? x = some ⟨cls, od, .seq (f vs) n', sls⟩ → Heap.SameBut x s.heap h' → Q () { s with heap := h' }) : wpAny (model prog w) A (listUpdate (.ref x) f) Q E s := by
  show wpAny _ _ (updateSeq x f) _ _ _
  refine wpAny_updateSeq hx rfl ?_ hsz hsz'
  have e := Heap.get?_update_self (Obj.mapSeq f) hx (by simp [Obj.mapSeq, Obj.isFreed])
  simp only [Obj.mapSeq] at e
  exact h _ _ e (Heap.SameBut.update ..)

theorem get_core {Q : Fin → Shared → Prop} (hx : s.heap.get? x = some o) (hd : o.data = .seq vs n) (hsz : vs.size ≤ sizeLine) (hs : s.heap.IsSliceOf sl vl vu .none) (pl : IsPart vl lo) (pu : IsPart vu hi)
    (h : Q (.done (.ret (.ref s.heap.objs.size))) { s with heap := s.heap.push { cls := .type "list", data := .seq (slicePick vs lo hi none) } }) : wpAny (model prog w) A (Builtin.«list.__getitem__» ⟨[.ref x, .ref sl], []⟩) Q E s := by
  show wpAny _ _ (listSubscript? (.ref sl) >>= _) _ _ s
  refine wpAny_bind (noIndex hs ?_)
  show wpAny _ _ (typeOf (.ref sl) >>= _) _ _ s
  obtain ⟨os, hos, hcs, hds⟩ := id hs
  refine wpAny_bind (wpAny_typeOf (T := "slice") ⟨os, hos, hcs⟩ ?_)
  rw [if_neg (by decide)]
  refine wpAny_bind (parts_here hs pl pu ?_)
  refine wpAny_bind (items_here hx hd ?_)
  refine wpAny_bind (wpAny_of_eq (sliceIndices_raw lo hi none vs.size (by simp)) ?_)
  exact wpAny_bind (wpAny_newObj_type (wpAny_pure h) (Nat.le_trans (slicePick_size_le vs lo hi none) hsz))

theorem set_core {Q : Fin → Shared → Prop} {cls : Value} {od : Option Addr} {sls : Array (Option Value)} {y : Addr} {oy : Obj} {us : Array Value} {ny : Nat} (hx : s.heap.get? x = some ⟨cls, od, .seq vs n, sls⟩)
    (hs : s.heap.IsSliceOf sl vl vu .none) (pl : IsPart vl lo) (pu : IsPart vu hi) (hy : s.heap.get? y = some oy) (hyc : oy.cls = .type "list") (hyd : oy.data = .seq us ny) (hne : y ≠ x) (hsz : vs.size + us.size ≤ sizeLine)
    {a b : Nat} (hb : sliceBounds lo hi none vs.size = ((a : Int), (b : Int), 1)) (hab : a ≤ b) (hbn : b ≤ vs.size)
    (h : ∀ h' n', h'.get? x = some ⟨cls, od, .seq (vs.toList.take a ++ us.toList ++ vs.toList.drop b).toArray n', sls⟩ → Heap.SameBut x s.heap h' → Q (.done (.ret .none)) { s with heap := h' }) :
    wpAny (model prog w) A (Builtin.«list.__setitem__» ⟨[.ref x, .ref sl, .ref y], []⟩) Q E s := by
  show wpAny _ _ (listSubscript? (.ref sl) >>= _) _ _ s
  refine wpAny_bind (noIndex hs ?_)
  show wpAny _ _ (typeOf (.ref sl) >>= _) _ _ s
  obtain ⟨os, hos, hcs, hds⟩ := id hs
  refine wpAny_bind (wpAny_typeOf (T := "slice") ⟨os, hos, hcs⟩ ?_)
  rw [if_neg (by decide)]
  refine wpAny_bind (parts_here hs pl pu ?_)
  have hsame : listSameRef (.ref x) (.ref y) = false := by
    show (x == y) = false
    exact beq_false_of_ne (Ne.symm hne)
  rw [hsame]
  simp only [Bool.false_eq_true, if_false]
  refine wpAny_bind ?_
  unfold listAllItems
  refine wpAny_bind (wpAny_typeOf (T := "list") ⟨oy, hy, hyc⟩ ?_)
  rw [if_pos (by decide)]
  unfold listItems
  refine wpAny_bind (wpAny_seqItems hy hyd (wpAny_pure ?_))
  refine wpAny_bind (items_here hx rfl ?_)
  refine wpAny_bind (wpAny_of_eq (sliceIndices_raw lo hi none vs.size (by simp)) ?_)
  rw [hb]
  simp only [beq_self_eq_true, if_true]
  refine wpAny_bind (wpAny_rule ?_)
  rw [if_neg (by simp [listTooLong]; omega)]
  have e : (vs.extract 0 (Int.toNat a) ++ us ++ vs.extract (max (a : Int) (b : Int)).toNat vs.size) = (vs.toList.take a ++ us.toList ++ vs.toList.drop b).toArray := by
    have : (max (a : Int) (b : Int)).toNat = b := by omega
    rw [this]
    apply Array.ext'
    simp [Array.toList_extract, List.extract]
    rw [List.take_of_length_le (by simp)]
  refine wpAny_bind (upd_here hx (by omega) ?_ fun h' n' hx' hs' => ?_)
  · show (vs.extract 0 (Int.toNat a) ++ us ++ vs.extract (max (a : Int) (b : Int)).toNat vs.size).size ≤ _
    rw [e]; simp; omega
  · rw [e] at hx'
    exact wpAny_bind (wpAny_letGo (wpAny_pure (h h' n' hx' hs')))

theorem selDrop (sel : Nat → Bool) (c : Nat) (hsel : ∀ k, sel k = decide (k < c)) (l : List Value) : ((l.zipIdx.filterMap fun x => match x with | (x, k) => if sel k = true then none else some x).toArray : Array Value) = (l.drop c).toArray := by
  congr 1
  have gen : ∀ (l : List Value) (j : Nat), ((l.zipIdx j).filterMap fun x => match x with | (x, k) => if sel k = true then none else some x) = l.drop (c - j) := by
    intro l
    induction l with
    | nil => intro j; simp
    | cons y r ih =>
      intro j
      rw [List.zipIdx_cons, List.filterMap_cons]
      dsimp only
      rw [hsel j, ih (j + 1)]
      by_cases hj : j < c
      · rw [if_pos (by simpa using hj)]
        dsimp only
        rw [show c - j = (c - (j + 1)) + 1 by omega]
        rfl
      · rw [if_neg (by simpa using hj)]
        dsimp only
        rw [show c - j = 0 by omega, show c - (j + 1) = 0 by omega]
        rfl
  exact gen l 0
theorem del_core {Q : Fin → Shared → Prop} {cls : Value} {od : Option Addr} {sls : Array (Option Value)} {i : Int} {ti : Tok} (hx : s.heap.get? x = some ⟨cls, od, .seq vs n, sls⟩) (hsz : vs.size ≤ sizeLine)
    (hs : s.heap.IsSliceOf sl .none (.int i ti) .none)
    (h : ∀ h' n', h'.get? x = some ⟨cls, od, .seq (vs.toList.drop (cut i vs.size)).toArray n', sls⟩ → Heap.SameBut x s.heap h' → Q (.done (.ret .none)) { s with heap := h' }) :
    wpAny (model prog w) A (Builtin.«list.__delitem__» ⟨[.ref x, .ref sl], []⟩) Q E s := by
  show wpAny _ _ (listSubscript? (.ref sl) >>= _) _ _ s
  refine wpAny_bind (noIndex hs ?_)
  show wpAny _ _ (typeOf (.ref sl) >>= _) _ _ s
  obtain ⟨os, hos, hcs, hds⟩ := id hs
  refine wpAny_bind (wpAny_typeOf (T := "slice") ⟨os, hos, hcs⟩ ?_)
  rw [if_neg (by decide)]
  refine wpAny_bind (parts_here hs .none (.int i ti) ?_)
  refine wpAny_bind (items_here hx rfl ?_)
  refine wpAny_bind (wpAny_of_eq (sliceIndices_raw none (some i) none vs.size (by simp)) ?_)
  rw [bounds_upto]
  refine wpAny_bind (wpAny_rule ?_)
  have up : ∀ f : Array Value → Array Value, f vs = (vs.toList.drop (cut i vs.size)).toArray → ∀ g : Sem PySem.Fin, (∀ (s' : Shared), Q (.done (.ret .none)) s' → wpAny (model prog w) A g Q E s') → wpAny (model prog w) A (listUpdate (.ref x) f >>= fun _ => g) Q E s := by
    intro f hf g hg
    refine wpAny_bind (upd_here hx hsz (by rw [hf]; simp; omega) fun h' n' hx' hs' => hg _ (h h' n' (hf ▸ hx') hs'))
  refine up _ (selDrop (fun k => _) _ (fun k => ?_) _) _ fun s' q => wpAny_bind (wpAny_letGo (wpAny_pure q))
  show (if (1 : Int) > 0 then decide ((0 : Int) ≤ (k : Int)) && decide ((k : Int) < (cut i vs.size : Int)) && (((k : Int) - 0) % 1 == 0) else _) = _
  rw [if_pos (by decide)]
  have e1 : ((k : Int) - 0) % 1 = 0 := by omega
  rw [e1]
  simp
end
end Mine
end
section
open PySem PySem.W PyProof.Rows PySem.Calls PySem.Builtin PySem.Builtin.List PySem.Builtin.ObjectAttr
set_option maxRecDepth 100000
namespace Mine
namespace FF
theorem plain_get : plainId "list.__getitem__" = true := by decide +kernel
theorem kind_get : builtinKind "list.__getitem__" = some .method := by decide +kernel
theorem split_get : splitId "list.__getitem__" = some ("list", "__getitem__") := by decide +kernel
theorem args_get (a b : Value) : argsOk "list.__getitem__" ⟨[a, b], []⟩ := by unfold argsOk; kernel_rfl
theorem plain_set : plainId "list.__setitem__" = true := by decide +kernel
theorem kind_set : builtinKind "list.__setitem__" = some .slot := by decide +kernel
theorem split_set : splitId "list.__setitem__" = some ("list", "__setitem__") := by decide +kernel
theorem args_set (a b c : Value) : argsOk "list.__setitem__" ⟨[a, b, c], []⟩ := by unfold argsOk; kernel_rfl
end FF

section
variable {prog : Program} {w : World} {A : Around} {E : Value → Shared → Prop} {s : Shared} {K : Frag} {x C dx L : Addr} {vs : Array Value} {n : Nat} {odx : Option Addr} {sls : Array (Option Value)} {h₀ : Heap} {m : Str → Option Value} {news : List (Addr × Obj)}

theorem special_acc {M : Model} {name : Str} {id : String} {args : List Value} {Q : Option Value → Shared → Prop} (X : K.In s.heap) (hx : s.heap.get? x = some ⟨.ref C, odx, .seq vs n, sls⟩) (hf : findIn K (.ref C) name = some (some (.builtin id)))
    (hb : ∀ self, bindSpecial (.builtin id) self = pure (.builtin id, [self])) (h : wpAny M A (call (.builtin id) (.ref x :: args)) (fun v => Q (some v)) E s) : wpAny M A (callSpecial? (.ref x) name args) Q E s := by
  unfold callSpecial? specialOf
  refine wpAny_bind (wpAny_bind ((acc_type hx).here ((looks_findIn X hf).here (wpAny_holding ?_))))
  rw [hb]
  exact wpAny_bind (wpAny_pure (wpAny_bind (wpAny_mono h (fun _ _ z => wpAny_pure z) fun _ _ z => z)))
theorem key_acc {M : Model} {k : Value} {name : Str} {Q : Value → Shared → Prop} (X : K.In s.heap) (hx : s.heap.get? x = some ⟨.ref C, odx, .seq vs n, sls⟩) (hq : noSeq K C = true) (h : Q k s) : wpAny M A (sequenceKey (.ref x) k name) Q E s := by
  unfold sequenceKey
  refine wpAny_bind ((acc_type hx).here ?_)
  refine wpAny_bind ((anyM_none X hq).here ?_)
  rw [if_pos (show (!false) = true from rfl)]
  exact wpAny_pure h

theorem tail_acc {value slice : PySem.Expr} {vl vu : Value} {lo hi : Option Int} {Q : Value → Shared → Prop} (F : Fr h₀ L s.heap m) (X₀ : K.In h₀) (N : News h₀ L s.heap news) (hx : (x, accObj dx vs n) ∈ news) (hm : mroIn K 94 (.type "list") = some true) (hq : noSeq K 94 = true)
    (hf : findIn K (.ref 94) "__getitem__" = some (some (.builtin "list.__getitem__"))) (pl : IsPart vl lo) (pu : IsPart vu hi)
    (h : ∀ D h', Fr h₀ L h' m → News h₀ L h' ((D, listOf (slicePick vs lo hi none) 0) :: news) → (∀ p ∈ news, p.1 < D) → Q (.ref D) { s with heap := h' })
    (hs : subscripted slice false (.ref x) (.ref s.heap.objs.size) = operate [.ref s.heap.objs.size, .ref x] (getItem (.ref x) (.ref s.heap.objs.size))) (ht : ∀ r, letTemporaryGo value (.ref x) r = pure ()) (hz : vs.size ≤ sizeLine) :
    wpAny (model prog w) A (subscriptTail value slice (.ref x) (.ref s.heap.objs.size)) Q E { s with heap := s.heap.push { cls := .type "slice", data := .fields #[vl, vu, .none] } } := by
  have XH : K.In (s.heap.push { cls := .type "slice", data := .fields #[vl, vu, .none] }) := X₀.keeps fun b o e => Heap.get?_push_of_some _ (F.keep b o e)
  have hX : (s.heap.push { cls := .type "slice", data := .fields #[vl, vu, .none] }).get? x = some (accObj dx vs n) := Heap.get?_push_of_some _ (N _ hx).1
  have F1 := F.push ({ cls := .type "slice", data := .fields #[vl, vu, .none] } : Obj)
  have N1 := News.pushKeep N ({ cls := .type "slice", data := .fields #[vl, vu, .none] } : Obj)
  unfold subscriptTail getitemInPython specialOf
  refine wpAny_bind (wpAny_bind (wpAny_bind ((acc_type hX).here ((looks_findIn XH hf).here (wpAny_pure ?_)))))
  rw [hs]
  refine wpAny_bind (wpAny_operating ?_)
  unfold getItem
  refine wpAny_holding (wpAny_bind (key_acc XH hX hq ?_))
  refine wpAny_bind (special_acc XH hX hf slot_list_getitem.bind ?_)
  refine call_meth_acc FF.plain_get entry_list_getitem FF.kind_get FF.split_get (acc_inst XH hX hm) (FF.args_get _ _) ?_
  refine get_core hX rfl hz (Heap.IsSliceOf.new ..) pl pu ⟨_, rfl, ?_⟩
  refine wpAny_pure (wpAny_bind (wpAny_of_eq (ht _) (wpAny_pure ?_)))
  refine h _ _ (F1.push _) (News.push F1 N1 _) fun p hp => ?_
  show p.1 < (s.heap.push _).objs.size
  rw [Heap.size_push]
  exact Nat.lt_succ_of_lt (Heap.lt_size (N p hp).1)

theorem set_acc {news' : Nat → List (Addr × Obj)} {vl vu : Value} {lo hi : Option Int} {y : Addr} {us : Array Value} {ny : Nat} {a b : Nat} {Q : Unit → Shared → Prop} (F : Fr h₀ L s.heap m) (X₀ : K.In h₀) (N : News h₀ L s.heap news) (hx : (x, accObj dx vs n) ∈ news) (hm : mroIn K 94 (.type "list") = some true) (hq : noSeq K 94 = true)
    (hf : findIn K (.ref 94) "__setitem__" = some (some (.builtin "list.__setitem__"))) (pl : IsPart vl lo) (pu : IsPart vu hi)
    (hy : s.heap.get? y = some (listOf us ny)) (hsz : vs.size + us.size ≤ sizeLine) (hb : sliceBounds lo hi none vs.size = ((a : Int), (b : Int), 1)) (hab : a ≤ b) (hbn : b ≤ vs.size) {ws : Array Value} (he : (vs.toList.take a ++ us.toList ++ vs.toList.drop b).toArray = ws)
    (U : ∀ n', Upd x (accObj dx vs n) (accObj dx ws n') news (news' n'))
    (h : ∀ n' h', Fr h₀ L h' m → News h₀ L h' (news' n') → (∀ b o, b ≠ x → s.heap.get? b = some o → h'.get? b = some o) → Q () { s with heap := h' }) :
    wpAny (model prog w) A (setItem (.ref x) (.ref s.heap.objs.size) (.ref y)) Q E { s with heap := s.heap.push { cls := .type "slice", data := .fields #[vl, vu, .none] } } := by
  have XH : K.In (s.heap.push { cls := .type "slice", data := .fields #[vl, vu, .none] }) := X₀.keeps fun b o e => Heap.get?_push_of_some _ (F.keep b o e)
  have hX : (s.heap.push { cls := .type "slice", data := .fields #[vl, vu, .none] }).get? x = some (accObj dx vs n) := Heap.get?_push_of_some _ (N _ hx).1
  have F1 := F.push ({ cls := .type "slice", data := .fields #[vl, vu, .none] } : Obj)
  have N1 := News.pushKeep N ({ cls := .type "slice", data := .fields #[vl, vu, .none] } : Obj)
  unfold setItem
  refine wpAny_holding (wpAny_bind (key_acc XH hX hq ?_))
  refine wpAny_bind (special_acc XH hX hf slot_list_setitem.bind ?_)
  refine call_slot_acc FF.plain_set entry_list_setitem FF.kind_set FF.split_set (acc_inst XH hX hm) (FF.args_set _ _ _) ?_
  refine set_core hX (Heap.IsSliceOf.new ..) pl pu (Heap.get?_push_of_some _ hy) rfl rfl (fun e => ?_) hsz hb hab hbn fun h' n' hx' hs' => ⟨_, rfl, wpAny_pure ?_⟩
  · rw [e, (N _ hx).1] at hy; cases hy
  · obtain ⟨F2, N2⟩ := updSame F1 N1 (U n') hs' (he ▸ hx')
    exact h n' h' F2 N2 fun b o hb e => hs'.extBut b o hb (Heap.get?_push_of_some _ e)

theorem refuse_list (self : Value) : refuseLoop self "__setattr__" [.type "list", .type "object"] = pure () := by kernel_rfl
theorem osa_acc {es es' : List DictEntry} {ne ne' : Nat} {name : Str} {v : Value} {ox : Obj} {tk : Tok} {pre post : List (Addr × Obj)} {R : Result → Shared → Prop} (F : Fr h₀ L s.heap m) (X₀ : K.In h₀) (N : News h₀ L s.heap (pre ++ (dx, dictOf es ne) :: post)) (h1 : ∀ p ∈ pre, p.1 ≠ dx) (h2 : ∀ p ∈ post, p.1 ≠ dx)
    (I : InstAt s.heap x ox C (some (dictOf es ne))) (hd : ox.dict = some dx) {cd : ClassData} (hc : clsIn K C = some cd) (hmro : cd.mro = [.ref 94, .type "list", .type "object"]) (ht : findIn K (.ref C) name = some none) (hh : hasDictIn K C = true) (hl : (getL name es).isSome = true)
    (e1 : putL name (PyData.keyHash w.params name) (.str name s.toks) v es = es') (e2 : putN name es ne = ne') (hz : es'.length ≤ 1000)
    (h : ∀ h', Fr h₀ L h' m → News h₀ L h' (pre ++ (dx, dictOf es' ne') :: post) → R (.ok (.ret .none)) { s with heap := h', toks := s.toks + 1 }) :
    codeAny (model prog w) A (.call (.builtin "object.__setattr__") ⟨[.ref x, .str name tk, v], []⟩) R s := by
  have X := X₀.keeps F.keep
  have SF := PySem.F.store_object
  have sub : Looks (model prog w) s.heap (isInstance (.ref x) (.type "object")) true := I.type.andThen (looks_mroIn X (by unfold mroIn; rw [hc, Option.bind_some, hmro]; rfl))
  refine codeAny_call_builtin SF.slot.plain SF.entry (@check_slot (model prog w) _ _ s "object.__setattr__" "object" "__setattr__" (.ref x) [.str name tk, v] [] _ SF.kind SF.split sub (SF.args (.ref x) (.str name tk) v) ?_)
  have hm : Looks (model prog w) s.heap (mroOf (.ref C)) cd.mro := (looks_clsIn X hc).andThen .now
  rw [osa_eq, refuse_eq]
  refine wpAny_bind (wpAny_bind (I.type.here (wpAny_bind (hm.here ?_))))
  rw [hmro, refuseLoop_ref, refuse_list]
  refine wpAny_pure (wpAny_bind (I.type.here (wpAny_bind ((looks_findIn X ht).here (wpAny_bind (wpAny_pure ?_))))))
  obtain ⟨cd', hc', hd'⟩ := any_some hh
  have eo : Obj.putName name (PyData.keyHash w.params name) (.str name s.toks) v (dictOf es ne) = dictOf es' ne' := by rw [putName_dict, e1, e2]
  obtain ⟨U1, U2⟩ := news_upd (f := Obj.putName name (PyData.keyHash w.params name) (.str name s.toks) v) F N h1 h2 eo rfl
  have D := (N (dx, dictOf es ne) (by simp)).1
  have D' := (U2 (dx, dictOf es' ne') (by simp)).1
  obtain ⟨hx, hcl, hn, -⟩ := I
  obtain ⟨oc, odi, oda, osl⟩ := ox
  dsimp only at hcl hd
  subst hcl hd
  refine wpAny_bind (wpAny_pure (wpAny_bind (wpAny_bind (wpAny_loadPart hx (wpAny_bind ((looks_clsIn X hc').here ?_))))))
  rw [hd']
  refine wpAny_pure (a := some dx) (wpAny_bind (wpAny_pure (wpAny_bind ?_)))
  unfold nsSet
  refine wpAny_bind (wpAny_bind (wpAny_askSetting (wpAny_pure (wpAny_bind (wpAny_mkText (wpAny_bind (wpAny_loadPart D ?_)))))))
  dsimp only
  have c : (!es.toArray.any (·.key.isStr name) && es.toArray.any (·.refKey)) = false := by
    rw [← Array.any_toList, ← Array.any_toList]
    unfold getL at hl
    split at hl
    · rename_i en he
      rw [List.any_eq_true.mpr ⟨en, List.mem_of_find?_eq_some he, List.find?_some he⟩]; rfl
    · split at hl
      · cases hl
      · rename_i z; rw [Bool.not_eq_true] at z; rw [z, Bool.and_false]
  rw [aRefKeyMayBeTheName_at, c]
  refine wpAny_updatePart D ?_
  refine wpAny_bind (wpAny_lookBehind D' (pastItsLine_dict (by rw [List.size_toArray, sizeLine_eq]; omega)) ?_)
  exact wpAny_pure (h _ U1 U2)
theorem set_attr_acc {es es' : List DictEntry} {ne ne' : Nat} {name : Str} {v : Value} {ox : Obj} {news' : List (Addr × Obj)} {Q : Unit → Shared → Prop} (F : Fr h₀ L s.heap m) (X₀ : K.In h₀) (N : News h₀ L s.heap news) (I : InstAt s.heap x ox C (some (dictOf es ne))) (hd : ox.dict = some dx)
    (hs : findIn K (.ref C) "__setattr__" = some (some (.builtin "object.__setattr__"))) {cd : ClassData} (hc : clsIn K C = some cd) (hmro : cd.mro = [.ref 94, .type "list", .type "object"]) (ht : findIn K (.ref C) name = some none) (hh : hasDictIn K C = true) (hl : (getL name es).isSome = true)
    (e : (putL name (PyData.keyHash w.params name) (.str name (s.toks + 1)) v es, putN name es ne) = (es', ne')) (U : Upd dx (dictOf es ne) (dictOf es' ne') news news') (hz : es'.length ≤ 1000)
    (h : ∀ h', Fr h₀ L h' m → News h₀ L h' news' → Q () { s with heap := h', toks := s.toks + 2 }) : wpAny (model prog w) A (setAttr (.ref x) name v) Q E s := by
  obtain ⟨pre, post, rfl, rfl, h1, h2⟩ := U.split
  obtain ⟨e1, e2⟩ := Prod.mk.inj e
  exact set_plain (X₀.keeps F.keep) I hs (osa_acc (s := { s with toks := s.toks + 1 }) F X₀ N h1 h2 I hd hc hmro ht hh hl e1 e2 hz fun h' F' N' => h h' F' N')
end
end Mine
end
section
open PySem PySem.W PyProof.Rows PySem.Calls
namespace Mine
local macro_rules | `(tactic| k_inst) => `(tactic| (refine' instAcc ?N ?h1 ?h2; (case N => k_asm); (case h1 => k_mem); (case h2 => k_mem)))
local macro_rules | `(tactic| walk_at $s:str) => `(tactic| k_extra $s)
theorem words1 : True := by
  k_with_none
  k_with "mine.mem" => (repeat (first | exact List.Mem.head _ | refine List.Mem.tail _ ?_))
  k_with "mine.nm" => ((repeat' (first | exact nm_nil | refine nm_cons ?_ ?_)) <;> (first | assumption | ((try dsimp only); first | decide | (refine neN ?_; omega))))
  k_with "mine.fa1" => (first | exact ncR | exact ncN | exact ncL | exact ncD | (walk_at "mine.mem"; done) | (refine fa_in ?_; walk_at "mine.mem"; done) | (refine fa_out ?_; walk_at "mine.mem"; done) | (refine Or.inl ⟨?_, ?_⟩; (focus (walk_at "mine.mem"; done)); (walk_at "mine.nm"; done)) | (refine Or.inr ⟨by assumption, ?_⟩; walk_at "mine.mem"; done) | (refine neN ?_; omega))
  k_with "mine.fa" => (first | exact fa_all | ((repeat' (first | exact fa_nil | refine fa_cons ?_ ?_)); (all_goals walk_at "mine.fa1"); done) | simp)
  k_with "getMethod ref" => (k_here; k_dflt (refine' getMethod_acc (by k_in) (by k_inst) (by k_is) (by k_is) (by k_is) (by k_is) (by decide) (by k_get) ?_; k_whole))
  k_with "call builtin:list.append" => (k_here; (with_reducible show wpAny _ _ (call (Value.builtin _) [Value.ref _, _]) _ _ _); k_dflt (refine' acc_append_K (by k_asm) (by k_asm) (by k_asm) (by k_upd) (by k_is) (by assumption) ?_; k_whole); intro _ _ _; (try k_sweep))
  k_with "getAttr ref" => (k_here; k_dflt (refine' get_acc (by k_in) (by exact News.get (by k_asm) (by k_mem)) (by exact News.get (by k_asm) (by k_mem)) (by k_is) (by k_is) (by k_is) (by k_is) (by k_is) (by k_get) (by k_handed) ?_; k_whole))
  k_with "setAttr ref" => (k_here; k_dflt (refine' set_attr_acc (by k_asm) (by k_asm) (by k_asm) (by k_inst) (by exact rfl) (by k_is) (by k_is) (by exact rfl) (by k_is) (by k_is) (by k_get) (by k_put) (by k_upd) (by exact Nat.le_of_ble_eq_true rfl) ?_; k_whole; intro _ _ _; (try k_sweep)))
  trivial
section
open PySem PySem.W PyProof.Rows PySem.Calls
theorem newIn {h g h' : Heap} {L' D : Addr} {o : Obj} {news news' : List (Addr × Obj)} (hg : ∀ b o, b ∉ news.map (·.1) → h.get? b = some o → g.get? b = some o) (N' : News g L' h' news') (hD : (D, o) ∈ news') (hne : ∀ p ∈ news, @Ne Nat p.1 D) : h.get? D = none := by
  cases e : h.get? D with
  | none => rfl
  | some o' =>
    have := hg D o' (fun hm => by obtain ⟨p, hp, q⟩ := List.mem_map.mp hm; exact hne p hp q) e
    rw [(N' _ hD).2.2] at this; cases this
set_option maxRecDepth 100000 in
set_option maxHeartbeats 4000000 in
theorem push_spec {w : World} {dp un : Nat} {gd : Option (List Code)} {cn : Str} {cs : Scope} {a : Addr} {ccd : Value} {cl : List (Str × Addr)} {outer : List Env} {A₀ : Around} {base h₀ : Heap} {L : Addr} {m : Str → Option Value} {s : Shared}
   {loose : List Str} {mean : ExcName → Option Value} {mg mb : Str → Option Value} {p : Program} {Q E : Value → Shared → Prop} {x dx : Addr} {vs : Array Value} {n : Nat} {k t : Tok} {i : Int} {vf vp : Value}
   (B : Below A₀ base outer h₀) (F : Fr h₀ L s.heap m) (X : (Mine.hd.heap_39 w.params).In h₀) (N : News h₀ L s.heap [(x, accObj dx vs n), (dx, accDict w k i t)]) (T : Top p loose mean mg mb h₀) (hk : cs.kind = .function) (hd : dp + 40 < recursionLimit) (hu : un + 400 < cLine)
   (hsz : vs.size ≤ sizeLine) (hxd : @LT.lt Nat _ dx x) (hb : AllBare s.gens)
   (hQ : ∀ s' D n', Post [x] s s' → s'.heap.get? x = some (accObj dx (vs.push (.ref D)) n') → s.heap.get? D = none → s'.heap.get? D = some (tup2 vf vp) → Q .none s') :
   wpAny (model PySem.Challenge.rw_mq0119_01.row.prog w) (ktrTop dp un gd cn cs L a ccd cl outer) (call (.ref 38) [.ref x, vf, vp]) Q E s := by
  revert X; k_fill; intro X
  k_dflt (refine' enterE (binds := [("self", .ref x), ("fws", vf), ("string", vp)]) ?k1 ?k2 ?k3 ?k4 ?k5 ?kA ?kF ?kK ?k6 ?k7 ?k8 ?k9 ?kB ?_ ?c2 ?c3 ?c4 ?c5; (case kA => exact rfl); (case kF => exact rfl); (case kK => assumption); (case k1 => k_asm); (case k2 => k_asm); (case k3 => k_asm); (case k4 => k_asm); (case k5 => k_asm); (case k6 => k_is); (case k7 => k_is); (case k8 => (simp only []; omega)); (case k9 => first | exact binds_K (by k_in) rfl (by k_is) rfl rfl rfl | exact BindsTo.of_eq rfl); (case c5 => decide); (case kB => exact locs rfl); (case c2 => exact rfl); (case c3 => exact rfl); (case c4 => exact rfl); k_whole)
  intro g' L' h' hg' hL' hlt' F' N' B' X' T'
  k_lt hlt'
  (try dsimp only); (try k_fold)
  repeat' walk1
  rename_i D h₂ l₁ h₃ F₃ N₃
  exact hQ _ D _ ⟨extOf N hg' F₃ N₃ (by walk_at "mine.fa"), rfl, hb, Nat.le_trans hL' (Nat.le_of_lt F₃.ns.lt)⟩ (News.get N₃ (by k_mem)) (newIn (o := tup2 vf vp) hg' N₃ (by k_mem) (by simp; omega)) (News.get N₃ (by walk_at "mine.fa"))
set_option maxRecDepth 100000 in
set_option maxHeartbeats 4000000 in
theorem pop_from_spec {w : World} {dp un : Nat} {gd : Option (List Code)} {cn : Str} {cs : Scope} {a : Addr} {ccd : Value} {cl : List (Str × Addr)} {outer : List Env} {A₀ : Around} {base h₀ : Heap} {L : Addr} {m : Str → Option Value} {s : Shared}
   {loose : List Str} {mean : ExcName → Option Value} {mg mb : Str → Option Value} {p : Program} {Q E : Value → Shared → Prop} {x dx : Addr} {vs : Array Value} {n : Nat} {k t ti : Tok} {i j : Int}
   (B : Below A₀ base outer h₀) (F : Fr h₀ L s.heap m) (X : (Mine.hd.heap_39 w.params).In h₀) (N : News h₀ L s.heap [(x, accObj dx vs n), (dx, accDict w k i t)]) (T : Top p loose mean mg mb h₀) (hk : cs.kind = .function) (hd : dp + 40 < recursionLimit) (hu : un + 400 < cLine)
   (hsz : vs.size ≤ sizeLine) (hxd : @LT.lt Nat _ dx x) (hb : AllBare s.gens)
   (hQ : ∀ s' D n', Post [x] s s' → s'.heap.get? x = some (accObj dx (vs.toList.take (cut j vs.size)).toArray n') → s.heap.get? D = none → s'.heap.get? D = some (listOf (vs.toList.drop (cut j vs.size)).toArray 0) → Q (.ref D) s') :
   wpAny (model PySem.Challenge.rw_mq0119_01.row.prog w) (ktrTop dp un gd cn cs L a ccd cl outer) (call (.ref 46) [.ref x, .int j ti]) Q E s := by
  revert X; k_fill; intro X
  k_dflt (refine' enterE (binds := [("self", .ref x), ("i", .int j ti)]) ?k1 ?k2 ?k3 ?k4 ?k5 ?kA ?kF ?kK ?k6 ?k7 ?k8 ?k9 ?kB ?_ ?c2 ?c3 ?c4 ?c5; (case kA => exact rfl); (case kF => exact rfl); (case kK => assumption); (case k1 => k_asm); (case k2 => k_asm); (case k3 => k_asm); (case k4 => k_asm); (case k5 => k_asm); (case k6 => k_is); (case k7 => k_is); (case k8 => (simp only []; omega)); (case k9 => first | exact binds_K (by k_in) rfl (by k_is) rfl rfl rfl | exact BindsTo.of_eq rfl); (case c5 => decide); (case kB => exact locs rfl); (case c2 => exact rfl); (case c3 => exact rfl); (case c4 => exact rfl); k_whole)
  intro g' L' h' hg' hL' hlt' F' N' B' X' T'
  k_lt hlt'
  (try dsimp only); (try k_fold)
  repeat' walk1
  (k_dflt (refine' tail_acc (by k_asm) (by k_asm) (by k_asm) (by k_mem) (by k_is) (by k_is) (by k_is) (by first | exact IsPart.none | exact IsPart.int _ _) (by first | exact IsPart.none | exact IsPart.int _ _) ?_ (by exact rfl) (by exact fun _ => rfl) (by assumption); k_whole))
  intro D h₁ F₁ N₁ l₁
  k_lt l₁
  rw [pick_from] at N₁
  (try k_sweep)
  repeat' walk1
  (k_dflt (refine' set_acc (a := ?a) (b := ?b) (ws := ?ws) (by k_asm) (by k_asm) (by k_asm) (by k_mem) (by k_is) (by k_is) (by k_is) (by first | exact IsPart.none | exact IsPart.int _ _) (by first | exact IsPart.none | exact IsPart.int _ _) (by exact News.get (by k_asm) (by k_mem)) ?sz ?hb ?hab ?hbn ?he ?U ?_; (case hb => first | exact bounds_from _ _ | exact bounds_all _); k_whole))
  case sz => simpa using hsz
  case hab => exact cut_le _ _
  case hbn => exact Nat.le_refl _
  case he => rw [show (#[] : Array Value).toList = [] from rfl, List.append_nil, List.drop_of_length_le (by walk_at "mine.fa"), List.append_nil]
  case U => intro n'; k_upd
  intro n' h₂ F₂ N₂ k₂
  (try k_sweep)
  repeat' walk1
  refine hQ _ D n' ⟨extOf N hg' F₂ N₂ (by walk_at "mine.fa"), rfl, hb, Nat.le_trans hL' (Nat.le_of_lt F₂.ns.lt)⟩ (News.get N₂ (by walk_at "mine.fa")) (newIn (o := listOf _ 0) hg' N₂ (by k_mem) (by simp; omega)) (News.get N₂ (by walk_at "mine.fa"))
set_option maxRecDepth 100000 in
set_option maxHeartbeats 4000000 in
theorem reset_spec {w : World} {dp un : Nat} {gd : Option (List Code)} {cn : Str} {cs : Scope} {a : Addr} {ccd : Value} {cl : List (Str × Addr)} {outer : List Env} {A₀ : Around} {base h₀ : Heap} {L : Addr} {m : Str → Option Value} {s : Shared}
   {loose : List Str} {mean : ExcName → Option Value} {mg mb : Str → Option Value} {p : Program} {Q E : Value → Shared → Prop} {x dx : Addr} {vs : Array Value} {n : Nat} {k t ti : Tok} {i j : Int}
   (B : Below A₀ base outer h₀) (F : Fr h₀ L s.heap m) (X : (Mine.hd.heap_39 w.params).In h₀) (N : News h₀ L s.heap [(x, accObj dx vs n), (dx, accDict w k i t)]) (T : Top p loose mean mg mb h₀) (hk : cs.kind = .function) (hd : dp + 40 < recursionLimit) (hu : un + 400 < cLine)
   (hsz : vs.size ≤ sizeLine) (hxd : @LT.lt Nat _ dx x) (hb : AllBare s.gens)
   (hQ : ∀ s' n' t', Post [x, dx] s s' → s'.heap.get? x = some (accObj dx #[] n') → s'.heap.get? dx = some (accDict w k 0 t') → Q .none s') :
   wpAny (model PySem.Challenge.rw_mq0119_01.row.prog w) (ktrTop dp un gd cn cs L a ccd cl outer) (call (.ref 76) [.ref x]) Q E s := by
  revert X; k_fill; intro X
  k_dflt (refine' enterE (binds := [("self", .ref x), ("startval", .none)]) ?k1 ?k2 ?k3 ?k4 ?k5 ?kA ?kF ?kK ?k6 ?k7 ?k8 ?k9 ?kB ?_ ?c2 ?c3 ?c4 ?c5; (case kA => exact rfl); (case kF => exact rfl); (case kK => assumption); (case k1 => k_asm); (case k2 => k_asm); (case k3 => k_asm); (case k4 => k_asm); (case k5 => k_asm); (case k6 => k_is); (case k7 => k_is); (case k8 => (simp only []; omega)); (case k9 => first | exact binds_K (by k_in) rfl (by k_is) rfl rfl rfl | exact BindsTo.of_eq rfl); (case c5 => decide); (case kB => exact locs rfl); (case c2 => exact rfl); (case c3 => exact rfl); (case c4 => exact rfl); k_whole)
  intro g' L' h' hg' hL' hlt' F' N' B' X' T'
  k_lt hlt'
  (try dsimp only); (try k_fold)
  repeat' walk1
  (k_dflt (refine' set_acc (a := ?a) (b := ?b) (ws := ?ws) (by k_asm) (by k_asm) (by k_asm) (by k_mem) (by k_is) (by k_is) (by k_is) (by first | exact IsPart.none | exact IsPart.int _ _) (by first | exact IsPart.none | exact IsPart.int _ _) (by exact News.get (by k_asm) (by k_mem)) ?sz ?hb ?hab ?hbn ?he ?U ?_; (case hb => first | exact bounds_from _ _ | exact bounds_all _); k_whole))
  case sz => simpa using hsz
  case hab => exact Nat.zero_le _
  case hbn => exact Nat.le_refl _
  case he => rw [show (#[] : Array Value).toList = [] from rfl, List.append_nil, List.drop_of_length_le (by walk_at "mine.fa"), List.append_nil, List.take_zero]
  case U => intro n'; k_upd
  intro n' h₂ F₂ N₂ k₂
  (try k_sweep)
  repeat' walk1
  rename_i h₃ F₃ N₃
  exact hQ _ n' _ ⟨extOf N hg' F₃ N₃ (by walk_at "mine.fa"), rfl, hb, Nat.le_trans hL' (Nat.le_of_lt F₃.ns.lt)⟩ (News.get N₃ (by k_mem)) (News.get N₃ (by k_mem))
set_option maxRecDepth 100000 in
set_option maxHeartbeats 4000000 in
theorem reset1_spec {w : World} {dp un : Nat} {gd : Option (List Code)} {cn : Str} {cs : Scope} {a : Addr} {ccd : Value} {cl : List (Str × Addr)} {outer : List Env} {A₀ : Around} {base h₀ : Heap} {L : Addr} {m : Str → Option Value} {s : Shared}
   {loose : List Str} {mean : ExcName → Option Value} {mg mb : Str → Option Value} {p : Program} {Q E : Value → Shared → Prop} {x dx y : Addr} {vs us : Array Value} {n ny : Nat} {k t ti : Tok} {i j : Int}
   (B : Below A₀ base outer h₀) (F : Fr h₀ L s.heap m) (X : (Mine.hd.heap_39 w.params).In h₀) (N : News h₀ L s.heap [(x, accObj dx vs n), (dx, accDict w k i t), (y, listOf us ny)]) (T : Top p loose mean mg mb h₀) (hk : cs.kind = .function) (hd : dp + 40 < recursionLimit) (hu : un + 400 < cLine)
   (hsz : vs.size + us.size ≤ sizeLine) (hxd : @LT.lt Nat _ dx x) (hxy : @LT.lt Nat _ x y) (hb : AllBare s.gens)
   (hQ : ∀ s' n' t', Post [x, dx] s s' → s'.heap.get? x = some (accObj dx us n') → s'.heap.get? dx = some (accDict w k 0 t') → Q .none s') :
   wpAny (model PySem.Challenge.rw_mq0119_01.row.prog w) (ktrTop dp un gd cn cs L a ccd cl outer) (call (.ref 76) [.ref x, .ref y]) Q E s := by
  revert X; k_fill; intro X
  k_dflt (refine' enterE (binds := [("self", .ref x), ("startval", .ref y)]) ?k1 ?k2 ?k3 ?k4 ?k5 ?kA ?kF ?kK ?k6 ?k7 ?k8 ?k9 ?kB ?_ ?c2 ?c3 ?c4 ?c5; (case kA => exact rfl); (case kF => exact rfl); (case kK => assumption); (case k1 => k_asm); (case k2 => k_asm); (case k3 => k_asm); (case k4 => k_asm); (case k5 => k_asm); (case k6 => k_is); (case k7 => k_is); (case k8 => (simp only []; omega)); (case k9 => first | exact binds_K (by k_in) rfl (by k_is) rfl rfl rfl | exact BindsTo.of_eq rfl); (case c5 => decide); (case kB => exact locs rfl); (case c2 => exact rfl); (case c3 => exact rfl); (case c4 => exact rfl); k_whole)
  intro g' L' h' hg' hL' hlt' F' N' B' X' T'
  k_lt hlt'
  (try dsimp only); (try k_fold)
  repeat' walk1
  (k_dflt (refine' set_acc (a := ?a) (b := ?b) (ws := ?ws) (by k_asm) (by k_asm) (by k_asm) (by k_mem) (by k_is) (by k_is) (by k_is) (by first | exact IsPart.none | exact IsPart.int _ _) (by first | exact IsPart.none | exact IsPart.int _ _) (by exact News.get (by k_asm) (by k_mem)) ?sz ?hb ?hab ?hbn ?he ?U ?_; (case hb => first | exact bounds_from _ _ | exact bounds_all _); k_whole))
  case sz => exact hsz
  case hab => exact Nat.zero_le _
  case hbn => exact Nat.le_refl _
  case he => rw [List.take_zero, List.drop_of_length_le (by walk_at "mine.fa"), List.append_nil, List.nil_append]
  case U => intro n'; k_upd
  intro n' h₂ F₂ N₂ k₂
  (try k_sweep)
  repeat' walk1
  rename_i h₃ F₃ N₃
  exact hQ _ n' _ ⟨extOf N hg' F₃ N₃ (by walk_at "mine.fa"), rfl, hb, Nat.le_trans hL' (Nat.le_of_lt F₃.ns.lt)⟩ (by simpa using News.get N₃ (.head _)) (News.get N₃ (by k_mem))
end
section
open PySem PySem.W PyProof.Rows PySem.Calls PySem.Builtin PySem.Builtin.List
set_option maxRecDepth 100000
namespace FF
theorem type_len : typeOf (.builtin "list.__len__") = pure (.type "wrapper_descriptor") := by kernel_rfl
theorem type_init : typeOf (.builtin "list.__init__") = pure (.type "wrapper_descriptor") := by kernel_rfl
theorem type_pop : typeOf (.builtin "list.pop") = pure (.type "method_descriptor") := by kernel_rfl
theorem slot_wd : Slot "wrapper_descriptor" "__get__" "wrapper_descriptor.__get__" := .of (owner := "wrapper_descriptor") (n := "__get__") (by rw [typeLookup_type, builtinLookup_eq_fast]; kernel_rfl) (by decide +kernel) (by decide +kernel) (by decide +kernel)
  (by first | exact .inl (by decide +kernel) | exact .inr (by decide +kernel)) (by rw [isSubtype_type]; kernel_rfl)
theorem slot_md : Slot "method_descriptor" "__get__" "method_descriptor.__get__" := .of (owner := "method_descriptor") (n := "__get__") (by rw [typeLookup_type, builtinLookup_eq_fast]; kernel_rfl) (by decide +kernel) (by decide +kernel) (by decide +kernel)
  (by first | exact .inl (by decide +kernel) | exact .inr (by decide +kernel)) (by rw [isSubtype_type]; kernel_rfl)
theorem entry_wd : entryFor table "wrapper_descriptor.__get__" = some Builtin.«wrapper_descriptor.__get__» := entryFor_of_tree (by kernel_rfl)
theorem entry_md : entryFor table "method_descriptor.__get__" = some Builtin.«method_descriptor.__get__» := entryFor_of_tree (by kernel_rfl)
theorem args_wd (a b c : Value) : argsOk "wrapper_descriptor.__get__" ⟨[a, b, c], []⟩ := by unfold argsOk; kernel_rfl
theorem args_md (a b c : Value) : argsOk "method_descriptor.__get__" ⟨[a, b, c], []⟩ := by unfold argsOk; kernel_rfl
end FF

section
variable {prog : Program} {w : World} {A : Around} {E : Value → Shared → Prop} {s : Shared} {x C : Addr} {h : Heap} {g : Array GenState} {d : Drawn} {t : Nat} {os : OsState}
noncomputable abbrev boundObj (bt id : String) (x : Addr) : Obj := { cls := .type bt, data := .fields #[.builtin id, .ref x] }

theorem wd_len {ox : Obj} {Q : Fin → Shared → Prop} (hx : h.get? x = some ox) (hc : ox.cls = .ref C) (hs : Looks (model prog w) h (isSubtype (.ref C) (.type "list")) true) (hq : Q (.done (.ret (.ref h.objs.size))) ⟨h.push (boundObj "method-wrapper" "list.__len__" x), g, d, t, os⟩) :
    wpAny (model prog w) A (Builtin.«wrapper_descriptor.__get__» ⟨[.builtin "list.__len__", .ref x, .ref C], []⟩) Q E ⟨h, g, d, t, os⟩ := by
  have e : ".".intercalate ("list.__len__".cutAt '.').dropLast = "list" := by decide +kernel
  unfold Builtin.«wrapper_descriptor.__get__»
  repeat (first | (with_reducible refine wpAny_loadPart_at hx ?_; rw [hc]) | (rw [e]; with_reducible refine Looks.at hs ?_) | wp_step)
  all_goals exact hq
theorem wd_init {ox : Obj} {Q : Fin → Shared → Prop} (hx : h.get? x = some ox) (hc : ox.cls = .ref C) (hs : Looks (model prog w) h (isSubtype (.ref C) (.type "list")) true) (hq : Q (.done (.ret (.ref h.objs.size))) ⟨h.push (boundObj "method-wrapper" "list.__init__" x), g, d, t, os⟩) :
    wpAny (model prog w) A (Builtin.«wrapper_descriptor.__get__» ⟨[.builtin "list.__init__", .ref x, .ref C], []⟩) Q E ⟨h, g, d, t, os⟩ := by
  have e : ".".intercalate ("list.__init__".cutAt '.').dropLast = "list" := by decide +kernel
  unfold Builtin.«wrapper_descriptor.__get__»
  repeat (first | (with_reducible refine wpAny_loadPart_at hx ?_; rw [hc]) | (rw [e]; with_reducible refine Looks.at hs ?_) | wp_step)
  all_goals exact hq
theorem md_pop {ox : Obj} {Q : Fin → Shared → Prop} (hx : h.get? x = some ox) (hc : ox.cls = .ref C) (hs : Looks (model prog w) h (isSubtype (.ref C) (.type "list")) true) (hq : Q (.done (.ret (.ref h.objs.size))) ⟨h.push (boundObj "builtin_function_or_method" "list.pop" x), g, d, t, os⟩) :
    wpAny (model prog w) A (Builtin.«method_descriptor.__get__» ⟨[.builtin "list.pop", .ref x, .ref C], []⟩) Q E ⟨h, g, d, t, os⟩ := by
  have e : ".".intercalate ("list.pop".cutAt '.').dropLast = "list" := by decide +kernel
  unfold Builtin.«method_descriptor.__get__»
  repeat (first | (with_reducible refine wpAny_loadPart_at hx ?_; rw [hc]) | (rw [e]; with_reducible refine Looks.at hs ?_) | wp_step)
  all_goals exact hq

theorem super_ga {so D : Addr} {l₀ l : List Value} {K : Frag} {name : Str} {tk : Tok} {id gT gid bt : String} {Gb : Builtin} {Q : Fin → Shared → Prop}
    (hso : h.get? so = some { cls := .type "super", dict := none, data := .fields #[.ref D, .ref x, .ref C], slots := #[] }) (hno : Looks (model prog w) h (opaqueClassAbove (.ref C)) none)
    (hC : Looks (model prog w) h (mroOf (.ref C)) l₀) (hl : (l₀.dropWhile (· != .ref D)).drop 1 = l) (X : K.In h)
    (hf : alongIn K name l = some (some (.builtin id))) (hxC : x ≠ C) (hn : (name == ("__class__" : Str)) = false)
    (hT : ∀ t', (⟨h, g, d, t', os⟩ : Shared).TypeIs (.builtin id) gT) (hG : Slot gT "__get__" gid) (he : entryFor table gid = some Gb) (ha : argsOk gid ⟨[.builtin id, .ref x, .ref C], []⟩)
    (hget : ∀ {A : Around} {Q : Fin → Shared → Prop} {E : Value → Shared → Prop} {t : Nat}, Q (.done (.ret (.ref h.objs.size))) ⟨h.push (boundObj bt id x), g, d, t, os⟩ → wpAny (model prog w) A (Gb ⟨[.builtin id, .ref x, .ref C], []⟩) Q E ⟨h, g, d, t, os⟩)
    (hq : Q (.done (.ret (.ref h.objs.size))) ⟨h.push (boundObj bt id x), g, d, t, os⟩) :
    wpAny (model prog w) A (Builtin.«super.__getattribute__» ⟨[.ref so, .str name tk], []⟩) Q E ⟨h, g, d, t, os⟩ := by
  have hlk := hG.lookup
  have hne : (Value.ref x == Value.ref C) = false := by simp [hxC]
  have hdt : ({ cls := .type "super", dict := none, data := .fields #[.ref D, .ref x, .ref C], slots := #[] } : Obj).data = .fields #[.ref D, .ref x, .ref C] := rfl
  have f0 : (#[.ref D, .ref x, .ref C] : Array Value)[0]? = some (.ref D) := rfl
  have f1 : (#[.ref D, .ref x, .ref C] : Array Value)[1]? = some (.ref x) := rfl
  have f2 : (#[.ref D, .ref x, .ref C] : Array Value)[2]? = some (.ref C) := rfl
  unfold Builtin.«super.__getattribute__»
  repeat (first
    | (with_reducible refine wpAny_field hso hdt f0 ?_) | (with_reducible refine wpAny_field hso hdt f1 ?_) | (with_reducible refine wpAny_field hso hdt f2 ?_)
    | (with_reducible refine ks_wpAny_notOpaque hno ?_)
    | (with_reducible refine Looks.at hC ?_; rw [hl])
    | (refine ks_forIn_along X (fun _ _ => rfl) rfl ?_ hf)
    | (with_reducible refine wpAny_typeOf (hT _) ?_)
    | (with_reducible refine wpAny_call_entry hG (hT _) he (hget ?_) ha)
    | (with_reducible refine ⟨_, rfl, ?_⟩)
    | (simp only [hn, hne, Bool.or_false, Bool.false_eq_true, if_false])
    | wp_step
    | dsimp only)
  all_goals exact hq

theorem super_get {so D : Addr} {l₀ l : List Value} {K : Frag} {name : Str} {pl : Sem Bool} {id gT gid bt : String} {Gb : Builtin} {Q : Value × List Value → Shared → Prop}
    (hso : h.get? so = some { cls := .type "super", dict := none, data := .fields #[.ref D, .ref x, .ref C], slots := #[] }) (hno : Looks (model prog w) h (opaqueClassAbove (.ref C)) none)
    (hC : Looks (model prog w) h (mroOf (.ref C)) l₀) (hl : (l₀.dropWhile (· != .ref D)).drop 1 = l) (X : K.In h)
    (hf : alongIn K name l = some (some (.builtin id))) (hxC : x ≠ C) (hn : (name == ("__class__" : Str)) = false)
    (hT : ∀ t', (⟨h, g, d, t', os⟩ : Shared).TypeIs (.builtin id) gT) (hG : Slot gT "__get__" gid) (he : entryFor table gid = some Gb) (ha : argsOk gid ⟨[.builtin id, .ref x, .ref C], []⟩)
    (hget : ∀ {A : Around} {Q : Fin → Shared → Prop} {E : Value → Shared → Prop} {t : Nat}, Q (.done (.ret (.ref h.objs.size))) ⟨h.push (boundObj bt id x), g, d, t, os⟩ → wpAny (model prog w) A (Gb ⟨[.builtin id, .ref x, .ref C], []⟩) Q E ⟨h, g, d, t, os⟩)
    (hq : Q (.ref h.objs.size, []) ⟨h.push (boundObj bt id x), g, d, t + 1, os⟩) :
    wpAny (model prog w) A (getMethod (.ref so) name pl) Q E ⟨h, g, d, t, os⟩ := by
  have hlk := F.ks_slot_super_ga.lookup
  have hcan := F.ks_canon_super_ga
  have hT' : ∀ t', (⟨h, g, d, t', os⟩ : Shared).TypeIs (.ref so) "super" := fun _ => ⟨_, hso, rfl⟩
  unfold getMethod
  refine wpAny_bind (wpAny_specialOf (hT' _) hlk ?_)
  show wpAny _ _ (if (Manifest.canonical "super.__getattribute__" != "object.__getattribute__") = true then _ else _) _ _ _
  rw [if_pos hcan]
  unfold getAttr getAttrBy
  refine wpAny_bind (wpAny_bind (wpAny_mkText (wpAny_holding (wpAny_bind (wpAny_typeOf (hT' _) (wpAny_bind (wpAny_of_eq hlk ?_)))))))
  show wpAny _ _ (getAttrByItsOwn (.ref so) (.str name t) (.type "super") (.builtin "super.__getattribute__") true false) _ _ _
  unfold getAttrByItsOwn hookBefore callGetattribute boundAndCalled
  refine wpAny_bind (wpAny_of_eq (show (if onTheHeap (.type "super") then typeLookup (.type "super") "__getattr__" else pure none) = pure none from rfl) ?_)
  refine wpAny_bind (wpAny_attempt (wpAny_holding ?_))
  show wpAny _ _ (bindSpecial (.builtin "super.__getattribute__") (.ref so) >>= _) _ _ _
  refine wpAny_bind (wpAny_of_eq (F.ks_slot_super_ga.bind _) ?_)
  refine wpAny_mono (Q := fun v s' => v = .ref h.objs.size ∧ s' = ⟨h.push (boundObj bt id x), g, d, t + 1, os⟩) (E := fun _ _ => False)
    (wpAny_call_entry F.ks_slot_super_ga (hT' _) F.ks_entry_super_ga (super_ga hso hno hC hl X hf hxC hn hT hG he ha hget ⟨_, rfl, rfl, rfl⟩) (F.ks_gaArgs_super _ _)) (fun v s' hv => ?_) fun _ _ z => z.elim
  obtain ⟨rfl, rfl⟩ := hv
  exact wpAny_pure (wpAny_pure hq)
end
end
section
open PySem PySem.W PyProof.Rows PySem.Calls PySem.Builtin PySem.Builtin.List
set_option maxRecDepth 100000
namespace FF
theorem entry_len : entryFor table "list.__len__" = some Builtin.«list.__len__» := entryFor_of_tree (by kernel_rfl)
theorem entry_init : entryFor table "list.__init__" = some Builtin.«list.__init__» := entryFor_of_tree (by kernel_rfl)
theorem entry_pop : entryFor table "list.pop" = some Builtin.«list.pop» := entryFor_of_tree (by kernel_rfl)
theorem plain_len : plainId "list.__len__" = true := by decide +kernel
theorem plain_init : plainId "list.__init__" = true := by decide +kernel
theorem plain_pop : plainId "list.pop" = true := by decide +kernel
theorem bcheck_len (a : Value) : checkBoundCall "list.__len__" ⟨[a], []⟩ = pure () := by kernel_rfl
theorem bcheck_init (a : Value) : checkBoundCall "list.__init__" ⟨[a], []⟩ = pure () := by kernel_rfl
end FF
section
variable {prog : Program} {w : World} {A : Around} {E : Value → Shared → Prop} {s : Shared} {x C q dx L : Addr} {K : Frag} {vs : Array Value} {n : Nat} {h₀ : Heap} {m : Str → Option Value} {news : List (Addr × Obj)}

theorem call_bound {bt id : String} {rest : List Value} {b : Builtin} {Q : Value → Shared → Prop} (hb : bt = "method-wrapper" ∨ bt = "builtin_function_or_method") (hq : s.heap.get? q = some (boundObj bt id x)) (hp : plainId id = true) (he : entryFor table id = some b)
    (h : wpAny (model prog w) A.in1 (checkBoundCall id ⟨.ref x :: rest, []⟩) (fun _ s₁ => wpAny (model prog w) A.in1 (b ⟨.ref x :: rest, []⟩) (fun fin s' => ∃ v, fin = .done (.ret v) ∧ Q v s') E s₁) E s) : wpAny (model prog w) A (call (.ref q) rest) Q E s := by
  refine wpAny_call (codeAny_of_tree ?_)
  show wpAny _ A.in1 (callAny (.ref q) ⟨rest, []⟩) _ _ s
  simp only [callAny]
  refine wpAny_bind (wpAny_load hq ?_)
  have fin : wpAny (model prog w) A.in1 (do checkBoundCall id ⟨.ref x :: rest, []⟩; again (.builtin id ⟨.ref x :: rest, []⟩))
      (fun fin s' => match fin with | .done f => (match (Except.ok f : Result) with | .ok (.ret v) => Q v s' | .ok _ => False | .error e => E e s') | .again c' => c'.quiet = true ∧ codeAny (model prog w) A c' (fun r s' => match r with | .ok (.ret v) => Q v s' | .ok _ => False | .error e => E e s') s') E s := by
    refine wpAny_bind (wpAny_mono h (fun _ s₁ h₁ => wpAny_pure ⟨plainId_quiet hp _, codeAny_builtin he ?_⟩) fun _ _ e => e)
    rw [Around.under_plainId hp]
    refine wpAny_mono h₁ (fun fin s' hf => ?_) fun _ _ e => e
    obtain ⟨v, rfl, hv⟩ := hf
    exact hv
  rcases hb with rfl | rfl
  · exact fin
  · exact fin
theorem len_body {Q : Fin → Shared → Prop} (hx : s.heap.get? x = some (accObj dx vs n)) (h : ∀ t k, Q (.done (.ret (.int vs.size t))) { s with toks := k }) : wpAny (model prog w) A (Builtin.«list.__len__» ⟨[.ref x], []⟩) Q E s := by
  obtain ⟨hh, g, d, t, os⟩ := s
  unfold Builtin.«list.__len__»
  repeat wp_step
  exact h _ _
theorem init_body {Q : Fin → Shared → Prop} (hx : s.heap.get? x = some (accObj dx #[] n)) (h : ∀ h' n', h'.get? x = some (accObj dx #[] n') → Heap.SameBut x s.heap h' → Q (.done (.ret .none)) { s with heap := h' }) : wpAny (model prog w) A (Builtin.«list.__init__» ⟨[.ref x], []⟩) Q E s := by
  obtain ⟨hh, g, d, t, os⟩ := s
  unfold Builtin.«list.__init__»
  repeat wp_step
  have e := Heap.get?_update_self (Obj.mapSeq fun _ => #[]) hx (by simp [Obj.mapSeq, Obj.isFreed])
  simp only [Obj.mapSeq] at e
  exact h _ _ e (Heap.SameBut.update ..)
theorem pop_body {Q : Fin → Shared → Prop} {v : Value} (hx : s.heap.get? x = some (accObj dx (vs.push v) n)) (hsz : vs.size + 1 ≤ sizeLine) (h : ∀ h' n', h'.get? x = some (accObj dx vs n') → Heap.SameBut x s.heap h' → Q (.done (.ret v)) { s with heap := h' }) : wpAny (model prog w) A (Builtin.«list.pop» ⟨[.ref x], []⟩) Q E s := by
  have hi : seqIndex? (-1) (vs.push v).size = some vs.size := by
    unfold seqIndex?
    simp
    omega
  have h0 : (vs.push v).isEmpty = false := by simp
  have hv : (vs.push v)[vs.size]? = some v := by simp
  have he : (vs.push v).eraseIdxIfInBounds vs.size = vs := by
    unfold Array.eraseIdxIfInBounds
    rw [dif_pos (by walk_at "mine.fa")]
    apply Array.ext'
    rw [Array.toList_eraseIdx, Array.toList_push, List.eraseIdx_append_of_length_le (by walk_at "mine.fa")]
    simp
  show wpAny _ _ (selfAndSome "list.pop" "pop" 0 1 ⟨[.ref x], []⟩ >>= _) _ _ _
  refine wpAny_bind (wpAny_of_eq (a := (.ref x, [])) (by kernel_rfl) ?_)
  dsimp only
  refine wpAny_bind (wpAny_pure ?_)
  rw [if_neg (by decide)]
  refine wpAny_bind (items_here hx rfl ?_)
  rw [h0, if_neg (by decide), hi]
  simp only [Option.bind_some, hv, Option.map_some]
  refine wpAny_bind (upd_here hx (by simpa using hsz) (by rw [he]; omega) fun h' n' hx' hs' => wpAny_pure (h h' n' (he ▸ hx') hs'))
theorem bcheck_pop {oC : Obj} {cd : ClassData} {Q : Unit → Shared → Prop} (hx : s.heap.get? x = some ⟨.ref C, some dx, .seq vs n, #[]⟩) (hC : s.heap.get? C = some oC) (hcd : oC.data = .cls cd) (hq : cd.qualname = "_Accumulator") (hm : Looks (model prog w) s.heap (isSubtype (.ref C) (.type "module")) false)
    (ht : oC.cls = .type "type") (h : Q () s) : wpAny (model prog w) A (checkBoundCall "list.pop" ⟨[.ref x], []⟩) Q E s := by
  obtain ⟨hh, g, d, t, os⟩ := s
  dsimp only at hx hC hm h
  obtain ⟨oc, od, odt, osl⟩ := oC
  dsimp only at hcd ht
  subst hcd ht
  unfold checkBoundCall
  repeat (first | ((with_reducible show wpAny _ _ (Bind.checkArgs _ _ _) _ _ _); rw [hq]; refine wpAny_of_eq (a := ()) (by kernel_rfl) ?_) | (with_reducible refine Looks.at hm ?_) | (with_reducible refine wpAny_loadPart_at hx ?_) | (with_reducible refine wpAny_loadPart_at hC ?_) | (with_reducible refine wpAny_load hC ?_) | wp_step)
  all_goals exact h

structure Bt (id gT gid bt : String) (Gb : Builtin) : Prop where
  type : typeOf (.builtin id) = pure (.type gT)
  slot : Slot gT "__get__" gid
  entry : entryFor table gid = some Gb
  args : ∀ a b c, argsOk gid ⟨[a, b, c], []⟩
  get : ∀ {prog : Program} {w : World} {A : Around} {Q : Fin → Shared → Prop} {E : Value → Shared → Prop} {h : Heap} {g : Array GenState} {d : Drawn} {t : Nat} {os : OsState} {x C : Addr} {ox : Obj}, h.get? x = some ox → ox.cls = .ref C → Looks (model prog w) h (isSubtype (.ref C) (.type "list")) true →
    Q (.done (.ret (.ref h.objs.size))) ⟨h.push (boundObj bt id x), g, d, t, os⟩ → wpAny (model prog w) A (Gb ⟨[.builtin id, .ref x, .ref C], []⟩) Q E ⟨h, g, d, t, os⟩
theorem bt_len : Bt "list.__len__" "wrapper_descriptor" "wrapper_descriptor.__get__" "method-wrapper" Builtin.«wrapper_descriptor.__get__» := ⟨FF.type_len, FF.slot_wd, FF.entry_wd, FF.args_wd, fun a b c e => wd_len a b c e⟩
theorem bt_init : Bt "list.__init__" "wrapper_descriptor" "wrapper_descriptor.__get__" "method-wrapper" Builtin.«wrapper_descriptor.__get__» := ⟨FF.type_init, FF.slot_wd, FF.entry_wd, FF.args_wd, fun a b c e => wd_init a b c e⟩
theorem bt_pop : Bt "list.pop" "method_descriptor" "method_descriptor.__get__" "builtin_function_or_method" Builtin.«method_descriptor.__get__» := ⟨FF.type_pop, FF.slot_md, FF.entry_md, FF.args_md, fun a b c e => md_pop a b c e⟩

theorem sup_meth {id gT gid bt : String} {Gb : Builtin} {so D : Addr} {ox : Obj} {odx : Option Obj} {name : Str} {pl : Sem Bool} {Q : Value × List Value → Shared → Prop} (BT : Bt id gT gid bt Gb) (F : Fr h₀ L s.heap m) (X₀ : K.In h₀) (N : News h₀ L s.heap news) (hso : (so, ks_superObj D x C) ∈ news) (I : InstAt s.heap x ox C odx)
    (ho : nsIn K cStatics "thirdparty.any" = some none) (hm : ks_superIn K C D name = some (some (.builtin id))) (hs : mroIn K C (.type "list") = some true) (hn : (name == ("__class__" : Str)) = false)
    (h : ∀ q h', Fr h₀ L h' m → News h₀ L h' ((q, boundObj bt id x) :: news) → (∀ p ∈ news, p.1 < q) → Q (.ref q, []) { s with heap := h', toks := s.toks + 1 }) : wpAny (model prog w) A (getMethod (.ref so) name pl) Q E s := by
  have X : K.In s.heap := X₀.keeps F.keep
  obtain ⟨hh, g, d, t, os⟩ := s
  cases hc : clsIn K C with
  | none => unfold ks_superIn at hm; rw [hc] at hm; cases hm
  | some cd =>
    unfold ks_superIn at hm
    rw [hc] at hm
    refine super_get (N _ hso).1 (looks_opaque X ho) (l₀ := cd.mro) ?_ rfl X hm (ks_ne X I hc) hn (fun t' => ?_) BT.slot BT.entry (BT.args _ _ _) (fun q => BT.get I.at_ I.cls (looks_mroIn X hs) q) ?_
    · exact fun A Q E s k q => wpAny_bind ((looks_clsIn X hc) A _ E s k (wpAny_pure q))
    · exact BT.type
    · obtain ⟨F', N', l'⟩ := ks_newsPush (s := ⟨hh, g, d, t, os⟩) (o := boundObj bt id x) F N rfl (Heap.get?_push_at rfl rfl) (fun b o e => Heap.get?_push_of_some _ e)
      exact h _ _ F' N' l'

theorem callWith_bb {pos : Pos} {env : Env} {bt id : String} {first : List Value} {Q : Value → Shared → Prop} {M : Model} (hb : bt = "method-wrapper" ∨ bt = "builtin_function_or_method") (hq : s.heap.get? q = some (boundObj bt id x)) (h : wpAny M A (call (.ref q) (first ++ [])) Q E s) :
    wpAny M A (callWith pos (.ref q) first (backTo pos (starEach [] env)) []) Q E s := by
  unfold callWith
  refine wpAny_bind (wpAny_holding (evalArgs_nil3 (wpAny_bind (wpAny_standAt ?_))))
  refine wpAny_bind ?_
  unfold keeperOf
  refine wpAny_bind (wpAny_load hq ?_)
  rcases hb with rfl | rfl
  · refine wpAny_pure (wpAny_bind (wpAny_mono h (fun r s' h' => ?_) fun _ _ e => e))
    exact wpAny_bind (wpAny_holding (wpAny_point (wpAny_pure h')))
  · refine wpAny_pure (wpAny_bind (wpAny_mono h (fun r s' h' => ?_) fun _ _ e => e))
    exact wpAny_bind (wpAny_holding (wpAny_point (wpAny_pure h')))
theorem call_len_K {Q : Value → Shared → Prop} (N : News h₀ L s.heap news) (hq : (q, boundObj "method-wrapper" "list.__len__" x) ∈ news) (hx : (x, accObj dx vs n) ∈ news) (h : ∀ t k, Q (.int vs.size t) { s with toks := k }) : wpAny (model prog w) A (call (.ref q) []) Q E s :=
  call_bound (.inl rfl) (N _ hq).1 FF.plain_len FF.entry_len (wpAny_of_eq (FF.bcheck_len _) (len_body (N _ hx).1 fun t k => ⟨_, rfl, h t k⟩))
theorem call_init_K {Q : Value → Shared → Prop} {news' : Nat → List (Addr × Obj)} (F : Fr h₀ L s.heap m) (N : News h₀ L s.heap news) (hq : (q, boundObj "method-wrapper" "list.__init__" x) ∈ news) (U : ∀ n', Upd x (accObj dx #[] n) (accObj dx #[] n') news (news' n'))
    (h : ∀ n' h', Fr h₀ L h' m → News h₀ L h' (news' n') → Q .none { s with heap := h' }) : wpAny (model prog w) A (call (.ref q) []) Q E s :=
  call_bound (.inl rfl) (N _ hq).1 FF.plain_init FF.entry_init (wpAny_of_eq (FF.bcheck_init _) (init_body (N _ (updMem (U 0))).1 fun h' n' hx' hs' => ⟨_, rfl, let ⟨F2, N2⟩ := updSame F N (U n') hs' hx'; h n' h' F2 N2⟩))
theorem call_pop_K {Q : Value → Shared → Prop} {v : Value} {oC : Obj} {cd : ClassData} {news' : Nat → List (Addr × Obj)} (F : Fr h₀ L s.heap m) (X₀ : K.In h₀) (N : News h₀ L s.heap news) (hq : (q, boundObj "builtin_function_or_method" "list.pop" x) ∈ news) (U : ∀ n', Upd x (accObj dx (vs.push v) n) (accObj dx vs n') news (news' n'))
    (hC : K.lookup 94 = some oC) (hcd : oC.data = .cls cd) (hqn : cd.qualname = "_Accumulator") (hm : mroIn K 94 (.type "module") = some false) (ht : oC.cls = .type "type") (hsz : vs.size + 1 ≤ sizeLine)
    (h : ∀ n' h', Fr h₀ L h' m → News h₀ L h' (news' n') → Q v { s with heap := h' }) : wpAny (model prog w) A (call (.ref q) []) Q E s :=
  call_bound (.inr rfl) (N _ hq).1 FF.plain_pop FF.entry_pop (bcheck_pop (N _ (updMem (U 0))).1 ((X₀.keeps F.keep) _ _ hC) hcd hqn (looks_mroIn (X₀.keeps F.keep) hm) ht
    (pop_body (N _ (updMem (U 0))).1 hsz fun h' n' hx' hs' => ⟨_, rfl, let ⟨F2, N2⟩ := updSame F N (U n') hs' hx'; h n' h' F2 N2⟩))
end

section
variable {prog : Program} {w : World} {A₀ A : Around} {s : Shared} {base h₀ : Heap} {outer : List Env} {L : Addr} {m : Str → Option Value} {env : Env} {news : List (Addr × Obj)} {K : Frag}
  {Q E : Value → Shared → Prop} {p : Program} {loose : List Str} {mean : ExcName → Option Value} {mg mb : Str → Option Value} {name qual : Str} {params : Arguments} {body : List Stmt} {scope : Scope} {dV kV doc pm cdv ct oc : Value} {an od : Option Addr} {osl : Array (Option Value)} {f cc : Addr} {args : List Value} {kw : List (Str × Value)} {binds : List (Str × Value)}
/-- a call of a method that closes over its class -/
theorem enterS (B : Below A₀ base outer h₀) (F : Fr h₀ L s.heap m) (X₀ : K.In h₀) (N : News h₀ L s.heap news) (T : Top p loose mean mg mb h₀) (hA : A.frames = some (env :: outer)) (hf : env.frame = some L) (hke : env.scope.kind = .function)
    (ho : K.lookup f = some ⟨oc, od, .func (ksFn name qual params body scope dV kV doc pm an cdv ct cc), osl⟩) (hcd : codeIn K cdv qual = true) (hroom : A.depth < recursionLimit)
    (hbind : BindsTo s (ksFn name qual params body scope dV kV doc pm an cdv ct cc) ⟨args, kw⟩ binds) (hloc : ∀ y ∈ binds, scope.names.lookup y.1 = some .local)
    (h : ∀ g L' h₁, (∀ b o, b ∉ news.map (·.1) → s.heap.get? b = some o → g.get? b = some o) → s.heap.objs.size ≤ L' → (∀ p ∈ news, p.1 < L') → Fr g L' h₁ (fun y => binds.reverse.lookup y) → News g L' h₁ news → Below A base (env :: outer) g → K.In g → Top p loose mean mg mb g →
      _root_.PySem.wpAt (model prog w) (A.deeper (ksEnv qual scope L' f cdv cc)) (.func body (ksEnv qual scope L' f cdv cc)) (execs body (ksEnv qual scope L' f cdv cc))
        (fun fl s' => Q (match fl with | .ret v => v | _ => .none) s')
        (fun e s' => wpAny (model prog w) (A.deeper (ksEnv qual scope L' f cdv cc)) (leaving (ksEnv qual scope L' f cdv cc) e) (fun _ s'' => E e s'') (fun e' s'' => E e' s'') s')
        { s with heap := h₁, toks := s.toks + binds.length })
    (hcell : ∀ x ∈ scope.names, x.2 ≠ .cell) (hco : scope.isCoroutine = false) (hgen : scope.isGenerator = false) (hk : scope.kind = .function) : wpAny (model prog w) A (call (.ref f) args kw) Q E s := by
  refine wpAny_call ?_
  obtain ⟨FG, BG, st, lv⟩ := groundX (R := fun _ _ => True) B F N hA hf hke
  refine ks_codeAny_call_defAt (fd := ksFn name qual params body scope dV kV doc pm an cdv ct cc) (body := body) (binds := binds) hroom ((X₀.keeps F.keep) _ _ ho) rfl (T.nolimit.keeps F.keep) (codeRec_of (X₀.keeps F.keep) hcd) rfl hbind hcell hloc (fun h₁ hns hk₁ => ?_) hco hgen hk
  exact ks_wpAt_mono (h _ s.heap.objs.size h₁ (fun b o hb e => hideAll_get _ e hb) (Nat.le_refl _) (fun p hp => Heap.lt_size (N p hp).1) ⟨hns, fun b o e => hk₁ b o (of_hideAll _ e), Nat.le_of_eq (hideAll_size _ _)⟩
    (fun p hp => ⟨hk₁ _ _ (N p hp).1, Nat.ne_of_lt (Heap.lt_size (N p hp).1), hideAll_none _ (List.mem_map_of_mem hp)⟩) BG (X₀.keeps st) (T.keeps st)) (fun fl s' hl => hl) fun _ _ y => y
end
end
theorem words2 : True := by
  k_with_none
  k_with "mine.mem" => (repeat (first | exact List.Mem.head _ | refine List.Mem.tail _ ?_))
  k_with "mine.nm" => ((repeat' (first | exact nm_nil | refine nm_cons ?_ ?_)) <;> (first | assumption | ((try dsimp only); first | decide | (refine neN ?_; omega))))
  k_with "mine.fa1" => (first | exact ncR | exact ncN | exact ncL | exact ncD | (walk_at "mine.mem"; done) | (refine fa_in ?_; walk_at "mine.mem"; done) | (refine fa_out ?_; walk_at "mine.mem"; done) | (refine Or.inl ⟨?_, ?_⟩; (focus (walk_at "mine.mem"; done)); (walk_at "mine.nm"; done)) | (refine Or.inr ⟨by assumption, ?_⟩; walk_at "mine.mem"; done) | (refine neN ?_; omega))
  k_with "mine.fa" => (first | exact fa_all | ((repeat' (first | exact fa_nil | refine fa_cons ?_ ?_)); (all_goals walk_at "mine.fa1"); done) | simp)
  k_with "getMethod ref" => (k_here; k_dflt (refine' getMethod_acc (by k_in) (by k_inst) (by k_is) (by k_is) (by k_is) (by k_is) (by decide) (by k_get) ?_; k_whole))
  k_with "call builtin:list.append" => (k_here; (with_reducible show wpAny _ _ (call (Value.builtin _) [Value.ref _, _]) _ _ _); k_dflt (refine' acc_append_K (by k_asm) (by k_asm) (by k_asm) (by k_upd) (by k_is) (by assumption) ?_; k_whole); intro _ _ _; (try k_sweep))
  k_with "getAttr ref" => (k_here; k_dflt (refine' get_acc (by k_in) (by exact News.get (by k_asm) (by k_mem)) (by exact News.get (by k_asm) (by k_mem)) (by k_is) (by k_is) (by k_is) (by k_is) (by k_is) (by k_get) (by k_handed) ?_; k_whole))
  k_with "setAttr ref" => (k_here; k_dflt (refine' set_attr_acc (by k_asm) (by k_asm) (by k_asm) (by k_inst) (by exact rfl) (by k_is) (by k_is) (by exact rfl) (by k_is) (by k_is) (by k_get) (by k_put) (by k_upd) (by exact Nat.le_of_ble_eq_true rfl) ?_; k_whole; intro _ _ _; (try k_sweep)))
  k_with "getMethod ref" => (k_here; k_dflt (refine' sup_meth bt_pop (by k_asm) (by k_asm) (by k_asm) (by k_mem) (by k_inst) (by k_is) (by ks_is) (by k_is) (by decide) ?_; intro _ _ _ _ l1; (try k_lt l1); (try (revert l1; intro _))))
  k_with "getMethod ref" => (k_here; k_dflt (refine' sup_meth bt_init (by k_asm) (by k_asm) (by k_asm) (by k_mem) (by k_inst) (by k_is) (by ks_is) (by k_is) (by decide) ?_; intro _ _ _ _ l1; (try k_lt l1); (try (revert l1; intro _))))
  k_with "getMethod ref" => (k_here; k_dflt (refine' sup_meth bt_len (by k_asm) (by k_asm) (by k_asm) (by k_mem) (by k_inst) (by k_is) (by ks_is) (by k_is) (by decide) ?_; intro _ _ _ _ l1; (try k_lt l1); (try (revert l1; intro _))))
  trivial
section
open PySem PySem.W PyProof.Rows PySem.Calls
set_option maxRecDepth 100000 in
set_option maxHeartbeats 4000000 in
theorem count_spec {w : World} {dp un : Nat} {gd : Option (List Code)} {cn : Str} {cs : Scope} {a : Addr} {ccd : Value} {cl : List (Str × Addr)} {outer : List Env} {A₀ : Around} {base h₀ : Heap} {L : Addr} {m : Str → Option Value} {s : Shared}
   {loose : List Str} {mean : ExcName → Option Value} {mg mb : Str → Option Value} {p : Program} {Q E : Value → Shared → Prop} {x dx : Addr} {vs : Array Value} {n : Nat} {k t : Tok} {i : Int}
   (B : Below A₀ base outer h₀) (F : Fr h₀ L s.heap m) (X : (Mine.hd.heap_39 w.params).In h₀) (N : News h₀ L s.heap [(x, accObj dx vs n), (dx, accDict w k i t)]) (T : Top p loose mean mg mb h₀) (hk : cs.kind = .function) (hd : dp + 40 < recursionLimit) (hu : un + 400 < cLine)
   (hxd : @LT.lt Nat _ dx x) (hb : AllBare s.gens)
   (hQ : ∀ s' t', Post [] s s' → Q (.int vs.size t') s') :
   wpAny (model PySem.Challenge.rw_mq0119_01.row.prog w) (ktrTop dp un gd cn cs L a ccd cl outer) (call (.ref 91) [.ref x]) Q E s := by
  revert X; k_fill; intro X
  k_dflt (refine' enterS (binds := [("self", .ref x)]) ?k1 ?k2 ?k3 ?k4 ?k5 ?kA ?kF ?kK ?k6 ?k7 ?k8 ?k9 ?kB ?_ ?c5 ?c2 ?c3 ?c4; (case kA => exact rfl); (case kF => exact rfl); (case kK => assumption); (case k1 => k_asm); (case k2 => k_asm); (case k3 => k_asm); (case k4 => k_asm); (case k5 => k_asm); (case k6 => k_is); (case k7 => k_is); (case k8 => (simp only []; omega)); (case k9 => first | exact binds_K (by k_in) rfl (by k_is) rfl rfl rfl | exact BindsTo.of_eq rfl); (case c5 => decide); (case kB => exact locs rfl); (case c2 => exact rfl); (case c3 => exact rfl); (case c4 => exact rfl); k_whole)
  intro g' L' h' hg' hL' hlt' F' N' B' X' T'
  k_lt hlt'
  (try dsimp only); (try k_fold)
  repeat' walk1
  rename_i h₂ F₂ N₂ l₂
  (refine' callWith_bb (bt := ?bt) (id := ?id) (x := ?xx) ?hb ?hq ?_; (case hq => exact News.get (by k_asm) (by k_mem)); (case hb => first | exact .inl rfl | exact .inr rfl))
  refine call_len_K (vs := vs) (n := n) (dx := dx) N₂ (by k_mem) (by k_mem) fun t₂ k₂ => ?_
  exact hQ _ t₂ ⟨extOf N hg' F₂ N₂ (by walk_at "mine.fa"), rfl, hb, Nat.le_trans hL' (Nat.le_of_lt F₂.ns.lt)⟩
set_option maxRecDepth 100000 in
set_option maxHeartbeats 4000000 in
theorem pop_spec {w : World} {dp un : Nat} {gd : Option (List Code)} {cn : Str} {cs : Scope} {a : Addr} {ccd : Value} {cl : List (Str × Addr)} {outer : List Env} {A₀ : Around} {base h₀ : Heap} {L : Addr} {m : Str → Option Value} {s : Shared}
   {loose : List Str} {mean : ExcName → Option Value} {mg mb : Str → Option Value} {p : Program} {Q E : Value → Shared → Prop} {x dx : Addr} {vs : Array Value} {v : Value} {n : Nat} {k t : Tok} {i : Int}
   (B : Below A₀ base outer h₀) (F : Fr h₀ L s.heap m) (X : (Mine.hd.heap_39 w.params).In h₀) (N : News h₀ L s.heap [(x, accObj dx (vs.push v) n), (dx, accDict w k i t)]) (T : Top p loose mean mg mb h₀) (hk : cs.kind = .function) (hd : dp + 50 < recursionLimit) (hu : un + 500 < cLine)
   (hsz : vs.size + 1 ≤ sizeLine) (hxd : @LT.lt Nat _ dx x) (hb : AllBare s.gens)
   (hQ : ∀ s' n', Post [x] s s' → s'.heap.get? x = some (accObj dx vs n') → Q v s') :
   wpAny (model PySem.Challenge.rw_mq0119_01.row.prog w) (ktrTop dp un gd cn cs L a ccd cl outer) (call (.ref 54) [.ref x]) Q E s := by
  revert X; k_fill; intro X
  k_dflt (refine' enterS (binds := [("self", .ref x)]) ?k1 ?k2 ?k3 ?k4 ?k5 ?kA ?kF ?kK ?k6 ?k7 ?k8 ?k9 ?kB ?_ ?c5 ?c2 ?c3 ?c4; (case kA => exact rfl); (case kF => exact rfl); (case kK => assumption); (case k1 => k_asm); (case k2 => k_asm); (case k3 => k_asm); (case k4 => k_asm); (case k5 => k_asm); (case k6 => k_is); (case k7 => k_is); (case k8 => (simp only []; omega)); (case k9 => first | exact binds_K (by k_in) rfl (by k_is) rfl rfl rfl | exact BindsTo.of_eq rfl); (case c5 => decide); (case kB => exact locs rfl); (case c2 => exact rfl); (case c3 => exact rfl); (case c4 => exact rfl); k_whole)
  intro g' L' h' hg' hL' hlt' F' N' B' X' T'
  k_lt hlt'
  (try dsimp only); (try k_fold)
  repeat' walk1
  refine count_spec (vs := vs.push v) (n := n) (k := k) (t := t) (i := i) (dx := dx) B' F' X' N' T' rfl (rm 41 hd rfl) (rm 403 hu rfl) hxd hb ?_
  intro s₂ t₂ P₂
  obtain ⟨h₂, gn₂, dr₂, tk₂, os₂⟩ := s₂
  have F₂ := frExt F' P₂.ext (by walk_at "mine.fa") (by walk_at "mine.fa")
  have N₂ := newsExt N' P₂.ext (by walk_at "mine.fa")
  clear F' N'
  dsimp only at F₂ N₂
  walk1; walk1; walk1; walk1
  · rename_i e; simp at e; omega
  walk1; walk1; walk1
  refine ks_wpAt_execs_cons (ks_wpAt_Return_some (ks_wpAt_MethodCall ?_))
  repeat' walk1
  rename_i so h₃ F₃ N₃ l₃ q h₄ F₄ N₄ l₄
  (refine' callWith_bb (bt := ?bt) (id := ?id) (x := ?xx) ?hb ?hq ?_; (case hq => exact News.get (by k_asm) (by k_mem)); (case hb => first | exact .inl rfl | exact .inr rfl))
  refine call_pop_K (vs := vs) (v := v) (dx := dx) F₄ X' N₄ (by k_mem) (fun n' => by k_upd) (by k_is) rfl rfl (by k_is) rfl hsz ?_
  intro n₅ h₅ F₅ N₅
  exact hQ _ n₅ ⟨extOf N hg' F₅ N₅ (by walk_at "mine.fa"), P₂.os, P₂.bare, Nat.le_trans hL' (Nat.le_of_lt F₅.ns.lt)⟩ (News.get N₅ (by k_mem))
end
section
open PySem PySem.W PyProof.Rows PySem.Calls PySem.Builtin PySem.Builtin.List
set_option maxRecDepth 100000
theorem frPost {h₀ h h' : Heap} {L : Addr} {m : Str → Option Value} {W : List Addr} {news : List (Addr × Obj)} (F : Fr h₀ L h m) (N : News h₀ L h news) (E : Ext W h h') (hW : ∀ b ∈ W, b ∈ news.map (·.1)) : Fr h₀ L h' m := by
  have k : ∀ b ∈ W, b ≠ L ∧ h₀.get? b = none := fun b hb => by
    obtain ⟨p, hp, rfl⟩ := List.mem_map.mp (hW b hb)
    exact (N p hp).2
  exact frExt F E (fun hL => (k L hL).1 rfl) fun b hb => (k b hb).2
theorem newsPost {h₀ h h' : Heap} {L : Addr} {W : List Addr} {news news' : List (Addr × Obj)} (N : News h₀ L h news) (E : Ext W h h') (hn : ∀ p ∈ news', (p ∈ news ∧ p.1 ∉ W) ∨ (h'.get? p.1 = some p.2 ∧ p.1 ∈ news.map (·.1))) : News h₀ L h' news' := fun p hp => by
  rcases hn p hp with ⟨h1, h2⟩ | ⟨h1, h2⟩
  · exact ⟨E _ _ h2 (N p h1).1, (N p h1).2⟩
  · obtain ⟨q, hq, e⟩ := List.mem_map.mp h2
    have := (N q hq).2
    rw [e] at this
    exact ⟨h1, this⟩
section
variable {prog : Program} {w : World} {A : Around} {E : Value → Shared → Prop} {s : Shared} {K : Frag} {x C f : Addr} {ox : Obj} {od : Option Obj}
theorem truthy_acc {Q : Bool → Shared → Prop} (X : K.In s.heap) (I : InstAt s.heap x ox C od) (hs : findIn K (.ref C) "__bool__" = some none) (hl : findIn K (.ref C) "__len__" = some (some (.ref f))) (hf : isFn K (.ref f) = true)
    (h : wpAny (model prog w) A.in1 (call (.ref f) [.ref x]) (fun v s' => ∃ n t, v = .int n t ∧ (0 ≤ n ∧ n < 2 ^ 63) ∧ Q (n != 0) { s' with toks := s'.toks + 1 }) E s) : wpAny (model prog w) A (truthy (.ref x)) Q E s := by
  unfold truthy
  refine wpAny_bind (m := callSpecial? (.ref x) (Str.ofString "__bool__")) (wpAny_bind (wpAny_bind (I.type.here ((looks_findIn X hs).here (wpAny_pure ?_)))))
  refine wpAny_bind (wpAny_bind (I.type.here ((looks_findIn X hl).here ?_)))
  show wpAny _ _ (runValue (.builtin "len" ⟨[.ref x], []⟩) >>= _) _ _ _
  refine wpAny_bind (wpAny_runValue (codeAny_builtin entry_len ?_))
  rw [Around.under_plainId plain_len]
  unfold Builtin.«len»
  refine wpAny_bind (m := oneArg "len" _) (wpAny_pure ?_)
  refine wpAny_bind (m := callSpecial? (.ref x) (Str.ofString "__len__")) (special_fn X I hl (beq_iff_eq.mp hf) (wpAny_mono h (fun r s' hr => ?_) fun _ _ y => y))
  obtain ⟨n, u, rfl, ⟨h0, h1⟩, hq⟩ := hr
  refine wpAny_bind (wpAny_holding (wpAny_pure ?_))
  refine wpAny_bind (wpAny_letGo ?_)
  show wpAny _ _ (if n < 0 then _ else _) _ _ _
  rw [if_neg (by omega)]
  show wpAny _ _ (if n ≥ 2 ^ 63 then _ else _) _ _ _
  rw [if_neg (by omega)]
  exact wpAny_bind (wpAny_mkInt (wpAny_pure (wpAny_pure hq)))
end
end
section
open PySem PySem.W PyProof.Rows PySem.Calls
/-- is_onlyws, in plain words -/
noncomputable def onlyB (i : Int) (x : Str) : Bool := if i = 0 then (if x.length = 0 then true else Txt.isspace x) else false
set_option maxRecDepth 100000 in
set_option maxHeartbeats 4000000 in
theorem only_spec {w : World} {dp un : Nat} {gd : Option (List Code)} {cn : Str} {cs : Scope} {a : Addr} {ccd : Value} {cl : List (Str × Addr)} {outer : List Env} {A₀ : Around} {base h₀ : Heap} {L : Addr} {m : Str → Option Value} {s : Shared}
   {loose : List Str} {mean : ExcName → Option Value} {mg mb : Str → Option Value} {p : Program} {Q E : Value → Shared → Prop} {x dx : Addr} {vs : Array Value} {n : Nat} {k t : Tok} {i : Int} {ps pt : Array Value} {qs : List Pc}
   (B : Below A₀ base outer h₀) (F : Fr h₀ L s.heap m) (X : (Mine.hd.heap_39 w.params).In h₀) (N : News h₀ L s.heap [(x, accObj dx vs n), (dx, accDict w k i t), (56, tabObj ps), (63, tabObj pt)]) (T : Top p loose mean mg mb h₀) (hk : cs.kind = .function) (hd : dp + 50 < recursionLimit) (hu : un + 500 < cLine)
   (hps : TriplesOk ps.toList) (hpt : TriplesOk pt.toList) (hp : PcsAt s.heap vs.toList qs) (hsm : Small qs) (hxd : @LT.lt Nat _ dx x) (hdx : @LT.lt Nat _ 143 dx) (hi : 0 ≤ i ∧ i ≤ 10) (hb : AllBare s.gens)
   (hQ : ∀ s' ps' pt', Post [56, 63] s s' → s'.heap.get? 56 = some (tabObj ps') → TriplesOk ps'.toList → s'.heap.get? 63 = some (tabObj pt') → TriplesOk pt'.toList → Q (.bool (onlyB i (txt qs))) s') :
   wpAny (model PySem.Challenge.rw_mq0119_01.row.prog w) (ktrTop dp un gd cn cs L a ccd cl outer) (call (.ref 83) [.ref x]) Q E s := by
  revert X; k_fill; intro X
  k_dflt (refine' enterE (binds := [("self", .ref x)]) ?k1 ?k2 ?k3 ?k4 ?k5 ?kA ?kF ?kK ?k6 ?k7 ?k8 ?k9 ?kB ?_ ?c2 ?c3 ?c4 ?c5; (case kA => exact rfl); (case kF => exact rfl); (case kK => assumption); (case k1 => k_asm); (case k2 => k_asm); (case k3 => k_asm); (case k4 => k_asm); (case k5 => k_asm); (case k6 => k_is); (case k7 => k_is); (case k8 => (simp only []; omega)); (case k9 => first | exact binds_K (by k_in) rfl (by k_is) rfl rfl rfl | exact BindsTo.of_eq rfl); (case c5 => decide); (case kB => exact locs rfl); (case c2 => exact rfl); (case c3 => exact rfl); (case c4 => exact rfl); k_whole)
  intro g' L' h' hg' hL' hlt' F' N' B' X' T'
  k_lt hlt'
  (try dsimp only); (try k_fold)
  have hp' : PcsAt h' vs.toList qs := hp.mono (intoFr N (by walk_at "mine.fa") hg' F')
  have hL2 := hsm.txt
  have hne1 : @Ne Nat x 56 := by omega
  have hne2 : @Ne Nat dx 56 := by omega
  have hne3 : @Ne Nat x 63 := by omega
  have hne4 : @Ne Nat dx 63 := by omega
  iterate 11 walk1
  · iterate 5 walk1
    refine truthy_acc (X'.keeps F'.keep) (ox := accObj dx vs n) (od := some (accDict w k i t)) (by k_inst) (by k_is) (by k_is) (by k_is) ?_
    refine len_spec (k := k) (i := i) (t := t) (dx := dx) (vs := vs) (n := n) (qs := qs) (ps := ps) B' F' X' (newsPost N' (Ext.refl [] _) (by walk_at "mine.fa")) T' rfl (rm 41 hd rfl) (rm 404 hu rfl) hps hp' hsm hb ?_
    intro s₂ t₂ ps₂ P₂ hP₂ hps₂
    refine ⟨_, _, rfl, ⟨by omega, by omega⟩, ?_⟩
    have hp₂ : PcsAt s₂.heap vs.toList qs := hp'.ext (fun b hb' o e => by simp at hb'; subst hb'; rw [(N' (56, tabObj ps) (by walk_at "mine.fa")).1] at e; cases e; simp) P₂.ext
    obtain ⟨h₂, gn₂, dr₂, tk₂, os₂⟩ := s₂
    have F₂ := frPost F' N' P₂.ext (by walk_at "mine.fa")
    have N₂ : News g' L' h₂ [(x, accObj dx vs n), (dx, accDict w k i t), (56, tabObj ps₂), (63, tabObj pt)] := newsPost N' P₂.ext (by walk_at "mine.fa")
    clear F' N'
    dsimp only at F₂ N₂ hp₂
    walk1; walk1; walk1
    rotate_left
    · rename_i hi0 hl0
      have hi0 : i = 0 := by simpa using hi0
      have hl0 : (txt qs).length = 0 := by subst hi0; simp at hl0; omega
      have e : onlyB i (txt qs) = !(i + ((txt qs).length : Int) != 0) := by unfold onlyB; rw [if_pos hi0, if_pos hl0, hi0, hl0]; rfl
      show Q (.bool (!(i + ((txt qs).length : Int) != 0))) _
      rw [← e]
      exact hQ _ ps₂ pt ⟨extOf N hg' F₂ N₂ (by walk_at "mine.fa"), P₂.os, P₂.bare, Nat.le_trans hL' (Nat.le_of_lt F₂.ns.lt)⟩ (News.get N₂ (by k_mem)) hps₂ (News.get N₂ (by k_mem)) hpt
    · iterate 8 walk1
      refine kso_call (rm 5 hu rfl) (X'.keeps F₂.keep) (ox := accObj dx vs n) (od := some (accDict w k i t)) (by k_inst) (by k_is) (by k_is) ?_
      refine str_spec (k := k) (i := i) (t := t) (dx := dx) (vs := vs) (n := n) (qs := qs) (ps := pt) B' F₂ X' (newsPost N₂ (Ext.refl [] _) (by walk_at "mine.fa")) T' rfl (rm 41 hd rfl) (rm 405 hu rfl) hpt hp₂ hsm P₂.bare ?_
      intro s₃ t₃ pt₃ P₃ hP₃ hpt₃
      obtain ⟨h₃, gn₃, dr₃, tk₃, os₃⟩ := s₃
      have F₃ := frPost F₂ N₂ P₃.ext (by walk_at "mine.fa")
      have N₃ : News g' L' h₃ [(x, accObj dx vs n), (dx, accDict w k i t), (56, tabObj ps₂), (63, tabObj pt₃)] := newsPost N₂ P₃.ext (by walk_at "mine.fa")
      clear F₂ N₂
      dsimp only at F₃ N₃
      show wpAny _ _ _ _ _ _
      repeat' walk1
      rename_i hi0 hl0
      have hi0 : i = 0 := by simpa using hi0
      have hl0 : (txt qs).length ≠ 0 := by subst hi0; simp at hl0; omega
      have e : onlyB i (txt qs) = Txt.isspace (txt qs) := by unfold onlyB; rw [if_pos hi0, if_neg hl0]
      rw [← e]
      exact hQ _ ps₂ pt₃ ⟨extOf N hg' F₃ N₃ (by walk_at "mine.fa"), P₃.os.trans P₂.os, P₃.bare, Nat.le_trans hL' (Nat.le_of_lt F₃.ns.lt)⟩ (News.get N₃ (by k_mem)) hps₂ (News.get N₃ (by k_mem)) hpt₃
  rename_i hi0
  have hi0 : i ≠ 0 := by simpa using hi0
  have e : onlyB i (txt qs) = (i == 0) := by unfold onlyB; rw [if_neg hi0]; simp [hi0]
  show Q (.bool (i == 0)) _
  rw [← e]
  exact hQ _ ps pt ⟨extOf N hg' F' N' (by walk_at "mine.fa"), rfl, hb, Nat.le_trans hL' (Nat.le_of_lt F'.ns.lt)⟩ (News.get N' (by k_mem)) hps (News.get N' (by k_mem)) hpt
end
section
open PySem PySem.W PyProof.Rows PySem.Calls PySem.Builtin PySem.Builtin.List
set_option maxRecDepth 100000

/-- the names of a loop over pairs, over the rest -/
noncomputable def two (xi xc : Str) (o0 o1 : Option Value) (m : Str → Option Value) : Str → Option Value := fun y => if y = xc then o1 else if y = xi then o0 else m y

theorem PcAt.mono2 {h h' : Heap} {v : Value} {q : Pc} (x : PcAt h v q) (k : ∀ b o vs n, o.cls = .type "tuple" → o.data = .seq vs n → h.get? b = some o → h'.get? b = some o) : PcAt h' v q := by
  obtain ⟨a, tf, tp, e, o, ho, hc, n, hd⟩ := x
  exact ⟨a, tf, tp, e, o, k _ _ _ _ hc hd ho, hc, n, hd⟩
theorem PcsAt.mono2 {h h' : Heap} {vs : List Value} {qs : List Pc} (x : PcsAt h vs qs) (k : ∀ b o vs n, o.cls = .type "tuple" → o.data = .seq vs n → h.get? b = some o → h'.get? b = some o) : PcsAt h' vs qs := by
  induction x with
  | nil => exact .nil
  | cons a _ ih => exact .cons (a.mono2 k) ih
theorem nsNe {h : Heap} {L b : Addr} {m : Str → Option Value} {o : Obj} {vs : Array Value} {n : Nat} (hn : h.Ns L m) (hd : o.data = .seq vs n) (e : h.get? b = some o) : b ≠ L := fun z => by
  obtain ⟨oL, es, ep, hL, hd', _⟩ := hn
  rw [z, hL] at e; cases e; rw [hd] at hd'; cases hd'
theorem iterNe {h : Heap} {I l b : Addr} {i : Nat} {o : Obj} {vs : Array Value} {n : Nat} (hn : h.IsListIter I l i) (hd : o.data = .seq vs n) (e : h.get? b = some o) : b ≠ I := fun z => by
  obtain ⟨oL, hL, _, hd'⟩ := hn
  rw [z, hL] at e; cases e; rw [hd] at hd'; cases hd'
section
variable {prog : Program} {w : World} {A : Around} {s : Shared} {env : Env} {h₀ : Heap}
/-- the state at the head of the loop that pushes -/
inductive PushInv (h₀ : Heap) (L I l x dx : Addr) (us vs : Array Value) (qs rs : List Pc) (m : Str → Option Value) (xi xc : Str) (rest : List (Addr × Obj)) (os : OsState) (g : Heap) (k : Nat) (s' : Shared) : Prop
  | mk (i : Nat) (vs' : Array Value) (n' : Nat) (o0 o1 : Option Value) (hi : i ≤ us.size) (hk : k = us.size + 1 - i) (hI : s'.heap.IsListIter I l i) (F : Fr h₀ L s'.heap (two xi xc o0 o1 m)) (N : News h₀ L s'.heap ((x, accObj dx vs' n') :: rest)) (hs : vs'.size = vs.size + i) (P : PcsAt s'.heap vs'.toList (qs ++ rs.take i))
    (ho : s'.os = os) (hb : AllBare s'.gens) (kp : ∀ b o, b ≠ x → b ≠ I → b ≠ L → g.get? b = some o → s'.heap.get? b = some o) : PushInv h₀ L I l x dx us vs qs rs m xi xc rest os g k s'
theorem loop_push {R : Result → Shared → Prop} {xi xc : Str} {pk pv pt : Pos} {x1 : Nat} {body : List Stmt} {I l x dx : Addr} {us vs : Array Value} {n : Nat} {qs rs : List Pc} {m : Str → Option Value} {o0 o1 : Option Value} {rest : List (Addr × Obj)}
    (hh : A.handled = none) (hxi : env.kindOf xi = some .local) (hxc : env.kindOf xc = some .local) (hp : (env.scope.kind == .class || (env.scope.kind == .module && env.locals != env.globals)) = false)
    (hI : s.heap.IsListIter I l 0) (hIL : I ≠ env.locals) (hIn : h₀.get? I = none) (hIx : x ≠ I) (hIr : ∀ p ∈ rest, p.1 ≠ I) (hxr : ∀ p ∈ rest, p.1 ≠ x)
    (hl : SeqAt s.heap l us) (hlx : l ≠ x) (hlI : l ≠ I) (hlL : l ≠ env.locals)
    (F : Fr h₀ env.locals s.heap (two xi xc o0 o1 m)) (N : News h₀ env.locals s.heap ((x, accObj dx vs n) :: rest)) (hP : PcsAt s.heap vs.toList qs) (hU : PcsAt s.heap us.toList rs) (hb : AllBare s.gens)
    (hbody : ∀ i q s₁ vs₁ n₁ tf tp, rs[i]? = some q → Fr h₀ env.locals s₁.heap (two xi xc (some (.str q.1 tf)) (some (.str q.2 tp)) m) → News h₀ env.locals s₁.heap ((x, accObj dx vs₁ n₁) :: rest) → vs₁.size = vs.size + i → AllBare s₁.gens →
      wpAny (model prog w) A (execs body env) (fun fl s₂ => fl = .next ∧ Post [x] s₁ s₂ ∧ ∃ D n₂, s₂.heap.get? x = some (accObj dx (vs₁.push (.ref D)) n₂) ∧ s₂.heap.get? D = some (tup2 (.str q.1 tf) (.str q.2 tp))) (notedBy (model prog w) A env fun e s' => R (.error e) s') s₁)
    (hR : ∀ s' vs' n' o0 o1, Fr h₀ env.locals s'.heap (two xi xc o0 o1 m) → News h₀ env.locals s'.heap ((x, accObj dx vs' n') :: rest) → PcsAt s'.heap vs'.toList (qs ++ rs) → s'.os = s.os → AllBare s'.gens →
      (∀ b o, b ≠ x → b ≠ I → b ≠ env.locals → s.heap.get? b = some o → s'.heap.get? b = some o) → R (.ok .next) s') :
    codeAny (model prog w) A (.forLoop (.Tuple [.Name xi pk, .Name xc pv] x1 pt) (.ref I) body [] env) R s := by
  have hlen : us.size = rs.length := by simpa using hU.length
  refine codeAny_forLoop_any (PushInv h₀ env.locals I l x dx us vs qs rs m xi xc rest s.os s.heap) ?_ (us.size + 1)
    ⟨0, vs, n, o0, o1, Nat.zero_le _, rfl, hI, F, N, rfl, by simpa using hP, rfl, hb, fun _ _ _ _ _ e => e⟩
  rintro k s' ⟨i, vs', n', p0, p1, hi, rfl, hI', F', N', hsz, hP', hos, hb', hk⟩
  have hl' : SeqAt s'.heap l us := hl.at fun o e => hk l o hlx hlI hlL e
  have hX := (N' (x, accObj dx vs' n') (by walk_at "mine.fa")).1
  have nx : ∀ b o, o.cls = .type "tuple" → s'.heap.get? b = some o → b ≠ x := fun b o hc e z => by rw [z, hX] at e; cases e; cases hc
  have hU' : PcsAt s'.heap us.toList rs := hU.mono2 fun b o vs₀ n₀ hc hd e => hk b o (fun z => by rw [z, (N (x, accObj dx vs n) (by walk_at "mine.fa")).1] at e; cases e; cases hc) (iterNe hI hd e) (nsNe F.ns hd e) e
  by_cases hlt : i < us.size
  · have hlt' : i < rs.length := hlen ▸ hlt
    obtain ⟨T, tf, tp, hv, ht⟩ := hU'.got (List.getElem?_eq_getElem hlt')
    have hv' : us[i]? = some (.ref T) := by simpa using hv
    generalize hq : rs[i] = q at ht
    refine next_item hI' hl' hv' fun h₁ hI₁ hs₁ => ?_
    dsimp only
    have ht₁ : h₁.IsTuple T #[.str q.1 tf, .str q.2 tp] := ht.extBut hs₁.extBut (let ⟨_, a, _, _, b⟩ := ht; iterNe hI' b a)
    refine wpAny_letOwnedTupleGo_listiter hI₁ ?_
    refine wpAny_assign_Tuple hh ht₁ rfl rfl fun h₃ hx₃ => ?_
    replace hx₃ : Heap.ExtBut h₁.objs.size h₁ h₃ := hx₃
    have up₃ : ∀ b o, h₁.get? b = some o → h₃.get? b = some o := fun b o z => hx₃ b o (Nat.ne_of_lt (Heap.lt_size z)) z
    have up₁ : ∀ b o, b ≠ I → s'.heap.get? b = some o → h₃.get? b = some o := fun b o hb e => up₃ b o (hs₁.extBut b o hb e)
    have F₃ : Fr h₀ env.locals h₃ (two xi xc p0 p1 m) := ⟨F'.ns.at' fun o e => up₁ _ o (Ne.symm hIL) e, fun b o e => up₁ b o (fun z => by rw [z, hIn] at e; cases e) (F'.keep b o e), F'.above⟩
    have N₃ : News h₀ env.locals h₃ ((x, accObj dx vs' n') :: rest) := fun p hp' => ⟨up₁ _ _ (by
      rcases List.mem_cons.mp hp' with rfl | hp''
      · exact hIx
      · exact hIr p hp'') (N' p hp').1, (N' p hp').2⟩
    show wpAny _ A (do holding [.str q.2 tp] (assign (.Name xi pk) env (.str q.1 tf)); do holding [] (assign (.Name xc pv) env (.str q.2 tp)); pure ()) _ _ _
    refine wpAny_bind (wpAny_holding (wpAny_assign_Name (wpAny_storeName_local hxi F₃.ns (fun h₄ hn₄ hs₄ => ?_) hp)))
    replace hs₄ : Heap.SameBut env.locals h₃ h₄ := hs₄
    have F₄ := F₃.set hn₄ hs₄
    refine wpAny_bind (wpAny_holding (wpAny_assign_Name (wpAny_storeName_local hxc F₄.ns (fun h₅ hn₅ hs₅ => wpAny_pure ?_) hp)))
    replace hs₅ : Heap.SameBut env.locals h₄ h₅ := hs₅
    have F₅ := F₄.set hn₅ hs₅
    have N₅ : News h₀ env.locals h₅ ((x, accObj dx vs' n') :: rest) := (N₃.set hs₄).set hs₅
    have em : (fun y => if y = xc then some (Value.str q.2 tp) else if y = xi then some (Value.str q.1 tf) else two xi xc p0 p1 m y) = two xi xc (some (.str q.1 tf)) (some (.str q.2 tp)) m := by
      funext y; unfold two; by_cases h1 : y = xc <;> by_cases h2 : y = xi <;> simp [h1, h2]
    rw [em] at F₅
    have up₅ : ∀ b o, b ≠ I → b ≠ env.locals → s'.heap.get? b = some o → h₅.get? b = some o := fun b o hb hL e => hs₅.extBut b o hL (hs₄.extBut b o hL (up₁ b o hb e))
    refine wpAny_mono (hbody i q _ vs' n' tf tp (by rw [List.getElem?_eq_getElem hlt', hq]) F₅ N₅ hsz hb') (fun fl s₂ h₆ => ?_) fun _ _ e => e
    obtain ⟨rfl, P₂, D, n₂, hx₂, hD₂⟩ := h₆
    have N₂ : News h₀ env.locals s₂.heap ((x, accObj dx (vs'.push (.ref D)) n₂) :: rest) := newsPost N₅ P₂.ext fun p hp' => by
      rcases List.mem_cons.mp hp' with rfl | hp''
      · exact .inr ⟨hx₂, by walk_at "mine.fa"⟩
      · exact .inl ⟨.tail _ hp'', by simpa using hxr p hp''⟩
    have F₂ : Fr h₀ env.locals s₂.heap (two xi xc (some (.str q.1 tf)) (some (.str q.2 tp)) m) := frPost F₅ N₅ P₂.ext (by walk_at "mine.fa")
    have I₅ : h₅.IsListIter I l (i + 1) := hI₁.at fun o e => hs₅.extBut _ o hIL (hs₄.extBut _ o hIL (up₃ _ o e))
    have I₂ : s₂.heap.IsListIter I l (i + 1) := I₅.at fun o e => P₂.ext _ o (by simpa using Ne.symm hIx) e
    have P5 : PcsAt h₅ vs'.toList (qs ++ rs.take i) := hP'.mono2 fun b o vs₀ n₀ hc hd e => up₅ b o (iterNe hI' hd e) (nsNe F'.ns hd e) e
    have P6 : PcsAt s₂.heap vs'.toList (qs ++ rs.take i) := P5.ext (W := [x]) (fun b hb₀ o e => by
      simp at hb₀; subst hb₀; rw [(N₅ (b, accObj dx vs' n') (by walk_at "mine.fa")).1] at e; cases e; simp) P₂.ext
    refine ⟨us.size + 1 - (i + 1), by omega, i + 1, vs'.push (.ref D), n₂, _, _, hlt, rfl, I₂, F₂, N₂, by simp; omega, ?_, P₂.os.trans hos, P₂.bare, fun b o h1 h2 h3 e => P₂.ext b o (by simpa using h1) (up₅ b o h2 h3 (hk b o h1 h2 h3 e))⟩
    rw [Array.toList_push, List.take_add_one, List.getElem?_eq_getElem hlt', hq, ← List.append_assoc]
    exact P6.append (.one ⟨D, tf, tp, rfl, _, hD₂, rfl, 0, rfl⟩)
  · have hin : i = us.size := by omega
    subst hin
    refine next_end hh hI' hl' (by walk_at "mine.fa") fun h₁ he₁ hsz₁ => wpAny_execs_nil ?_
    have F₁ : Fr h₀ env.locals h₁ (two xi xc p0 p1 m) := ⟨F'.ns.at' fun o e => he₁ _ o (Ne.symm hIL) e, fun b o e => he₁ b o (fun z => by rw [z, hIn] at e; cases e) (F'.keep b o e), F'.above⟩
    have N₁ : News h₀ env.locals h₁ ((x, accObj dx vs' n') :: rest) := fun p hp' => ⟨he₁ _ _ (by
      rcases List.mem_cons.mp hp' with rfl | hp''
      · exact hIx
      · exact hIr p hp'') (N' p hp').1, (N' p hp').2⟩
    refine hR _ vs' n' p0 p1 F₁ N₁ ?_ hos hb' fun b o h1 h2 h3 e => he₁ b o h2 (hk b o h1 h2 h3 e)
    rw [hlen, List.take_length] at hP'
    exact hP'.mono2 fun b o vs₀ n₀ hc hd e => he₁ b o (iterNe hI' hd e) e
end
end
section
open PySem PySem.W PyProof.Rows PySem.Calls PySem.Builtin PySem.Builtin.List
set_option maxRecDepth 100000

noncomputable def blanksL : List Str := [Str.ofString "", Str.ofString " ", Str.ofString "\t", Str.ofString "  "]
noncomputable def wordsL : List Str := [Str.ofString "", Str.ofString "p", Str.ofString "d", Str.ofString "c", Str.ofString "r", Str.ofString "pp"]
/-- the place of a piece's blanks -/
noncomputable def bi (f : Str) : Nat := if f = Str.ofString "" then 0 else if f = Str.ofString " " then 1 else if f = Str.ofString "\t" then 2 else 3
/-- where pop_from is asked to begin -/
noncomputable def cutOf (f : Str) : Int := if f = Str.ofString "" then 0 else if f = Str.ofString " " then -1 else if f = Str.ofString "\t" then 2 else 4
noncomputable def Good (q : Pc) : Prop := q.1 ∈ blanksL ∧ q.2 ∈ wordsL
/-- a deed: what was given; the first size, the row and the store behind it -/
noncomputable def deedP (q : Pc) (i : Int) (qs rs : List Pc) : List Pc × Int × List Pc × List Pc :=
  if q.2 = Str.ofString "p" ∨ q.2 = Str.ofString "pp" then ([], i, qs ++ rs.take q.2.length, rs.drop q.2.length)
  else if q.2 = Str.ofString "d" then (qs.drop (qs.length - 1), i, qs.take (qs.length - 1), rs)
  else if q.2 = Str.ofString "c" then (qs.drop (cut (cutOf q.1) qs.length), i, qs.take (cut (cutOf q.1) qs.length), rs)
  else if q.2 = Str.ofString "r" then ([], 0, rs.take (bi q.1), rs.drop (bi q.1))
  else ([], i, qs, rs)

theorem twoNone {xi xc : Str} {m : Str → Option Value} (h1 : m xi = none) (h2 : m xc = none) : two xi xc none none m = m := by
  funext y; unfold two
  by_cases a : y = xc
  · rw [if_pos a, a, h2]
  · rw [if_neg a]
    by_cases b : y = xi
    · rw [if_pos b, b, h1]
    · rw [if_neg b]

section
variable {prog : Program} {w : World} {A : Around} {E : Value → Shared → Prop} {s : Shared} {h₀ : Heap} {L D : Addr} {news : List (Addr × Obj)}
theorem pair0 {value slice : PySem.Expr} {t : Addr} {a b : Value} {u : Tok} {Q : Value → Shared → Prop} (ht : IsTup s.heap t #[a, b]) (h : Q a s)
    (hs : subscripted slice false (.ref t) (.int 0 u) = operate [.ref t, .int 0 u] (getItem (.ref t) (.int 0 u))) (hg : ∀ r, letTemporaryGo value (.ref t) r = pure ()) :
    wpAny (model prog w) A (subscriptTail value slice (.ref t) (.int 0 u)) Q E s := item_tuple ht (by decide) (by decide) (j := 0) rfl rfl h hs hg
theorem pair1 {value slice : PySem.Expr} {t : Addr} {a b : Value} {u : Tok} {Q : Value → Shared → Prop} (ht : IsTup s.heap t #[a, b]) (h : Q b s)
    (hs : subscripted slice false (.ref t) (.int 1 u) = operate [.ref t, .int 1 u] (getItem (.ref t) (.int 1 u))) (hg : ∀ r, letTemporaryGo value (.ref t) r = pure ()) :
    wpAny (model prog w) A (subscriptTail value slice (.ref t) (.int 1 u)) Q E s := item_tuple ht (by decide) (by decide) (j := 1) rfl rfl h hs hg

theorem index4 {f : Str} {tf t0 t1 t2 t3 : Tok} {Q : Value → Shared → Prop} (N : News h₀ L s.heap news) (hm : (D, listOf #[.str (Str.ofString "") t0, .str (Str.ofString " ") t1, .str (Str.ofString "\t") t2, .str (Str.ofString "  ") t3] 0) ∈ news) (hf : f ∈ blanksL)
    (h : ∀ t k, Q (.int (bi f) t) { s with toks := k }) : wpAny (model prog w) A (call (.builtin "list.index") [.ref D, .str f tf]) Q E s := by
  have he : ∀ y, y ∈ (#[.str (Str.ofString "") t0, .str (Str.ofString " ") t1, .str (Str.ofString "\t") t2, .str (Str.ofString "  ") t3] : Array Value) → MeetsSeq.EqGives y (.str f tf) (match y with | .str a _ => a == f | _ => false) := by
    intro y hy
    simp at hy
    rcases hy with rfl | rfl | rfl | rfl <;> exact eqGives_str _ _ _ _
  have go : ∀ j (hj : j < 4), bi f = j → (match (#[.str (Str.ofString "") t0, .str (Str.ofString " ") t1, .str (Str.ofString "\t") t2, .str (Str.ofString "  ") t3] : Array Value)[j] with | .str a _ => a == f | _ => false) = true →
      (∀ m (hm : m < 4), m < j → (match (#[.str (Str.ofString "") t0, .str (Str.ofString " ") t1, .str (Str.ofString "\t") t2, .str (Str.ofString "  ") t3] : Array Value)[m] with | .str a _ => a == f | _ => false) = false) →
      wpAny (model prog w) A (call (.builtin "list.index") [.ref D, .str f tf]) Q E s := by
    intro j hj e h1 h2
    refine call_meets PySem.F.slot_list_index ⟨_, (N _ hm).1, rfl⟩ PySem.F.entry_list_index (PySem.F.args_list_index_2 _ _)
      (MeetsSeq.list_index D _ 0 (.str f tf) _ he j hj (by omega) h1 h2) ⟨(N _ hm).1, ?_⟩
    rw [← e]
    exact h _ _
  simp only [blanksL, List.mem_cons, List.not_mem_nil, or_false] at hf
  rcases hf with rfl | rfl | rfl | rfl
  · exact go 0 (by decide) (by decide) (by show (Str.ofString _ == Str.ofString _) = _; decide) (fun m hm h => by omega)
  · refine go 1 (by decide) (by decide) (by show (Str.ofString _ == Str.ofString _) = _; decide) (fun m hm h => ?_)
    have : m = 0 := by omega
    subst this; show (Str.ofString _ == Str.ofString _) = _; decide
  · refine go 2 (by decide) (by decide) (by show (Str.ofString _ == Str.ofString _) = _; decide) (fun m hm h => ?_)
    have : m = 0 ∨ m = 1 := by omega
    rcases this with rfl | rfl <;> (show (Str.ofString _ == Str.ofString _) = _; decide)
  · refine go 3 (by decide) (by decide) (by show (Str.ofString _ == Str.ofString _) = _; decide) (fun m hm h => ?_)
    have : m = 0 ∨ m = 1 ∨ m = 2 := by omega
    rcases this with rfl | rfl | rfl <;> (show (Str.ofString _ == Str.ofString _) = _; decide)
end
end
section
open PySem PySem.W PyProof.Rows PySem.Calls PySem.Builtin PySem.Builtin.List
set_option maxRecDepth 100000
theorem newsSub {h₀ h : Heap} {L : Addr} {news news' : List (Addr × Obj)} (N : News h₀ L h news) (hs : ∀ p ∈ news', p ∈ news) : News h₀ L h news' := fun p hp => N p (hs p hp)
theorem tupG {g h : Heap} {L : Addr} {m : Str → Option Value} {t : Addr} {vs : Array Value} (F : Fr g L h m) (H : IsTup g t vs) : IsTup h t vs := let ⟨o, e, r⟩ := H; ⟨o, F.keep _ _ e, r⟩
theorem frOver {h₀ h : Heap} {L : Addr} {m : Str → Option Value} {x : Str} {v : Value} (F : Fr h₀ L h m) (e : m x = some v) : Fr h₀ L h (fun y => if y = x then some v else m y) := by
  have : (fun y => if y = x then some v else m y) = m := by
    funext y; by_cases h : y = x
    · rw [if_pos h, h, e]
    · rw [if_neg h]
  rw [this]; exact F

theorem updCases {d : Addr} {o o' : Obj} {news news' : List (Addr × Obj)} (U : Upd d o o' news news') : ∀ p ∈ news', p = (d, o') ∨ (p ∈ news ∧ p.1 ≠ d) := by
  obtain ⟨pre, post, rfl, rfl, h1, h2⟩ := U.split
  intro p hp
  rcases List.mem_append.mp hp with q | q
  · exact .inr ⟨List.mem_append_left _ q, h1 p q⟩
  · rcases List.mem_cons.mp q with rfl | q
    · exact .inl rfl
    · exact .inr ⟨List.mem_append_right _ (.tail _ q), h2 p q⟩
theorem newsUpd {h₀ h h' : Heap} {L d : Addr} {o o' : Obj} {news news' : List (Addr × Obj)} (N : News h₀ L h news) (E : Ext [d] h h') (U : Upd d o o' news news') (hd : h'.get? d = some o') : News h₀ L h' news' := fun p hp => by
  rcases updCases U p hp with rfl | ⟨h1, h2⟩
  · exact ⟨hd, (N _ (updMem U)).2⟩
  · exact ⟨E _ _ (by simpa using h2) (N p h1).1, (N p h1).2⟩
theorem newsUpd2 {h₀ h h' : Heap} {L d e : Addr} {o o' q q' : Obj} {news n1 news' : List (Addr × Obj)} (N : News h₀ L h news) (E : Ext [d, e] h h') (U : Upd d o o' news n1) (V : Upd e q q' n1 news') (hd : h'.get? d = some o') (he : h'.get? e = some q') (hde : @Ne Nat e d) : News h₀ L h' news' := fun p hp => by
  rcases updCases V p hp with rfl | ⟨h1, h2⟩
  · refine ⟨he, ?_⟩
    rcases updCases U _ (updMem V) with h3 | ⟨h3, _⟩
    · exact absurd (congrArg Prod.fst h3) hde
    · exact (N _ h3).2
  · rcases updCases U p h1 with rfl | ⟨h3, h4⟩
    · exact ⟨hd, (N _ (updMem U)).2⟩
    · exact ⟨E _ _ (by simp [h2, h4]) (N p h3).1, (N p h3).2⟩
theorem newsCons {h₀ h h' : Heap} {L D : Addr} {o : Obj} {m : Str → Option Value} {news : List (Addr × Obj)} (F : Fr h₀ L h m) (N : News h₀ L h' news) (hn : h.get? D = none) (hD : h'.get? D = some o) : News h₀ L h' ((D, o) :: news) := fun p hp => by
  rcases List.mem_cons.mp hp with rfl | hp
  · refine ⟨hD, fun e => ?_, ?_⟩
    · obtain ⟨oL, es, ep, hL, r⟩ := F.ns
      dsimp only at e
      rw [← e, hn] at hL; cases hL
    · cases e : h₀.get? D with
      | none => rfl
      | some o => have := F.keep _ _ e; rw [hn] at this; cases this
  · exact N p hp
theorem newNe {h₀ h : Heap} {L D : Addr} {news : List (Addr × Obj)} (N : News h₀ L h news) (hn : h.get? D = none) : ∀ p ∈ news, @Ne Nat D p.1 := fun p hp e => by
  have := (N p hp).1
  have e : D = p.1 := e
  rw [← e, hn] at this; cases this
noncomputable def BoolIs (b : Bool) (s : Shared) (v : Value) (s' : Shared) : Prop := ∃ t, v = .bool b ∧ s' = ⟨s.heap, s.gens, s.drawn, t, s.os⟩
theorem mono_bool {M : Model} {A : Around} {P : Sem Value} {Q E : Value → Shared → Prop} {s : Shared} {b : Bool} (h : wpAny M A P (BoolIs b s) E s) (k : ∀ t, Q (.bool b) ⟨s.heap, s.gens, s.drawn, t, s.os⟩) : wpAny M A P Q E s :=
  wpAny_mono h (fun _ _ z => by obtain ⟨t, rfl, rfl⟩ := z; exact k t) fun _ _ e => e
noncomputable def TestIs (b : Bool) (s : Shared) (v : Bool) (s' : Shared) : Prop := ∃ t, v = b ∧ s' = ⟨s.heap, s.gens, s.drawn, t, s.os⟩
theorem mono_test {M : Model} {A : Around} {P : Sem Bool} {Q : Bool → Shared → Prop} {E : Value → Shared → Prop} {s : Shared} {b : Bool} (h : wpAny M A P (TestIs b s) E s) (k : ∀ t, Q b ⟨s.heap, s.gens, s.drawn, t, s.os⟩) : wpAny M A P Q E s :=
  wpAny_mono h (fun _ _ z => by obtain ⟨t, rfl, rfl⟩ := z; exact k t) fun _ _ e => e
/-- what the deed's branches leave -/
inductive DeedMid (w : World) (g : Heap) (L x dx y to pc : Addr) (i : Int) (qs rs gave : List Pc) (os : OsState) (s : Shared) : Prop
  | mk (gA : Addr) (gvs vs us : Array Value) (gn n ny : Nat) (k t : Tok) (ps pt : Array Value) (m : Str → Option Value)
    (F : Fr g L s.heap m) (m1 : m (Str.ofString "row") = some (.ref x)) (m2 : m (Str.ofString "told") = some (.ref to)) (m3 : m (Str.ofString "piece") = some (.ref pc)) (m4 : m (Str.ofString "gave") = some (.ref gA))
    (N : News g L s.heap [(x, accObj dx vs n), (dx, accDict w k i t), (y, listOf us ny), (56, tabObj ps), (63, tabObj pt), (gA, listOf gvs gn)]) (tp : TriplesOk ps.toList) (tt : TriplesOk pt.toList)
    (P : PcsAt s.heap vs.toList qs) (U : PcsAt s.heap us.toList rs) (G : PcsAt s.heap gvs.toList gave) (ne : ∀ b ∈ [x, dx, y, 56, 63], @Ne Nat gA b) (ho : s.os = os) (hb : AllBare s.gens) : DeedMid w g L x dx y to pc i qs rs gave os s

section
variable {prog : Program} {w : World} {A : Around} {E : Value → Shared → Prop} {s : Shared} {h₀ : Heap} {L D y : Addr} {m : Str → Option Value} {news : List (Addr × Obj)} {us : Array Value} {ny : Nat}
theorem item4 {value slice : PySem.Expr} {f : Str} {t0 t1 t2 t3 u : Tok} {Q : Value → Shared → Prop} (N : News h₀ L s.heap news) (hm : (D, listOf #[.int 0 t0, .int (-1) t1, .int 2 t2, .int 4 t3] 0) ∈ news) (hf : f ∈ blanksL)
    (h : ∀ t, Q (.int (cutOf f) t) s)
    (hs : subscripted slice false (.ref D) (.int (bi f) u) = operate [.ref D, .int (bi f) u] (getItem (.ref D) (.int (bi f) u)) := by with_unfolding_all rfl) :
    wpAny (model prog w) A (subscriptTail value slice (.ref D) (.int (bi f) u)) Q E s := by
  have hl : s.heap.IsList D #[.int 0 t0, .int (-1) t1, .int 2 t2, .int 4 t3] := ⟨_, (N _ hm).1, rfl, 0, rfl⟩
  have hb : bi f ≤ 3 := by unfold bi; repeat' split
                           all_goals omega
  have hx : ∃ t, (#[.int 0 t0, .int (-1) t1, .int 2 t2, .int 4 t3] : Array Value)[(bi f : Int).toNat]? = some (.int (cutOf f) t) := by
    simp only [blanksL, List.mem_cons, List.not_mem_nil, or_false] at hf
    rcases hf with rfl | rfl | rfl | rfl
    · exact ⟨t0, rfl⟩
    · exact ⟨t1, rfl⟩
    · exact ⟨t2, rfl⟩
    · exact ⟨t3, rfl⟩
  obtain ⟨t, hx⟩ := hx
  exact tail_any hl.typeIs slot_list_getitem.lookup (wpAny_getItem_list hl (by omega) (by omega) hx (h t)) hs

theorem slice_up {value slice : PySem.Expr} {i : Int} {ti : Tok} {Q : Value → Shared → Prop} (F : Fr h₀ L s.heap m) (N : News h₀ L s.heap news) (hm : (y, listOf us ny) ∈ news) 
    (h : ∀ D h', Fr h₀ L h' m → News h₀ L h' ((D, listOf (us.toList.take (cut i us.size)).toArray 0) :: news) → (∀ p ∈ news, p.1 < D) → Q (.ref D) { s with heap := h' })
    (hs : subscripted slice false (.ref y) (.ref s.heap.objs.size) = operate [.ref s.heap.objs.size, .ref y] (getItem (.ref y) (.ref s.heap.objs.size))) (ht : ∀ r, letTemporaryGo value (.ref y) r = pure ()) (hz : us.size ≤ sizeLine) :
    wpAny (model prog w) A (subscriptTail value slice (.ref y) (.ref s.heap.objs.size)) Q E { s with heap := s.heap.push { cls := .type "slice", data := .fields #[.none, .int i ti, .none] } } := by
  refine kmk_slice F N ⟨_, (N _ hm).1, rfl, ny, rfl⟩ .none (.int i ti) (fun D h' F' N' l1 => h D h' F' ?_ l1) hs ht hz
  rwa [pick_upto] at N'
theorem del_slice_K {i : Int} {ti : Tok} {news' : Nat → List (Addr × Obj)} {Q : Unit → Shared → Prop} (F : Fr h₀ L s.heap m) (N : News h₀ L s.heap news) (U : ∀ n', Upd y (listOf us ny) (listOf (us.toList.drop (cut i us.size)).toArray n') news (news' n')) (hz : us.size ≤ sizeLine)
    (h : ∀ n' h', Fr h₀ L h' m → News h₀ L h' (news' n') → Heap.ExtBut y s.heap h' → Q () { s with heap := h' }) :
    wpAny (model prog w) A (delItem (.ref y) (.ref s.heap.objs.size)) Q E { s with heap := s.heap.push { cls := .type "slice", data := .fields #[.none, .int i ti, .none] } } := by
  have F1 := F.push ({ cls := .type "slice", data := .fields #[.none, .int i ti, .none] } : Obj)
  have N1 := News.pushKeep N ({ cls := .type "slice", data := .fields #[.none, .int i ti, .none] } : Obj)
  have hy := (N1 _ (updMem (U 0))).1
  have hT : (⟨s.heap.push { cls := .type "slice", data := .fields #[.none, .int i ti, .none] }, s.gens, s.drawn, s.toks, s.os⟩ : Shared).TypeIs (.ref y) "list" := ⟨_, hy, rfl⟩
  refine wpAny_delItem_slot hT (by decide) PySem.F.slot_list_delitem (wpAny_call_entry PySem.F.slot_list_delitem hT PySem.F.entry_list_delitem ?_ (PySem.F.args_list_delitem_2 _ _))
  refine del_core (cls := .type "list") (od := none) (sls := #[]) hy hz (Heap.IsSliceOf.new ..) fun h' n' hx' hs' => ⟨_, rfl, ?_⟩
  obtain ⟨F2, N2⟩ := updSame F1 N1 (U n') hs' hx'
  exact h n' h' F2 N2 fun b o hb e => hs'.extBut b o hb (Heap.get?_push_of_some _ e)
theorem mid_mk {w : World} {g : Heap} {L x dx y to pc gA : Addr} {i : Int} {qs rs gave : List Pc} {os : OsState} {s : Shared} {gvs vs us : Array Value} {gn n ny : Nat} {k t : Tok} {ps pt : Array Value} {m : Str → Option Value} (F : Fr g L s.heap m) (h1 : m (Str.ofString "row") = some (.ref x)) (h2 : m (Str.ofString "told") = some (.ref to)) (h3 : m (Str.ofString "piece") = some (.ref pc)) (h4 : m (Str.ofString "gave") = some (.ref gA))
    (N : News g L s.heap news) (hn : ∀ p ∈ [(x, accObj dx vs n), (dx, accDict w k i t), (y, listOf us ny), (56, tabObj ps), (63, tabObj pt), (gA, listOf gvs gn)], p ∈ news) (h5 : TriplesOk ps.toList) (h6 : TriplesOk pt.toList)
    (h7 : PcsAt s.heap vs.toList qs) (h8 : PcsAt s.heap us.toList rs) (h9 : PcsAt s.heap gvs.toList gave) (h10 : ∀ b ∈ [x, dx, y, 56, 63], @Ne Nat gA b) (h12 : s.os = os) (h13 : AllBare s.gens) : DeedMid w g L x dx y to pc i qs rs gave os s :=
  ⟨gA, gvs, vs, us, gn, n, ny, k, t, ps, pt, m, F, h1, h2, h3, h4, newsSub N hn, h5, h6, h7, h8, h9, h10, h12, h13⟩
end
end
section
open PySem PySem.W PyProof.Rows PySem.Calls PySem.Builtin PySem.Builtin.List
set_option maxRecDepth 100000
section
variable {q : Pc} {i : Int} {qs rs : List Pc}
theorem deedP_n (h1 : (q.2 == Str.ofString "p") = false) (h2 : (q.2 == Str.ofString "pp") = false) (h3 : (q.2 == Str.ofString "d") = false) (h4 : (q.2 == Str.ofString "c") = false) (h5 : (q.2 == Str.ofString "r") = false) : deedP q i qs rs = ([], i, qs, rs) := by
  simp only [beq_eq_false_iff_ne, ne_eq] at h1 h2 h3 h4 h5
  unfold deedP
  rw [if_neg (by exact fun e => e.elim h1 h2), if_neg h3, if_neg h4, if_neg h5]
theorem deedP_p (h : (q.2 == Str.ofString "p") = true ∨ (q.2 == Str.ofString "pp") = true) : deedP q i qs rs = ([], i, qs ++ rs.take q.2.length, rs.drop q.2.length) := by
  simp only [beq_iff_eq] at h
  unfold deedP
  rw [if_pos h]
theorem deedP_d (h1 : (q.2 == Str.ofString "p") = false) (h2 : (q.2 == Str.ofString "pp") = false) (h3 : (q.2 == Str.ofString "d") = true) : deedP q i qs rs = (qs.drop (qs.length - 1), i, qs.take (qs.length - 1), rs) := by
  simp only [beq_eq_false_iff_ne, ne_eq, beq_iff_eq] at h1 h2 h3
  unfold deedP
  rw [if_neg (by exact fun e => e.elim h1 h2), if_pos h3]
theorem deedP_c (h1 : (q.2 == Str.ofString "p") = false) (h2 : (q.2 == Str.ofString "pp") = false) (h3 : (q.2 == Str.ofString "d") = false) (h4 : (q.2 == Str.ofString "c") = true) : deedP q i qs rs = (qs.drop (cut (cutOf q.1) qs.length), i, qs.take (cut (cutOf q.1) qs.length), rs) := by
  simp only [beq_eq_false_iff_ne, ne_eq, beq_iff_eq] at h1 h2 h3 h4
  unfold deedP
  rw [if_neg (by exact fun e => e.elim h1 h2), if_neg h3, if_pos h4]
theorem deedP_r (h1 : (q.2 == Str.ofString "p") = false) (h2 : (q.2 == Str.ofString "pp") = false) (h3 : (q.2 == Str.ofString "d") = false) (h4 : (q.2 == Str.ofString "c") = false) (h5 : (q.2 == Str.ofString "r") = true) : deedP q i qs rs = ([], 0, rs.take (bi q.1), rs.drop (bi q.1)) := by
  simp only [beq_eq_false_iff_ne, ne_eq, beq_iff_eq] at h1 h2 h3 h4 h5
  unfold deedP
  rw [if_neg (by exact fun e => e.elim h1 h2), if_neg h3, if_neg h4, if_pos h5]
theorem good_len (h : Good q) : q.2.length ≤ 4 := by
  have := h.2
  simp only [wordsL, List.mem_cons, List.not_mem_nil, or_false] at this
  rcases this with e | e | e | e | e | e <;> (rw [e]; decide)
theorem cut_nat (k n : Nat) : cut (k : Int) n = min k n := by unfold cut; rw [if_neg (by omega)]; omega
theorem take_cut (l : List Value) (k n : Nat) (h : n = l.length) : l.take (cut (k : Int) n) = l.take k := by
  rw [cut_nat, h]
  by_cases hk : k ≤ l.length
  · rw [Nat.min_eq_left hk]
  · rw [Nat.min_eq_right (by omega), List.take_of_length_le (Nat.le_refl _), List.take_of_length_le (by omega)]
theorem drop_cut (l : List Value) (k n : Nat) (h : n = l.length) : l.drop (cut (k : Int) n) = l.drop k := by
  rw [cut_nat, h]
  by_cases hk : k ≤ l.length
  · rw [Nat.min_eq_left hk]
  · rw [Nat.min_eq_right (by omega), List.drop_of_length_le (Nat.le_refl _), List.drop_of_length_le (by omega)]
theorem PcsAt.last {h : Heap} {vs : Array Value} {v : Value} (x : PcsAt h (vs.push v).toList qs) : PcsAt h vs.toList (qs.take (qs.length - 1)) ∧ PcsAt h [v] (qs.drop (qs.length - 1)) := by
  have hl := x.length
  rw [Array.toList_push] at x hl
  simp only [List.length_append, List.length_cons, List.length_nil] at hl
  have e : qs.length - 1 = vs.toList.length := by omega
  have a := x.take (qs.length - 1)
  have b := x.drop (qs.length - 1)
  rw [e, List.take_left] at a
  rw [e, List.drop_left] at b
  rw [e]
  exact ⟨a, b⟩
theorem twoFr {h₀ h : Heap} {L : Addr} {xi xc : Str} {m : Str → Option Value} (F : Fr h₀ L h m) (h1 : m xi = none) (h2 : m xc = none) : Fr h₀ L h (two xi xc none none m) := by rw [twoNone h1 h2]; exact F
theorem noTup1 {h : Heap} {y : Addr} {o : Obj} (e : h.get? y = some o) (hc : o.cls ≠ .type "tuple") : NoTup [y] h := fun b hb o' e' => by
  rw [List.mem_singleton.mp hb, e] at e'; cases e'; exact hc
theorem deedP_i (h : 0 ≤ i ∧ i ≤ 10) : 0 ≤ (deedP q i qs rs).2.1 ∧ (deedP q i qs rs).2.1 ≤ 10 := by
  unfold deedP; repeat' split
  all_goals first | exact h | (show (0 : Int) ≤ 0 ∧ (0 : Int) ≤ 10; decide)
theorem deedP_len : (deedP q i qs rs).2.2.1.length + (deedP q i qs rs).2.2.2.length ≤ qs.length + rs.length := by
  unfold deedP; repeat' split
  all_goals (simp only [List.length_append, List.length_take, List.length_drop]; omega)
theorem deedP_mem {p : Pc} (h : p ∈ (deedP q i qs rs).2.2.1 ∨ p ∈ (deedP q i qs rs).2.2.2) : p ∈ qs ∨ p ∈ rs := by
  have T : ∀ {l : List Pc} {k : Nat}, p ∈ l.take k → p ∈ l := fun h => List.mem_of_mem_take h
  have D : ∀ {l : List Pc} {k : Nat}, p ∈ l.drop k → p ∈ l := fun h => List.mem_of_mem_drop h
  unfold deedP at h
  repeat' split at h
  all_goals (dsimp only at h)
  · rcases h with h | h
    · rcases List.mem_append.mp h with h | h
      · exact .inl h
      · exact .inr (T h)
    · exact .inr (D h)
  · exact h.imp T id
  · exact h.imp T id
  · exact .inr (h.elim T D)
  · exact h
theorem deedP_small (h : Small (qs ++ rs)) : Small ((deedP q i qs rs).2.2.1 ++ (deedP q i qs rs).2.2.2) := by
  refine ⟨?_, fun p hp => h.2 p ?_⟩
  · have := h.1
    have l := deedP_len (q := q) (i := i) (qs := qs) (rs := rs)
    rw [List.length_append] at this ⊢; omega
  · exact List.mem_append.mpr (deedP_mem (List.mem_append.mp hp))
theorem pushOf (vs : Array Value) (h : 0 < vs.size) : ∃ (vs₀ : Array Value) (v : Value), vs = vs₀.push v := by
  refine ⟨vs.pop, vs.back?.getD .none, ?_⟩
  obtain ⟨l⟩ := vs
  cases hl : l.reverse with
  | nil => simp at hl; simp [hl] at h
  | cons a r =>
    have : l = r.reverse ++ [a] := by rw [← List.reverse_reverse l, hl]; simp
    subst this
    simp
end
end
section
open PySem PySem.W PyProof.Rows PySem.Calls PySem.Builtin PySem.Builtin.List
set_option maxRecDepth 100000
noncomputable abbrev TupKeep (h h' : Heap) : Prop := ∀ (b : Addr) (o : Obj) (vs : Array Value) (n : Nat), o.cls = .type "tuple" → o.data = .seq vs n → h.get? b = some o → h'.get? b = some o
theorem readsMono2 {h h' : Heap} (k1 : TupKeep h h') {v : Value} {d : PyData} {as : List Addr} (k : ∀ a ∈ as, ∀ o, h.get? a = some o → h'.get? a = some o) (r : Reads h v d as) : Reads h' v d as := by
  refine Reads.rec (motive_1 := fun v d as _ => (∀ a ∈ as, ∀ o, h.get? a = some o → h'.get? a = some o) → Reads h' v d as) (motive_2 := fun vs ds as _ => (∀ a ∈ as, ∀ o, h.get? a = some o → h'.get? a = some o) → ReadsAll h' vs ds as) ?n ?b ?i ?s ?l ?t ?d ?e ?c r k
  · exact fun _ => .none
  · exact fun b _ => .bool b
  · exact fun i t _ => .int i t
  · exact fun x t _ => .str x t
  · exact fun h1 h2 h3 _ ih k => .list (k _ (.head _) _ h1) h2 h3 (ih fun a ha => k a (.tail _ ha))
  · exact fun h1 h2 h3 _ ih k => .tuple (k1 _ _ _ _ h2 h3 h1) h2 h3 (ih k)
  · exact fun h1 h2 h3 _ _ i1 i2 k => .dict (k _ (.head _) _ h1) h2 h3 (i1 fun a ha => k a (.tail _ (List.mem_append_left _ ha))) (i2 fun a ha => k a (.tail _ (List.mem_append_right _ ha)))
  · exact fun _ => .nil
  · exact fun _ _ i1 i2 k => .cons (i1 fun a ha => k a (List.mem_append_left _ ha)) (i2 fun a ha => k a (List.mem_append_right _ ha))
theorem readsMonoAll2 {h h' : Heap} (k1 : TupKeep h h') {vs : List Value} : ∀ {ds : List PyData} {as : List Addr}, (∀ a ∈ as, ∀ o, h.get? a = some o → h'.get? a = some o) → ReadsAll h vs ds as → ReadsAll h' vs ds as := by
  induction vs with
  | nil => intro ds as _ r; cases r; exact .nil
  | cons u us ih =>
    intro ds as k r
    cases r with
    | cons a b => exact .cons (readsMono2 k1 (fun a ha => k a (List.mem_append_left _ ha)) a) (ih (fun a ha => k a (List.mem_append_right _ ha)) b)
theorem readsMono {h h' : Heap} (k1 : ∀ b o, o.cls = .type "tuple" → h.get? b = some o → h'.get? b = some o) {v : Value} {d : PyData} {as : List Addr} (k : ∀ a ∈ as, ∀ o, h.get? a = some o → h'.get? a = some o) (r : Reads h v d as) : Reads h' v d as := readsMono2 (fun b o _ _ hc _ e => k1 b o hc e) k r
theorem readsMonoAll {h h' : Heap} (k1 : ∀ b o, o.cls = .type "tuple" → h.get? b = some o → h'.get? b = some o) {vs : List Value} {ds : List PyData} {as : List Addr} (k : ∀ a ∈ as, ∀ o, h.get? a = some o → h'.get? a = some o) (r : ReadsAll h vs ds as) : ReadsAll h' vs ds as := readsMonoAll2 (fun b o _ _ hc _ e => k1 b o hc e) k r
noncomputable def pcD (q : Pc) : PyData := .tuple [.str q.1, .str q.2]
noncomputable def pcsD (qs : List Pc) : List PyData := qs.map pcD
/-- the note behind a deed -/
noncomputable def noteD (q : Pc) (gave : List Pc) (i : Int) (qs : List Pc) : PyData :=
  .tuple [pcD q, .list (pcsD gave), .int (i + (txt qs).length), .int qs.length, .bool (onlyB i (txt qs)), .str (txt qs)]
noncomputable def recD (q : Pc) (i : Int) (qs rs : List Pc) : PyData := noteD q (deedP q i qs rs).1 (deedP q i qs rs).2.1 (deedP q i qs rs).2.2.1
/-- the row, its dict, the store and the two tables -/
inductive HoldsSt (w : World) (x dx y : Addr) (i : Int) (qs rs : List Pc) (h : Heap) : Prop
  | mk (vs us : Array Value) (n ny : Nat) (k t : Tok) (ps pt : Array Value) (hx : h.get? x = some (accObj dx vs n)) (hd : h.get? dx = some (accDict w k i t)) (hy : h.get? y = some (listOf us ny)) (h1 : h.get? 56 = some (tabObj ps)) (h2 : h.get? 63 = some (tabObj pt))
    (t1 : TriplesOk ps.toList) (t2 : TriplesOk pt.toList) (P : PcsAt h vs.toList qs) (U : PcsAt h us.toList rs) : HoldsSt w x dx y i qs rs h
/-- the lists that a note reads: none of W, each still a list -/
noncomputable def ListsAt (W : List Addr) (h : Heap) (as : List Addr) : Prop := ∀ a ∈ as, a ∉ W ∧ ∃ gvs gn, h.get? a = some (listOf gvs gn)
theorem ListsAt.keep {W : List Addr} {h h' : Heap} {as : List Addr} (x : ListsAt W h as) (k : ∀ b o vs n, b ∉ W → o = listOf vs n → h.get? b = some o → h'.get? b = some o) : ListsAt W h' as := fun a ha => by
  obtain ⟨h1, gvs, gn, e⟩ := x a ha
  exact ⟨h1, gvs, gn, k _ _ _ _ h1 rfl e⟩
theorem ListsAt.read {W : List Addr} {h h' : Heap} {as : List Addr} {v : Value} {d : PyData} (x : ListsAt W h as) (r : Reads h v d as) (k1 : ∀ b o, o.cls = .type "tuple" → h.get? b = some o → h'.get? b = some o) (k2 : ∀ b o vs n, b ∉ W → o = listOf vs n → h.get? b = some o → h'.get? b = some o) : Reads h' v d as :=
  readsMono k1 (fun a ha o e => by
    obtain ⟨h1, gvs, gn, e'⟩ := x a ha
    rw [e'] at e; cases e
    exact k2 _ _ _ _ h1 rfl e') r
section
variable {h : Heap} {v : Value} {vs : List Value} {q : Pc} {qs : List Pc}
theorem PcAt.reads (x : PcAt h v q) : Reads h v (pcD q) [] := by
  obtain ⟨a, tf, tp, rfl, o, ho, hc, n, hd⟩ := x
  exact .tuple ho hc hd (.cons (.str _ _) (.cons (.str _ _) .nil))
theorem PcsAt.reads (x : PcsAt h vs qs) : ReadsAll h vs (pcsD qs) [] := by
  induction x with
  | nil => exact .nil
  | cons a _ ih => exact .cons a.reads ih
theorem ReadsAll.snoc {ds : List PyData} {d : PyData} {as bs : List Addr} : ∀ {vs : List Value}, ReadsAll h vs ds as → Reads h v d bs → ReadsAll h (vs ++ [v]) (ds ++ [d]) (as ++ bs) := by
  intro vs x y
  induction vs generalizing ds as with
  | nil => cases x; simpa using ReadsAll.cons y .nil
  | cons u us ih =>
    cases x with
    | cons a b => simpa [List.append_assoc] using ReadsAll.cons a (ih b)
theorem ReadsAll.len {ds : List PyData} {as : List Addr} : ∀ {vs : List Value}, ReadsAll h vs ds as → vs.length = ds.length := by
  intro vs x
  induction vs generalizing ds as with
  | nil => cases x; rfl
  | cons u us ih =>
    cases x with
    | cons a b => simp [ih b]
theorem note_reads {pc gA D : Addr} {gvs : Array Value} {gn c : Nat} {gave : List Pc} {i : Int} {tf tp ta tc tx : Tok} (hpc : IsTup h pc #[.str q.1 tf, .str q.2 tp]) (hg : h.get? gA = some (listOf gvs gn)) (hgv : PcsAt h gvs.toList gave) (hc : c = qs.length)
    (hD : h.get? D = some ({ cls := .type "tuple", data := .seq #[.ref pc, .ref gA, .int (i + (txt qs).length) ta, .int (c : Int) tc, .bool (onlyB i (txt qs)), .str (txt qs) tx] } : Obj)) : Reads h (.ref D) (noteD q gave i qs) [gA] := by
  subst hc
  obtain ⟨o, ho, hcl, n, hd⟩ := hpc
  have h1 : Reads h (.ref pc) (pcD q) [] := .tuple ho hcl hd (.cons (.str _ _) (.cons (.str _ _) .nil))
  have h2 : Reads h (.ref gA) (.list (pcsD gave)) [gA] := .list hg rfl rfl hgv.reads
  exact .tuple hD rfl rfl (.cons h1 (.cons h2 (.cons (.int _ _) (.cons (.int _ _) (.cons (.bool _) (.cons (.str _ _) .nil))))))
end
section
variable {prog : Program} {w : World} {M : Model} {A : Around} {E : Value → Shared → Prop} {s : Shared} {h₀ : Heap} {L : Addr} {m : Str → Option Value} {news : List (Addr × Obj)}
theorem newTuple_keep {vs : List Value} {Q : Value → Shared → Prop} (F : Fr h₀ L s.heap m) (N : News h₀ L s.heap news)
    (h : ∀ D h', Fr h₀ L h' m → News h₀ L h' ((D, ({ cls := .type "tuple", data := .seq vs.toArray } : Obj)) :: news) → (∀ p ∈ news, p.1 < D) → (∀ b o, s.heap.get? b = some o → h'.get? b = some o) → Q (.ref D) { s with heap := h' }) (hz : vs.length ≤ sizeLine) : wpAny M A (newTuple vs) Q E s :=
  wpAny_newObj_type (h _ _ (F.push _) (News.push F N _) (fun p hp => Heap.lt_size (N p hp).1) fun b o e => Heap.get?_push_of_some _ e) (by show vs.toArray.size ≤ sizeLine; rw [List.size_toArray]; exact hz)
theorem newList_keep {vs : List Value} {Q : Value → Shared → Prop} (F : Fr h₀ L s.heap m) (N : News h₀ L s.heap news)
    (h : ∀ D h', Fr h₀ L h' m → News h₀ L h' ((D, listOf vs.toArray 0) :: news) → (∀ p ∈ news, p.1 < D) → (∀ b o, s.heap.get? b = some o → h'.get? b = some o) → Q (.ref D) { s with heap := h' }) (hz : vs.length ≤ sizeLine) : wpAny M A (newList vs) Q E s :=
  wpAny_newObj_type (h _ _ (F.push _) (News.push F N _) (fun p hp => Heap.lt_size (N p hp).1) fun b o e => Heap.get?_push_of_some _ e) (by show vs.toArray.size ≤ sizeLine; rw [List.size_toArray]; exact hz)
/-- a tuple behind another: the sum is a tuple, and all else is as it was -/
theorem add_tup {t b : Addr} {vs ws : List Value} {Q : Value → Shared → Prop} (ht : IsTup s.heap t vs.toArray) (hb : IsTup s.heap b ws.toArray) (hw : ws ≠ [])
    (h : ∀ r h', (∀ c o, s.heap.get? c = some o → h'.get? c = some o) → s.heap.objs.size ≤ h'.objs.size → IsTup h' r (vs ++ ws).toArray → Q (.ref r) { s with heap := h' }) (hsz : vs.length + ws.length ≤ sizeLine) :
    wpAny (model prog w) A (binaryOp .Add (.ref t) (.ref b)) Q E s := by
  obtain ⟨⟨c1, d1, x1, s1⟩, g1, e1, n1, y1⟩ := id ht
  obtain ⟨⟨c2, d2, x2, s2⟩, g2, e2, n2, y2⟩ := id hb
  dsimp only at e1 y1 e2 y2
  subst e1 y1 e2 y2
  by_cases hv : vs = []
  · refine concat_meets ⟨_, g1, rfl⟩ ⟨_, g2, rfl⟩ noFill_tuple_add seq_tuple_add PySem.F.slot_tuple_add PySem.F.entry_tuple_add (PySem.F.args_tuple_add_2 _ _) (tuple_addW0 t b vs.toArray ws.toArray n1 n2 d1 d2 s1 s2 (by simp [hv])) ⟨g1, g2, ?_⟩
    refine h b s.heap (fun _ _ e => e) (Nat.le_refl _) ?_
    rw [hv]; exact hb
  · refine concat_meets ⟨_, g1, rfl⟩ ⟨_, g2, rfl⟩ noFill_tuple_add seq_tuple_add PySem.F.slot_tuple_add PySem.F.entry_tuple_add (PySem.F.args_tuple_add_2 _ _) (tuple_addW2 t b vs.toArray ws.toArray n1 n2 d1 d2 s1 s2 (by simpa using hv) (by simpa using hw) (by rw [List.size_toArray, List.size_toArray]; exact hsz)) ⟨g1, g2, ?_⟩
    refine h _ _ (fun c o e => Heap.get?_push_of_some _ e) (by rw [Heap.size_push]; omega) ⟨_, Heap.get?_push_size _ rfl, rfl, 0, ?_⟩
    simp
end
end
theorem words3 : True := by
  k_with_none
  k_with "mine.mem" => (repeat (first | exact List.Mem.head _ | refine List.Mem.tail _ ?_))
  k_with "mine.nm" => ((repeat' (first | exact nm_nil | refine nm_cons ?_ ?_)) <;> (first | assumption | ((try dsimp only); first | decide | (refine neN ?_; omega))))
  k_with "mine.fa1" => (first | exact ncR | exact ncN | exact ncL | exact ncD | (walk_at "mine.mem"; done) | (refine fa_in ?_; walk_at "mine.mem"; done) | (refine fa_out ?_; walk_at "mine.mem"; done) | (refine Or.inl ⟨?_, ?_⟩; (focus (walk_at "mine.mem"; done)); (walk_at "mine.nm"; done)) | (refine Or.inr ⟨by assumption, ?_⟩; walk_at "mine.mem"; done) | (refine neN ?_; omega))
  k_with "mine.fa" => (first | exact fa_all | ((repeat' (first | exact fa_nil | refine fa_cons ?_ ?_)); (all_goals walk_at "mine.fa1"); done) | simp)
  k_with "getMethod ref" => (k_here; k_dflt (refine' getMethod_acc (by k_in) (by k_inst) (by k_is) (by k_is) (by k_is) (by k_is) (by decide) (by k_get) ?_; k_whole))
  k_with "call builtin:list.append" => (k_here; (with_reducible show wpAny _ _ (call (Value.builtin _) [Value.ref _, _]) _ _ _); k_dflt (refine' acc_append_K (by k_asm) (by k_asm) (by k_asm) (by k_upd) (by k_is) (by assumption) ?_; k_whole); intro _ _ _; (try k_sweep))
  k_with "getAttr ref" => (k_here; k_dflt (refine' get_acc (by k_in) (by exact News.get (by k_asm) (by k_mem)) (by exact News.get (by k_asm) (by k_mem)) (by k_is) (by k_is) (by k_is) (by k_is) (by k_is) (by k_get) (by k_handed) ?_; k_whole))
  k_with "setAttr ref" => (k_here; k_dflt (refine' set_attr_acc (by k_asm) (by k_asm) (by k_asm) (by k_inst) (by exact rfl) (by k_is) (by k_is) (by exact rfl) (by k_is) (by k_is) (by k_get) (by k_put) (by k_upd) (by exact Nat.le_of_ble_eq_true rfl) ?_; k_whole; intro _ _ _; (try k_sweep)))
  k_with "getMethod ref" => (k_here; k_dflt (refine' sup_meth bt_pop (by k_asm) (by k_asm) (by k_asm) (by k_mem) (by k_inst) (by k_is) (by ks_is) (by k_is) (by decide) ?_; intro _ _ _ _ l1; (try k_lt l1); (try (revert l1; intro _))))
  k_with "getMethod ref" => (k_here; k_dflt (refine' sup_meth bt_init (by k_asm) (by k_asm) (by k_asm) (by k_mem) (by k_inst) (by k_is) (by ks_is) (by k_is) (by decide) ?_; intro _ _ _ _ l1; (try k_lt l1); (try (revert l1; intro _))))
  k_with "getMethod ref" => (k_here; k_dflt (refine' sup_meth bt_len (by k_asm) (by k_asm) (by k_asm) (by k_mem) (by k_inst) (by k_is) (by ks_is) (by k_is) (by decide) ?_; intro _ _ _ _ l1; (try k_lt l1); (try (revert l1; intro _))))
  k_with "subscriptTail" => (k_here; (with_reducible show wpAny _ _ (subscriptTail _ _ (Value.ref _) (Value.int 0 _)) _ _ _); k_dflt (refine' pair0 (tupG (by k_asm) (by assumption)) ?_ (by with_unfolding_all rfl) (by exact fun _ => rfl); k_whole))
  k_with "subscriptTail" => (k_here; (with_reducible show wpAny _ _ (subscriptTail _ _ (Value.ref _) (Value.int 1 _)) _ _ _); k_dflt (refine' pair1 (tupG (by k_asm) (by assumption)) ?_ (by with_unfolding_all rfl) (by exact fun _ => rfl); k_whole))
  k_with "last subscriptTail" => (k_here; (with_reducible show wpAny _ _ (subscriptTail _ _ (Value.ref _) (Value.int (bi _) _)) _ _ _); k_dflt (refine' item4 (by k_asm) (by k_mem) (by assumption) ?_; k_whole); intro _)
  k_with "call builtin:list.index" => (k_here; k_dflt (refine' index4 (by k_asm) (by k_mem) (by assumption) ?_; k_whole); intro _ _)
  k_with "subscriptTail Name Slice ref ref" => (k_here; k_dflt (refine' slice_up (by k_asm) (by k_asm) (by k_mem) ?_ (by with_unfolding_all rfl) (by kmk_pure) (by assumption)); intro _ _ _ _ l1; (try k_lt l1); (try (revert l1; intro _)); (try k_sweep))
  k_with "delItem" => (k_here; k_dflt (refine' del_slice_K (by k_asm) (by k_asm) (by intro n'; k_upd) (by assumption) ?_); intro _ _ _ _ _; (try k_sweep))
  k_with "call builtin:len" => (k_here; (with_reducible show wpAny _ _ (call (Value.builtin _) [Value.str _ _]) _ _ _); k_dflt (refine' PySem.P.len_str (by omega) ?_; k_whole))
  k_with "newTuple" => (k_here; k_dflt (refine' newTuple_keep (by k_asm) (by k_asm) ?_ (by kmk_size)); intro _ _ _ _ l1 kp'; (try k_lt l1); (first | (revert l1 kp'; intro _ _) | (revert kp'; intro _)); (try k_sweep))
  trivial
section
open PySem PySem.W PyProof.Rows PySem.Calls
set_option maxRecDepth 100000 in
set_option maxHeartbeats 8000000 in
theorem deed_spec {w : World} {dp un : Nat} {gd : Option (List Code)} {cn : Str} {cs : Scope} {a : Addr} {ccd : Value} {cl : List (Str × Addr)} {outer : List Env} {A₀ : Around} {base h₀ : Heap} {L : Addr} {m : Str → Option Value} {s : Shared}
   {loose : List Str} {mean : ExcName → Option Value} {mg mb : Str → Option Value} {p : Program} {Q E : Value → Shared → Prop} {x dx y to pc : Addr} {vs us : Array Value} {n ny : Nat} {k t tf tp : Tok} {i : Int} {ps pt : Array Value} {qs rs : List Pc} {q : Pc} {tds : List PyData} {tas : List Addr}
   (B : Below A₀ base outer h₀) (F : Fr h₀ L s.heap m) (X : (Mine.hd.heap_39 w.params).In h₀) (N : News h₀ L s.heap [(x, accObj dx vs n), (dx, accDict w k i t), (y, listOf us ny), (56, tabObj ps), (63, tabObj pt)]) (T : Top p loose mean mg mb h₀) (hk : cs.kind = .function) (hd : dp + 70 < recursionLimit) (hu : un + 700 < cLine)
   (hps : TriplesOk ps.toList) (hpt : TriplesOk pt.toList) (hp : PcsAt s.heap vs.toList qs) (hr : PcsAt s.heap us.toList rs) (hsm : Small (qs ++ rs)) (hne : 0 < qs.length) (hxd : @LT.lt Nat _ dx x) (hdx : @LT.lt Nat _ 143 dx) (hxy : @LT.lt Nat _ x y) (hi : 0 ≤ i ∧ i ≤ 10) (hb : AllBare s.gens)
   (hpc : s.heap.IsTuple pc #[.str q.1 tf, .str q.2 tp]) (hgq : Good q) (hto : Reads s.heap (.ref to) (.tuple tds) tas) (htl : tds.length ≤ 1000) (hta : ListsAt [x, dx, y, 56, 63] s.heap tas)
   (hQ : ∀ s' r as', Post [x, dx, y, 56, 63] s s' → HoldsSt w x dx y (deedP q i qs rs).2.1 (deedP q i qs rs).2.2.1 (deedP q i qs rs).2.2.2 s'.heap → Reads s'.heap (.ref r) (.tuple (tds ++ [recD q i qs rs])) as' → ListsAt [x, dx, y, 56, 63] s'.heap as' → Q (.ref r) s') :
   wpAny (model PySem.Challenge.rw_mq0119_01.row.prog w) (ktrTop dp un gd cn cs L a ccd cl outer) (call (.ref 121) [.ref x, .ref y, .ref to, .ref pc]) Q E s := by
  revert X; k_fill; intro X
  k_dflt (refine' enterE (binds := [("row", .ref x), ("store", .ref y), ("told", .ref to), ("piece", .ref pc)]) ?k1 ?k2 ?k3 ?k4 ?k5 ?kA ?kF ?kK ?k6 ?k7 ?k8 ?k9 ?kB ?_ ?c2 ?c3 ?c4 ?c5; (case kA => exact rfl); (case kF => exact rfl); (case kK => assumption); (case k1 => k_asm); (case k2 => k_asm); (case k3 => k_asm); (case k4 => k_asm); (case k5 => k_asm); (case k6 => k_is); (case k7 => k_is); (case k8 => (simp only []; omega)); (case k9 => first | exact binds_K (by k_in) rfl (by k_is) rfl rfl rfl | exact BindsTo.of_eq rfl); (case c5 => decide); (case kB => exact locs rfl); (case c2 => exact rfl); (case c3 => exact rfl); (case c4 => exact rfl); k_whole)
  intro g' L' h' hg' hL' hlt' F' N' B' X' T'
  k_lt hlt'
  (try dsimp only); (try k_fold)
  have tk : ∀ b o, o.cls = .type "tuple" → s.heap.get? b = some o → g'.get? b = some o := fun b o hc e => hg' b o (fun hb => noTup N (by walk_at "mine.fa") b hb o e hc) e
  have hpg : IsTup g' pc #[.str q.1 tf, .str q.2 tp] := let ⟨o, e, hc, r⟩ := hpc; ⟨o, tk _ _ hc e, hc, r⟩
  have hg1 : q.1 ∈ blanksL := hgq.1
  have hus : us.size ≤ sizeLine := by
    have h1 := hr.length; have h2 := hsm.1
    rw [Array.length_toList] at h1
    rw [List.length_append] at h2; rw [sizeLine_eq]; omega
  have hvq : vs.size = qs.length := by have h1 := hp.length; rwa [Array.length_toList] at h1
  have hvs : vs.size + us.size ≤ 100 := by
    have h1 := hr.length; have h2 := hsm.1
    rw [Array.length_toList] at h1
    rw [List.length_append] at h2; omega
  have hsl := sizeLine_eq
  have hq2 : q.2.length ≤ 4 := good_len hgq
  iterate 33 walk1
  refine wpAny_mono (Q := fun (fl : Flow) s₂ => fl = .next ∧ DeedMid w g' L' x dx y to pc (deedP q i qs rs).2.1 (deedP q i qs rs).2.2.1 (deedP q i qs rs).2.2.2 (deedP q i qs rs).1 s.os s₂) ?first ?rest fun _ _ e => e
  case rest =>
    rintro fl s₂ ⟨rfl, gA, gvs, vs', us', gn, n', ny', k', t', ps', pt', m', F₂, m1, m2, m3, m4, N₂, hps', hpt', hp', hr', hv', hgA, hos, hbr⟩
    have F₂ := frOver (frOver (frOver (frOver F₂ m1) (x := Str.ofString "told") (v := .ref to) (m2)) (x := Str.ofString "piece") (v := .ref pc) m3) (x := Str.ofString "gave") (v := .ref gA) m4
    obtain ⟨h₂, gn₂, dr₂, tk₂, os₂⟩ := s₂
    have hRi := deedP_i (q := q) (qs := qs) (rs := rs) hi
    have hRs := deedP_small (q := q) (i := i) hsm
    unfold recD at hQ
    generalize deedP q i qs rs = R at *
    obtain ⟨gave, i', qs', rs'⟩ := R
    dsimp only at *
    simp only [List.mem_cons, List.not_mem_nil, or_false, forall_eq_or_imp, forall_eq] at hgA
    have hsq : Small qs' := ⟨by have := hRs.1; rw [List.length_append] at this; omega, fun p hp => hRs.2 p (List.mem_append_left _ hp)⟩
    have hL2 := hsq.txt
    repeat' walk1
    refine len_spec (k := k') (i := i') (t := t') (dx := dx) (vs := vs') (n := n') (qs := qs') (ps := ps') B' F₂ X' (newsSub N₂ (by kqd_sub)) T' rfl (rm 41 hd rfl) (rm 404 hu rfl) hps' hp' hsq hbr ?_
    intro s₃ t₃ ps₃ P₃ hP₃ hps₃
    obtain ⟨h₃, gn₃, dr₃, tk₃, os₃⟩ := s₃
    have F₃ := frPost F₂ N₂ P₃.ext (by walk_at "mine.fa")
    have N₃ := newsUpd N₂ P₃.ext (by k_upd) hP₃
    have up3 : ∀ {vs₀ qs₀}, PcsAt h₂ vs₀ qs₀ → PcsAt h₃ vs₀ qs₀ := fun z => z.ext (noTup1 (y := 56) (o := tabObj ps') (News.get N₂ (by k_mem)) (by walk_at "mine.fa")) P₃.ext
    clear F₂
    dsimp only at F₃ N₃
    refine ⟨⟨by omega, by omega⟩, ?_⟩
    repeat' walk1
    refine count_spec (k := k') (i := i') (t := t') (dx := dx) (vs := vs') (n := n') B' F₃ X' (newsSub N₃ (by kqd_sub)) T' rfl (rm 41 hd rfl) (rm 403 hu rfl) hxd P₃.bare ?_
    intro s₄ t₄ P₄
    obtain ⟨h₄, gn₄, dr₄, tk₄, os₄⟩ := s₄
    have F₄ := frPost F₃ N₃ P₄.ext (by walk_at "mine.fa")
    have N₄ := newsPost N₃ P₄.ext (fun p hp => .inl ⟨hp, by walk_at "mine.fa"⟩)
    have up4 : ∀ {vs₀ qs₀}, PcsAt h₂ vs₀ qs₀ → PcsAt h₄ vs₀ qs₀ := fun z => (up3 z).ext (W := []) (fun _ hb => nomatch hb) P₄.ext
    have kt4 := intoFr N (by walk_at "mine.fa") hg' F₄
    clear F₃ N₃
    dsimp only at F₄ N₄
    repeat' walk1
    have hp4 := up4 hp'
    refine only_spec (k := k') (i := i') (t := t') (dx := dx) (vs := vs') (n := n') (qs := qs') (ps := ps₃) (pt := pt') B' F₄ X' (newsSub N₄ (by kqd_sub)) T' rfl (rm 51 hd rfl) (rm 503 hu rfl) hps₃ hpt' hp4 hsq hxd hdx hRi P₄.bare ?_
    intro s₅ ps₅ pt₅ P₅ hP₅ hps₅ hP₅' hpt₅
    obtain ⟨h₅, gn₅, dr₅, tk₅, os₅⟩ := s₅
    have F₅ := frPost F₄ N₄ P₅.ext (by walk_at "mine.fa")
    have N₅ := newsUpd2 N₄ P₅.ext (o' := tabObj ps₅) (q' := tabObj pt₅) (by k_upd) (by k_upd) hP₅ hP₅' (by decide)
    have up5 : ∀ {vs₀ qs₀}, PcsAt h₂ vs₀ qs₀ → PcsAt h₅ vs₀ qs₀ := fun z => (up4 z).ext (W := [56, 63]) (fun b hb o e => by
      simp only [List.mem_cons, List.not_mem_nil, or_false] at hb
      rcases hb with rfl | rfl
      · rw [News.get (o := tabObj ps₃) N₄ (by k_mem)] at e; cases e; simp
      · rw [News.get (o := tabObj pt') N₄ (by k_mem)] at e; cases e; simp) P₅.ext
    clear F₄
    dsimp only at F₅ N₅
    repeat' walk1
    have hp5 := up5 hp'
    refine kso_call (rm 5 hu rfl) (X'.keeps F₅.keep) (ox := accObj dx vs' n') (od := some (accDict w k' i' t')) (by k_inst) (by k_is) (by k_is) ?_
    refine str_spec (k := k') (i := i') (t := t') (dx := dx) (vs := vs') (n := n') (qs := qs') (ps := pt₅) B' F₅ X' (newsSub N₅ (by kqd_sub)) T' rfl (rm 41 hd rfl) (rm 405 hu rfl) hpt₅ hp5 hsq P₅.bare ?_
    intro s₆ t₆ pt₆ P₆ hP₆ hpt₆
    obtain ⟨h₆, gn₆, dr₆, tk₆, os₆⟩ := s₆
    have F₆ := frPost F₅ N₅ P₆.ext (by walk_at "mine.fa")
    have N₆ := newsUpd N₅ P₆.ext (o' := tabObj pt₆) (by k_upd) hP₆
    have up6 : ∀ {vs₀ qs₀}, PcsAt h₂ vs₀ qs₀ → PcsAt h₆ vs₀ qs₀ := fun z => (up5 z).ext (noTup1 (y := 63) (o := tabObj pt₅) (News.get N₅ (by k_mem)) (by walk_at "mine.fa")) P₆.ext
    clear F₅
    dsimp only at F₆ N₆
    show wpAny _ _ _ _ _ _
    repeat' walk1
    rename Fr g' L' _ _ => F₇; rename News g' L' _ _ => N₇
    rename_i D1 h₆' kA l1 D2 h₇ kB l2
    have hgA7 : h₇.get? gA = some (listOf gvs gn) := News.get N₇ (by k_mem)
    have hD1 := (N₇ (D1, _) (by k_mem)).1
    have hD2 := (N₇ (D2, _) (by k_mem)).1
    have hx7 : h₇.get? x = some (accObj dx vs' n') := News.get N₇ (by k_mem)
    have hdx7 : h₇.get? dx = some (accDict w k' i' t') := News.get N₇ (by k_mem)
    have hy7 : h₇.get? y = some (listOf us' ny') := News.get N₇ (by k_mem)
    have h567 : h₇.get? 56 = some (tabObj ps₅) := News.get N₇ (by k_mem)
    have h637 : h₇.get? 63 = some (tabObj pt₆) := News.get N₇ (by k_mem)
    have up : ∀ {vs₀ qs₀}, PcsAt h₂ vs₀ qs₀ → PcsAt h₇ vs₀ qs₀ := fun z => (up6 z).mono fun b o _ e => kB b o (kA b o e)
    have kt7 : ∀ b o, o.cls = .type "tuple" → s.heap.get? b = some o → h₇.get? b = some o := intoFr N (by walk_at "mine.fa") hg' F₇
    obtain ⟨to', l, e0, ht, hl⟩ := reads_tuple_items hto
    cases e0
    have ht7 : IsTup h₇ to l.toArray := let ⟨o, e, hc, r⟩ := ht; ⟨o, kt7 _ _ hc e, hc, r⟩
    have hl7 : ReadsAll h₇ l tds tas := readsMonoAll kt7 (fun a ha o e => F₇.keep _ _ (hg' a o (by have := (hta a ha).1; simp only [List.map_cons, List.map_nil, List.mem_cons, List.not_mem_nil, or_false, not_or] at this ⊢; exact ⟨this.1, this.2.1, this.2.2.1, this.2.2.2.1, this.2.2.2.2⟩) e)) hl
    have hnote := note_reads (q := q) (qs := qs') (i := i') (c := vs'.size) (gave := gave) (tupG F₇ hpg) hgA7 (up hv') (by have h1 := hp'.length; rwa [Array.length_toList] at h1) hD1
    have hpL := hL'
    have hlen := ReadsAll.len hl
    dsimp only
    refine add_tup (vs := l) (ws := [.ref D1]) ht7 ⟨_, hD2, rfl, 0, rfl⟩ (by walk_at "mine.fa") (fun r h₈ k₈ z₈ hr₈ => ?_) (by rw [sizeLine_eq, hlen]; simp; omega)
    have F₈ : Fr g' L' h₈ _ := ⟨F₇.ns.keeps k₈, fun b o e => k₈ b o (F₇.keep b o e), F₇.above⟩
    have N₈ := newsKeep N₇ k₈
    obtain ⟨or, hr1, hr2, nr, hr3⟩ := hr₈
    refine hQ _ r (tas ++ [gA]) ⟨extOf N hg' F₈ N₈ (by walk_at "mine.fa"), P₆.os.trans (P₅.os.trans (P₄.os.trans (P₃.os.trans hos))), P₆.bare, Nat.le_trans hL' (Nat.le_of_lt F₈.ns.lt)⟩
      ⟨vs', us', n', ny', k', t', ps₅, pt₆, k₈ _ _ hx7, k₈ _ _ hdx7, k₈ _ _ hy7, k₈ _ _ h567, k₈ _ _ h637, hps₅, hpt₆, (up hp').mono fun b o _ e => k₈ b o e, (up hr').mono fun b o _ e => k₈ b o e⟩ ?_ ?_
    · exact .tuple hr1 hr2 hr3 (ReadsAll.keeps k₈ (ReadsAll.snoc hl7 hnote))
    · intro a ha
      rcases List.mem_append.mp ha with ha | ha
      · obtain ⟨h1, gvs1, gn1, e1⟩ := hta a ha
        refine ⟨h1, gvs1, gn1, k₈ _ _ (F₇.keep _ _ (hg' a _ ?_ e1))⟩
        simp only [List.map_cons, List.map_nil, List.mem_cons, List.not_mem_nil, or_false, not_or] at h1 ⊢; exact ⟨h1.1, h1.2.1, h1.2.2.1, h1.2.2.2.1, h1.2.2.2.2⟩
      · rw [List.mem_singleton.mp ha]
        refine ⟨?_, gvs, gn, k₈ _ _ hgA7⟩
        simp only [List.mem_cons, List.not_mem_nil, or_false, not_or]; exact ⟨hgA.1, hgA.2.1, hgA.2.2.1, hgA.2.2.2.1, hgA.2.2.2.2⟩
  case first =>
    show wpAny _ _ _ _ _ _
    k_fold
    iterate 12 (first | (with_reducible show wpAny _ _ (isTrue (PySem.Expr.BoolOp _ _ _) _ _) _ _ _) | walk1)
    refine mono_test (b := (q.2 == Str.ofString "p" || q.2 == Str.ofString "pp")) ?tst fun tB => ?_
    case tst =>
      repeat' walk1
      all_goals first
        | (rename (q.snd == Str.ofString "p") = true => e1; exact ⟨_, by rw [e1, Bool.true_or], rfl⟩)
        | (rename (q.snd == Str.ofString "pp") = true => e2; exact ⟨_, by rw [e2, Bool.or_true], rfl⟩)
        | (rename (q.snd == Str.ofString "pp") = false => e2; rename (q.snd == Str.ofString "p") = false => e1; exact ⟨_, by rw [e1, e2]; rfl, rfl⟩)
    (try dsimp only)
    repeat' walk1
    -- p, pp
    · rename (q.snd == Str.ofString "p" || q.snd == Str.ofString "pp") = true => e1
      rename_i gA _ _ _ _ _
      refine wpAny_For ?_ (by intro _; rfl)
      repeat' walk1
      rename Fr g' L' _ _ => F₁; rename News g' L' _ _ => N₁; rename_i D _ lD₀
      have lD := newsLe N₁
      have hU := ((hr.mono (intoFr N (by walk_at "mine.fa") hg' F₁)).take q.2.length)
      rw [← take_cut us.toList q.2.length us.size (by walk_at "mine.fa")] at hU
      have hDm := N₁ (D, listOf (us.toList.take (cut (q.2.length : Nat) us.size)).toArray 0) (by k_mem)
      refine wpAny_pyIter_list (items := (us.toList.take (cut (q.2.length : Nat) us.size)).toArray) ⟨_, hDm.1, rfl, _, rfl⟩ ?_
      have N₀ : News g' L' _ ((x, accObj dx vs n) :: [(dx, accDict w k i t), (y, listOf us ny), (56, tabObj ps), (63, tabObj pt), (gA, listOf #[] 0)]) := newsSub N₁ (by kqd_sub)
      refine loop_push (x := x) (dx := dx) (us := (us.toList.take (cut (q.2.length : Nat) us.size)).toArray) (vs := vs) (n := n) (qs := qs) (rs := rs.take q.2.length) (o0 := none) (o1 := none) (l := D)
        (rest := [(dx, accDict w k i t), (y, listOf us ny), (56, tabObj ps), (63, tabObj pt), (gA, listOf #[] 0)]) rfl rfl rfl rfl ⟨_, Heap.get?_push_size _ rfl, rfl, rfl⟩ (Nat.ne_of_gt F₁.ns.lt) (next_is_new F₁) (Nat.ne_of_lt (Heap.lt_size (N₀ _ (.head _)).1))
        (fun p hp => Nat.ne_of_lt (Heap.lt_size (N₀ p (.tail _ hp)).1)) (by simp only [List.mem_cons, List.not_mem_nil, or_false, forall_eq_or_imp, forall_eq]; refine ⟨?_, ?_, ?_, ?_, ?_⟩ <;> (refine neN ?_; omega)) ⟨_, _, Heap.get?_push_of_some _ hDm.1, rfl⟩ (neN (by omega)) (Nat.ne_of_lt (Heap.lt_size hDm.1)) hDm.2.1
        (twoFr (F₁.push _) rfl rfl) (News.pushKeep N₀ _) (hp.mono (intoFr N (by walk_at "mine.fa") hg' (F₁.push _))) (hU.mono fun b o _ e => Heap.get?_push_of_some _ e) hb ?body ?R
      case body =>
        intro j q' s₁ vs₁ n₁ tf' tp' hq' F₃ N₃ hs₁ hb₁
        obtain ⟨h₃, gn₃, dr₃, tk₃, os₃⟩ := s₁
        have hU₀ : j < us.size := by
          have h1 : j < (rs.take q.2.length).length := (List.getElem?_eq_some_iff.mp hq').1
          have h2 := hr.length
          rw [Array.length_toList] at h2
          rw [List.length_take] at h1
          omega
        clear F₁ N₁ N₀ hDm hU
        simp only [two] at F₃
        dsimp only at F₃ N₃ hb₁
        change Fr g' L' h₃ _ at F₃; change News g' L' h₃ _ at N₃
        repeat' walk1
        refine push_spec (vs := vs₁) (n := n₁) (k := k) (t := t) (i := i) (dx := dx) B' F₃ X' (newsSub N₃ (by kqd_sub)) T' rfl (rm 41 hd rfl) (rm 403 hu rfl) (by have := hU₀; omega) hxd hb₁ ?_
        intro s₄ D₄ n₄ P₄ hx₄ hDn hD₄
        repeat' walk1
        all_goals first | exact ⟨P₄.ext, P₄.os, P₄.bare, P₄.size⟩ | exact ⟨D₄, n₄, hx₄, hD₄⟩
      case R =>
        intro s₃ vs₃ n₃ o0 o1 F₃ N₃ hP₃ hos₃ hb₃ hk₃
        obtain ⟨h₃, gn₃, dr₃, tk₃, os₃⟩ := s₃
        clear F₁ N₁ N₀ hDm hU hk₃
        simp only [two] at F₃
        dsimp only at F₃ N₃ hb₃ hos₃ hP₃ ⊢
        change Fr g' L' h₃ _ at F₃; change News g' L' h₃ _ at N₃
        have hy₃ := (N₃ (y, listOf us ny) (by k_mem)).1
        repeat' walk1
        rename Fr g' L' _ _ => F₁; rename News g' L' _ _ => N₁; rename Heap.ExtBut _ _ _ => kk
        have kt := intoFr N (by walk_at "mine.fa") hg' F₁
        have hdr := (hr.mono kt).drop q.2.length
        rw [← drop_cut us.toList q.2.length us.size (by walk_at "mine.fa")] at hdr
        have hP₄ := hP₃.ext (W := [y]) (noTup1 hy₃ (by walk_at "mine.fa")) (fun b o hb' e => kk b o (by simpa using hb') e)
        rw [deedP_p (q := q) (Bool.or_eq_true_iff.1 e1)]
        exact mid_mk (gvs := #[]) F₁ rfl rfl rfl rfl N₁ (by kqd_sub) hps hpt hP₄ hdr .nil (by simp only [List.mem_cons, List.not_mem_nil, or_false, forall_eq_or_imp, forall_eq]; omega) hos₃ hb₃
    -- d
    · rename (q.snd == Str.ofString "d") = true => e3
      rename (q.snd == Str.ofString "p" || q.snd == Str.ofString "pp") = false => e12
      have e1 := (Bool.or_eq_false_iff.1 e12).1
      have e2 := (Bool.or_eq_false_iff.1 e12).2
      rename Fr g' L' _ _ => F₁; rename News g' L' _ _ => N₁
      obtain ⟨vs₀, v, rfl⟩ := pushOf vs (by omega)
      rw [Array.size_push] at hvs
      refine pop_spec (vs := vs₀) (v := v) (n := n) (k := k) (t := t) (i := i) (dx := dx) B' F₁ X' (newsSub N₁ (by kqd_sub)) T' rfl (rm 51 hd rfl) (rm 503 hu rfl) (by omega) hxd hb ?_
      intro s₂ n₂ P₂ hx₂
      obtain ⟨h₂, gn₂, dr₂, tk₂, os₂⟩ := s₂
      have F₂ := frPost F₁ N₁ P₂.ext (by walk_at "mine.fa")
      have N₂ := newsUpd N₁ P₂.ext (o' := accObj dx vs₀ n₂) (by k_upd) hx₂
      clear F₁ N₁
      dsimp only at F₂ N₂
      repeat' walk1
      rename Fr g' L' _ _ => F₁; rename News g' L' _ _ => N₁
      have kt := intoFr N (by walk_at "mine.fa") hg' F₁
      have hl := (hp.mono kt).last
      rw [deedP_d e1 e2 e3]
      exact mid_mk (gvs := #[v]) F₁ rfl rfl rfl rfl N₁ (by kqd_sub) hps hpt hl.1 (hr.mono kt) hl.2 (by simp only [List.mem_cons, List.not_mem_nil, or_false, forall_eq_or_imp, forall_eq]; omega) P₂.os P₂.bare
    -- c
    · rename (q.snd == Str.ofString "c") = true => e4
      rename (q.snd == Str.ofString "d") = false => e3
      rename (q.snd == Str.ofString "p" || q.snd == Str.ofString "pp") = false => e12
      have e1 := (Bool.or_eq_false_iff.1 e12).1
      have e2 := (Bool.or_eq_false_iff.1 e12).2
      rename Fr g' L' _ _ => F₁; rename News g' L' _ _ => N₁
      refine pop_from_spec (vs := vs) (n := n) (k := k) (t := t) (i := i) (dx := dx) B' F₁ X' (newsSub N₁ (by kqd_sub)) T' rfl (rm 41 hd rfl) (rm 403 hu rfl) (by omega) hxd hb ?_
      intro s₂ D n₂ P₂ hx₂ hDn hD₂
      obtain ⟨h₂, gn₂, dr₂, tk₂, os₂⟩ := s₂
      have F₂ := frPost F₁ N₁ P₂.ext (by walk_at "mine.fa")
      have N₂ := newsCons F₁ (newsUpd N₁ P₂.ext (by k_upd) hx₂) hDn hD₂
      have l₂ := newNe N₁ hDn
      have l₃ : ∀ b ∈ [x, dx, y, 56, 63], @Ne Nat D b := by
        simp only [List.mem_cons, List.not_mem_nil, or_false, forall_eq_or_imp, forall_eq] at l₂ ⊢
        omega
      clear F₁ N₁
      dsimp only at F₂ N₂
      repeat' walk1
      rename Fr g' L' _ _ => F₁; rename News g' L' _ _ => N₁
      have kt := intoFr N (by walk_at "mine.fa") hg' F₁
      rw [deedP_c e1 e2 e3 e4]
      rw [← hvq]
      exact mid_mk F₁ rfl rfl rfl rfl N₁ (by kqd_sub) hps hpt ((hp.mono kt).take _) (hr.mono kt) ((hp.mono kt).drop _) l₃ P₂.os P₂.bare
    -- r0
    · rename (q.snd == Str.ofString "r") = true => e5
      rename (q.snd == Str.ofString "c") = false => e4
      rename (q.snd == Str.ofString "d") = false => e3
      rename (q.snd == Str.ofString "p" || q.snd == Str.ofString "pp") = false => e12
      have e1 := (Bool.or_eq_false_iff.1 e12).1
      have e2 := (Bool.or_eq_false_iff.1 e12).2
      rename Fr g' L' _ _ => F₁; rename News g' L' _ _ => N₁
      rename ((bi q.fst : Nat) : Int) = 0 => e0
      have e0 : bi q.fst = 0 := by omega
      refine reset_spec (ti := 0) (j := 0) (vs := vs) (n := n) (k := k) (t := t) (i := i) (dx := dx) B' F₁ X' (newsSub N₁ (by kqd_sub)) T' rfl (rm 41 hd rfl) (rm 403 hu rfl) (by omega) hxd hb ?_
      intro s₂ n₂ t₂ P₂ hx₂ hd₂
      obtain ⟨h₂, gn₂, dr₂, tk₂, os₂⟩ := s₂
      have F₂ := frPost F₁ N₁ P₂.ext (by walk_at "mine.fa")
      have N₂ := newsUpd2 N₁ P₂.ext (o' := accObj dx #[] n₂) (q' := accDict w k 0 t₂) (by k_upd) (by k_upd) hx₂ hd₂ (by omega)
      clear F₁ N₁
      dsimp only at F₂ N₂
      repeat' walk1
      rename Fr g' L' _ _ => F₁; rename News g' L' _ _ => N₁
      have kt := intoFr N (by walk_at "mine.fa") hg' F₁
      rw [deedP_r e1 e2 e3 e4 e5]
      rw [e0, List.take_zero, List.drop_zero]
      exact mid_mk (gvs := #[]) F₁ rfl rfl rfl rfl N₁ (by kqd_sub) hps hpt .nil (hr.mono kt) .nil (by simp only [List.mem_cons, List.not_mem_nil, or_false, forall_eq_or_imp, forall_eq]; omega) P₂.os P₂.bare
    -- r
    · rename (q.snd == Str.ofString "r") = true => e5
      rename (q.snd == Str.ofString "c") = false => e4
      rename (q.snd == Str.ofString "d") = false => e3
      rename (q.snd == Str.ofString "p" || q.snd == Str.ofString "pp") = false => e12
      have e1 := (Bool.or_eq_false_iff.1 e12).1
      have e2 := (Bool.or_eq_false_iff.1 e12).2
      rename Fr g' L' _ _ => F₁; rename News g' L' _ _ => N₁
      refine reset1_spec (ti := 0) (j := 0) (us := (us.toList.take (cut (bi q.1 : Nat) us.size)).toArray) (ny := 0) (vs := vs) (n := n) (k := k) (t := t) (i := i) (dx := dx) B' F₁ X' (newsSub N₁ (by kqd_sub)) T' rfl (rm 41 hd rfl) (rm 403 hu rfl) (by simp; omega) hxd (by omega) hb ?_
      intro s₂ n₂ t₂ P₂ hx₂ hd₂
      obtain ⟨h₂, gn₂, dr₂, tk₂, os₂⟩ := s₂
      have F₂ := frPost F₁ N₁ P₂.ext (by walk_at "mine.fa")
      have N₂ := newsUpd2 N₁ P₂.ext (q' := accDict w k 0 t₂) (by k_upd) (by k_upd) hx₂ hd₂ (by omega)
      clear F₁ N₁
      dsimp only at F₂ N₂
      repeat' walk1
      rename Fr g' L' _ _ => F₁; rename News g' L' _ _ => N₁
      have kt := intoFr N (by walk_at "mine.fa") hg' F₁
      have ht := (hr.mono kt).take (bi q.1)
      have hdr := (hr.mono kt).drop (bi q.1)
      rw [← take_cut us.toList (bi q.1) us.size (by walk_at "mine.fa")] at ht
      rw [← drop_cut us.toList (bi q.1) us.size (by walk_at "mine.fa")] at hdr
      rw [deedP_r e1 e2 e3 e4 e5]
      exact mid_mk (gvs := #[]) F₁ rfl rfl rfl rfl N₁ (by kqd_sub) hps hpt ht hdr .nil (by simp only [List.mem_cons, List.not_mem_nil, or_false, forall_eq_or_imp, forall_eq]; omega) P₂.os P₂.bare
    -- none
    · rename (q.snd == Str.ofString "r") = false => e5
      rename (q.snd == Str.ofString "c") = false => e4
      rename (q.snd == Str.ofString "d") = false => e3
      rename (q.snd == Str.ofString "p" || q.snd == Str.ofString "pp") = false => e12
      have e1 := (Bool.or_eq_false_iff.1 e12).1
      have e2 := (Bool.or_eq_false_iff.1 e12).2
      rename Fr g' L' _ _ => F₁; rename News g' L' _ _ => N₁
      have kt := intoFr N (by walk_at "mine.fa") hg' F₁
      rw [deedP_n e1 e2 e3 e4 e5]
      refine mid_mk (gvs := #[]) F₁ rfl rfl rfl rfl N₁ (by kqd_sub) hps hpt (hp.mono kt) (hr.mono kt) .nil (by simp only [List.mem_cons, List.not_mem_nil, or_false, forall_eq_or_imp, forall_eq]; omega) rfl hb
end
theorem words4 : True := by
  k_with_none
  k_with "mine.mem" => (repeat (first | exact List.Mem.head _ | refine List.Mem.tail _ ?_))
  k_with "mine.nm" => ((repeat' (first | exact nm_nil | refine nm_cons ?_ ?_)) <;> (first | assumption | ((try dsimp only); first | decide | (refine neN ?_; omega))))
  k_with "mine.fa1" => (first | exact ncR | exact ncN | exact ncL | exact ncD | (walk_at "mine.mem"; done) | (refine fa_in ?_; walk_at "mine.mem"; done) | (refine fa_out ?_; walk_at "mine.mem"; done) | (refine Or.inl ⟨?_, ?_⟩; (focus (walk_at "mine.mem"; done)); (walk_at "mine.nm"; done)) | (refine Or.inr ⟨by assumption, ?_⟩; walk_at "mine.mem"; done) | (refine neN ?_; omega))
  k_with "mine.fa" => (first | exact fa_all | ((repeat' (first | exact fa_nil | refine fa_cons ?_ ?_)); (all_goals walk_at "mine.fa1"); done) | simp)
  k_with "getMethod ref" => (k_here; k_dflt (refine' getMethod_acc (by k_in) (by k_inst) (by k_is) (by k_is) (by k_is) (by k_is) (by decide) (by k_get) ?_; k_whole))
  k_with "call builtin:list.append" => (k_here; (with_reducible show wpAny _ _ (call (Value.builtin _) [Value.ref _, _]) _ _ _); k_dflt (refine' acc_append_K (by k_asm) (by k_asm) (by k_asm) (by k_upd) (by k_is) (by assumption) ?_; k_whole); intro _ _ _; (try k_sweep))
  k_with "getAttr ref" => (k_here; k_dflt (refine' get_acc (by k_in) (by exact News.get (by k_asm) (by k_mem)) (by exact News.get (by k_asm) (by k_mem)) (by k_is) (by k_is) (by k_is) (by k_is) (by k_is) (by k_get) (by k_handed) ?_; k_whole))
  k_with "setAttr ref" => (k_here; k_dflt (refine' set_attr_acc (by k_asm) (by k_asm) (by k_asm) (by k_inst) (by exact rfl) (by k_is) (by k_is) (by exact rfl) (by k_is) (by k_is) (by k_get) (by k_put) (by k_upd) (by exact Nat.le_of_ble_eq_true rfl) ?_; k_whole; intro _ _ _; (try k_sweep)))
  k_with "getMethod ref" => (k_here; k_dflt (refine' sup_meth bt_pop (by k_asm) (by k_asm) (by k_asm) (by k_mem) (by k_inst) (by k_is) (by ks_is) (by k_is) (by decide) ?_; intro _ _ _ _ l1; (try k_lt l1); (try (revert l1; intro _))))
  k_with "getMethod ref" => (k_here; k_dflt (refine' sup_meth bt_init (by k_asm) (by k_asm) (by k_asm) (by k_mem) (by k_inst) (by k_is) (by ks_is) (by k_is) (by decide) ?_; intro _ _ _ _ l1; (try k_lt l1); (try (revert l1; intro _))))
  k_with "getMethod ref" => (k_here; k_dflt (refine' sup_meth bt_len (by k_asm) (by k_asm) (by k_asm) (by k_mem) (by k_inst) (by k_is) (by ks_is) (by k_is) (by decide) ?_; intro _ _ _ _ l1; (try k_lt l1); (try (revert l1; intro _))))
  trivial
section
open PySem PySem.W PyProof.Rows PySem.Calls
section
variable {prog : Program} {w : World} {A₀ A : Around} {s : Shared} {base h₀ : Heap} {outer : List Env} {L : Addr} {m : Str → Option Value} {env : Env} {news : List (Addr × Obj)} {K : Frag}
  {Q E : Value → Shared → Prop} {p : Program} {loose : List Str} {mean : ExcName → Option Value} {mg mb : Str → Option Value} {name qual : Str} {params : Arguments} {body : PySem.Expr} {scope : Scope} {pm ctv : Value} {cl : List (Str × Addr)} {f c' : Addr} {args : List Value} {kw : List (Str × Value)} {binds : List (Str × Value)}
/-- a call of a lambda that lies beside the ledger -/
theorem enterL (B : Below A₀ base outer h₀) (F : Fr h₀ L s.heap m) (X₀ : K.In h₀) (N : News h₀ L s.heap news) (T : Top p loose mean mg mb h₀) (hA : A.frames = some (env :: outer)) (hf : env.frame = some L) (hke : env.scope.kind = .function)
    (ho : s.heap.get? f = some (kla_obj name qual params body scope cl pm c' ctv)) (hcd : s.heap.CodeRec (.ref c') qual) (hroom : A.depth < recursionLimit)
    (hbind : bindArgs (kla_fn name qual params body scope cl pm (.ref c') ctv) ⟨args, kw⟩ = pure binds) (hloc : ∀ y ∈ binds, scope.names.lookup y.1 = some .local)
    (h : ∀ g L' h₁, (∀ b o, b ∉ news.map (·.1) → s.heap.get? b = some o → g.get? b = some o) → s.heap.objs.size ≤ L' → (∀ p ∈ news, p.1 < L') → Fr g L' h₁ (fun y => binds.reverse.lookup y) → News g L' h₁ news → Below A base (env :: outer) g → K.In g → Top p loose mean mg mb g →
      wpAny (model prog w) (A.deeper (envX qual scope L' f (.ref c') cl)) (eval body (envX qual scope L' f (.ref c') cl)) (fun v s' => Q v s')
        (fun e s' => wpAny (model prog w) (A.deeper (envX qual scope L' f (.ref c') cl)) (leaving (envX qual scope L' f (.ref c') cl) e) (fun _ s'' => E e s'') (fun e' s'' => E e' s'') s')
        { s with heap := h₁, toks := s.toks + binds.length })
    (hco : scope.isCoroutine = false) (hgen : scope.isGenerator = false) (hk : scope.kind = .function)
    (hcell : ∀ x ∈ scope.names, x.2 ≠ .cell) : wpAny (model prog w) A (call (.ref f) args kw) Q E s := by
  refine wpAny_call ?_
  obtain ⟨FG, BG, st, lv⟩ := groundX (R := fun _ _ => True) B F N hA hf hke
  refine kla_callFunE hroom ho rfl hco hgen rfl hcd ?_
  rw [hbind]
  refine wpAny_pure (wpAny_newFunctionEnv hcell hloc (fun h₁ hns hsb => ⟨((T.nolimit).keeps F.keep).fresh _ hsb, ?_⟩) hk)
  show codeAny _ _ (.expr body (envX qual scope s.heap.objs.size f (.ref c') cl)) _ _
  have hk₁ : ∀ b o, s.heap.get? b = some o → h₁.get? b = some o := fun b o e => hsb.extBut b o (Nat.ne_of_lt (Heap.lt_size e)) (Heap.get?_push_of_some _ e)
  exact kla_codeExpr (wpAny_mono (h _ s.heap.objs.size h₁ (fun b o hb e => hideAll_get _ e hb) (Nat.le_refl _) (fun p hp => Heap.lt_size (N p hp).1) ⟨hns, fun b o e => hk₁ b o (of_hideAll _ e), Nat.le_of_eq (hideAll_size _ _)⟩
    (fun p hp => ⟨hk₁ _ _ (N p hp).1, Nat.ne_of_lt (Heap.lt_size (N p hp).1), hideAll_none _ (List.mem_map_of_mem hp)⟩) BG (X₀.keeps st) (T.keeps st)) (fun v s' hl => hl) fun _ _ y => y)
theorem nameX_G {M : Model} {g : Heap} {L a c : Addr} {m : Str → Option Value} {cn : Str} {cs : Scope} {ccd : Value} {cl : List (Str × Addr)} {x : Str} {pos : Pos} {v : Value} {Q : Value → Shared → Prop} {o : Obj} (F : Fr g L s.heap m) (hc : cl.lookup x = some c) (hv : g.get? c = some o) (hd : o.data = .cell (some v)) (h : Q v s)
    (hk : cs.kind = .function := by rfl) (hx : (envX cn cs L a ccd cl).kindOf x = some .free := by rfl) (hb : (x == ("__debug__" : Str)) = false := by decide) (hn : (x == ("__classdict__" : Str)) = false := by decide) :
    wpAny M A (eval (.Name x pos) (envX cn cs L a ccd cl)) Q E s := wpAny_Name (wpAny_loadName_free hk hx hc ⟨o, F.keep _ _ hv, hd⟩ h hn) hb
end
noncomputable abbrev lamScope : Scope := { kind := .function, names := [(Str.ofString "done", .local), (Str.ofString "piece", .local), (Str.ofString "row", .free), (Str.ofString "store", .free), (Str.ofString "_law_deed", .globalImplicit)], isGenerator := false, isCoroutine := false }
noncomputable abbrev lamParams (a1 a2 : Pos) : Arguments := { posonlyargs := [], args := [{ arg := Str.ofString "done", annotation := none, pos := a1 }, { arg := Str.ofString "piece", annotation := none, pos := a2 }], vararg := none, kwonlyargs := [], kw_defaults := [], kwarg := none, defaults := [] }
noncomputable abbrev lamBody (p1 p2 p3 p4 p5 p6 : Pos) : PySem.Expr := .Call (.Name (Str.ofString "_law_deed") p1) [.Name (Str.ofString "row") p2, .Name (Str.ofString "store") p3, .Name (Str.ofString "done") p4, .Name (Str.ofString "piece") p5] [] p6
set_option maxRecDepth 100000 in
set_option maxHeartbeats 8000000 in
theorem lam_spec {w : World} {dp un : Nat} {gd : Option (List Code)} {cn : Str} {cs : Scope} {a : Addr} {ccd : Value} {cl : List (Str × Addr)} {outer : List Env} {A₀ : Around} {base h₀ : Heap} {L : Addr} {m : Str → Option Value} {s : Shared}
   {loose : List Str} {mean : ExcName → Option Value} {mg mb : Str → Option Value} {p : Program} {Q E : Value → Shared → Prop} {x dx y to pc f c' rc sc : Addr} {orc osc : Obj} {vs us : Array Value} {n ny : Nat} {k t tf tp : Tok} {i : Int} {ps pt : Array Value} {qs rs : List Pc} {q : Pc} {tds : List PyData} {tas : List Addr} {a1 a2 p1 p2 p3 p4 p5 p6 : Pos} {nm qual : Str} {pm ctv : Value} {more : List (Addr × Obj)}
   (B : Below A₀ base outer h₀) (F : Fr h₀ L s.heap m) (X : (Mine.hd.heap_39 w.params).In h₀) (N : News h₀ L s.heap ([(x, accObj dx vs n), (dx, accDict w k i t), (y, listOf us ny), (56, tabObj ps), (63, tabObj pt)] ++ more)) (T : Top p loose mean mg mb h₀) (hk : cs.kind = .function) (hd : dp + 90 < recursionLimit) (hu : un + 900 < cLine)
   (ho : s.heap.get? f = some (kla_obj nm qual (lamParams a1 a2) (lamBody p1 p2 p3 p4 p5 p6) lamScope [(Str.ofString "store", sc), (Str.ofString "row", rc)] pm c' ctv)) (hcd : s.heap.CodeRec (.ref c') qual) (hrc : s.heap.get? rc = some orc) (hrd : orc.data = .cell (some (.ref x))) (hsc : s.heap.get? sc = some osc) (hsd : osc.data = .cell (some (.ref y)))
   (hrw : rc ∉ [x, dx, y, 56, 63] ∧ sc ∉ [x, dx, y, 56, 63])
   (hps : TriplesOk ps.toList) (hpt : TriplesOk pt.toList) (hp : PcsAt s.heap vs.toList qs) (hr : PcsAt s.heap us.toList rs) (hsm : Small (qs ++ rs)) (hne : 0 < qs.length) (hxd : @LT.lt Nat _ dx x) (hdx : @LT.lt Nat _ 143 dx) (hxy : @LT.lt Nat _ x y) (hi : 0 ≤ i ∧ i ≤ 10) (hb : AllBare s.gens)
   (hpc : s.heap.IsTuple pc #[.str q.1 tf, .str q.2 tp]) (hgq : Good q) (hto : Reads s.heap (.ref to) (.tuple tds) tas) (htl : tds.length ≤ 1000) (hta : ListsAt [x, dx, y, 56, 63] s.heap tas)
   (hQ : ∀ s' r as', Post [x, dx, y, 56, 63] s s' → HoldsSt w x dx y (deedP q i qs rs).2.1 (deedP q i qs rs).2.2.1 (deedP q i qs rs).2.2.2 s'.heap → Reads s'.heap (.ref r) (.tuple (tds ++ [recD q i qs rs])) as' → ListsAt [x, dx, y, 56, 63] s'.heap as' → Q (.ref r) s') :
   wpAny (model PySem.Challenge.rw_mq0119_01.row.prog w) (ktrTop dp un gd cn cs L a ccd cl outer) (call (.ref f) [.ref to, .ref pc]) Q E s := by
  have N0 : News h₀ L s.heap [(x, accObj dx vs n), (dx, accDict w k i t), (y, listOf us ny), (56, tabObj ps), (63, tabObj pt)] := newsSub N (fun p hp => List.mem_append_left _ hp)
  clear N
  revert X; k_fill; intro X
  k_dflt (refine' enterL (binds := [("done", .ref to), ("piece", .ref pc)]) B F X N0 T ?kA ?kF ?kK ho hcd ?k8 ?k9 ?kB ?_ ?c2 ?c3 ?c4 ?c5; (case kA => exact rfl); (case kF => exact rfl); (case kK => assumption); (case k8 => (simp only []; omega)); (case k9 => exact rfl); (case c5 => decide); (case kB => exact locs rfl); (case c2 => exact rfl); (case c3 => exact rfl); (case c4 => exact rfl); k_whole)
  intro g' L' h' hg' hL' hlt' F' N' B' X' T'
  k_lt hlt'
  (try dsimp only); (try k_fold)
  have hrcg : g'.get? rc = some orc := hg' _ _ (by simpa using hrw.1) hrc
  have hscg : g'.get? sc = some osc := hg' _ _ (by simpa using hrw.2) hsc
  iterate 4 walk1
  refine nameX_G F' rfl hrcg hrd ?_
  walk1
  refine nameX_G F' rfl hscg hsd ?_
  repeat' walk1
  have tk : ∀ b o, o.cls = .type "tuple" → s.heap.get? b = some o → h'.get? b = some o := intoFr N0 (by walk_at "mine.fa") hg' F'
  have hpc' : h'.IsTuple pc #[.str q.1 tf, .str q.2 tp] := let ⟨o, e, hc, r⟩ := hpc; ⟨o, tk _ _ hc e, hc, r⟩
  have hkeep : ∀ b o, b ∉ [x, dx, y, 56, 63] → s.heap.get? b = some o → h'.get? b = some o := fun b o hb e => F'.keep _ _ (hg' _ _ (by simpa using hb) e)
  refine deed_spec B' F' X' N' T' rfl (rm 71 hd rfl) (rm 703 hu rfl) hps hpt (hp.mono tk) (hr.mono tk) hsm hne hxd hdx hxy hi hb hpc' hgq (hta.read hto tk fun b o _ _ hb _ e => hkeep b o hb e) htl (hta.keep fun b o _ _ hb _ e => hkeep b o hb e) ?_
  intro s' r as' P' H' R' hgA
  exact hQ s' r as' ⟨fun b o hb e => P'.ext b o hb (hkeep b o hb e), P'.os, P'.bare, Nat.le_trans hL' (Nat.le_trans (Nat.le_of_lt F'.ns.lt) P'.size)⟩ H' R' hgA
end
section
open PySem PySem.W PyProof.Rows PySem.Calls PySem.Builtin PySem.Builtin.List
set_option maxRecDepth 100000
/-- the fold and the walk, as one plain function: told, the first size, the pieces, the store -/
noncomputable def runP : Nat → Nat → Int → List Pc → List Pc → List PyData → List PyData × Int × List Pc × List Pc
  | 0, _, i, qs, rs, ds => (ds, i, qs, rs)
  | f + 1, j, i, qs, rs, ds => match qs[j]? with
    | none => (ds, i, qs, rs)
    | some q => runP f (j + 1) (deedP q i qs rs).2.1 (deedP q i qs rs).2.2.1 (deedP q i qs rs).2.2.2 (ds ++ [recD q i qs rs])
theorem runP_end {f j : Nat} {i : Int} {qs rs : List Pc} {ds : List PyData} (h : qs[j]? = none) : runP f j i qs rs ds = (ds, i, qs, rs) := by
  cases f with
  | zero => rfl
  | succ f => unfold runP; rw [h]
theorem runP_step {f j : Nat} {i : Int} {qs rs : List Pc} {ds : List PyData} {q : Pc} (h : qs[j]? = some q) : runP (f + 1) j i qs rs ds = runP f (j + 1) (deedP q i qs rs).2.1 (deedP q i qs rs).2.2.1 (deedP q i qs rs).2.2.2 (ds ++ [recD q i qs rs]) := by
  rw [runP, h]

theorem ListsAt.read2 {W : List Addr} {h h' : Heap} {as : List Addr} {v : Value} {d : PyData} (x : ListsAt W h as) (r : Reads h v d as) (k1 : TupKeep h h') (k2 : ∀ b o vs n, b ∉ W → o = listOf vs n → h.get? b = some o → h'.get? b = some o) : Reads h' v d as :=
  readsMono2 k1 (fun a ha o e => by
    obtain ⟨h1, gvs, gn, e'⟩ := x a ha
    rw [e'] at e; cases e
    exact k2 _ _ _ _ h1 rfl e') r
theorem HoldsSt.mono {w : World} {x dx y : Addr} {i : Int} {qs rs : List Pc} {h h' : Heap} (H : HoldsSt w x dx y i qs rs h) (k1 : TupKeep h h') (k2 : ∀ b ∈ [x, dx, y, 56, 63], ∀ o, h.get? b = some o → h'.get? b = some o) : HoldsSt w x dx y i qs rs h' := by
  obtain ⟨vs, us, n, ny, k, t, ps, pt, h1, h2, h3, h4, h5, h6, h6', h7, h8⟩ := H
  exact ⟨vs, us, n, ny, k, t, ps, pt, k2 _ (by walk_at "mine.fa") _ h1, k2 _ (by walk_at "mine.fa") _ h2, k2 _ (by walk_at "mine.fa") _ h3, k2 _ (by walk_at "mine.fa") _ h4, k2 _ (by walk_at "mine.fa") _ h5, h6, h6', h7.mono2 fun b o vs n hc hd e => k1 b o vs n hc hd e, h8.mono2 fun b o vs n hc hd e => k1 b o vs n hc hd e⟩
/-- a heap that keeps all but the iterator keeps tuples -/
theorem tupIter {h h' : Heap} {I l : Addr} {i : Nat} (hI : h.IsListIter I l i) (k : ∀ b o, b ≠ I → h.get? b = some o → h'.get? b = some o) : TupKeep h h' := fun b o _ _ _ hd e => k b o (iterNe hI hd e) e
theorem tupNs {h h' : Heap} {L : Addr} {m : Str → Option Value} (hL : h.Ns L m) (k : ∀ b o, b ≠ L → h.get? b = some o → h'.get? b = some o) : TupKeep h h' := fun b o _ _ _ hd e => k b o (nsNe hL hd e) e
theorem TupKeep.trans {h h' h'' : Heap} (a : TupKeep h h') (b : TupKeep h' h'') : TupKeep h h'' := fun x o vs n hc hd e => b x o vs n hc hd (a x o vs n hc hd e)
end
section
open PySem PySem.W PyProof.Rows PySem.Calls PySem.Builtin PySem.Builtin.List
set_option maxRecDepth 100000
section
variable {prog : Program} {w : World} {A : Around} {s : Shared} {env : Env} {h₀ : Heap}
/-- the state at the head of reduce's loop -/
inductive RedInv (w : World) (h₀ : Heap) (L I x dx y : Addr) (m : Str → Option Value) (RR : List PyData × Int × List Pc × List Pc) (os : OsState) (g : Heap) (k' : Nat) (s' : Shared) : Prop
  | mk (j' : Nat) (i' : Int) (qs' rs' : List Pc) (ds' : List PyData) (as' : List Addr) (to' : Addr) (o' : Option Value) (hI : s'.heap.IsListIter I x j') (F : Fr h₀ L s'.heap (fun z => if z = Str.ofString "value" then some (.ref to') else if z = Str.ofString "element" then o' else m z))
    (H : HoldsSt w x dx y i' qs' rs' s'.heap) (R : Reads s'.heap (.ref to') (.tuple ds') as') (A : ListsAt [x, dx, y, 56, 63] s'.heap as') (sm : Small (qs' ++ rs')) (gd : ∀ q ∈ qs' ++ rs', Good q) (hi : 0 ≤ i' ∧ i' ≤ 10) (hl : ds'.length + (qs'.length + rs'.length - j') ≤ 1000)
    (hb : AllBare s'.gens) (hk : qs'.length + rs'.length < k' + j') (hr : runP k' j' i' qs' rs' ds' = RR) (ho : s'.os = os) (hE : Ext [x, dx, y, 56, 63, L, I] g s'.heap) : RedInv w h₀ L I x dx y m RR os g k' s'
/-- one turn of it -/
inductive RedStep (w : World) (h₀ : Heap) (L x dx y pc : Addr) (m : Str → Option Value) (q : Pc) (i : Int) (qs rs : List Pc) (ds : List PyData) (os : OsState) (g : Heap) (s₂ : Shared) : Prop
  | mk (to' : Addr) (as' : List Addr) (hE : Ext [x, dx, y, 56, 63, L] g s₂.heap) (F : Fr h₀ L s₂.heap (fun z => if z = Str.ofString "value" then some (.ref to') else if z = Str.ofString "element" then some (.ref pc) else m z))
    (H : HoldsSt w x dx y (deedP q i qs rs).2.1 (deedP q i qs rs).2.2.1 (deedP q i qs rs).2.2.2 s₂.heap) (R : Reads s₂.heap (.ref to') (.tuple (ds ++ [recD q i qs rs])) as') (A : ListsAt [x, dx, y, 56, 63] s₂.heap as') (ho : s₂.os = os) (hb : AllBare s₂.gens) : RedStep w h₀ L x dx y pc m q i qs rs ds os g s₂
/-- reduce's loop over the row that its steps change -/
theorem red_loop {R : Result → Shared → Prop} {pe : Pos} {body : List Stmt} {I x dx y to : Addr} {i : Int} {qs rs : List Pc} {ds : List PyData} {as : List Addr} {j k : Nat} {m : Str → Option Value} {o : Option Value}
    (hh : A.handled = none) (hxe : env.kindOf (Str.ofString "element") = some .local) (hp : (env.scope.kind == .class || (env.scope.kind == .module && env.locals != env.globals)) = false)
    (hI : s.heap.IsListIter I x j) (hIW : I ∉ [x, dx, y, 56, 63]) (hIL : I ≠ env.locals) (hIn : h₀.get? I = none) (hW : ∀ b ∈ [x, dx, y, 56, 63], b ≠ env.locals ∧ h₀.get? b = none)
    (F : Fr h₀ env.locals s.heap (fun z => if z = Str.ofString "value" then some (.ref to) else if z = Str.ofString "element" then o else m z)) (H : HoldsSt w x dx y i qs rs s.heap) (hto : Reads s.heap (.ref to) (.tuple ds) as) (has : ListsAt [x, dx, y, 56, 63] s.heap as)
    (hsm : Small (qs ++ rs)) (hgd : ∀ q ∈ qs ++ rs, Good q) (hi : 0 ≤ i ∧ i ≤ 10) (hlen : ds.length + (qs.length + rs.length - j) ≤ 1000) (hb : AllBare s.gens) (hk : qs.length + rs.length < k + j)
    (hbody : ∀ s₁ to pc q tf tp i qs rs ds as j, qs[j]? = some q → Fr h₀ env.locals s₁.heap (fun z => if z = Str.ofString "element" then some (.ref pc) else if z = Str.ofString "value" then some (.ref to) else m z) → s₁.heap.IsListIter I x (j + 1) → HoldsSt w x dx y i qs rs s₁.heap → s₁.heap.IsTuple pc #[.str q.1 tf, .str q.2 tp] → Reads s₁.heap (.ref to) (.tuple ds) as → ListsAt [x, dx, y, 56, 63] s₁.heap as →
      Small (qs ++ rs) → (∀ q ∈ qs ++ rs, Good q) → (0 ≤ i ∧ i ≤ 10) → ds.length ≤ 1000 → AllBare s₁.gens →
      wpAny (model prog w) A (execs body env) (fun fl s₂ => fl = .next ∧ RedStep w h₀ env.locals x dx y pc m q i qs rs ds s₁.os s₁.heap s₂) (notedBy (model prog w) A env fun e s' => R (.error e) s') s₁)
    (hR : ∀ s' o to' as', Fr h₀ env.locals s'.heap (fun z => if z = Str.ofString "value" then some (.ref to') else if z = Str.ofString "element" then o else m z) → HoldsSt w x dx y (runP k j i qs rs ds).2.1 (runP k j i qs rs ds).2.2.1 (runP k j i qs rs ds).2.2.2 s'.heap → Reads s'.heap (.ref to') (.tuple (runP k j i qs rs ds).1) as' → ListsAt [x, dx, y, 56, 63] s'.heap as' →
      s'.os = s.os → AllBare s'.gens → Ext [x, dx, y, 56, 63, env.locals, I] s.heap s'.heap → R (.ok .next) s') :
    codeAny (model prog w) A (.forLoop (.Name (Str.ofString "element") pe) (.ref I) body [] env) R s := by
  refine codeAny_forLoop_any (RedInv w h₀ env.locals I x dx y m (runP k j i qs rs ds) s.os s.heap) ?_ k
    ⟨j, i, qs, rs, ds, as, to, o, hI, F, H, hto, has, hsm, hgd, hi, hlen, hb, hk, rfl, rfl, Ext.refl _ _⟩
  rintro k' s' ⟨j', i', qs', rs', ds', as', to', o', hI', F', H', hto', has', hsm', hgd', hi', hlen', hb', hk', hrun, hos, hE⟩
  obtain ⟨vs, us, n, ny, kk, t, ps, pt, hx, _, _, _, _, _, _, hP, hP2⟩ := id H'
  have hl' : SeqAt s'.heap x vs := ⟨_, n, hx, rfl⟩
  have hxI : x ≠ I := fun e => hIW (e ▸ List.mem_cons_self)
  cases hq : qs'[j']? with
  | none =>
    have hvn : vs[j']? = none := by
      have h1 := hP.length
      rw [List.getElem?_eq_none_iff] at hq
      rw [Array.length_toList] at h1
      rw [Array.getElem?_eq_none_iff]; omega
    refine next_end hh hI' hl' hvn fun h₁ he₁ hsz₁ => wpAny_execs_nil ?_
    have ke : ∀ b o, b ≠ I → s'.heap.get? b = some o → h₁.get? b = some o := fun b o hb e => he₁ b o hb e
    have tk := tupIter hI' ke
    have ne : ∀ b ∈ [x, dx, y, 56, 63], b ≠ I := fun b hb e => hIW (e ▸ hb)
    rw [runP_end hq] at hrun
    have kl : ∀ b o vs n, b ∉ [x, dx, y, 56, 63] → o = listOf vs n → s'.heap.get? b = some o → h₁.get? b = some o := fun b o vs n _ ho e => ke b o (fun z => by
      obtain ⟨oI, hoI, hcI, hdI⟩ := hI'
      rw [z, hoI] at e; cases e; rw [ho] at hdI; cases hdI) e
    refine hR _ o' to' as' ⟨F'.ns.at' fun o e => ke _ o (Ne.symm hIL) e, fun b o e => ke b o (fun z => by rw [z, hIn] at e; cases e) (F'.keep b o e), F'.above⟩ (by rw [← hrun]; exact H'.mono tk fun b hb o e => ke b o (ne b hb) e) (by rw [← hrun]; exact has'.read2 hto' tk kl) (has'.keep kl) hos hb' (fun b o hb e => ke b o (fun z => hb (by simp [z])) (hE b o hb e))
  | some q =>
    obtain ⟨T, tf, tp, hv, ht⟩ := hP.got hq
    have hv' : vs[j']? = some (.ref T) := by simpa using hv
    have hjq : j' < qs'.length := (List.getElem?_eq_some_iff.mp hq).1
    refine next_item hI' hl' hv' fun h₁ hI₁ hs₁ => ?_
    dsimp only
    have ke : ∀ b o, b ≠ I → s'.heap.get? b = some o → h₁.get? b = some o := fun b o hb e => hs₁.extBut b o hb e
    have tk := tupIter hI' ke
    have ne : ∀ b ∈ [x, dx, y, 56, 63], b ≠ I := fun b hb e => hIW (e ▸ hb)
    have kl : ∀ b o vs n, b ∉ [x, dx, y, 56, 63] → o = listOf vs n → s'.heap.get? b = some o → h₁.get? b = some o := fun b o vs n _ ho e => ke b o (fun z => by
      obtain ⟨oI, hoI, hcI, hdI⟩ := hI'
      rw [z, hoI] at e; cases e; rw [ho] at hdI; cases hdI) e
    have F₁ : Fr h₀ env.locals h₁ _ := ⟨F'.ns.at' fun o e => ke _ o (Ne.symm hIL) e, fun b o e => ke b o (fun z => by rw [z, hIn] at e; cases e) (F'.keep b o e), F'.above⟩
    refine wpAny_of_eq (a := ()) rfl ?_
    refine wpAny_assign_Name (wpAny_storeName_local hxe F₁.ns (fun h₂ hn₂ hs₂ => ?_) hp)
    replace hs₂ : Heap.SameBut env.locals h₁ h₂ := hs₂
    have F₂ := F₁.set hn₂ hs₂
    have ke2 : ∀ b o, b ≠ env.locals → h₁.get? b = some o → h₂.get? b = some o := fun b o hb e => hs₂.extBut b o hb e
    have tk2 := tupNs F₁.ns ke2
    have kl2 : ∀ b o vs n, b ∉ [x, dx, y, 56, 63] → o = listOf vs n → h₁.get? b = some o → h₂.get? b = some o := fun b o vs n _ ho e => ke2 b o (fun z => by
      subst ho; exact nsNe F₁.ns (vs := vs) (n := n) rfl e z) e
    have em : (fun z => if z = Str.ofString "element" then some (Value.ref T) else if z = Str.ofString "value" then some (.ref to') else if z = Str.ofString "element" then o' else m z) = fun z => if z = Str.ofString "element" then some (Value.ref T) else if z = Str.ofString "value" then some (.ref to') else m z := by
      funext z; by_cases h1 : z = Str.ofString "element" <;> simp [h1]
    rw [em] at F₂
    have I₂ : h₂.IsListIter I x (j' + 1) := hI₁.at fun o e => ke2 _ o hIL e
    have H₂ := (H'.mono tk fun b hb o e => ke b o (ne b hb) e).mono tk2 fun b hb o e => ke2 b o (hW b hb).1 e
    have ht₂ : h₂.IsTuple T #[.str q.1 tf, .str q.2 tp] := by
      obtain ⟨oT, e1, e2, nT, e3⟩ := ht
      exact ⟨oT, tk2 _ _ _ _ e2 e3 (tk _ _ _ _ e2 e3 e1), e2, nT, e3⟩
    have E₂ : Ext [x, dx, y, 56, 63, env.locals, I] s.heap h₂ := fun b o hb e => ke2 b o (fun z => hb (by simp [z])) (ke b o (fun z => hb (by simp [z])) (hE b o hb e))
    have hk2 : ∃ k2, k' = k2 + 1 := ⟨k' - 1, by omega⟩
    obtain ⟨k2, rfl⟩ := hk2
    rw [runP_step hq] at hrun
    refine wpAny_mono (hbody ⟨h₂, s'.gens, s'.drawn, _, s'.os⟩ to' T q tf tp i' qs' rs' ds' as' j' hq F₂ I₂ H₂ ht₂ ((has'.keep kl).read2 (has'.read2 hto' tk kl) tk2 kl2) ((has'.keep kl).keep kl2) hsm' hgd' hi' (by omega) hb') (fun fl s₂ h₆ => ?_) fun _ _ e => e
    obtain ⟨rfl, to₂, as₂, E₃, F₃, H₃, R₃, A₃, os₃, b₃⟩ := h₆
    have hlp := deedP_len (q := q) (i := i') (qs := qs') (rs := rs')
    refine ⟨k2, by omega, j' + 1, _, _, _, _, as₂, to₂, some (.ref T), I₂.at fun o e => E₃ _ o (fun hm => ?_) e, F₃, H₃, R₃, A₃, deedP_small hsm', fun p hp => hgd' p (List.mem_append.mpr (deedP_mem (List.mem_append.mp hp))), deedP_i hi', ?_, b₃, ?_, hrun, os₃.trans hos, ?_⟩
    · rcases List.mem_append.mp (show I ∈ [x, dx, y, 56, 63] ++ [env.locals] from hm) with h1 | h1
      · exact hIW h1
      · exact hIL (List.mem_singleton.mp h1)
    · rw [List.length_append, List.length_singleton]; omega
    · omega
    · exact fun b o hb e => E₃ b o (fun hm => hb (by
        simp only [List.mem_cons, List.not_mem_nil, or_false] at hm ⊢
        rcases hm with h | h | h | h | h | h <;> simp [h])) (E₂ b o hb e)
end
end
section
open PySem PySem.W PyProof.Rows PySem.Calls PySem.Builtin PySem.Builtin.List
set_option maxRecDepth 100000
section
variable {prog : Program} {w : World} {A : Around} {E : Value → Shared → Prop} {s : Shared} {K : Frag} {x C dx it l L : Addr} {vs : Array Value} {n i : Nat} {h₀ : Heap} {m : Str → Option Value} {news news' : List (Addr × Obj)}
theorem iter_b {Q : Value → Shared → Prop} (F : Fr h₀ L s.heap m) (X₀ : K.In h₀) (N : News h₀ L s.heap news) (hx : (x, accObj dx vs n) ∈ news) (hm : mroIn K 94 (.type "list") = some true) (hf : findIn K (.ref 94) "__iter__" = some (some (.builtin "list.__iter__")))
    (h : ∀ I h', Fr h₀ L h' m → News h₀ L h' ((I, iterObj x 0) :: news) → (∀ p ∈ news, p.1 < I) → (∀ b o, s.heap.get? b = some o → h'.get? b = some o) → Q (.ref I) { s with heap := h' }) : wpAny (model prog w) A (call (.builtin "iter") [.ref x]) Q E s := by
  refine call_function_entry (by decide +kernel) (by decide +kernel) kdk_entry_iter (kdk_args_iter _) ?_
  unfold Builtin.«iter»
  refine wpAny_bind (m := someArgs "iter" 1 2 _) (wpAny_of_eq (a := [Value.ref x]) (by first | rfl | kernel_rfl!) ?_)
  dsimp only
  refine wpAny_bind (iter_acc (X₀.keeps F.keep) (N _ hx).1 hm hf ?_)
  exact wpAny_pure ⟨_, rfl, h _ _ (F.push _) (News.push F N _) (fun p hp => Heap.lt_size (N p hp).1) fun b o e => Heap.get?_push_of_some _ e⟩
theorem next_call {items : Array Value} {v : Value} {Q : Value → Shared → Prop} (hit : s.heap.IsListIter it l i) (hl : SeqAt s.heap l items) (hx : items[i]? = some v)
    (hQ : ∀ h', h'.IsListIter it l (i + 1) → Heap.SameBut it s.heap h' → Q v { s with heap := h' }) : wpAny (model prog w) A (call (.builtin "next") [.ref it]) Q E s := by
  obtain ⟨o, ho, hc, hd⟩ := id hit
  obtain ⟨ol, nl, hol, hdl⟩ := hl
  refine call_function_entry (by decide +kernel) (by decide +kernel) kdk_entry_next (kdk_args_next _) ?_
  unfold Builtin.«next»
  refine wpAny_bind (m := someArgs "next" 1 2 _) (wpAny_of_eq (a := [Value.ref it]) (by first | rfl | kernel_rfl!) ?_)
  dsimp only
  refine wpAny_bind (wpAny_specialOf (name := Str.ofString "__next__") hit.typeIs slot_listiter_next.lookup ?_)
  refine wpAny_ite_split (fun hab => absurd hab (by decide)) (fun _ => ?_)
  refine wpAny_bind (wpAny_callSpecial?_slot (name := Str.ofString "__next__") hit.typeIs slot_listiter_next (wpAny_call_entry slot_listiter_next hit.typeIs entry_listiter_next ?_ (args_listiter_next _)))
  show wpAny _ _ (field (.ref it) 0 >>= _) _ _ s
  refine wpAny_bind (wpAny_field ho hd (x := .ref l) rfl ?_)
  show wpAny _ _ (field (.ref it) 1 >>= _) _ _ s
  refine wpAny_bind (wpAny_field ho hd (x := .int i 0) rfl ?_)
  show wpAny _ _ (seqItems? (.ref l) >>= _) _ _ s
  refine wpAny_bind (wpAny_seqItems hol hdl ?_)
  simp only [Int.toNat_natCast, hx]
  refine wpAny_bind (wpAny_setField ho hd (by walk_at "mine.fa") (wpAny_pure ⟨v, rfl, wpAny_pure ⟨_, rfl, hQ _ ?_ (Heap.SameBut.update ..)⟩⟩))
  exact ⟨_, Heap.get?_update_self _ ho (Obj.isFreed_of_fields (Obj.data_mapFields hd _)), (Obj.cls_mapFields ..).trans hc, by rw [Obj.data_mapFields hd]; simp [rawInt]⟩
theorem is_other_r {M : Model} {a b : Addr} {oa ob : Obj} {Q : Value → Shared → Prop} (hab : @Ne Nat a b) (ha : s.heap.get? a = some oa) (hb : s.heap.get? b = some ob) (hnt : ob.cls ≠ .type "tuple") (h : Q (.bool false) s) : wpAny M A (compareOp .Is (.ref a) (.ref b)) Q E s := by
  show wpAny M A (do return .bool (← isSame (.ref a) (.ref b))) Q E s
  refine wpAny_bind ?_
  show wpAny M A (if (a == b) = true then pure true else _) _ E s
  rw [if_neg (fun z => hab (eq_of_beq z))]
  refine wpAny_bind (wpAny_load ha (wpAny_bind (wpAny_load hb ?_)))
  split
  · rename_i h1 _ _; exact absurd h1 hnt
  · exact wpAny_pure (wpAny_pure h)
theorem callWith_L {M : Model} {pos : Pos} {a : Addr} {o : Obj} {fd : FuncData} {first : List Value} {e : PySem.Expr} {rest : List PySem.Expr} {env : Env} {Q : Value → Shared → Prop}
    (h : wpAny M A (spliced (backTo pos (starEach (e :: rest) env))) (fun vs s₁ => (s₁.heap.get? a = some o ∧ o.data = .func fd) ∧ wpAny M A (call (.ref a) (first ++ vs)) Q E s₁) E s)
    (he : starEach (e :: rest) env = (false, eval e env) :: starEach rest env := by rfl) :
    wpAny M A (callWith pos (.ref a) first (backTo pos (starEach (e :: rest) env)) []) Q E s := by
  rw [he] at h ⊢
  exact Calls.callWith_function (Calls.evalArgs_plain h)
theorem storeX_keep {M : Model} {a : Addr} {cn : Str} {cs : Scope} {ccd : Value} {cl : List (Str × Addr)} {x : Str} {v : Value} {Q : Unit → Shared → Prop} (F : Fr h₀ L s.heap m) (N : News h₀ L s.heap news)
    (h : ∀ h', Fr h₀ L h' (fun y => if y = x then some v else m y) → News h₀ L h' news → (∀ b o, b ≠ L → s.heap.get? b = some o → h'.get? b = some o) → Q () { s with heap := h', toks := s.toks + 1 })
    (hk : cs.kind = .function := by rfl) (hx : (envX cn cs L a ccd cl).kindOf x = some .local := by rfl) : wpAny M A (storeName (envX cn cs L a ccd cl) x v) Q E s :=
  wpAny_storeName_local hx F.ns (fun h' hn hs => h h' (F.set hn hs) (N.set hs) fun b o hb e => hs.extBut b o hb e) (by show (cs.kind == .class || (cs.kind == .module && L != mainGlobals)) = false; rw [hk]; rfl)
theorem frIns {h : Heap} {a b : Str} {v : Option Value} (F : Fr h₀ L h (fun z => if z = a then v else m z)) (e : m b = none) : Fr h₀ L h (fun z => if z = a then v else if z = b then none else m z) := by
  have : (fun z => if z = a then v else if z = b then none else m z) = fun z => if z = a then v else m z := by
    funext z; by_cases h1 : z = a
    · rw [if_pos h1, if_pos h1]
    · rw [if_neg h1, if_neg h1]; by_cases h2 : z = b
      · rw [if_pos h2, h2, e]
      · rw [if_neg h2]
  rw [this]; exact F
end
end
section
open PySem PySem.W PyProof.Rows PySem.Calls PySem.Builtin PySem.Builtin.List
set_option maxRecDepth 100000
/-- a plain exception as it is made -/
noncomputable abbrev excObj (c : String) (t : Addr) : Obj := { cls := .type c, data := .fields #[.ref t, .none, .none, .none, .bool false, .none] }
section
variable {prog : Program} {w : World} {A : Around} {E : Value → Shared → Prop} {s : Shared} {it l : Addr}
theorem next_stop {items : Array Value} {i : Nat} {Q : Value → Shared → Prop} (hh : A.handled = none) (hit : s.heap.IsListIter it l i) (hl : SeqAt s.heap l items) (hx : items[i]? = none)
    (hE : ∀ h₁ h' e, Heap.SameBut it s.heap h₁ → Heap.MadeExc h₁ h' e "StopIteration" [] → E (.ref e) { s with heap := h' }) : wpAny (model prog w) A (call (.builtin "next") [.ref it]) Q E s := by
  obtain ⟨o, ho, hc, hd⟩ := id hit
  obtain ⟨ol, nl, hol, hdl⟩ := hl
  refine call_function_entry (by decide +kernel) (by decide +kernel) kdk_entry_next (kdk_args_next _) ?_
  unfold Builtin.«next»
  refine wpAny_bind (m := someArgs "next" 1 2 _) (wpAny_of_eq (a := [Value.ref it]) (by first | rfl | kernel_rfl!) ?_)
  dsimp only
  refine wpAny_bind (wpAny_specialOf (name := Str.ofString "__next__") hit.typeIs slot_listiter_next.lookup ?_)
  refine wpAny_ite_split (fun hab => absurd hab (by decide)) (fun _ => ?_)
  refine wpAny_bind (wpAny_callSpecial?_slot (name := Str.ofString "__next__") hit.typeIs slot_listiter_next (wpAny_call_entry slot_listiter_next hit.typeIs entry_listiter_next ?_ (args_listiter_next _)))
  show wpAny _ _ (field (.ref it) 0 >>= _) _ _ s
  refine wpAny_bind (wpAny_field ho hd (x := .ref l) rfl ?_)
  show wpAny _ _ (field (.ref it) 1 >>= _) _ _ s
  refine wpAny_bind (wpAny_field ho hd (x := .int i 0) rfl ?_)
  show wpAny _ _ (seqItems? (.ref l) >>= _) _ _ s
  refine wpAny_bind (wpAny_seqItems hol hdl ?_)
  simp only [Int.toNat_natCast, hx]
  show wpAny _ _ (setField (.ref it) 0 .none >>= _) _ _ s
  refine wpAny_bind (wpAny_setField ho hd (by walk_at "mine.fa") ?_)
  show wpAny _ _ (newExc (.type "StopIteration") [] >>= _) _ _ _
  refine wpAny_bind ?_
  simp only [newExc, newTuple]
  refine wpAny_bind (wpAny_newObj_type ?_ (by size_fits))
  refine wpAny_bind (m := firstArgMember _ _) (wpAny_of_eq (a := Value.none) (by first | rfl | (simp only [firstArgMember]; rfl)) ?_)
  refine wpAny_newObj_type ?_ (by size_fits)
  refine wpAny_raiseNew_none hh ?_
  refine hE _ _ _ (Heap.SameBut.update _ it (Obj.mapFields (·.setIfInBounds 0 .none))) ⟨fun b o e => Heap.get?_push_of_some _ (Heap.get?_push_of_some _ e), Heap.get?_none_of_le (by rw [Heap.size_push]; exact Nat.le_succ _), _, Heap.get?_push_size _ rfl, Heap.get?_none_of_le (Nat.le_refl _), ?_⟩
  exact Heap.get?_push_of_some _ (Heap.get?_push_size _ rfl)
end
section
variable {M : Model} {A : Around} {E : Value → Shared → Prop} {s : Shared} {base : Heap} {env : Env} {outer : List Env} {L e : Addr} {oe : Obj} {vs : Array Value}
/-- a first note of a frame: the exception's entry is new, frames turn their slots alone -/
theorem note_first {Q : Unit → Shared → Prop} (hfr : A.frames = some (env :: outer)) (hl : s.heap.FunFrames base (env :: outer)) (hf : env.frame = some L) (he : s.heap.get? e = some oe) (hd : oe.data = .fields vs) (h1 : vs[1]? = some .none)
    (h : ∀ h₁ T ts, Heap.SlotsOnly ((env :: outer).filterMap (·.frame)) s.heap h₁ → s.heap.get? T = none → T ≠ e → ts[3]? = some (rawInt L) →
      ∀ h', (∀ b o, b ≠ e → h₁.get? b = some o → h'.get? b = some o) → h'.get? e = some (oe.mapFields (·.setIfInBounds 1 (.ref T))) → h'.get? T = some { cls := .type "traceback", data := .fields ts } → Q () { s with heap := h' }) :
    wpAny M A (noteFrame (.ref e) env) Q E s := by
  have hne : e ∉ (env :: outer).filterMap (·.frame) := fun hm => by
    obtain ⟨_, o, ho, hnf⟩ := hl.mem hm
    rw [he] at ho; cases ho; exact hnf vs hd
  unfold noteFrame
  simp only [hf]
  refine wpAny_bind (wpAny_field he hd h1 ?_)
  rw [if_neg (by decide)]
  refine wpAny_bind (wpAny_frameOf_fun hfr hl hf fun h₁ hs => wpAny_bind (wpAny_entryPlaceOf fun pl hpl => ?_))
  have e1 : h₁.get? e = some oe := (hs.2.1 e hne).trans he
  unfold EntryCells.newEntry newFields
  refine wpAny_bind (wpAny_newObj_type ?_ (hpl.sizeOk5 _ _ _ _ _))
  have e2 := Heap.get?_push_of_some (h := h₁) { cls := .type "traceback", dict := none, data := .fields ([Value.none, .ref L, .none, rawInt L, .none] ++ (if pl.isEmpty then List.replicate 6 Value.none else pl)).toArray } e1
  refine wpAny_setField e2 hd (Array.getElem?_eq_some_iff.mp h1).1 ?_
  have nT : h₁.objs.size ≠ e := Nat.ne_of_gt (Heap.lt_size e1)
  refine h h₁ h₁.objs.size ([Value.none, .ref L, .none, rawInt L, .none] ++ (if pl.isEmpty then List.replicate 6 Value.none else pl)).toArray hs (Heap.get?_none_of_le (Nat.le_of_eq hs.1.symm)) nT ?_ _ (fun b o hb eb => ?_) (Heap.get?_update_self _ e2 (Obj.isFreed_of_fields (Obj.data_mapFields hd _))) ?_
  · simp
  · rw [Heap.get?_update_other _ _ (Ne.symm hb)]; exact Heap.get?_push_of_some _ eb
  · rw [Heap.get?_update_other _ _ (Ne.symm nT)]; exact Heap.get?_push_size _ rfl
end
theorem upFields {h h' : Heap} {b : Addr} {o : Obj} {vs : Array Value} (hb : h.get? b = some o) (hd : o.data = .fields vs) (k : ∀ c o', c ≠ b → h.get? c = some o' → h'.get? c = some o') : h.UpToSlots h' := fun c o' e hn =>
  ⟨o'.slots, k c o' (fun z => by subst z; rw [hb] at e; cases e; exact hn _ hd) e⟩
theorem upOnly {S : List Addr} {h h' : Heap} (x : Heap.SlotsOnly S h h') : h.UpToSlots h' := fun b o e _ => x.2.2 b o e
theorem upFrames {h h' base : Heap} {l : List Env} (u : h.UpToSlots h') (ff : h.FunFrames base l) : h'.FunFrames base l := ff.of_keeps fun b o e hn => let ⟨_, e'⟩ := u b o e hn; ⟨_, e', rfl⟩
section
variable {M : Model} {A : Around} {E : Value → Shared → Prop} {s : Shared} {e : Addr} {o : Obj} {vs : Array Value}
theorem set_at {i : Nat} {x : Value} {Q : Unit → Shared → Prop} (ho : s.heap.get? e = some o) (hd : o.data = .fields vs) (hi : i < vs.size)
    (h : ∀ h', Heap.SameBut e s.heap h' → h'.get? e = some (o.mapFields (·.setIfInBounds i x)) → Q () { s with heap := h' }) : wpAny M A (setField (.ref e) i x) Q E s :=
  wpAny_setField ho hd hi (h _ (Heap.SameBut.update _ _ _) (Heap.get?_update_self _ ho (Obj.isFreed_of_fields (Obj.data_mapFields hd _))))
end
section
variable {prog : Program} {w : World} {A : Around} {E : Value → Shared → Prop} {s : Shared} {env : Env}
theorem entry_unchain : entryFor table "proto.unchain" = some Builtin.«proto.unchain» := entryFor_of_tree (by kernel_rfl)
/-- raise X(..) from None, where another exception without a context is handled -/
theorem raise_from {c : String} {h₀ : Addr} {x c₀ : Sem Value} {Q : Flow → Shared → Prop} (hc : ∀ (Q' : Value → Shared → Prop) (s' : Shared), Q' .none s' → wpAny (model prog w) A c₀ Q' E s') (FR : ExcRaiseFacts c) (hh : A.handled = some (.ref h₀))
    (h : wpAny (model prog w) A x (fun v s₁ => ∃ e t, v = .ref e ∧ e ≠ h₀ ∧ s₁.heap.get? e = some (excObj c t) ∧ (∃ oh hs, s₁.heap.get? h₀ = some oh ∧ oh.data = .fields hs ∧ hs[2]? = some .none) ∧
      ∀ h', (∀ b o, b ≠ e → s₁.heap.get? b = some o → h'.get? b = some o) → h'.get? e = some { cls := .type c, data := .fields #[.ref t, .none, .ref h₀, .none, .bool true, .none] } → E (.ref e) { s₁ with heap := h' }) E s) :
    wpAny (model prog w) A (raiseStmt env (some x) (some c₀)) Q E s := by
  unfold raiseStmt
  refine wpAny_bind (wpAny_mono h (fun v s₁ h₁ => ?_) fun _ _ z => z)
  obtain ⟨e, t, rfl, hne, he, ⟨oh, hs, hho, hhd, hh2⟩, hE⟩ := h₁
  obtain ⟨hp, g, d, tk, os⟩ := s₁
  have hsub := FR.isExc
  have hmeta := FR.plainMeta
  dsimp only at he hho hE
  iterate 2 (first | refine wpAny_loadPart he ?_ | wp_step)
  refine hc _ _ ?_
  iterate 28 (first | refine wpAny_loadPart he ?_ | wp_step)
  refine wpAny_bind (set_at he rfl (by walk_at "mine.fa") fun h₁ k₁ e₁ => ?_)
  have e₁ : h₁.get? e = some (excObj c t) := e₁
  refine wpAny_bind (set_at e₁ rfl (by walk_at "mine.fa") fun h₂ k₂ e₂ => ?_)
  have e₂ : h₂.get? e = some { cls := .type c, data := .fields #[.ref t, .none, .none, .none, .bool true, .none] } := e₂
  dsimp only
  iterate 14 (first | refine wpAny_loadPart e₂ ?_ | wp_step)
  refine wpAny_pure ?_
  rw [if_pos hmeta]
  refine wpAny_pure (wpAny_bind ?_)
  unfold setFlight
  refine wpAny_bind (wpAny_field e₂ rfl (x := .none) rfl ?_)
  rw [if_neg (by decide)]
  refine wpAny_pure ?_
  unfold raiseNew
  refine wpAny_bind (wpAny_handled ?_)
  rw [hh]
  dsimp only
  rw [if_pos (by simpa using fun z => hne (Value.ref.inj z).symm)]
  have hho₂ : h₂.get? h₀ = some oh := (k₂.2 _ (Ne.symm hne)).trans ((k₁.2 _ (Ne.symm hne)).trans hho)
  refine wpAny_bind (wpAny_holding (wpAny_runValue (codeAny_builtin entry_unchain ?_)))
  unfold Builtin.«proto.unchain»
  refine wpAny_bind (wpAny_field hho₂ hhd hh2 ?_)
  rw [if_pos (by decide)]
  refine wpAny_pure ?_
  refine wpAny_bind (set_at e₂ rfl (by walk_at "mine.fa") fun h₃ k₃ e₃ => wpAny_throw (hE h₃ (fun b o hb eb => (k₃.2 _ hb).trans ((k₂.2 _ hb).trans ((k₁.2 _ hb).trans eb))) e₃))
end
theorem stop_notTuple : isSubtype (.type ((Manifest.find? "StopIteration").elim "type" fun x => x.metatype)) (.type "tuple") = pure false := by
  rw [show ((Manifest.find? "StopIteration").elim "type" fun x => x.metatype) = "type" from by kernel_rfl, isSubtype_type]; kernel_rfl
end
theorem words5 : True := by
  k_with_none
  k_with "mine.mem" => (repeat (first | exact List.Mem.head _ | refine List.Mem.tail _ ?_))
  k_with "mine.nm" => ((repeat' (first | exact nm_nil | refine nm_cons ?_ ?_)) <;> (first | assumption | ((try dsimp only); first | decide | (refine neN ?_; omega))))
  k_with "mine.fa1" => (first | exact ncR | exact ncN | exact ncL | exact ncD | (walk_at "mine.mem"; done) | (refine fa_in ?_; walk_at "mine.mem"; done) | (refine fa_out ?_; walk_at "mine.mem"; done) | (refine Or.inl ⟨?_, ?_⟩; (focus (walk_at "mine.mem"; done)); (walk_at "mine.nm"; done)) | (refine Or.inr ⟨by assumption, ?_⟩; walk_at "mine.mem"; done) | (refine neN ?_; omega))
  k_with "mine.fa" => (first | exact fa_all | ((repeat' (first | exact fa_nil | refine fa_cons ?_ ?_)); (all_goals walk_at "mine.fa1"); done) | simp)
  k_with "getMethod ref" => (k_here; k_dflt (refine' getMethod_acc (by k_in) (by k_inst) (by k_is) (by k_is) (by k_is) (by k_is) (by decide) (by k_get) ?_; k_whole))
  k_with "call builtin:list.append" => (k_here; (with_reducible show wpAny _ _ (call (Value.builtin _) [Value.ref _, _]) _ _ _); k_dflt (refine' acc_append_K (by k_asm) (by k_asm) (by k_asm) (by k_upd) (by k_is) (by assumption) ?_; k_whole); intro _ _ _; (try k_sweep))
  k_with "getAttr ref" => (k_here; k_dflt (refine' get_acc (by k_in) (by exact News.get (by k_asm) (by k_mem)) (by exact News.get (by k_asm) (by k_mem)) (by k_is) (by k_is) (by k_is) (by k_is) (by k_is) (by k_get) (by k_handed) ?_; k_whole))
  k_with "setAttr ref" => (k_here; k_dflt (refine' set_attr_acc (by k_asm) (by k_asm) (by k_asm) (by k_inst) (by exact rfl) (by k_is) (by k_is) (by exact rfl) (by k_is) (by k_is) (by k_get) (by k_put) (by k_upd) (by exact Nat.le_of_ble_eq_true rfl) ?_; k_whole; intro _ _ _; (try k_sweep)))
  k_with "getMethod ref" => (k_here; k_dflt (refine' sup_meth bt_pop (by k_asm) (by k_asm) (by k_asm) (by k_mem) (by k_inst) (by k_is) (by ks_is) (by k_is) (by decide) ?_; intro _ _ _ _ l1; (try k_lt l1); (try (revert l1; intro _))))
  k_with "getMethod ref" => (k_here; k_dflt (refine' sup_meth bt_init (by k_asm) (by k_asm) (by k_asm) (by k_mem) (by k_inst) (by k_is) (by ks_is) (by k_is) (by decide) ?_; intro _ _ _ _ l1; (try k_lt l1); (try (revert l1; intro _))))
  k_with "getMethod ref" => (k_here; k_dflt (refine' sup_meth bt_len (by k_asm) (by k_asm) (by k_asm) (by k_mem) (by k_inst) (by k_is) (by ks_is) (by k_is) (by decide) ?_; intro _ _ _ _ l1; (try k_lt l1); (try (revert l1; intro _))))
  k_with "storeName" => (k_here; k_dflt (refine' storeX_keep (by k_asm) (by k_asm) ?_ (by rfl) (by rfl); k_whole); intro _ _ _ _; (try k_sweep))
  k_with "call builtin:iter" => (k_here; (with_reducible show wpAny _ _ (call (Value.builtin "iter") [Value.ref _]) _ _ _); k_dflt (refine' iter_b (by k_asm) (by k_asm) (by k_asm) (by k_mem) (by k_is) (by k_is) ?_; k_whole); intro _ _ _ _ l1 kp'; (try k_lt l1); (first | (revert l1 kp'; intro _ _) | (revert kp'; intro _)); (try k_sweep))
  k_with "exec For Name Name cons nil" => (k_here; refine wpAny_For ?_ (by intro _; rfl))
  trivial
section
open PySem PySem.W PyProof.Rows PySem.Calls
/-- a lambda of the fold, with its two cells -/
inductive LamAt (x dx y f : Addr) (h : Heap) : Prop
  | mk (nm qual : Str) (a1 a2 p1 p2 p3 p4 p5 p6 : Pos) (c' rc sc : Addr) (pm ctv : Value) (orc osc : Obj)
    (h1 : h.get? f = some (kla_obj nm qual (lamParams a1 a2) (lamBody p1 p2 p3 p4 p5 p6) lamScope [(Str.ofString "store", sc), (Str.ofString "row", rc)] pm c' ctv)) (h2 : h.CodeRec (.ref c') qual) (h3 : h.get? rc = some orc ∧ orc.data = .cell (some (.ref x))) (h4 : h.get? sc = some osc ∧ osc.data = .cell (some (.ref y)))
    (h5 : f ∉ [x, dx, y, 56, 63]) (h6 : c' ∉ [x, dx, y, 56, 63]) (h7 : rc ∉ [x, dx, y, 56, 63]) (h8 : sc ∉ [x, dx, y, 56, 63]) : LamAt x dx y f h
theorem LamAt.mono {x dx y f : Addr} {h h' : Heap} (l : LamAt x dx y f h) (k : ∀ b o, b ∉ [x, dx, y, 56, 63] → h.get? b = some o → h'.get? b = some o) : LamAt x dx y f h' := by
  obtain ⟨nm, qual, a1, a2, p1, p2, p3, p4, p5, p6, c', rc, sc, pm, ctv, orc, osc, h1, h2, h3, h4, h5, h6, h7, h8⟩ := l
  obtain ⟨c, oc, vs, tq, hc, hoc, hd, hq⟩ := h2
  cases hc
  exact ⟨nm, qual, a1, a2, p1, p2, p3, p4, p5, p6, c', rc, sc, pm, ctv, orc, osc, k _ _ h5 h1, ⟨c', oc, vs, tq, rfl, k _ _ h6 hoc, hd, hq⟩, ⟨k _ _ h7 h3.1, h3.2⟩, ⟨k _ _ h8 h4.1, h4.2⟩, h5, h6, h7, h8⟩
/-- the state behind reduce's test of the start -/
inductive RedMid (g : Heap) (L x f e : Addr) (led : List (Addr × Obj)) (j : Nat) (ds : List PyData) (os : OsState) (s : Shared) : Prop
  | mk (I to : Addr) (F : Fr g L s.heap (fun z => if z = Str.ofString "value" then some (.ref to) else if z = Str.ofString "it" then some (Value.ref I) else List.lookup z [(Str.ofString "function", Value.ref f), (Str.ofString "sequence", Value.ref x), (Str.ofString "initial", Value.ref e)].reverse))
    (hit : s.heap.IsListIter I x j) (ne : I ∉ led.map (·.1)) (h1 : I ≠ L) (h2 : g.get? I = none) (N : News g L s.heap led) (R : Reads s.heap (.ref to) (.tuple ds) []) (ho : s.os = os) (hb : AllBare s.gens) : RedMid g L x f e led j ds os s
set_option maxRecDepth 100000 in
set_option maxHeartbeats 8000000 in
theorem red_all {w : World} {dp un : Nat} {gd : Option (List Code)} {cn : Str} {cs : Scope} {a : Addr} {ccd : Value} {cl : List (Str × Addr)} {outer : List Env} {A₀ : Around} {base h₀ : Heap} {L : Addr} {m : Str → Option Value} {s : Shared}
   {loose : List Str} {mean : ExcName → Option Value} {mg mb : Str → Option Value} {p : Program} {Q E : Value → Shared → Prop} {x dx y e f : Addr} {vs us : Array Value} {n ny : Nat} {k t : Tok} {i : Int} {ps pt : Array Value} {qs rs : List Pc} {kf j₀ : Nat} {ds₀ : List PyData} {args : List Value}
   (B : Below A₀ base outer h₀) (F : Fr h₀ L s.heap m) (X : (Mine.hd.heap_39 w.params).In h₀) (N : News h₀ L s.heap [(x, accObj dx vs n), (dx, accDict w k i t), (y, listOf us ny), (56, tabObj ps), (63, tabObj pt)]) (T : Top p loose mean mg mb h₀) (hk : cs.kind = .function) (hd : dp + 120 < recursionLimit) (hu : un + 1200 < cLine)
   (hl : LamAt x dx y f s.heap) (hps : TriplesOk ps.toList) (hpt : TriplesOk pt.toList) (hp : PcsAt s.heap vs.toList qs) (hr : PcsAt s.heap us.toList rs) (hsm : Small (qs ++ rs)) (hgd : ∀ q ∈ qs ++ rs, Good q) (hxd : @LT.lt Nat _ dx x) (hdx : @LT.lt Nat _ 143 dx) (hxy : @LT.lt Nat _ x y) (hi : 0 ≤ i ∧ i ≤ 10) (hb : AllBare s.gens)
   (hkf : qs.length + rs.length < kf + j₀) (hdl : ds₀.length ≤ 2)
   (hst : (args = [.ref f, .ref x, .ref e] ∧ j₀ = 0 ∧ ds₀ = [] ∧ Reads s.heap (.ref e) (.tuple []) [] ∧ @LT.lt Nat _ 143 e) ∨ (args = [.ref f, .ref x] ∧ e = 99 ∧ j₀ = 1 ∧ ∃ q₀ qt, qs = q₀ :: qt ∧ ds₀ = [.str q₀.1, .str q₀.2]))
   (hQ : ∀ s' r as', Post [x, dx, y, 56, 63] s s' → HoldsSt w x dx y (runP kf j₀ i qs rs ds₀).2.1 (runP kf j₀ i qs rs ds₀).2.2.1 (runP kf j₀ i qs rs ds₀).2.2.2 s'.heap → Reads s'.heap (.ref r) (.tuple (runP kf j₀ i qs rs ds₀).1) as' → ListsAt [x, dx, y, 56, 63] s'.heap as' → Q (.ref r) s') :
   wpAny (model PySem.Challenge.rw_mq0119_01.row.prog w) (ktrTop dp un gd cn cs L a ccd cl outer) (call (.ref 107) args) Q E s := by
  revert X; k_fill; intro X
  k_dflt (refine' enterE (binds := [("function", .ref f), ("sequence", .ref x), ("initial", .ref e)]) ?k1 ?k2 ?k3 ?k4 ?k5 ?kA ?kF ?kK ?k6 ?k7 ?k8 ?k9 ?kB ?_ ?c2 ?c3 ?c4 ?c5; (case kA => exact rfl); (case kF => exact rfl); (case kK => assumption); (case k1 => k_asm); (case k2 => k_asm); (case k3 => k_asm); (case k4 => k_asm); (case k5 => k_asm); (case k6 => k_is); (case k7 => k_is); (case k8 => (simp only []; omega)); (case k9 => rcases hst with ⟨rfl, _⟩ | ⟨rfl, rfl, _⟩ <;> first | exact binds_K (by k_in) rfl (by k_is) rfl rfl rfl | exact BindsTo.of_eq rfl); (case c5 => decide); (case kB => exact locs rfl); (case c2 => exact rfl); (case c3 => exact rfl); (case c4 => exact rfl); k_whole)
  intro g' L' h' hg' hL' hlt' F' N' B' X' T'
  k_lt hlt'
  (try dsimp only); (try k_fold)
  have hgr : ∀ b o, b ∉ [x, dx, y, 56, 63] → s.heap.get? b = some o → g'.get? b = some o := fun b o hb e => hg' b o (by simpa using hb) e
  have hlg : LamAt x dx y f g' := hl.mono hgr
  have htk : ∀ b o, o.cls = .type "tuple" → s.heap.get? b = some o → g'.get? b = some o := fun b o hc e => hg' b o (fun hb => noTup N (by walk_at "mine.fa") b hb o e hc) e
  iterate 40 (first | (with_reducible show wpAny _ _ (exec (Stmt.If _ _ _ _) _) _ _ _) | walk1)
  rename Fr g' L' _ _ => F₁; rename News g' L' _ _ => N₁
  rename_i I _ _ lI h₁ ks
  refine wpAny_mono (Q := fun (fl : Flow) s₂ => fl = .next ∧ RedMid g' L' x f e [(x, accObj dx vs n), (dx, accDict w k i t), (y, listOf us ny), (56, tabObj ps), (63, tabObj pt)] j₀ ds₀ s.os s₂) ?first ?rest fun _ _ z => z
  case first =>
    have hI0 := (N₁ (I, iterObj x 0) (by k_mem)).2
    have hIn : I ∉ [x, dx, y, 56, 63] := by
      have h : @Ne Nat I x ∧ @Ne Nat I dx ∧ @Ne Nat I y ∧ @Ne Nat I 56 ∧ @Ne Nat I 63 := by omega
      exact nm_cons h.1 (nm_cons h.2.1 (nm_cons h.2.2.1 (nm_cons h.2.2.2.1 (nm_cons h.2.2.2.2 nm_nil))))
    show wpAny _ _ _ _ _ _
    (try k_fold)
    rcases hst with ⟨rfl, rfl, rfl, hto, htm⟩ | ⟨rfl, rfl, rfl, q₀, qt, rfl, rfl⟩
    · obtain ⟨ot, hot1, hot2, nt, hot3⟩ : IsTup g' e #[] := by
        obtain ⟨a, l, e0, ht, hl'⟩ := reads_tuple_items hto
        cases e0; cases hl'
        obtain ⟨o, e, hc, r⟩ := ht
        exact ⟨o, htk _ _ hc e, hc, r⟩
      repeat' walk1
      refine is_other_r (b := 99) (neN (by omega)) (F₁.keep _ _ hot1) ((X'.keeps F₁.keep) 99 _ (by k_is)) (by walk_at "mine.fa") ?_
      repeat' walk1
      rename Fr g' L' _ _ => F₂; rename News g' L' _ _ => N₂
      exact .mk I e F₂ ⟨_, (N₂ (I, iterObj x 0) (by k_mem)).1, rfl, rfl⟩ hIn hI0.1 hI0.2 (newsSub N₂ (by kqd_sub)) (.tuple (F₂.keep _ _ hot1) hot2 hot3 .nil) rfl hb
    · obtain ⟨T0, tf0, tp0, hv0, ht0⟩ := hp.got (j := 0) rfl
      have hT0 : IsTup g' T0 #[.str q₀.1 tf0, .str q₀.2 tp0] := let ⟨o, e, hc, r⟩ := ht0; ⟨o, htk _ _ hc e, hc, r⟩
      repeat' walk1
      have hIne : @Ne Nat I x ∧ @Ne Nat I dx ∧ @Ne Nat I y ∧ @Ne Nat I 56 ∧ @Ne Nat I 63 := by omega
      refine next_call (items := vs) (v := .ref T0) ⟨_, (N₁ (I, iterObj x 0) (by k_mem)).1, rfl, rfl⟩ ⟨_, n, (N₁ (x, accObj dx vs n) (by k_mem)).1, rfl⟩ (by simpa using hv0) fun h₂ hit₂ hs₂ => ?_
      have F₂ : Fr g' L' h₂ _ := F₁.change hs₂ hI0.1 hI0.2
      have N₂ : News g' L' h₂ [(x, accObj dx vs n), (dx, accDict w k i t), (y, listOf us ny), (56, tabObj ps), (63, tabObj pt)] := newsPost N₁ (W := [I]) (fun b o hb e => hs₂.extBut b o (fun z => hb (by rw [z]; exact .head _)) e) (by
        repeat' (first | exact fa_nil | refine fa_cons ?_ ?_)
        · exact .inl ⟨by k_mem, nm_cons (Ne.symm hIne.1) nm_nil⟩
        · exact .inl ⟨by k_mem, nm_cons (Ne.symm hIne.2.1) nm_nil⟩
        · exact .inl ⟨by k_mem, nm_cons (Ne.symm hIne.2.2.1) nm_nil⟩
        · exact .inl ⟨by k_mem, nm_cons (Ne.symm hIne.2.2.2.1) nm_nil⟩
        · exact .inl ⟨by k_mem, nm_cons (Ne.symm hIne.2.2.2.2) nm_nil⟩)
      clear F₁ N₁
      repeat' walk1
      rename Fr g' L' _ _ => F₃; rename News g' L' _ _ => N₃
      rename_i h₃ ks₃
      exact .mk I T0 F₃ (hit₂.at fun o e => ks₃ _ o hI0.1 e) hIn hI0.1 hI0.2 N₃ (PcAt.reads (q := q₀) ⟨T0, tf0, tp0, rfl, tupG F₃ hT0⟩) rfl hb
  case rest =>
    clear F₁ N₁ hst lI ks
    rintro fl s₂ ⟨rfl, I, to, F₂, hit, hIn, hI1, hI2, N₂, R₂, os₂', b₂⟩
    obtain ⟨h₁, gn₁, dr₁, tk₁, os₁⟩ := s₂
    dsimp only at F₂ hit N₂ R₂ os₂' b₂
    repeat' walk1
    refine wpAny_pyIter_listiter hit ?_
    have kt := intoFr N (by walk_at "mine.fa") hg' F₂
    have hW : ∀ b ∈ [x, dx, y, 56, 63], b ≠ L' ∧ g'.get? b = none := fun b hb => by
      simp only [List.mem_cons, List.not_mem_nil, or_false] at hb
      rcases hb with rfl | rfl | rfl | rfl | rfl
      · exact (N₂ (b, accObj dx vs n) (by k_mem)).2
      · exact (N₂ (b, accDict w k i t) (by k_mem)).2
      · exact (N₂ (b, listOf us ny) (by k_mem)).2
      · exact (N₂ (56, tabObj ps) (by k_mem)).2
      · exact (N₂ (63, tabObj pt) (by k_mem)).2
    have F₂e := frIns (b := Str.ofString "element") F₂ rfl
    show codeAny _ _ _ _ _
    refine red_loop (s := ⟨h₁, gn₁, dr₁, _, os₁⟩) (w := w) (x := x) (dx := dx) (y := y) (to := to) (i := i) (qs := qs) (rs := rs) (ds := ds₀) (as := []) (j := j₀) (k := kf) rfl rfl rfl hit hIn hI1 hI2 hW F₂e
      ⟨vs, us, n, ny, k, t, ps, pt, News.get N₂ (by k_mem), News.get N₂ (by k_mem), News.get N₂ (by k_mem), News.get N₂ (by k_mem), News.get N₂ (by k_mem), hps, hpt, hp.mono kt, hr.mono kt⟩ R₂ (fun a ha => nomatch ha) hsm hgd hi (by have := hsm.1; rw [List.length_append] at this; omega) b₂ hkf ?body ?R
    case body =>
      intro s₁ to₁ pc q tf tp i₁ qs₁ rs₁ ds₁ as₁ j₁ hq F₃ I₃ H₃ ht₃ r₃ A₃ sm₃ gd₃ hi₃ hl₃ hb₃
      obtain ⟨h₃, gn₃, dr₃, tk₃, os₃⟩ := s₁
      obtain ⟨vs₁, us₁, n₁, ny₁, k₁, t₁, ps₁, pt₁, e1, e2, e3, e4, e5, t1, t2, P1, P2⟩ := H₃
      change Fr g' L' h₃ _ at F₃
      have N₃ : News g' L' h₃ [(x, accObj dx vs₁ n₁), (dx, accDict w k₁ i₁ t₁), (y, listOf us₁ ny₁), (56, tabObj ps₁), (63, tabObj pt₁)] := fun p hp => by
        simp only [List.mem_cons, List.not_mem_nil, or_false] at hp
        rcases hp with rfl | rfl | rfl | rfl | rfl
        · exact ⟨e1, hW x (by walk_at "mine.fa")⟩
        · exact ⟨e2, hW dx (by walk_at "mine.fa")⟩
        · exact ⟨e3, hW y (by walk_at "mine.fa")⟩
        · exact ⟨e4, hW 56 (by walk_at "mine.fa")⟩
        · exact ⟨e5, hW 63 (by walk_at "mine.fa")⟩
      dsimp only at e1 e2 e3 e4 e5 P1 P2 ht₃ r₃ A₃ hb₃ I₃
      clear F₂ N₂
      obtain ⟨nm, qual, a1, a2, p1, p2, p3, p4, p5, p6, c', rc, sc, pm, ctv, orc, osc, g1, g2, g3, g4, g5, g6, g7, g8⟩ := hlg.mono (h' := h₃) (fun b o _ e => F₃.keep b o e)
      repeat' walk1
      refine callWith_L (fd := kla_fn nm qual (lamParams a1 a2) (lamBody p1 p2 p3 p4 p5 p6) lamScope [(Str.ofString "store", sc), (Str.ofString "row", rc)] pm (.ref c') ctv) (o := kla_obj nm qual (lamParams a1 a2) (lamBody p1 p2 p3 p4 p5 p6) lamScope [(Str.ofString "store", sc), (Str.ofString "row", rc)] pm c' ctv) ?_
      repeat' walk1
      · first | exact g1 | trivial
      refine lam_spec (more := []) B' F₃ X' N₃ T' rfl (rm 91 hd rfl) (rm 903 hu rfl) g1 g2 g3.1 g3.2 g4.1 g4.2 ⟨g7, g8⟩ t1 t2 P1 P2 sm₃ (Nat.lt_of_le_of_lt (Nat.zero_le _) (List.getElem?_eq_some_iff.mp hq).1) hxd hdx hxy hi₃ hb₃ ht₃ (gd₃ q (List.mem_append_left _ (List.mem_of_getElem? hq))) r₃ hl₃ A₃ ?_
      intro s₄ r as₄ P₄ H₄ R₄ A₄
      obtain ⟨h₄, gn₄, dr₄, tk₄, os₄⟩ := s₄
      have F₄ := frPost F₃ N₃ P₄.ext (by walk_at "mine.fa")
      have N₄ : News g' L' h₄ [] := fun p hp => nomatch hp
      clear N₃ F₃
      dsimp only at F₄ N₄ H₄ R₄ A₄
      have hn₄ := F₄.ns
      walk1
      rename Fr g' L' _ _ => F₅
      rename_i h₅ N₅ ks₅
      walk1
      refine wpAny_execs_nil ?_
      have hLW : ∀ b ∈ [x, dx, y, 56, 63], b ≠ L' := fun b hb => (hW b hb).1
      have kt₅ := tupNs hn₄ ks₅
      have kl₅ : ∀ b o vs n, b ∉ [x, dx, y, 56, 63] → o = listOf vs n → h₄.get? b = some o → h₅.get? b = some o := fun b o vs n _ ho e => ks₅ b o (by subst ho; exact nsNe hn₄ (vs := vs) (n := n) rfl e) e
      refine ⟨rfl, r, as₄, fun b o hb e => ks₅ b o (fun z => hb (by rw [z]; exact List.mem_append_right [x, dx, y, 56, 63] (List.mem_singleton.mpr rfl))) (P₄.ext b o (fun z => hb (List.mem_append_left [_] z)) e), ?_, H₄.mono kt₅ fun b hb o e => ks₅ b o (hLW b hb) e, A₄.read2 R₄ kt₅ kl₅, A₄.keep kl₅, P₄.os, P₄.bare⟩
      have em : (fun z => if z = Str.ofString "value" then some (Value.ref r) else if z = Str.ofString "element" then some (.ref pc) else if z = Str.ofString "value" then some (.ref to₁) else if z = Str.ofString "it" then some (Value.ref I) else List.lookup z [(Str.ofString "function", Value.ref f), (Str.ofString "sequence", Value.ref x), (Str.ofString "initial", Value.ref e)].reverse) =
         fun z => if z = Str.ofString "value" then some (Value.ref r) else if z = Str.ofString "element" then some (.ref pc) else if z = Str.ofString "it" then some (Value.ref I) else List.lookup z [(Str.ofString "function", Value.ref f), (Str.ofString "sequence", Value.ref x), (Str.ofString "initial", Value.ref e)].reverse := by
        funext z; by_cases h1 : z = Str.ofString "value" <;> simp [h1]
      rw [em] at F₅
      exact F₅
    case R =>
      intro s₃ o₃ to₃ as₃ F₃ H₃ R₃ A₃ hos₃ hb₃ E₃
      obtain ⟨h₃, gn₃, dr₃, tk₃, os₃⟩ := s₃
      change Fr g' L' h₃ _ at F₃
      clear F₂
      repeat' walk1
      show Q (.ref to₃) _
      exact hQ _ to₃ as₃ ⟨fun b o hb e => F₃.keep _ _ (hgr b o hb e), hos₃.trans os₂', hb₃, Nat.le_trans hL' (Nat.le_of_lt F₃.ns.lt)⟩ H₃ R₃ A₃
theorem red_spec {w : World} {dp un : Nat} {gd : Option (List Code)} {cn : Str} {cs : Scope} {a : Addr} {ccd : Value} {cl : List (Str × Addr)} {outer : List Env} {A₀ : Around} {base h₀ : Heap} {L : Addr} {m : Str → Option Value} {s : Shared}
   {loose : List Str} {mean : ExcName → Option Value} {mg mb : Str → Option Value} {p : Program} {Q E : Value → Shared → Prop} {x dx y to f : Addr} {vs us : Array Value} {n ny : Nat} {k t : Tok} {i : Int} {ps pt : Array Value} {qs rs : List Pc} {kf : Nat}
   (B : Below A₀ base outer h₀) (F : Fr h₀ L s.heap m) (X : (Mine.hd.heap_39 w.params).In h₀) (N : News h₀ L s.heap [(x, accObj dx vs n), (dx, accDict w k i t), (y, listOf us ny), (56, tabObj ps), (63, tabObj pt)]) (T : Top p loose mean mg mb h₀) (hk : cs.kind = .function) (hd : dp + 120 < recursionLimit) (hu : un + 1200 < cLine)
   (hl : LamAt x dx y f s.heap) (hps : TriplesOk ps.toList) (hpt : TriplesOk pt.toList) (hp : PcsAt s.heap vs.toList qs) (hr : PcsAt s.heap us.toList rs) (hsm : Small (qs ++ rs)) (hgd : ∀ q ∈ qs ++ rs, Good q) (hxd : @LT.lt Nat _ dx x) (hdx : @LT.lt Nat _ 143 dx) (hxy : @LT.lt Nat _ x y) (hi : 0 ≤ i ∧ i ≤ 10) (hb : AllBare s.gens)
   (hto : Reads s.heap (.ref to) (.tuple []) []) (htm : @LT.lt Nat _ 143 to) (hkf : qs.length + rs.length < kf)
   (hQ : ∀ s' r as', Post [x, dx, y, 56, 63] s s' → HoldsSt w x dx y (runP kf 0 i qs rs []).2.1 (runP kf 0 i qs rs []).2.2.1 (runP kf 0 i qs rs []).2.2.2 s'.heap → Reads s'.heap (.ref r) (.tuple (runP kf 0 i qs rs []).1) as' → ListsAt [x, dx, y, 56, 63] s'.heap as' → Q (.ref r) s') :
   wpAny (model PySem.Challenge.rw_mq0119_01.row.prog w) (ktrTop dp un gd cn cs L a ccd cl outer) (call (.ref 107) [.ref f, .ref x, .ref to]) Q E s :=
  red_all (ds₀ := []) (j₀ := 0) B F X N T hk hd hu hl hps hpt hp hr hsm hgd hxd hdx hxy hi hb hkf (Nat.zero_le _) (.inl ⟨rfl, rfl, rfl, hto, htm⟩) hQ
theorem red1_spec {w : World} {dp un : Nat} {gd : Option (List Code)} {cn : Str} {cs : Scope} {a : Addr} {ccd : Value} {cl : List (Str × Addr)} {outer : List Env} {A₀ : Around} {base h₀ : Heap} {L : Addr} {m : Str → Option Value} {s : Shared}
   {loose : List Str} {mean : ExcName → Option Value} {mg mb : Str → Option Value} {p : Program} {Q E : Value → Shared → Prop} {x dx y f : Addr} {vs us : Array Value} {n ny : Nat} {k t : Tok} {i : Int} {ps pt : Array Value} {q₀ : Pc} {qs rs : List Pc} {kf : Nat}
   (B : Below A₀ base outer h₀) (F : Fr h₀ L s.heap m) (X : (Mine.hd.heap_39 w.params).In h₀) (N : News h₀ L s.heap [(x, accObj dx vs n), (dx, accDict w k i t), (y, listOf us ny), (56, tabObj ps), (63, tabObj pt)]) (T : Top p loose mean mg mb h₀) (hk : cs.kind = .function) (hd : dp + 120 < recursionLimit) (hu : un + 1200 < cLine)
   (hl : LamAt x dx y f s.heap) (hps : TriplesOk ps.toList) (hpt : TriplesOk pt.toList) (hp : PcsAt s.heap vs.toList (q₀ :: qs)) (hr : PcsAt s.heap us.toList rs) (hsm : Small ((q₀ :: qs) ++ rs)) (hgd : ∀ q ∈ (q₀ :: qs) ++ rs, Good q) (hxd : @LT.lt Nat _ dx x) (hdx : @LT.lt Nat _ 143 dx) (hxy : @LT.lt Nat _ x y) (hi : 0 ≤ i ∧ i ≤ 10) (hb : AllBare s.gens)
   (hkf : (q₀ :: qs).length + rs.length < kf + 1)
   (hQ : ∀ s' r as', Post [x, dx, y, 56, 63] s s' → HoldsSt w x dx y (runP kf 1 i (q₀ :: qs) rs [.str q₀.1, .str q₀.2]).2.1 (runP kf 1 i (q₀ :: qs) rs [.str q₀.1, .str q₀.2]).2.2.1 (runP kf 1 i (q₀ :: qs) rs [.str q₀.1, .str q₀.2]).2.2.2 s'.heap → Reads s'.heap (.ref r) (.tuple (runP kf 1 i (q₀ :: qs) rs [.str q₀.1, .str q₀.2]).1) as' → ListsAt [x, dx, y, 56, 63] s'.heap as' → Q (.ref r) s') :
   wpAny (model PySem.Challenge.rw_mq0119_01.row.prog w) (ktrTop dp un gd cn cs L a ccd cl outer) (call (.ref 107) [.ref f, .ref x]) Q E s :=
  red_all (ds₀ := [.str q₀.1, .str q₀.2]) (j₀ := 1) B F X N T hk hd hu hl hps hpt hp hr hsm hgd hxd hdx hxy hi hb hkf (Nat.le_refl 2) (.inr ⟨rfl, rfl, rfl, q₀, qs, rfl, rfl⟩) hQ
end
theorem words6 : True := by
  k_with_none
  k_with "mine.mem" => (repeat (first | exact List.Mem.head _ | refine List.Mem.tail _ ?_))
  k_with "mine.nm" => ((repeat' (first | exact nm_nil | refine nm_cons ?_ ?_)) <;> (first | assumption | ((try dsimp only); first | decide | (refine neN ?_; omega))))
  k_with "mine.fa1" => (first | exact ncR | exact ncN | exact ncL | exact ncD | (walk_at "mine.mem"; done) | (refine fa_in ?_; walk_at "mine.mem"; done) | (refine fa_out ?_; walk_at "mine.mem"; done) | (refine Or.inl ⟨?_, ?_⟩; (focus (walk_at "mine.mem"; done)); (walk_at "mine.nm"; done)) | (refine Or.inr ⟨by assumption, ?_⟩; walk_at "mine.mem"; done) | (refine neN ?_; omega))
  k_with "mine.fa" => (first | exact fa_all | ((repeat' (first | exact fa_nil | refine fa_cons ?_ ?_)); (all_goals walk_at "mine.fa1"); done) | simp)
  k_with "getMethod ref" => (k_here; k_dflt (refine' getMethod_acc (by k_in) (by k_inst) (by k_is) (by k_is) (by k_is) (by k_is) (by decide) (by k_get) ?_; k_whole))
  k_with "call builtin:list.append" => (k_here; (with_reducible show wpAny _ _ (call (Value.builtin _) [Value.ref _, _]) _ _ _); k_dflt (refine' acc_append_K (by k_asm) (by k_asm) (by k_asm) (by k_upd) (by k_is) (by assumption) ?_; k_whole); intro _ _ _; (try k_sweep))
  k_with "getAttr ref" => (k_here; k_dflt (refine' get_acc (by k_in) (by exact News.get (by k_asm) (by k_mem)) (by exact News.get (by k_asm) (by k_mem)) (by k_is) (by k_is) (by k_is) (by k_is) (by k_is) (by k_get) (by k_handed) ?_; k_whole))
  k_with "setAttr ref" => (k_here; k_dflt (refine' set_attr_acc (by k_asm) (by k_asm) (by k_asm) (by k_inst) (by exact rfl) (by k_is) (by k_is) (by exact rfl) (by k_is) (by k_is) (by k_get) (by k_put) (by k_upd) (by exact Nat.le_of_ble_eq_true rfl) ?_; k_whole; intro _ _ _; (try k_sweep)))
  k_with "getMethod ref" => (k_here; k_dflt (refine' sup_meth bt_pop (by k_asm) (by k_asm) (by k_asm) (by k_mem) (by k_inst) (by k_is) (by ks_is) (by k_is) (by decide) ?_; intro _ _ _ _ l1; (try k_lt l1); (try (revert l1; intro _))))
  k_with "getMethod ref" => (k_here; k_dflt (refine' sup_meth bt_init (by k_asm) (by k_asm) (by k_asm) (by k_mem) (by k_inst) (by k_is) (by ks_is) (by k_is) (by decide) ?_; intro _ _ _ _ l1; (try k_lt l1); (try (revert l1; intro _))))
  k_with "getMethod ref" => (k_here; k_dflt (refine' sup_meth bt_len (by k_asm) (by k_asm) (by k_asm) (by k_mem) (by k_inst) (by k_is) (by ks_is) (by k_is) (by decide) ?_; intro _ _ _ _ l1; (try k_lt l1); (try (revert l1; intro _))))
  trivial
section
open PySem PySem.W PyProof.Rows PySem.Calls PySem.Builtin PySem.Builtin.List Builtin.ObjectAttr Builtin.Getset_descriptor
set_option maxRecDepth 100000
set_option maxHeartbeats 4000000
namespace FF
theorem new_kind : builtinKind "list.__new__" = some .builtinFn := by decide +kernel
theorem new_split : splitId "list.__new__" = some ("list", "__new__") := by decide +kernel
theorem new_args (C : Addr) (a : Value) : ∃ sig, Manifest.signature? "list.__new__" = some sig ∧ Bind.checkArgs "list.__new__" sig ⟨[.ref C, a], []⟩ = pure () := by
  cases h : Manifest.signature? "list.__new__" with
  | none => exact absurd (congrArg Option.isSome h) (by decide +kernel)
  | some sig => 
    refine ⟨sig, rfl, ?_⟩
    have : (match Manifest.signature? "list.__new__" with | some sig => Bind.checkArgs "list.__new__" sig ⟨[.ref C, a], []⟩ | none => pure ()) = pure () := by kernel_rfl
    rw [h] at this; exact this
end FF
structure MakesL (M : Model) (h : Heap) (C : Addr) : Prop where
  obj : ∃ oc od cd sl, h.get? C = some ⟨oc, od, .cls cd, sl⟩ ∧ cd.hasDel = false ∧ cd.mro.isEmpty = false
  made : Looks M h (Bind.madeBy (.ref C)) (some "list.__new__")
  base : Looks M h (Bind.staticBase (.ref C)) (.ref C)
  self : Looks M h (isSubtype (.ref C) (.ref C)) true
  top : Looks M h (isSubtype (.ref C) (.type "list")) true
  call : Looks M h (specialOf (.ref C) "__call__") (some (.builtin "type.__call__"))
  typ : Looks M h (isInstance (.ref C) (.type "type")) true
noncomputable def makesL (K : Frag) (C : Addr) : Bool := match K.lookup C with
  | some ⟨_, _, .cls cd, sl⟩ => !cd.hasDel && (sl.toList[4]?).join == some (.builtin "list.__new__") && !cd.mro.isEmpty && cd.mro.contains (.ref C) && cd.mro.contains (.type "list") &&
      specialIn K (.ref C) "__call__" == some (some (.builtin "type.__call__")) && instIn K (.ref C) (.type "type") == some true
  | _ => false
theorem makesL_of {K : Frag} {M : Model} {h : Heap} (X : K.In h) {C : Addr} (e : makesL K C = true) : MakesL M h C := by
  unfold makesL at e
  split at e
  · rename_i oc od cd sl ho
    simp only [Bool.and_eq_true, Bool.not_eq_true', beq_iff_eq] at e
    obtain ⟨⟨⟨⟨⟨⟨e2, e3⟩, e4⟩, e5⟩, e6⟩, e7⟩, e8⟩ := e
    have hc : clsIn K C = some cd := by unfold clsIn; rw [ho]
    have hm : Looks M h (mroOf (.ref C)) cd.mro := (looks_clsIn X hc).andThen .now
    obtain ⟨c, l, hl⟩ : ∃ c l, cd.mro = c :: l := by cases q : cd.mro with | nil => rw [q] at e4; cases e4 | cons c l => exact ⟨c, l, rfl⟩
    have made : Looks M h (Bind.madeBy (.ref C)) (some "list.__new__") := by
      intro A Q E s k q
      unfold Bind.madeBy
      refine wpAny_bind (hm A _ E s k ?_)
      rw [hl, List.forIn_cons]
      refine wpAny_bind (wpAny_bind (wpAny_bind (wpAny_bind (wpAny_loadPart (k _ _ (X _ _ ho)) (wpAny_pure ?_)))))
      dsimp only
      rw [← Array.getElem?_toList, e3]
      exact wpAny_pure (wpAny_pure (wpAny_pure q))
    refine ⟨⟨oc, od, cd, sl, X _ _ ho, e2, e4⟩, made, ?_, looks_mroIn X ?_, looks_mroIn X ?_, looks_specialIn X e7, looks_instIn X e8⟩
    · intro A Q E s k q
      unfold Bind.staticBase
      refine wpAny_bind (hm A _ E s k ?_)
      rw [hl, List.forIn_cons]
      exact wpAny_bind (wpAny_bind (wpAny_bind (made A _ E s k (wpAny_pure (wpAny_pure (wpAny_pure q))))))
    · unfold mroIn; rw [hc, Option.bind_some, if_neg (by rw [e4]; decide), e5]
    · unfold mroIn; rw [hc, Option.bind_some, if_neg (by rw [e4]; decide), e6]
  · cases e
section
variable {prog : Program} {w : World} {A : Around} {C : Addr} {R : Result → Shared → Prop} {h : Heap} {g : Array GenState} {d : Drawn} {t : Nat} {os : OsState} {a : Value}
theorem new_L (Y : MakesL (model prog w) h C)
    (hq : R (.ok (.ret (.ref (h.objs.size + 1)))) ⟨(h.push emptyDict).push ⟨.ref C, some h.objs.size, .seq #[] 0, #[]⟩, g, d, t, os⟩) :
    codeAny (model prog w) A (.call (.builtin "list.__new__") ⟨[.ref C, a], []⟩) R ⟨h, g, d, t, os⟩ := by
  obtain ⟨⟨oc, od, cd, sl, hC, e2, e4⟩, made, base, self, top, call, typ⟩ := Y
  refine codeAny_call_builtin_code (plainId_quiet PySem.F.plain_list_new _) ?_
  obtain ⟨sig, hsig, hargs⟩ := FF.new_args C a
  simp only [checkBuiltinCall, FF.new_kind, FF.new_split, hsig]
  rw [hargs]
  repeat (first | simp only [bne_self_eq_false, Bool.false_eq_true, if_false] | lk)
  refine codeAny_builtin_stack PySem.F.entry_list_new rfl fun p st => ?_
  rw [Around.under_plainId PySem.F.plain_list_new _]
  have hown := owner_list_new
  simp only [hown]
  repeat (first | simp only [Bool.not_true, Bool.false_eq_true, if_false] | lk)
  refine wpAny_load (Heap.get?_push_of_some _ (Heap.get?_push_of_some _ hC)) (wpAny_pure ?_)
  rw [e2]
  refine wpAny_pure (wpAny_pure ?_)
  rw [Heap.size_push]
  exact hq
theorem make_acc {init : Value} (Y : MakesL (model prog w) h C) (hi : Looks (model prog w) h (typeLookup (.ref C) "__init__") (some init))
    (hb : ∀ self, Looks (model prog w) h (bindSpecial init self) (init, [self]))
    (hq : codeAny (model prog w) (A.under (.builtin "type.__call__" ⟨[.ref C, a], []⟩)) (.call init ⟨[.ref (h.objs.size + 1), a], []⟩) (InitBack (h.objs.size + 1) R) ⟨(h.push emptyDict).push ⟨.ref C, some h.objs.size, .seq #[] 0, #[]⟩, g, d, t, os⟩) :
    codeAny (model prog w) A (.call (.ref C) ⟨[a], []⟩) R ⟨h, g, d, t, os⟩ := by
  have Y' := Y
  obtain ⟨⟨oc, od, cd, sl, hC, e2, e4⟩, made, base, self, top, call, typ⟩ := Y
  refine codeAny_of_tree ?_
  show wpAny _ _ (callAny (.ref C) _) _ _ _
  refine nd_load hC ?_
  show wpAny _ _ (callAny.viaDunder (.ref C) _) _ _ _
  unfold callAny.viaDunder
  refine wpAny_bind (call.at ?_)
  dsimp only
  rw [tc_bind]
  refine wpAny_bind (wpAny_pure (wpAny_bind (wpAny_pure ?_)))
  refine wpAny_pure (a := Fin.again (.call (.builtin "type.__call__") ⟨[.ref C, a], []⟩)) (And.intro rfl ?_)
  refine codeAny_call_builtin_at (Code.quiet_builtin _ (by decide +kernel)) entry_typeCall (W.check_slot tc_kind tc_split typ (tc_args _ _ _) ?_)
  unfold Builtin.«type.__call__»
  have hm : Looks (model prog w) h (mroOf (.ref C)) cd.mro := ((Looks.ld (part := none) hC).andThen .now).andThen .now
  repeat (first | simp only [e4, Bool.false_eq_true, if_false] | with_reducible refine wpAny_call ?_ | lk)
  refine new_L Y' ?_
  have k : ∀ b o, h.get? b = some o → ((h.push emptyDict).push ⟨.ref C, some h.objs.size, .seq #[] 0, #[]⟩).get? b = some o := fun b o e => Heap.get?_push_of_some _ (Heap.get?_push_of_some _ e)
  have hx : ((h.push emptyDict).push ⟨.ref C, some h.objs.size, .seq #[] 0, #[]⟩).get? (h.objs.size + 1) = some ⟨.ref C, some h.objs.size, .seq #[] 0, #[]⟩ := by heap_get
  have t1 : Looks (model prog w) ((h.push emptyDict).push ⟨.ref C, some h.objs.size, .seq #[] 0, #[]⟩) (typeOf (.ref (h.objs.size + 1))) (.ref C) := (Looks.ld hx).andThen .now
  have s1 := self.keeps k
  have i1 := hi.keeps k
  have b1 := (hb (.ref (h.objs.size + 1))).keeps k
  unfold isInstance callSpecial? specialOf
  repeat (first | with_reducible refine wpAny_call ?_ | lk)
  refine codeAny_mono hq fun r s' z => ?_
  rcases r with e | (v | _ | _ | _) <;> first | exact z | exact z.elim | skip
  obtain ⟨rfl, z⟩ := z
  exact wpAny_pure (wpAny_pure z)
end
section
variable {prog : Program} {w : World} {A : Around} {E : Value → Shared → Prop} {s : Shared} {K : Frag} {L : Addr} {h₀ : Heap} {m : Str → Option Value} {news : List (Addr × Obj)} {a : Value} {Q : Value → Shared → Prop}
theorem call_acc (F : Fr h₀ L s.heap m) (X₀ : K.In h₀) (N : News h₀ L s.heap news) (hm : makesL K 94 = true) {fI : Addr} (hi : findIn K (.ref 94) "__init__" = some (some (.ref fI))) (hf : typeIn K (.ref fI) = some (.type "function"))
    (h : ∀ x dx h', Fr h₀ L h' m → News h₀ L h' ((x, accObj dx #[] 0) :: (dx, dictOf [] 0) :: news) → (∀ p ∈ news, p.1 < dx) → dx < x → (∀ b o, s.heap.get? b = some o → h'.get? b = some o) →
      codeAny (model prog w) (A.under (.builtin "type.__call__" ⟨[.ref 94, a], []⟩)) (.call (.ref fI) ⟨[.ref x, a], []⟩) (InitBack x fun r s' => match r with | .ok (.ret v) => Q v s' | .ok _ => False | .error e => E e s') { s with heap := h' }) :
    wpAny (model prog w) A (call (.ref 94) [a]) Q E s := by
  obtain ⟨hh, g, d, t, os⟩ := s
  have X := X₀.keeps F.keep
  have N' := (N.push F emptyDict).push (F.push _) (accObj hh.objs.size #[] 0)
  rw [Heap.size_push] at N'
  exact wpAny_call (make_acc (makesL_of X hm) (looks_findIn X hi) (fun self => bind_fn X self hf) (h (hh.objs.size + 1) hh.objs.size _ ((F.push _).push _) N' (fun p hp => Heap.lt_size (N p hp).1) (Nat.lt_succ_self _) fun b o e => Heap.get?_push_of_some _ (Heap.get?_push_of_some _ e)))
end
section
variable {prog : Program} {w : World} {A₀ A : Around} {s : Shared} {base h₀ : Heap} {outer : List Env} {L : Addr} {m : Str → Option Value} {env : Env} {news : List (Addr × Obj)} {K : Frag}
  {R : Result → Shared → Prop} {p : Program} {loose : List Str} {mean : ExcName → Option Value} {mg mb : Str → Option Value} {name qual : Str} {params : Arguments} {body : List Stmt} {scope : Scope} {dV kV doc pm cdv ct oc : Value} {an od : Option Addr} {osl : Array (Option Value)} {f cc : Addr} {args : List Value} {kw : List (Str × Value)} {binds : List (Str × Value)}
/-- as enterS, for a code -/
theorem enterSC (B : Below A₀ base outer h₀) (F : Fr h₀ L s.heap m) (X₀ : K.In h₀) (N : News h₀ L s.heap news) (T : Top p loose mean mg mb h₀) (hA : A.frames = some (env :: outer)) (hf : env.frame = some L) (hke : env.scope.kind = .function)
    (ho : K.lookup f = some ⟨oc, od, .func (ksFn name qual params body scope dV kV doc pm an cdv ct cc), osl⟩) (hcd : codeIn K cdv qual = true) (hroom : A.depth < recursionLimit)
    (hbind : BindsTo s (ksFn name qual params body scope dV kV doc pm an cdv ct cc) ⟨args, kw⟩ binds) (hloc : ∀ y ∈ binds, scope.names.lookup y.1 = some .local)
    (h : ∀ g L' h₁, (∀ b o, b ∉ news.map (·.1) → s.heap.get? b = some o → g.get? b = some o) → s.heap.objs.size ≤ L' → (∀ p ∈ news, p.1 < L') → Fr g L' h₁ (fun y => binds.reverse.lookup y) → News g L' h₁ news → Below A base (env :: outer) g → K.In g → Top p loose mean mg mb g →
      _root_.PySem.wpAt (model prog w) (A.deeper (ksEnv qual scope L' f cdv cc)) (.func body (ksEnv qual scope L' f cdv cc)) (execs body (ksEnv qual scope L' f cdv cc))
        (fun fl s' => R (.ok (.ret (match fl with | .ret v => v | _ => .none))) s')
        (fun e s' => wpAny (model prog w) (A.deeper (ksEnv qual scope L' f cdv cc)) (leaving (ksEnv qual scope L' f cdv cc) e) (fun _ s'' => R (.error e) s'') (fun e' s'' => R (.error e') s'') s')
        { s with heap := h₁, toks := s.toks + binds.length })
    (hcell : ∀ x ∈ scope.names, x.2 ≠ .cell) (hco : scope.isCoroutine = false) (hgen : scope.isGenerator = false) (hk : scope.kind = .function) : codeAny (model prog w) A (.call (.ref f) ⟨args, kw⟩) R s := by
  obtain ⟨FG, BG, st, lv⟩ := groundX (R := fun _ _ => True) B F N hA hf hke
  refine ks_codeAny_call_defAt (fd := ksFn name qual params body scope dV kV doc pm an cdv ct cc) (body := body) (binds := binds) hroom ((X₀.keeps F.keep) _ _ ho) rfl (T.nolimit.keeps F.keep) (codeRec_of (X₀.keeps F.keep) hcd) rfl hbind hcell hloc (fun h₁ hns hk₁ => ?_) hco hgen hk
  exact ks_wpAt_mono (h _ s.heap.objs.size h₁ (fun b o hb e => hideAll_get _ e hb) (Nat.le_refl _) (fun p hp => Heap.lt_size (N p hp).1) ⟨hns, fun b o e => hk₁ b o (of_hideAll _ e), Nat.le_of_eq (hideAll_size _ _)⟩
    (fun p hp => ⟨hk₁ _ _ (N p hp).1, Nat.ne_of_lt (Heap.lt_size (N p hp).1), hideAll_none _ (List.mem_map_of_mem hp)⟩) BG (X₀.keeps st) (T.keeps st)) (fun fl s' hl => hl) fun _ _ y => y
end
end
section
open PySem PySem.W PyProof.Rows PySem.Calls
set_option maxRecDepth 100000 in
set_option maxHeartbeats 4000000 in
theorem init_code {w : World} {dp un : Nat} {gd : Option (List Code)} {cn : Str} {cs : Scope} {a : Addr} {ccd : Value} {cl : List (Str × Addr)} {outer : List Env} {A₀ : Around} {base h₀ : Heap} {L : Addr} {m : Str → Option Value} {s : Shared}
   {loose : List Str} {mean : ExcName → Option Value} {mg mb : Str → Option Value} {p : Program} {R : Result → Shared → Prop} {x dx : Addr} {n : Nat} {t : Tok} {i : Int}
   (B : Below A₀ base outer h₀) (F : Fr h₀ L s.heap m) (X : (Mine.hd.heap_39 w.params).In h₀) (N : News h₀ L s.heap [(x, accObj dx #[] n), (dx, dictOf [] 0)]) (T : Top p loose mean mg mb h₀) (hk : cs.kind = .function) (hd : dp + 40 < recursionLimit) (hu : un + 400 < cLine)
   (hxd : @LT.lt Nat _ dx x) (hb : AllBare s.gens)
   (hQ : ∀ s' n' k', Post [x, dx] s s' → s'.heap.get? x = some (accObj dx #[] n') → s'.heap.get? dx = some (accDict w k' i t) → R (.ok (.ret .none)) s') :
   codeAny (model PySem.Challenge.rw_mq0119_01.row.prog w) (ktrTop dp un gd cn cs L a ccd cl outer) (.call (.ref 31) ⟨[.ref x, .int i t], []⟩) R s := by
  revert X; k_fill; intro X
  k_dflt (refine' enterSC (binds := [("self", .ref x), ("initial_size", .int i t)]) ?k1 ?k2 ?k3 ?k4 ?k5 ?kA ?kF ?kK ?k6 ?k7 ?k8 ?k9 ?kB ?_ ?c5 ?c2 ?c3 ?c4; (case kA => exact rfl); (case kF => exact rfl); (case kK => assumption); (case k1 => k_asm); (case k2 => k_asm); (case k3 => k_asm); (case k4 => k_asm); (case k5 => k_asm); (case k6 => k_is); (case k7 => k_is); (case k8 => (simp only []; omega)); (case k9 => first | exact binds_K (by k_in) rfl (by k_is) rfl rfl rfl | exact BindsTo.of_eq rfl); (case c5 => decide); (case kB => exact locs rfl); (case c2 => exact rfl); (case c3 => exact rfl); (case c4 => exact rfl); k_whole)
  intro g' L' h' hg' hL' hlt' F' N' B' X' T'
  k_lt hlt'
  (try dsimp only); (try k_fold)
  walk1; walk1; walk1; walk1; walk1; walk1
  refine ks_wpAt_execs_cons (ks_wpAt_Expr_any (ks_wpAt_MethodCall ?_))
  repeat' walk1
  rename_i so h₃ F₃ N₃ l₃ q h₄ F₄ N₄ l₄
  (refine' callWith_bb (bt := ?bt) (id := ?id) (x := ?xx) ?hb ?hq ?_; (case hq => exact News.get (by k_asm) (by k_mem)); (case hb => first | exact .inl rfl | exact .inr rfl))
  refine call_init_K (n := n) (dx := dx) F₄ N₄ (by k_mem) (fun n' => by k_upd) ?_
  intro n₅ h₅ F₅ N₅
  refine wpAt_of_wpAny (wpAny_execs_nil ?_)
  exact hQ _ n₅ _ ⟨extOf N hg' F₅ N₅ (by walk_at "mine.fa"), rfl, hb, Nat.le_trans hL' (Nat.le_of_lt F₅.ns.lt)⟩ (News.get N₅ (by k_mem)) (News.get N₅ (by k_mem))
end
section
open PySem PySem.W PyProof.Rows PySem.Calls PySem.Builtin PySem.Builtin.List
set_option maxRecDepth 100000
section
variable {prog : Program} {w : World} {A₀ A : Around} {s : Shared} {base h₀ : Heap} {outer : List Env} {L : Addr} {m : Str → Option Value} {env : Env} {news : List (Addr × Obj)} {K : Frag}
  {Q E : Value → Shared → Prop} {p : Program} {loose : List Str} {mean : ExcName → Option Value} {mg mb : Str → Option Value} {name qual : Str} {params : Arguments} {body : List Stmt} {scope : Scope} {dV kV doc pm cdv ct oc : Value} {an od : Option Addr} {osl : Array (Option Value)} {f : Addr} {args : List Value} {kw : List (Str × Value)} {binds : List (Str × Value)}
/-- a call of a def with cells -/
theorem enterC (B : Below A₀ base outer h₀) (F : Fr h₀ L s.heap m) (X₀ : K.In h₀) (N : News h₀ L s.heap news) (T : Top p loose mean mg mb h₀) (hA : A.frames = some (env :: outer)) (hf : env.frame = some L) (hke : env.scope.kind = .function)
    (ho : K.lookup f = some ⟨oc, od, .func (fnOf name qual params body scope dV kV doc pm an cdv ct), osl⟩) (hcd : codeIn K cdv qual = true) (hroom : A.depth < recursionLimit)
    (hbind : BindsTo s (fnOf name qual params body scope dV kV doc pm an cdv ct) ⟨args, kw⟩ binds) (hkind : (binds.all fun y => scope.names.lookup y.1 == some .local || scope.names.lookup y.1 == some .cell) = true)
    (hnd : ((cellsFrom 0 scope.names []).map (·.1)).Nodup)
    (h : ∀ g L' h₁ tk cells, (∀ b o, b ∉ news.map (·.1) → s.heap.get? b = some o → g.get? b = some o) → s.heap.objs.size ≤ L' → (∀ p ∈ news, p.1 < L') → Fr g L' h₁ (bindL (envOfC qual scope L' f cdv).kindOf binds fun _ => none) → News g L' h₁ (cells ++ news) →
      CellsAre (bindC (envOfC qual scope L' f cdv).kindOf binds fun _ => none) (cellsFrom (L' + 1) scope.names []) cells → Below A base (env :: outer) g → K.In g → Top p loose mean mg mb g →
      wpAny (model prog w) (A.deeper (envOfC qual scope L' f cdv)) (execs body (envOfC qual scope L' f cdv))
        (fun fl s' => Q (match fl with | .ret v => v | _ => .none) s')
        (fun e s' => wpAny (model prog w) (A.deeper (envOfC qual scope L' f cdv)) (leaving (envOfC qual scope L' f cdv) e) (fun _ s'' => E e s'') (fun e' s'' => E e' s'') s')
        { s with heap := h₁, toks := tk })
    (hco : scope.isCoroutine = false) (hgen : scope.isGenerator = false) (hk : scope.kind = .function) : wpAny (model prog w) A (call (.ref f) args kw) Q E s := by
  refine wpAny_call ?_
  obtain ⟨FG, BG, st, lv⟩ := groundX (R := fun _ _ => True) B F N hA hf hke
  refine codeAny_call_function hroom ((X₀.keeps F.keep) _ _ ho) rfl hco hgen rfl (codeRec_of (X₀.keeps F.keep) hcd) (hbind _ _ _ _ ?_)
  refine wpAny_newFunctionEnv_cells hk (kindsX hkind _) fun env' he s' x => ?_
  subst he
  refine ⟨(T.nolimit.keeps F.keep).keeps x.toInCall.keep, codeAny_func ?_⟩
  obtain ⟨h₁, tk, rfl, _⟩ := x.done
  have hk₁ := x.toInCall.keep
  obtain ⟨cells, NC, Y⟩ := Cl.news (h₀ := s.heap) (Nat.le_refl _) fun n c hm => ⟨x.cell n c (lookup_of_mem_nodup (cellsFrom_names scope.names 0 (s.heap.objs.size + 1) [] [] rfl ▸ hnd) hm), x.above n c hm⟩
  refine wpAny_mono (h _ s.heap.objs.size h₁ tk cells (fun b o hb e => hideAll_get _ e hb) (Nat.le_refl _) (fun p hp => Heap.lt_size (N p hp).1) ⟨x.toInCall.ns, fun b o e => hk₁ b o (of_hideAll _ e), Nat.le_of_eq (hideAll_size _ _)⟩ (fun p hp => ?_) Y BG (X₀.keeps st) (T.keeps st)) (fun fl s' hl => hl) fun _ _ y => y
  rcases List.mem_append.mp hp with hp | hp
  · refine ⟨(NC p hp).1, (NC p hp).2.1, ?_⟩
    cases q : (hideAll s.heap (news.map (·.1))).get? p.1 with
    | none => rfl
    | some o => have := of_hideAll _ q; rw [(NC p hp).2.2] at this; cases this
  · exact ⟨hk₁ _ _ (N p hp).1, Nat.ne_of_lt (Heap.lt_size (N p hp).1), hideAll_none _ (List.mem_map_of_mem hp)⟩
end
end
section
open PySem PySem.W PyProof.Rows PySem.Calls PySem.Builtin PySem.Builtin.List
set_option maxRecDepth 100000
section
variable {prog : Program} {w : World} {A : Around} {E : Value → Shared → Prop} {s : Shared} {h₀ : Heap} {L : Addr} {m mg mb : Str → Option Value} {news news' : List (Addr × Obj)} {p : Program} {loose : List Str} {mean : ExcName → Option Value}
theorem list_copy_keep {l : Addr} {items : Array Value} {Q : Value → Shared → Prop} (F : Fr h₀ L s.heap m) (N : News h₀ L s.heap news) (hl : s.heap.IsList l items)
    (h : ∀ D c h', Fr h₀ L h' m → News h₀ L h' ((D, listOf items c) :: news) → (∀ q ∈ news, q.1 < D) → (∀ b o, s.heap.get? b = some o → h'.get? b = some o) → Q (.ref D) { s with heap := h' }) (hsz : items.size ≤ sizeLine) :
    wpAny (model prog w) A (call (.type "list") [.ref l]) Q E s := by
  obtain ⟨o, ho, hc, n, hd⟩ := hl
  exact call_list_seq (hsz := hsz) l (.inl rfl) ho hc hd fun h' c' hk hD => h _ c' h' (F.keeps hk) (news_pushed F N hk hD rfl) (fun q hq => Heap.lt_size (N q hq).1) hk
theorem storeC_keep {M : Model} {a c : Addr} {cn : Str} {cs : Scope} {ccd : Value} {cl : List (Str × Addr)} {x : Str} {v : Value} {v₀ : Option Value} {o : Obj} {g : Obj → List (Addr × Obj)} {Q : Unit → Shared → Prop} (F : Fr h₀ L s.heap m) (N : News h₀ L s.heap news) (hc : cl.lookup x = some c) (U : UpdF c o news g) (hd : o.data = .cell v₀)
    (h : ∀ h' o', Fr h₀ L h' m → News h₀ L h' (g o') → o'.data = .cell (some v) → (∀ b o, b ≠ c → s.heap.get? b = some o → h'.get? b = some o) → Q () { s with heap := h' })
    (hk : cs.kind = .function := by rfl) (hx : (envX cn cs L a ccd cl).kindOf x = some .cell := by rfl) : wpAny M A (storeName (envX cn cs L a ccd cl) x v) Q E s := by
  obtain ⟨own, rest, rfl, hg, h1, h2⟩ := U.split
  have hm := N (c, o) (List.mem_append_right _ (.head _))
  refine wpAny_storeName_cell hk hx hc ⟨o, hm.1, hd⟩ fun h' hv hs => ?_
  obtain ⟨o', ho', hd'⟩ := hv
  exact h h' o' (F.change hs hm.2.1 hm.2.2) (hg o' ▸ N.setAt h1 h2 hs ho') hd' fun b ob hb e => hs.extBut b ob hb e
/-- a lambda made, its code new in the table -/
theorem lam_make {M : Model} {a c P : Addr} {cn : Str} {cs : Scope} {ccd : Value} {cl clos : List (Str × Addr)} {name qual : Str} {params : Arguments} {body : PySem.Expr} {scope : Scope} {ps : Array Value} {pos : Pos} {firstLine : Nat} {news' : Addr → List (Addr × Obj)} {Q : Value → Shared → Prop}
    (F : Fr h₀ L s.heap m) (N : News h₀ L s.heap news) (T : Top p loose mean mg mb h₀) (C : CodeHd h₀ c P) (hcd : ccd = .ref c) (U : ∀ c', Upd P (tabObj ps) (tabObj (ps ++ #[rawInt pos.line, rawInt pos.col, .ref c'])) news (news' c')) (ht : TriplesOk ps.toList) (hnf : codeAmong pos ps.toList = none)
    (hcl : closureFor scope (envX cn cs L a ccd cl) = pure clos)
    (h : ∀ f c' pm ctv h' tk, Fr h₀ L h' m → News h₀ L h' (news' c') → h'.get? f = some (kla_obj name qual params body scope clos pm c' ctv) → h'.CodeRec (.ref c') qual → s.heap.objs.size ≤ c' → s.heap.objs.size ≤ f → (∀ b o, b ≠ P → s.heap.get? b = some o → h'.get? b = some o) → Q (.ref f) { s with heap := h', toks := tk }) :
    wpAny M A (makeFunction name qual params (.expr body) scope (envX cn cs L a ccd cl) [] [] [] pos firstLine) Q E s := by
  have hm := N (P, tabObj ps) (updMem (U 0))
  have hg := T.g.keeps F.keep
  obtain ⟨bm, ob, b1, b2, b3, b4, b5, b6⟩ := T.bmain
  have n1 : mainGlobals ≠ P := fun q => by
    obtain ⟨o, es, ep, e, hd, _⟩ := hg
    rw [q, hm.1] at e; cases e; cases hd
  have n2 : bm ≠ P := fun q => by
    have e := F.keep _ _ b3
    rw [q, hm.1] at e; cases e; cases b4
  have n3 : bm ≠ mainGlobals := fun q => by
    obtain ⟨o, es, ep, e, hd, _⟩ := T.g
    rw [q, e] at b3; cases b3; rw [hd] at b6; cases b6
  refine kla_makeFunction (mg := mg) hcl rfl hg hcd (C.keeps F.keep) hm.1 ht hnf n1 ⟨bm, ob, b1, b2, n3, n2, F.keep _ _ b3, b4, b5, b6⟩ fun c' ctv h' tk hx hge hlt hrec htb => ?_
  obtain ⟨F1, N1⟩ := updExt F N (U c') hx htb
  obtain ⟨c₂, oc, vs, t, e2, hoc, hd, hv⟩ := hrec
  have hsz : s.heap.objs.size ≤ h'.objs.size := Nat.le_trans hge (Nat.le_of_lt hlt)
  exact h h'.objs.size c' _ ctv _ tk (F1.push _) (News.pushKeep N1 _) (Heap.get?_push_size _ rfl) ⟨c₂, oc, vs, t, e2, Heap.get?_push_of_some _ hoc, hd, hv⟩ hge hsz fun b o hb e => Heap.get?_push_of_some _ (hx b o hb e)
end
end
section
open PySem PySem.W PyProof.Rows PySem.Calls PySem.Builtin PySem.Builtin.List
set_option maxRecDepth 100000
theorem runP_facts : ∀ (f j : Nat) (i : Int) (qs rs : List Pc) (ds : List PyData), Small (qs ++ rs) → (∀ q ∈ qs ++ rs, Good q) → (0 ≤ i ∧ i ≤ 10) →
    Small ((runP f j i qs rs ds).2.2.1 ++ (runP f j i qs rs ds).2.2.2) ∧ (∀ q ∈ (runP f j i qs rs ds).2.2.1 ++ (runP f j i qs rs ds).2.2.2, Good q) ∧ (0 ≤ (runP f j i qs rs ds).2.1 ∧ (runP f j i qs rs ds).2.1 ≤ 10) := by
  intro f
  induction f with
  | zero => intro j i qs rs ds h1 h2 h3; exact ⟨h1, h2, h3⟩
  | succ f ih =>
    intro j i qs rs ds h1 h2 h3
    cases hq : qs[j]? with
    | none => rw [runP_end hq]; exact ⟨h1, h2, h3⟩
    | some q =>
      rw [runP_step hq]
      exact ih _ _ _ _ _ (deedP_small h1) (fun p hp => h2 p (List.mem_append.mpr (deedP_mem (List.mem_append.mp hp)))) (deedP_i h3)
theorem Small.left {qs rs : List Pc} (h : Small (qs ++ rs)) : Small qs := ⟨by have := h.1; rw [List.length_append] at this; omega, fun p hp => h.2 p (List.mem_append_left _ hp)⟩
end
section
open PySem PySem.W PyProof.Rows PySem.Calls PySem.Builtin PySem.Builtin.List
set_option maxRecDepth 100000
section
variable {prog : Program} {w : World} {A : Around} {E : Value → Shared → Prop} {s : Shared} {h₀ : Heap} {L x dx : Addr} {m : Str → Option Value} {news : List (Addr × Obj)} {K : Frag} {vs : Array Value} {n : Nat}
theorem accWalks (hh : A.handled = none) (I ax : Addr) (hne : ax ≠ I) (items : Array Value) :
    Walks prog w A I [I, ax] [I] items.size (fun i v => items[i]? = some v) (fun i h => h.IsListIter I ax i ∧ SeqAt h ax items) where
  sub := fun b hb => by simp at hb; simp [hb]
  frame := fun _ _ _ st hk => ⟨st.1.at fun o e => hk I (by walk_at "mine.fa") o e, st.2.at fun o e => hk ax (by walk_at "mine.fa") o e⟩
  item := fun i s Q E hi st hQ => by
    refine next_item st.1 st.2 (x := items[i]) (by simp [hi]) fun h' hit' hs' => ?_
    exact hQ _ h' s.toks (by simp [hi]) ⟨hit', st.2.at fun o e => hs'.extBut _ o hne e⟩ fun b o hb e => hs'.extBut b o (fun h => hb (by simp [h])) e
  done := fun s Q E st hQ => next_end hh st.1 st.2 (by walk_at "mine.fa") fun h' he' _ => hQ h' s.toks fun b o hb e => he' b o (fun h => hb (by simp [h])) e
  self := fun _ _ _ _ st hQ => wpAny_pyIter_listiter st.1 hQ
theorem paired_eq : ∀ {l₁ l₂ : List Value}, Paired (fun v y => y = v) l₁ l₂ → l₂ = l₁
  | _, _, .nil => rfl
  | _, _, .cons h t => by rw [h, paired_eq t]
theorem comp_acc {env : Env} {scope : Scope} {pos : Pos} {Q : Value → Shared → Prop} (hh : A.handled = none) (F : Fr h₀ L s.heap m) (X₀ : K.In h₀) (N : News h₀ L s.heap news) (hx : (x, accObj dx vs n) ∈ news) (hm : mroIn K 94 (.type "list") = some true) (hf : findIn K (.ref 94) "__iter__" = some (some (.builtin "list.__iter__")))
    (hk : scope.kind = .function) (hl : ∀ C, (compEnv scope C env).kindOf (Str.ofString "one") = some .local) (hsz : vs.size ≤ sizeLine)
    (h : ∀ D c h' tk, Fr h₀ L h' m → News h₀ L h' ((D, listOf vs c) :: news) → (∀ p ∈ news, @Ne Nat D p.1) → (∀ b o, s.heap.get? b = some o → h'.get? b = some o) → Q (.ref D) { s with heap := h', toks := tk }) :
    wpAny (model prog w) A (pyIter (.ref x)) (CompPost prog w A env scope (Str.ofString "one") [] (.Name (Str.ofString "one") pos) Q) E s := by
  have hX := (N _ hx).1
  have hxs := Heap.lt_size hX
  refine iter_acc (X₀.keeps F.keep) hX hm hf ?_
  refine ⟨fun _ => true, fun v y => y = v, s.heap.objs.size, [s.heap.objs.size, x], [s.heap.objs.size], vs.size, _, _, rfl, accWalks hh _ _ (Nat.ne_of_lt hxs) vs, hsz, ⟨⟨_, Heap.get?_push_size _ rfl, rfl, rfl⟩, ⟨_, n, Heap.get?_push_of_some _ hX, rfl⟩⟩, ?_, ⟨?_, ?_⟩, ?_⟩
  · intro b hb
    dsimp only
    rw [Heap.size_push]
    simp only [List.mem_cons, List.not_mem_nil, or_false] at hb
    rcases hb with rfl | rfl
    · exact Nat.lt_succ_self _
    · exact Nat.lt_succ_of_lt hxs
  · intros
    exact wpAny_pure ⟨rfl, _, _, rfl, fun _ _ e => e⟩
  · intro C i v s₃ m₃ E' _ _ hn hv
    intros
    exact name_loc hk (hl C) hn hv ⟨rfl, _, _, rfl, fun _ _ e => e⟩
  · intro D h' tk ys vs' hD hLi hPl hlen hat hpair hkeep
    have e1 : ys.toList = vs' := by
      have := paired_eq hpair
      rw [this, List.filter_eq_self.mpr (fun _ _ => rfl)]
    have e2 : vs' = vs.toList := by
      apply List.ext_getElem?
      intro j
      by_cases hj : j < vs'.length
      · have h1 := hat j vs'[j] (List.getElem?_eq_getElem hj)
        rw [List.getElem?_eq_getElem hj, Array.getElem?_toList, h1]
      · rw [List.getElem?_eq_none (by omega), List.getElem?_eq_none (by rw [Array.length_toList]; omega)]
    have e3 : ys = vs := Array.toList_inj.mp (e1.trans e2)
    subst e3
    obtain ⟨c, hc⟩ := hPl
    have k : ∀ b o, s.heap.get? b = some o → h'.get? b = some o := fun b o e => hkeep b o (fun z => Nat.lt_irrefl _ (List.mem_singleton.mp z ▸ Heap.lt_size e)) (Heap.get?_push_of_some _ e)
    have hD0 : s.heap.get? D = none := by
      cases q : s.heap.get? D with
      | none => rfl
      | some o =>
        have := Heap.get?_push_of_some (iterObj x 0) q
        have hD' : (s.heap.push (iterObj x 0)).get? D = none := hD
        rw [hD'] at this; cases this
    exact h D c h' tk (F.keeps k) (newsCons F (newsKeep N k) hD0 hc) (newNe N hD0) k
end
end
section
open PySem PySem.W PyProof.Rows PySem.Calls PySem.Builtin PySem.Builtin.List
set_option maxRecDepth 100000
theorem PcsAt.tups {h : Heap} {vs : List Value} {qs : List Pc} (x : PcsAt h vs qs) : ∃ tups : List (Addr × Obj), (∀ p ∈ tups, h.get? p.1 = some p.2 ∧ p.2.cls = .type "tuple") ∧
    ∀ j v, vs[j]? = some v → ∃ t ot tf tp n, v = .ref t ∧ (t, ot) ∈ tups ∧ ot.cls = .type "tuple" ∧ ot.data = .seq #[.str (qf qs j) tf, .str (qp qs j) tp] n := by
  induction x with
  | nil => exact ⟨[], ⟨fun _ h => (nomatch h), fun j v e => (by simp at e)⟩⟩
  | @cons v q vs qs a _ ih =>
    obtain ⟨tups, h1, h2⟩ := ih
    obtain ⟨t, tf, tp, rfl, o, ho, hc, n, hd⟩ := a
    refine ⟨(t, o) :: tups, fun p hp => ?_, fun j v e => ?_⟩
    · rcases List.mem_cons.mp hp with rfl | hp
      · exact ⟨ho, hc⟩
      · exact h1 p hp
    · cases j with
      | zero =>
        simp at e; subst e
        exact ⟨t, o, tf, tp, n, rfl, .head _, hc, by simpa [qf, qp] using hd⟩
      | succ j =>
        obtain ⟨t', ot, tf', tp', n', e1, e2, e3, e4⟩ := h2 j v (by simpa using e)
        exact ⟨t', ot, tf', tp', n', e1, .tail _ e2, e3, by simpa [qf, qp] using e4⟩
section
variable {prog : Program} {w : World} {A : Around} {E : Value → Shared → Prop} {s : Shared} {g : Heap} {L pa : Addr} {m : Str → Option Value} {vs : Array Value} {qs : List Pc} {env : Env} {scope : Scope}
theorem StrsAre.snoc' {vs : List Value} {ys : List Str} {y : Str} {t : Tok} (x : StrsAre vs ys) : StrsAre (vs ++ [.str y t]) (ys ++ [y]) := by
  induction x with
  | nil => exact .cons _ _ .nil
  | cons a b _ ih => exact .cons a b ih
theorem comp_rest {h₀ : Heap} {news : List (Addr × Obj)} {p1 p2 p3 : Pos} {S : List (Addr × Obj) → Prop} {Q : Value → Shared → Prop} (hS : S news) (hk : scope.kind = .function)
    (hk1 : ∀ C, (compEnvC scope [] C env).kindOf (Str.ofString "fws") = some .local) (hk2 : ∀ C, (compEnvC scope [] C env).kindOf (Str.ofString "part") = some .local) (hsm : Small qs) (hn : vs.size = qs.length)
    (ht : ∀ j v, vs[j]? = some v → ∃ t ot tf tp n, v = .ref t ∧ (t, ot) ∈ news ∧ ot.cls = .type "tuple" ∧ ot.data = .seq #[.str (qf qs j) tf, .str (qp qs j) tp] n)
    (hQ : ∀ ws D h' tk, StrsAre ws (qs.map pcTxt) → Fr h₀ L h' m → News h₀ L h' ((D, LCg.lst ws) :: news) → Q (.ref D) { s with heap := h', toks := tk }) :
    ∀ (k i : Nat) (ys : List Value), k + i = vs.size → StrsAre ys ((qs.take i).map pcTxt) →
      LCp.CompRestP prog w A h₀ L m env (.BinOp (.Name (Str.ofString "fws") p1) .Add (.Name (Str.ofString "part") p2) p3) (Str.ofString "fws") (Str.ofString "part") scope [] s S (fun i v => vs[i]? = some v) (LCg.FinE h₀ L m s Q) k i ys news := by
  intro k
  induction k with
  | zero =>
    intro i ys hki hys
    refine LCp.CompRestP.zero fun D h tk F N _ => ?_
    have : i = qs.length := by omega
    rw [this, List.take_length] at hys
    exact hQ ys D h tk hys F N
  | succ k ih =>
    intro i ys hki hys
    refine LCp.CompRestP.succ fun v hv => ?_
    obtain ⟨t, ot, tf, tp, n, rfl, e2, e3, e4⟩ := ht i v hv
    refine ⟨t, ot, _, _, n, rfl, e2, e3, e4, fun I oI C oC D m₂ h tk E' hC h1 h2 F N off ne => ?_⟩
    have hCn : h.Ns C m₂ := hC.ns (N (C, oC) (.tail _ (.head _))).1
    have hq : i < qs.length := by omega
    have hl := qf_len hsm i
    refine wpAny_BinOp (name_loc hk (hk1 C) hCn h1 (name_loc hk (hk2 C) hCn h2 ?_))
    refine PyProof.Rows.add_str (fun t' tk' => ?_) (by rw [sizeLine_eq]; omega)
    refine LCg.CompEnd.intro F N news (fun p hp => hp) off hS (ih (i + 1) _ (by omega) ?_)
    rw [List.take_add_one, List.map_append]
    have e : (qs[i]?.toList).map pcTxt = [qf qs i ++ qp qs i] := by
      rw [List.getElem?_eq_getElem hq]; simp [qf, qp, hq, pcTxt]
    rw [e]
    exact StrsAre.snoc' hys
theorem comp_txt {Q : Value → Shared → Prop} {p1 p2 p3 p4 p5 p6 tp pos : Pos} {kk : Nat} (hh : A.handled = none) (F : Fr g L s.heap m) (hl : g.IsList pa vs) (hp : PcsAt g vs.toList qs) (hsm : Small qs)
    (hclos : closureFor scope env = pure []) (hcell : ∀ y ∈ scope.names, y.2 ≠ .cell) (hk : scope.kind = .function) (hnames : ∀ y ∈ scope.names, y.2 = .local → scope.names.lookup y.1 = some .local) (hx : scope.names.lookup (Str.ofString "fws") = some .local) (hx₂ : scope.names.lookup (Str.ofString "part") = some .local)
    (hk1 : ∀ C, (compEnvC scope [] C env).kindOf (Str.ofString "fws") = some .local) (hk2 : ∀ C, (compEnvC scope [] C env).kindOf (Str.ofString "part") = some .local)
    (hit : ∀ Q' : Value → Shared → Prop, Q' (.ref pa) s → wpAny (model prog w) A (eval (.Name (Str.ofString "pieces") p6) env) Q' E s)
    (hQ : ∀ ws D h' tk, StrsAre ws (qs.map pcTxt) → Fr g L h' m → h'.get? D = some (LCg.lst ws) → Q (.ref D) { s with heap := h', toks := tk }) :
    wpAny (model prog w) A (eval (.ListComp (.BinOp (.Name (Str.ofString "fws") p1) .Add (.Name (Str.ofString "part") p2) p3) [⟨.Tuple [.Name (Str.ofString "fws") p4, .Name (Str.ofString "part") p5] kk tp, .Name (Str.ofString "pieces") p6, [], 0⟩] scope pos) env) Q E s := by
  obtain ⟨tups, t1, t2⟩ := hp.tups
  have hn : vs.size = qs.length := by have := hp.length; rwa [Array.length_toList] at this
  have F2 : Fr (hideAll g (tups.map (·.1))) L s.heap m := ⟨F.ns, fun b o e => F.keep b o (of_hideAll _ e), by rw [hideAll_size]; exact F.above⟩
  have hpL : ∀ p ∈ tups, p.1 ≠ L := fun p hp => Nat.ne_of_lt (Nat.lt_of_lt_of_le (Heap.lt_size (t1 p hp).1) F.above)
  have N2 : News (hideAll g (tups.map (·.1))) L s.heap tups := fun p hp => ⟨F.keep _ _ (t1 p hp).1, hpL p hp, hideAll_none _ (List.mem_map_of_mem hp)⟩
  have l2 : (hideAll g (tups.map (·.1))).IsList pa vs := by
    obtain ⟨o, e, hc, r⟩ := hl
    refine ⟨o, hideAll_get _ e (fun hm => ?_), hc, r⟩
    obtain ⟨p, hp, rfl⟩ := List.mem_map.mp hm
    have := t1 p hp
    rw [e] at this
    cases this.1
    rw [hc] at this; exact absurd this.2 (by decide)
  refine LCp.ListComp_P F2 hclos hcell hk hnames hx hx₂ (by decide) (hit _ ?_)
  refine LCp.SrcLP.base hh F2 N2 l2 (by rw [hn, sizeLine_eq]; have := hsm.1; omega) fun gg => ?_
  refine comp_rest (.inl l2) hk hk1 hk2 hsm hn (fun j v e => t2 j v (by simpa using e)) (fun ws D h' tk hws F3 N3 => ?_) vs.size 0 [] rfl .nil
  have F4 : Fr g L h' m := ⟨F3.ns, fun b o e => by
    by_cases hb : b ∈ tups.map (·.1)
    · obtain ⟨p, hp, rfl⟩ := List.mem_map.mp hb
      have := t1 p hp
      rw [e] at this; cases this.1
      exact (N3 p (.tail _ hp)).1
    · exact F3.keep b o (hideAll_get _ e hb), F.above⟩
  exact hQ ws D h' tk hws F4 (N3 _ (.head _)).1
end
end
section
open PySem PySem.W PyProof.Rows PySem.Calls
set_option maxRecDepth 100000 in
set_option maxHeartbeats 4000000 in
theorem text_spec {w : World} {dp un : Nat} {gd : Option (List Code)} {cn : Str} {cs : Scope} {a : Addr} {ccd : Value} {cl : List (Str × Addr)} {outer : List Env} {A₀ : Around} {base h₀ : Heap} {L : Addr} {m : Str → Option Value} {s : Shared}
   {loose : List Str} {mean : ExcName → Option Value} {mg mb : Str → Option Value} {p : Program} {Q E : Value → Shared → Prop} {pa : Addr} {vs : Array Value} {qs : List Pc}
   (B : Below A₀ base outer h₀) (F : Fr h₀ L s.heap m) (X : (Mine.hd.heap_39 w.params).In h₀) (T : Top p loose mean mg mb h₀) (hk : cs.kind = .function) (hd : dp + 40 < recursionLimit) (hu : un + 400 < cLine)
   (hpa : s.heap.IsList pa vs) (hp : PcsAt s.heap vs.toList qs) (hsm : Small qs) (hb : AllBare s.gens)
   (hQ : ∀ s' t', Post [] s s' → Q (.str (txt qs) t') s') :
   wpAny (model PySem.Challenge.rw_mq0119_01.row.prog w) (ktrTop dp un gd cn cs L a ccd cl outer) (call (.ref 131) [.ref pa]) Q E s := by
  have N : News h₀ L s.heap [] := fun p hp => nomatch hp
  revert X; k_fill; intro X
  k_dflt (refine' enterE (binds := [("pieces", .ref pa)]) ?k1 ?k2 ?k3 ?k4 ?k5 ?kA ?kF ?kK ?k6 ?k7 ?k8 ?k9 ?kB ?_ ?c2 ?c3 ?c4 ?c5; (case kA => exact rfl); (case kF => exact rfl); (case kK => assumption); (case k1 => k_asm); (case k2 => k_asm); (case k3 => k_asm); (case k4 => k_asm); (case k5 => k_asm); (case k6 => k_is); (case k7 => k_is); (case k8 => (simp only []; omega)); (case k9 => first | exact binds_K (by k_in) rfl (by k_is) rfl rfl rfl | exact BindsTo.of_eq rfl); (case c5 => decide); (case kB => exact locs rfl); (case c2 => exact rfl); (case c3 => exact rfl); (case c4 => exact rfl); k_whole)
  intro g' L' h' hg' hL' hlt' F' N' B' X' T'
  (try dsimp only); (try k_fold)
  have hg : ∀ b o, s.heap.get? b = some o → g'.get? b = some o := fun b o e => hg' b o (by walk_at "mine.fa") e
  have hpg : g'.IsList pa vs := hpa.at fun o e => hg _ o e
  have pg : PcsAt g' vs.toList qs := hp.mono fun b o _ e => hg b o e
  iterate 7 walk1
  refine comp_txt rfl F' hpg pg hsm rfl (by decide) rfl (by decide) rfl rfl (fun _ => rfl) (fun _ => rfl) (fun Q' h => ld F' rfl h) ?_
  intro ws D h₂ tk₂ hws F₂ hD₂
  clear F' N'
  walk1
  have hw : (ws.toArray).toList = ws := by simp
  refine join_list (items := ws.toArray) (ys := qs.map pcTxt) ⟨_, hD₂, rfl, _, rfl⟩ (by rw [hw]; exact hws) ?_ fun t' k' => ?_
  · have h1 := hsm.txt
    unfold txt at h1
    rw [cat_length] at h1
    have e0 : (Str.ofString "").length = 0 := by decide
    rw [e0]; omega
  rw [join_cat]
  exact hQ _ t' ⟨fun b o _ e => F₂.keep b o (hg b o e), rfl, hb, Nat.le_trans hL' (Nat.le_of_lt F₂.ns.lt)⟩
end
section
open PySem PySem.W PyProof.Rows PySem.Calls PySem.Builtin PySem.Builtin.List
set_option maxRecDepth 100000
theorem execs_app (env : Env) (l₂ : List Stmt) : ∀ l₁ : List Stmt, execs (l₁ ++ l₂) env = (execs l₁ env >>= fun f => match f with | .next => execs l₂ env | f => pure f)
  | [] => by
    rw [List.nil_append, arm_execs_nil]; rfl
  | a :: r => by
    rw [List.cons_append, arm_execs_cons, arm_execs_cons, bind_assoc]
    congr 1
    funext f
    cases f with
    | next => exact execs_app env l₂ r
    | _ => rfl
theorem execs_cut {M : Model} {A : Around} {env : Env} {a b c : Stmt} {rest : List Stmt} {Q : Flow → Shared → Prop} {E : Value → Shared → Prop} {s : Shared}
    (h : wpAny M A (execs [a, b, c] env) (fun f s' => match f with | .next => wpAny M A (execs rest env) Q E s' | f => Q f s') E s) : wpAny M A (execs (a :: b :: c :: rest) env) Q E s := by
  have e := execs_app env rest [a, b, c]
  rw [show [a, b, c] ++ rest = a :: b :: c :: rest from rfl] at e
  rw [e]
  refine wpAny_bind (wpAny_mono h (fun f s' hf => ?_) fun _ _ z => z)
  cases f with
  | next => exact hf
  | _ => exact wpAny_pure hf

theorem PcsAt.tl {h : Heap} {vs : List Value} {qs : List Pc} (x : PcsAt h vs qs) : ∃ tl : List (Addr × Obj), (∀ p ∈ tl, h.get? p.1 = some p.2 ∧ ∃ xs n, p.2.data = .seq xs n) ∧ ∀ h' : Heap, (∀ p ∈ tl, h'.get? p.1 = some p.2) → PcsAt h' vs qs := by
  induction x with
  | nil => exact ⟨[], ⟨fun _ h => (nomatch h), fun _ _ => .nil⟩⟩
  | @cons v q vs qs a _ ih =>
    obtain ⟨tl, h1, h2⟩ := ih
    obtain ⟨t, tf, tp, rfl, o, ho, hc, n, hd⟩ := a
    refine ⟨(t, o) :: tl, ⟨fun p hp => ?_, fun h' hk => .cons ⟨t, tf, tp, rfl, o, hk _ (.head _), hc, n, hd⟩ (h2 h' fun p hp => hk p (.tail _ hp))⟩⟩
    rcases List.mem_cons.mp hp with rfl | hp
    · exact ⟨ho, _, n, hd⟩
    · exact h1 p hp
mutual
noncomputable def flatD : PyData → Bool
  | .list xs => flatAll xs
  | .tuple xs => flatAll xs
  | .dict _ => false
  | _ => true
noncomputable def flatAll : List PyData → Bool
  | [] => true
  | d :: ds => flatD d && flatAll ds
end
noncomputable def HasTl (h : Heap) (P : Heap → Prop) : Prop := ∃ tl : List (Addr × Obj), (∀ p ∈ tl, h.get? p.1 = some p.2 ∧ ∃ xs n, p.2.data = .seq xs n) ∧ ∀ h' : Heap, (∀ p ∈ tl, h'.get? p.1 = some p.2) → P h'
theorem HasTl.nil {h : Heap} {P : Heap → Prop} (x : ∀ h', P h') : HasTl h P := ⟨[], ⟨fun _ h => (nomatch h), fun h' _ => x h'⟩⟩
theorem HasTl.cons {h : Heap} {P R : Heap → Prop} {a : Addr} {o : Obj} {vs : Array Value} {n : Nat} (h1 : h.get? a = some o) (h3 : o.data = .seq vs n) (x : HasTl h P) (k : ∀ h', h'.get? a = some o → P h' → R h') : HasTl h R := by
  obtain ⟨tl, t1, t2⟩ := x
  refine ⟨(a, o) :: tl, ⟨fun p hp => ?_, fun h' hk => k h' (hk _ (.head _)) (t2 h' fun p hp => hk p (.tail _ hp))⟩⟩
  rcases List.mem_cons.mp hp with rfl | hp
  · exact ⟨h1, _, _, h3⟩
  · exact t1 p hp
theorem HasTl.both {h : Heap} {P R S : Heap → Prop} (x : HasTl h P) (y : HasTl h R) (k : ∀ h', P h' → R h' → S h') : HasTl h S := by
  obtain ⟨ta, a1, a2⟩ := x
  obtain ⟨tb, b1, b2⟩ := y
  exact ⟨ta ++ tb, ⟨fun p hp => (List.mem_append.mp hp).elim (a1 p) (b1 p), fun h' hk => k h' (a2 h' fun p hp => hk p (List.mem_append_left _ hp)) (b2 h' fun p hp => hk p (List.mem_append_right _ hp))⟩⟩
theorem readsTl {h : Heap} {v : Value} {d : PyData} {as : List Addr} (f : flatD d = true) (r : Reads h v d as) : ∃ tl : List (Addr × Obj), (∀ p ∈ tl, h.get? p.1 = some p.2 ∧ ∃ xs n, p.2.data = .seq xs n) ∧ ∀ h' : Heap, (∀ p ∈ tl, h'.get? p.1 = some p.2) → Reads h' v d as := by
  refine Reads.rec (motive_1 := fun v d as _ => flatD d = true → HasTl h fun h' => Reads h' v d as) (motive_2 := fun vs ds as _ => flatAll ds = true → HasTl h fun h' => ReadsAll h' vs ds as) ?n ?b ?i ?s ?l ?t ?d ?e ?c r f
  · exact fun _ => .nil fun _ => .none
  · exact fun b _ => .nil fun _ => .bool b
  · exact fun i t _ => .nil fun _ => .int i t
  · exact fun x t _ => .nil fun _ => .str x t
  · exact fun h1 h2 h3 _ ih f => .cons h1 h3 (ih f) fun h' e y => .list e h2 h3 y
  · exact fun h1 h2 h3 _ ih f => .cons h1 h3 (ih f) fun h' e y => .tuple e h2 h3 y
  · exact fun _ _ _ _ _ _ _ f => Bool.noConfusion f
  · exact fun _ => .nil fun _ => .nil
  · exact fun _ _ i1 i2 f => .both (i1 (Bool.and_eq_true_iff.1 f).1) (i2 (Bool.and_eq_true_iff.1 f).2) fun h' y z => .cons y z
theorem keepTl {g h : Heap} {L : Addr} {m : Str → Option Value} {tl : List (Addr × Obj)} (F : Fr g L h m) (t : ∀ p ∈ tl, h.get? p.1 = some p.2 ∧ ∃ xs n, p.2.data = .seq xs n) :
    ∃ tl', News g L h tl' ∧ ∀ h' m', Fr g L h' m' → News g L h' tl' → ∀ p ∈ tl, h'.get? p.1 = some p.2 := by
  refine ⟨tl.filter fun p => (g.get? p.1).isNone, fun p hp => ?_, fun h' m' F' N' p hp => ?_⟩
  · have hp := List.mem_filter.mp hp
    obtain ⟨h1, xs, n, h2⟩ := t p hp.1
    exact ⟨h1, nsNe F.ns h2 h1, by simpa using hp.2⟩
  · cases e : g.get? p.1 with
    | none => exact (N' p (List.mem_filter.mpr ⟨hp, by simp [e]⟩)).1
    | some o =>
      have h1 := F.keep _ _ e
      rw [(t p hp).1] at h1; cases h1
      exact F'.keep _ _ e
theorem flat_pcs : ∀ qs : List Pc, flatAll (pcsD qs) = true
  | [] => rfl
  | q :: qs => by
    show (flatD (pcD q) && flatAll (pcsD qs)) = true
    rw [flat_pcs qs]; rfl
theorem flat_note (q : Pc) (gave : List Pc) (i : Int) (qs : List Pc) : flatD (noteD q gave i qs) = true := by
  simp [noteD, flatD, flatAll, flat_pcs, pcD]
theorem flat_snoc : ∀ (ds : List PyData) (d : PyData), flatAll ds = true → flatD d = true → flatAll (ds ++ [d]) = true
  | [], d, _, h => by simp [flatAll, h]
  | e :: ds, d, h, h' => by
    have f' : flatD e = true ∧ flatAll ds = true := by simpa [flatAll] using h
    simp [flatAll, f'.1, flat_snoc ds d f'.2 h']
end
section
open PySem PySem.W PyProof.Rows PySem.Calls PySem.Builtin PySem.Builtin.List
set_option maxRecDepth 100000
theorem good_ok {q : Pc} (h : Good q) : PyData.strOk q.1 = true ∧ PyData.strOk q.2 = true := by
  obtain ⟨h1, h2⟩ := h
  simp only [blanksL, wordsL, List.mem_cons, List.not_mem_nil, or_false] at h1 h2
  constructor
  · rcases h1 with e | e | e | e <;> (rw [e]; decide +kernel)
  · rcases h2 with e | e | e | e | e | e <;> (rw [e]; decide +kernel)
theorem pcs_lay : ∀ qs : List Pc, (∀ q ∈ qs, Good q) → PyData.canLayAll0 (pcsD qs) = true ∧ PyData.depthAll (pcsD qs) ≤ 3
  | [], _ => ⟨rfl, by decide⟩
  | q :: qs, h => by
    obtain ⟨h1, h2⟩ := pcs_lay qs fun p hp => h p (.tail _ hp)
    obtain ⟨g1, g2⟩ := good_ok (h q (.head _))
    show PyData.canLayAll0 (pcD q :: pcsD qs) = true ∧ PyData.depthAll (pcD q :: pcsD qs) ≤ 3
    simp only [PyData.canLayAll0, PyData.depthAll, pcD, PyData.canLay0, PyData.depth, h1, g1, g2, Bool.and_self, true_and]
    omega
theorem shaped_pcs {qs : List Pc} (h : ∀ q ∈ qs, Good q) : PySem.SeqAt.shaped (.list (pcsD qs)) = true := by
  obtain ⟨h1, h2⟩ := pcs_lay qs h
  simp only [PySem.SeqAt.shaped, PyData.canLay0, PyData.depth, h1, Bool.true_and]
  exact decide_eq_true (by omega)
section
variable {prog : Program} {w : World} {A : Around} {E : Value → Shared → Prop} {s : Shared} {h₀ : Heap} {L l : Addr} {news : List (Addr × Obj)} {vs : Array Value} {n : Nat}
theorem item_at {value slice : PySem.Expr} {k : Int} {u : Tok} {v : Value} {Q : Value → Shared → Prop} (N : News h₀ L s.heap news) (hm : (l, listOf vs n) ∈ news) (h0 : 0 ≤ k) (hhi : k < 1000000) (hx : vs[k.toNat]? = some v) (h : Q v s)
    (hs : subscripted slice false (.ref l) (.int k u) = operate [.ref l, .int k u] (getItem (.ref l) (.int k u))) :
    wpAny (model prog w) A (subscriptTail value slice (.ref l) (.int k u)) Q E s :=
  have hl : s.heap.IsList l vs := ⟨_, (N _ hm).1, rfl, n, rfl⟩
  tail_any hl.typeIs slot_list_getitem.lookup (wpAny_getItem_list hl h0 (by omega) hx h) hs
theorem in2 {a b q : Str} {ta tb tq : Tok} (r : Bool) {Q : Value → Shared → Prop} (N : News h₀ L s.heap news) (hm : (l, listOf #[.str a ta, .str b tb] 0) ∈ news) (h1 : PyData.strOk a = true) (h2 : PyData.strOk b = true) (h3 : PyData.strOk q = true) (hu : A.units + 64 < cLine) (hr : (a == q || b == q) = r) (h : Q (.bool r) s) :
    wpAny (model prog w) A (compareOp .In (.str q tq) (.ref l)) Q E s := by
  refine PySem.SeqAt.in_list_reads (xs := [.str a, .str b]) (d := .str q) (.list (N _ hm).1 rfl rfl (.cons (.str _ _) (.cons (.str _ _) .nil))) (.str _ _) (by simp [PyData.canLayAll0, PyData.canLay0, h1, h2]) (by simp [PyData.canLay0, h3]) (by simp only [PyData.depthAll, PyData.depth]; omega) ?_
  have e : ([PyData.str a, PyData.str b].any fun y => PyData.eqv y (.str q)) = r := by
    rw [← hr]; simp [PyData.eqv]
  rw [e]; exact h
theorem slice_from {value slice : PySem.Expr} {vs : Array Value} {n : Nat} {i : Int} {ti : Tok} {m : Str → Option Value} {Q : Value → Shared → Prop} (F : Fr h₀ L s.heap m) (N : News h₀ L s.heap news) (hm : (l, listOf vs n) ∈ news)
    (h : ∀ D h', Fr h₀ L h' m → News h₀ L h' ((D, listOf (vs.toList.drop (cut i vs.size)).toArray 0) :: news) → (∀ p ∈ news, p.1 < D) → Q (.ref D) { s with heap := h' })
    (hs : subscripted slice false (.ref l) (.ref s.heap.objs.size) = operate [.ref s.heap.objs.size, .ref l] (getItem (.ref l) (.ref s.heap.objs.size))) (ht : ∀ r, letTemporaryGo value (.ref l) r = pure ()) (hz : vs.size ≤ sizeLine) :
    wpAny (model prog w) A (subscriptTail value slice (.ref l) (.ref s.heap.objs.size)) Q E { s with heap := s.heap.push { cls := .type "slice", data := .fields #[.int i ti, .none, .none] } } := by
  refine kmk_slice F N ⟨_, (N _ hm).1, rfl, n, rfl⟩ (.int i ti) .none (fun D h' F' N' l1 => h D h' F' ?_ l1) hs ht hz
  rwa [pick_from] at N'
end
end
section
open PySem PySem.W PyProof.Rows PySem.Calls PySem.Builtin PySem.Builtin.Str
theorem tw_self {p : Nat → Bool} : ∀ {l : List Nat}, l.takeWhile p = l ↔ ∀ c ∈ l, p c = true
  | [] => by simp
  | c :: l => by
    have ih := tw_self (p := p) (l := l)
    rw [List.takeWhile_cons]
    by_cases h : p c = true
    · rw [if_pos h]; simp [h, ih]
    · rw [if_neg h]; simp [h]
theorem tw_all {p : Nat → Bool} {c : Nat} : ∀ {l : List Nat}, c ∈ l.takeWhile p → p c = true
  | [], h => by simp at h
  | d :: l, h => by
    rw [List.takeWhile_cons] at h
    split at h
    · rcases List.mem_cons.mp h with e | h
      · subst e; assumption
      · exact tw_all h
    · cases h
theorem strip_nil_iff (x : Str) : (Txt.strip x == Str.ofString "") = (if x.length = 0 then true else Txt.isspace x) := by
  have he : ∀ y : Str, (y == Str.ofString "") = true ↔ y.length = 0 := by
    intro y
    obtain ⟨a⟩ := y
    rw [beq_iff_eq]
    constructor
    · intro e; rw [e]; rfl
    · intro e
      have ha : a = #[] := Array.eq_empty_of_size_eq_zero e
      subst ha
      rfl
  obtain ⟨⟨l⟩⟩ := x
  have hL : (Str.mk ⟨l⟩).length = l.length := rfl
  have hS : ∀ a b : Nat, (strSub (Str.mk ⟨l⟩) a b).length = min b l.length - a := by
    intro a b
    simp [strSub, Str.length]
    exact Nat.sub_min_sub_right ..
  have hlo : stripLo Unicode.isSpace true (Str.mk ⟨l⟩) = (l.takeWhile Unicode.isSpace).length := by simp [stripLo]
  have hhi : ∀ lo, stripHi Unicode.isSpace true (Str.mk ⟨l⟩) lo = l.length - ((l.drop lo).reverse.takeWhile Unicode.isSpace).length := by intro lo; simp [stripHi, Str.length]
  have key : (Txt.strip (Str.mk ⟨l⟩)).length = 0 ↔ l.all Unicode.isSpace = true := by
    unfold Txt.strip Txt.stripBy
    by_cases ha : l.all Unicode.isSpace = true
    · have ht : l.takeWhile Unicode.isSpace = l := by
        rw [tw_self]
        simpa using ha
      have h1 : (l.takeWhile Unicode.isSpace).length = l.length := by rw [ht]
      refine ⟨fun _ => ha, fun _ => ?_⟩
      split
      · rename_i h
        simp only [stripSame, hlo, h1, Bool.and_eq_true, beq_iff_eq] at h
        rw [hL]; exact h.1
      · unfold PySem.stripped
        rw [hS, hlo, h1]; omega
    · refine ⟨fun h => absurd h ?_, fun h => absurd h ha⟩
      have hlt : (l.takeWhile Unicode.isSpace).length < l.length := by
        have h1 := (List.takeWhile_sublist (p := Unicode.isSpace) (l := l)).length_le
        rcases Nat.lt_or_eq_of_le h1 with h2 | h2
        · exact h2
        · refine absurd ?_ ha
          have h3 := (List.takeWhile_sublist (p := Unicode.isSpace) (l := l)).eq_of_length h2
          rw [tw_self] at h3
          simpa using h3
      have hne : ¬ (l.drop (l.takeWhile Unicode.isSpace).length).reverse.all Unicode.isSpace = true := by
        intro h
        apply ha
        have e : l.dropWhile Unicode.isSpace = l.drop (l.takeWhile Unicode.isSpace).length := by
          have h4 := List.takeWhile_append_dropWhile (p := Unicode.isSpace) (l := l)
          conv => rhs; arg 2; rw [← h4]
          rw [List.drop_left]
        rw [List.all_reverse, ← e] at h
        rw [← List.takeWhile_append_dropWhile (p := Unicode.isSpace) (l := l), List.all_append, h, Bool.and_true]
        rw [List.all_eq_true]
        intro c hc
        exact tw_all hc
      have hlt2 : ((l.drop (l.takeWhile Unicode.isSpace).length).reverse.takeWhile Unicode.isSpace).length < l.length - (l.takeWhile Unicode.isSpace).length := by
        generalize hk : l.drop (l.takeWhile Unicode.isSpace).length = k at hne
        have hkl : k.reverse.length = l.length - (l.takeWhile Unicode.isSpace).length := by rw [← hk]; simp
        have h1 := (List.takeWhile_sublist (p := Unicode.isSpace) (l := k.reverse)).length_le
        rcases Nat.lt_or_eq_of_le h1 with h2 | h2
        · omega
        · refine absurd ?_ hne
          have h3 := (List.takeWhile_sublist (p := Unicode.isSpace) (l := k.reverse)).eq_of_length h2
          rw [tw_self] at h3
          rw [List.all_eq_true]; exact h3
      split
      · rw [hL]; omega
      · unfold PySem.stripped
        rw [hS, hlo, hhi]; omega
  rw [Bool.eq_iff_iff, he, key]
  show _ ↔ (if l.length = 0 then true else Txt.isspace (Str.mk ⟨l⟩)) = true
  cases l with
  | nil => simp
  | cons c l => simp [Txt.isspace, Str.length]
end
section
open PySem PySem.W PyProof.Rows PySem.Calls PySem.Builtin PySem.Builtin.Str
set_option maxRecDepth 100000
noncomputable def pick4 (f : Str) (a b c d : Int) : Int := if f = Str.ofString "" then a else if f = Str.ofString " " then b else if f = Str.ofString "\t" then c else d
section
variable {prog : Program} {w : World} {A : Around} {E : Value → Shared → Prop} {s : Shared} {h₀ : Heap} {L d : Addr} {news : List (Addr × Obj)} {o : Obj}
theorem dict4 {value slice : PySem.Expr} {f : Str} {tf t0 t1 t2 t3 : Tok} {a b c e : Int} {kvs : List (Str × Value)} {Q : Value → Shared → Prop} (N : News h₀ L s.heap news) (hp : (d, o) ∈ news) (hd : o.IsDictOf (strKind prog w) kvs)
    (hk : kvs = [(Str.ofString "", .int a t0), (Str.ofString " ", .int b t1), (Str.ofString "\t", .int c t2), (Str.ofString "  ", .int e t3)]) (hf : f ∈ blanksL) (h : ∀ t k, Q (.int (pick4 f a b c e) t) { s with toks := k })
    (hs : subscripted slice false (.ref d) (.str f tf) = operate [.ref d, .str f tf] (getItem (.ref d) (.str f tf)) := by with_unfolding_all rfl) : wpAny (model prog w) A (subscriptTail value slice (.ref d) (.str f tf)) Q E s := by
  subst hk
  refine kdt_tail N hp hd ?_ hs
  simp only [blanksL, List.mem_cons, List.not_mem_nil, or_false] at hf
  rcases hf with rfl | rfl | rfl | rfl
  · exact kdt_getItem N hp hd (strKind_is _ _ _ _) (by rfl) (h t0 _)
  · exact kdt_getItem N hp hd (strKind_is _ _ _ _) (by rfl) (h t1 _)
  · exact kdt_getItem N hp hd (strKind_is _ _ _ _) (by rfl) (h t2 _)
  · exact kdt_getItem N hp hd (strKind_is _ _ _ _) (by rfl) (h t3 _)
end
end
section
open PySem PySem.W PyProof.Rows PySem.Calls
set_option maxHeartbeats 4000000 in
theorem disp4 {prog : Program} {w : World} {A : Around} {E : Value → Shared → Prop} {s : Shared} {h₀ : Heap} {L : Addr} {m : Str → Option Value} {news : List (Addr × Obj)} {p : Program} {loose : List Str} {mean : ExcName → Option Value} {mg mb : Str → Option Value} {env : Env} {a b c e : Int} {p0 p1 p2 p3 q0 q1 q2 q3 pos : Pos} {Q : Value → Shared → Prop}
    (F : Fr h₀ L s.heap m) (N : News h₀ L s.heap news) (T : Top p loose mean mg mb h₀)
    (h : ∀ D o h' t0 t1 t2 t3 k, Fr h₀ L h' m → News h₀ L h' ((D, o) :: news) → (∀ p ∈ news, p.1 < D) → o.IsDictOf (PySem.strKind prog w) [(Str.ofString "", .int a t0), (Str.ofString " ", .int b t1), (Str.ofString "\t", .int c t2), (Str.ofString "  ", .int e t3)] → Q (.ref D) { s with heap := h', toks := k }) :
    wpAny (model prog w) A (eval (.Dict [some (.Constant (.str (Str.ofString "")) 0 p0), some (.Constant (.str (Str.ofString " ")) 0 p1), some (.Constant (.str (Str.ofString "\t")) 0 p2), some (.Constant (.str (Str.ofString "  ")) 0 p3)] [.Constant (.int a) 0 q0, .Constant (.int b) 0 q1, .Constant (.int c) 0 q2, .Constant (.int e) 0 q3] pos) env) Q E s := by
  obtain ⟨hh, g, d, t, os⟩ := s
  dsimp only at F N h
  refine Dict_made_str rfl F rfl rfl (List.cons_ne_nil _ _) (Nat.le_of_ble_eq_true rfl) fun F1 => ?_
  iterate 12 walk1
  refine wpAny_pure ?_
  dsimp only
  exact kdp_made_str F N T.nolimit rfl (show ([Str.ofString "", Str.ofString " ", Str.ofString "\t", Str.ofString "  "] : List Str).Nodup from by decide +kernel) rfl fun h' o F' N' l1 lo hd hf ap => h _ _ h' _ _ _ _ _ F' N' l1 hd
end
section
open PySem PySem.W PyProof.Rows PySem.Calls
set_option maxRecDepth 100000
theorem strOk_append {a b : Str} (ha : PyData.strOk a = true) (hb : PyData.strOk b = true) : PyData.strOk (a ++ b) = true := by
  obtain ⟨a⟩ := a; obtain ⟨b⟩ := b
  unfold PyData.strOk at ha hb ⊢
  show Array.all (a ++ b) _ = true
  rw [Array.all_append, ha, hb]; rfl
theorem strOk_cat : ∀ l : List Str, (∀ x ∈ l, PyData.strOk x = true) → PyData.strOk (cat l) = true
  | [], _ => by decide +kernel
  | x :: r, h => strOk_append (h x (.head _)) (strOk_cat r fun y hy => h y (.tail _ hy))
theorem strOk_txt {qs : List Pc} (h : ∀ q ∈ qs, Good q) : PyData.strOk (txt qs) = true := by
  refine strOk_cat _ fun x hx => ?_
  obtain ⟨q, hq, rfl⟩ := List.mem_map.mp hx
  exact strOk_append (good_ok (h q hq)).1 (good_ok (h q hq)).2
/-- may be laid, and is not deep -/
noncomputable def Lay (n : Nat) (d : PyData) : Prop := d.canLay0 = true ∧ d.depth ≤ n
theorem layAll {n : Nat} : ∀ ds : List PyData, (∀ d ∈ ds, Lay n d) → PyData.canLayAll0 ds = true ∧ PyData.depthAll ds ≤ n
  | [], _ => ⟨rfl, Nat.zero_le _⟩
  | d :: ds, h => by
    obtain ⟨h1, h2⟩ := h d (.head _)
    obtain ⟨h3, h4⟩ := layAll ds fun e he => h e (.tail _ he)
    simp only [PyData.canLayAll0, PyData.depthAll, h1, h3, Bool.and_self, true_and]
    omega
theorem Lay.list {n : Nat} {ds : List PyData} (h : ∀ d ∈ ds, Lay n d) : Lay (n + 1) (.list ds) := by
  obtain ⟨h1, h2⟩ := layAll ds h
  exact ⟨by simpa only [PyData.canLay0] using h1, by simp only [PyData.depth]; omega⟩
theorem Lay.tuple {n : Nat} {ds : List PyData} (h : ∀ d ∈ ds, Lay n d) : Lay (n + 1) (.tuple ds) := by
  obtain ⟨h1, h2⟩ := layAll ds h
  exact ⟨by simpa only [PyData.canLay0] using h1, by simp only [PyData.depth]; omega⟩
theorem Lay.mono {n k : Nat} {d : PyData} (h : Lay n d) (hk : n ≤ k) : Lay k d := ⟨h.1, Nat.le_trans h.2 hk⟩
theorem Lay.int {n : Nat} (i : Int) : Lay n (.int i) := ⟨rfl, Nat.zero_le _⟩
theorem Lay.bool {n : Nat} (b : Bool) : Lay n (.bool b) := ⟨rfl, Nat.zero_le _⟩
theorem Lay.str {n : Nat} {x : Str} (h : PyData.strOk x = true) : Lay n (.str x) := ⟨by simpa only [PyData.canLay0] using h, Nat.zero_le _⟩
theorem lay_pc {q : Pc} (h : Good q) : Lay 1 (pcD q) := Lay.tuple (n := 0) fun d hd => by
  simp only [List.mem_cons, List.not_mem_nil, or_false] at hd
  rcases hd with rfl | rfl
  · exact .str (good_ok h).1
  · exact .str (good_ok h).2
theorem lay_pcs {qs : List Pc} (h : ∀ q ∈ qs, Good q) : Lay 2 (.list (pcsD qs)) := Lay.list fun d hd => by
  obtain ⟨q, hq, rfl⟩ := List.mem_map.mp hd
  exact lay_pc (h q hq)
theorem lay_note {q : Pc} {gave qs : List Pc} {i : Int} (h : Good q) (hg : ∀ p ∈ gave, Good p) (hq : ∀ p ∈ qs, Good p) : Lay 3 (noteD q gave i qs) := Lay.tuple fun d hd => by
  simp only [List.mem_cons, List.not_mem_nil, or_false] at hd
  rcases hd with rfl | rfl | rfl | rfl | rfl | rfl
  · exact (lay_pc h).mono (by decide)
  · exact lay_pcs hg
  · exact .int _
  · exact .int _
  · exact .bool _
  · exact .str (strOk_txt hq)
theorem deedP_gave {q p : Pc} {i : Int} {qs rs : List Pc} (h : p ∈ (deedP q i qs rs).1) : p ∈ qs := by
  unfold deedP at h
  repeat' split at h
  all_goals (dsimp only at h)
  · cases h
  · exact List.mem_of_mem_drop h
  · exact List.mem_of_mem_drop h
  · cases h
  · cases h
theorem lay_rec {q : Pc} {i : Int} {qs rs : List Pc} (h : Good q) (hg : ∀ p ∈ qs ++ rs, Good p) : Lay 3 (recD q i qs rs) :=
  lay_note h (fun p hp => hg p (List.mem_append_left _ (deedP_gave hp))) fun p hp => hg p (List.mem_append.mpr (deedP_mem (.inl hp)))
theorem lay_run : ∀ (f j : Nat) (i : Int) (qs rs : List Pc) (ds : List PyData), (∀ q ∈ qs ++ rs, Good q) → (∀ d ∈ ds, Lay 3 d) → ∀ d ∈ (runP f j i qs rs ds).1, Lay 3 d := by
  intro f
  induction f with
  | zero => intro j i qs rs ds h1 h2; exact h2
  | succ f ih =>
    intro j i qs rs ds h1 h2
    cases hq : qs[j]? with
    | none => rw [runP_end hq]; exact h2
    | some q =>
      rw [runP_step hq]
      refine ih _ _ _ _ _ (fun p hp => h1 p (List.mem_append.mpr (deedP_mem (List.mem_append.mp hp)))) fun d hd => ?_
      rcases List.mem_append.mp hd with hd | hd
      · exact h2 d hd
      · rw [List.mem_singleton.mp hd]
        exact lay_rec (h1 q (List.mem_append_left _ (List.mem_of_getElem? hq))) h1
/-- what both sides give back -/
noncomputable def outD (R : List PyData × Int × List Pc × List Pc) : PyData := .list [.tuple R.1, .int (R.2.1 + (txt R.2.2.1).length), .list (pcsD R.2.2.1), .list (pcsD R.2.2.2)]
theorem lay_out {R : List PyData × Int × List Pc × List Pc} (h : ∀ d ∈ R.1, Lay 3 d) (hg : ∀ q ∈ R.2.2.1 ++ R.2.2.2, Good q) : SeqAt.shaped (outD R) = true := by
  have := Lay.list (n := 4) (ds := [.tuple R.1, .int (R.2.1 + (txt R.2.2.1).length), .list (pcsD R.2.2.1), .list (pcsD R.2.2.2)]) fun d hd => by
    simp only [List.mem_cons, List.not_mem_nil, or_false] at hd
    rcases hd with rfl | rfl | rfl | rfl
    · exact Lay.tuple h
    · exact .int _
    · exact (lay_pcs fun q hq => hg q (List.mem_append_left _ hq)).mono (by decide)
    · exact (lay_pcs fun q hq => hg q (List.mem_append_right _ hq)).mono (by decide)
  simp only [SeqAt.shaped, outD, this.1, Bool.true_and]
  exact decide_eq_true (Nat.le_trans this.2 (by decide))
mutual
theorem eqv_refl : ∀ d : PyData, d.canLay0 = true → PyData.eqv d d = true
  | .none, _ => by simp only [PyData.eqv]
  | .bool _, _ => by simp only [PyData.eqv, beq_self_eq_true]
  | .int _, _ => by simp only [PyData.eqv, beq_self_eq_true]
  | .str _, _ => by simp only [PyData.eqv, beq_self_eq_true]
  | .list xs, h => by simp only [PyData.eqv]; exact eqvAll_refl xs (by simpa only [PyData.canLay0] using h)
  | .tuple xs, h => by simp only [PyData.eqv]; exact eqvAll_refl xs (by simpa only [PyData.canLay0] using h)
  | .dict _, h => by simp [PyData.canLay0] at h
theorem eqvAll_refl : ∀ xs : List PyData, PyData.canLayAll0 xs = true → PyData.eqvAll xs xs = true
  | [], _ => by simp only [PyData.eqvAll]
  | x :: xs, h => by
    have h' : x.canLay0 = true ∧ PyData.canLayAll0 xs = true := by simpa only [PyData.canLayAll0, Bool.and_eq_true] using h
    simp only [PyData.eqvAll, eqv_refl x h'.1, eqvAll_refl xs h'.2, Bool.and_self]
end
theorem flat_run : ∀ (f j : Nat) (i : Int) (qs rs : List Pc) (ds : List PyData), flatAll ds = true → flatAll (runP f j i qs rs ds).1 = true := by
  intro f
  induction f with
  | zero => intro j i qs rs ds h; exact h
  | succ f ih =>
    intro j i qs rs ds h
    cases hq : qs[j]? with
    | none => rw [runP_end hq]; exact h
    | some q => rw [runP_step hq]; exact ih _ _ _ _ _ (flat_snoc _ _ h (flat_note _ _ _ _))
theorem flat_out {R : List PyData × Int × List Pc × List Pc} (h : flatAll R.1 = true) : flatD (outD R) = true := by
  simp [outD, flatD, flatAll, h, flat_pcs]
end
section
open PySem PySem.W PyProof.Rows PySem.Calls
theorem absent {h g : Heap} {D : Addr} (k : ∀ b o, h.get? b = some o → g.get? b = some o) (e : g.get? D = none) : h.get? D = none := by
  cases q : h.get? D with
  | none => rfl
  | some o => have := k _ _ q; rw [e] at this; cases this
theorem item_menu {prog : Program} {w : World} {A : Around} {E : Value → Shared → Prop} {s : Shared} {h₀ : Heap} {L l : Addr} {news : List (Addr × Obj)} {vs : Array Value} {n : Nat} {value slice : PySem.Expr} {k : Int} {u : Tok} {Q : Value → Shared → Prop} (xs : List Str)
    (N : News h₀ L s.heap news) (hm : (l, listOf vs n) ∈ news) (hx : ∀ v ∈ vs.toList, ∃ x t, v = .str x t ∧ x ∈ xs) (h0 : 0 ≤ k) (hk : k < vs.size) (hb : vs.size < 1000000) (h : ∀ x t, x ∈ xs → Q (.str x t) s)
    (hs : subscripted slice false (.ref l) (.int k u) = operate [.ref l, .int k u] (getItem (.ref l) (.int k u)) := by with_unfolding_all rfl) :
    wpAny (model prog w) A (subscriptTail value slice (.ref l) (.int k u)) Q E s := by
  have hj : k.toNat < vs.size := by omega
  obtain ⟨x, t, e, hxx⟩ := hx vs[k.toNat] (Array.getElem_mem_toList hj)
  exact item_at (v := .str x t) N hm h0 (by omega) (by rw [Array.getElem?_eq_getElem hj, e]) (h x t hxx) hs
set_option maxRecDepth 100000 in
set_option maxHeartbeats 4000000 in
theorem piece_spec {w : World} {dp un : Nat} {gd : Option (List Code)} {cn : Str} {cs : Scope} {a : Addr} {ccd : Value} {cl : List (Str × Addr)} {outer : List Env} {A₀ : Around} {base h₀ : Heap} {L : Addr} {m : Str → Option Value} {s : Shared}
   {loose : List Str} {mean : ExcName → Option Value} {mg mb : Str → Option Value} {p : Program} {Q E : Value → Shared → Prop} {x : Int} {t : Tok}
   (B : Below A₀ base outer h₀) (F : Fr h₀ L s.heap m) (X : (Mine.hd.heap_39 w.params).In h₀) (T : Top p loose mean mg mb h₀) (hk : cs.kind = .function) (hd : dp + 40 < recursionLimit) (hu : un + 400 < cLine)
   (hQ : ∀ h' tk D q, (∀ b o, s.heap.get? b = some o → h'.get? b = some o) → s.heap.get? D = none → PcAt h' (.ref D) q → Good q → Q (.ref D) { s with heap := h', toks := tk }) :
   wpAny (model PySem.Challenge.rw_mq0119_01.row.prog w) (ktrTop dp un gd cn cs L a ccd cl outer) (call (.ref 114) [.int x t]) Q E s := by
  have N : News h₀ L s.heap [] := fun p hp => nomatch hp
  revert X; k_fill; intro X
  k_dflt (refine' enterE (binds := [("x", .int x t)]) ?k1 ?k2 ?k3 ?k4 ?k5 ?kA ?kF ?kK ?k6 ?k7 ?k8 ?k9 ?kB ?_ ?c2 ?c3 ?c4 ?c5; (case kA => exact rfl); (case kF => exact rfl); (case kK => assumption); (case k1 => k_asm); (case k2 => k_asm); (case k3 => k_asm); (case k4 => k_asm); (case k5 => k_asm); (case k6 => k_is); (case k7 => k_is); (case k8 => (simp only []; omega)); (case k9 => first | exact binds_K (by k_in) rfl (by k_is) rfl rfl rfl | exact BindsTo.of_eq rfl); (case c5 => decide); (case kB => exact locs rfl); (case c2 => exact rfl); (case c3 => exact rfl); (case c4 => exact rfl); k_whole)
  intro g' L' h' hg' hL' hlt' F' N' B' X' T'
  (try dsimp only); (try k_fold)
  have hg : ∀ b o, s.heap.get? b = some o → g'.get? b = some o := fun b o e => hg' b o (by walk_at "mine.fa") e
  iterate 20 walk1
  rename News g' L' _ _ => N₁
  refine item_menu blanksL N₁ (by k_mem) (by simp [blanksL]) (by show (0 : Int) ≤ Int.fmod _ 4; exact fmod_lo _ (by decide)) (by show Int.fmod _ 4 < ((4 : Nat) : Int); exact fmod_hi _ (by decide)) (by show 4 < 1000000; decide) fun f tf hf => ?_
  iterate 24 walk1
  rename News g' L' _ _ => N₂
  refine item_menu wordsL N₂ (by k_mem) (by simp [wordsL]) (by show (0 : Int) ≤ Int.fmod _ 6; exact fmod_lo _ (by decide)) (by show Int.fmod _ 6 < ((6 : Nat) : Int); exact fmod_hi _ (by decide)) (by show 6 < 1000000; decide) fun q tq hq => ?_
  repeat' walk1
  rename Fr g' L' _ _ => F₃; rename News g' L' _ _ => N₃
  show Q _ _
  refine hQ _ _ _ (f, q) (fun b o e => F₃.keep b o (hg b o e)) ?_ ⟨_, tf, tq, rfl, ⟨_, News.get N₃ (by k_mem), rfl, 0, rfl⟩⟩ ⟨hf, hq⟩
  refine absent hg (N₃ (_, { cls := .type "tuple", data := .seq #[.str f tf, .str q tq] }) (by k_mem)).2.2
end
section
open PySem PySem.W PyProof.Rows PySem.Calls
inductive PcsIn (news : List (Addr × Obj)) : List Value → List Pc → Prop where
  | nil : PcsIn news [] []
  | cons {t : Addr} {o : Obj} {tf tp : Tok} {n : Nat} {q : Pc} {vs : List Value} {qs : List Pc} : (t, o) ∈ news → o.cls = .type "tuple" → o.data = .seq #[.str q.1 tf, .str q.2 tp] n → PcsIn news vs qs → PcsIn news (.ref t :: vs) (q :: qs)
theorem PcsIn.mono {news news' : List (Addr × Obj)} {vs : List Value} {qs : List Pc} (x : PcsIn news vs qs) (h : ∀ p ∈ news, p ∈ news') : PcsIn news' vs qs := by
  induction x with
  | nil => exact .nil
  | cons a b c _ ih => exact .cons (h _ a) b c ih
theorem PcsIn.snoc {news : List (Addr × Obj)} {vs : List Value} {qs : List Pc} {t : Addr} {o : Obj} {tf tp : Tok} {n : Nat} {q : Pc} (x : PcsIn news vs qs) (a : (t, o) ∈ news) (b : o.cls = .type "tuple") (c : o.data = .seq #[.str q.1 tf, .str q.2 tp] n) : PcsIn news (vs ++ [.ref t]) (qs ++ [q]) := by
  induction x with
  | nil => exact .cons a b c .nil
  | cons a' b' c' _ ih => exact .cons a' b' c' ih
theorem PcsIn.at {g h : Heap} {L : Addr} {news : List (Addr × Obj)} {vs : List Value} {qs : List Pc} (x : PcsIn news vs qs) (N : News g L h news) : PcsAt h vs qs := by
  induction x with
  | nil => exact .nil
  | cons a b c _ ih => exact .cons ⟨_, _, _, rfl, _, (N _ a).1, b, _, c⟩ ih
set_option maxRecDepth 100000 in
set_option maxHeartbeats 4000000 in
theorem pc_rest {w : World} {dp un : Nat} {gd : Option (List Code)} {cn : Str} {cs : Scope} {a : Addr} {ccd : Value} {cl : List (Str × Addr)} {outer : List Env} {A₀ : Around} {base h₀ : Heap} {L : Addr} {m : Str → Option Value} {s : Shared}
   {loose : List Str} {mean : ExcName → Option Value} {mg mb : Str → Option Value} {p : Program} {Q E : Value → Shared → Prop} {ax : Addr} {its : Array Value} {p1 p2 p3 : Pos} {scope : Scope} {Fin : List Value → List (Addr × Obj) → Prop} {n₀ : List (Addr × Obj)}
   (B : Below A₀ base outer h₀) (X : (Mine.hd.heap_39 w.params).In h₀) (T : Top p loose mean mg mb h₀) (hk : cs.kind = .function) (hd : dp + 40 < recursionLimit) (hu : un + 400 < cLine)
   (hits : ∀ v ∈ its.toList, ∃ x t, v = .int x t) (hsc : scope = { kind := .function, names := [(Str.ofString ".0", .local), (Str.ofString "x", .local), (Str.ofString "_law_piece", .globalImplicit)], isGenerator := false, isCoroutine := false })
   (hfin : ∀ ys qs news, PcsIn news ys qs → (∀ q ∈ qs, Good q) → qs.length = its.size → (∀ p ∈ n₀, p ∈ news) → Fin ys news) :
   ∀ (k i : Nat) (ys : List Value) (qs : List Pc) (news : List (Addr × Obj)), k + i = its.size → PcsIn news ys qs → (∀ q ∈ qs, Good q) → qs.length = i → LCg.SrcAt h₀ ax its news → (∀ p ∈ n₀, p ∈ news) →
     LCg.CompRest PySem.Challenge.rw_mq0119_01.row.prog w (ktrTop dp un gd cn cs L a ccd cl outer) h₀ L m (envX cn cs L a ccd cl) (.Call (.Name (Str.ofString "_law_piece") p1) [.Name (Str.ofString "x") p2] [] p3) (Str.ofString "x") scope [] s (LCg.SrcAt h₀ ax its) (fun i v => its[i]? = some v) Fin k i ys news := by
  revert X; k_fill; intro X
  intro k
  induction k with
  | zero =>
    intro i ys qs news hki hys hgd hl hS hn₀
    exact LCg.CompRest.zero (hfin _ _ _ hys hgd (by omega) hn₀)
  | succ k ih =>
    intro i ys qs news hki hys hgd hl hS hn₀
    refine LCg.CompRest.succ fun v I oI C oC D m₂ h tk E' hv hC hx F N off ne => ?_
    obtain ⟨x, t, rfl⟩ := hits v (List.mem_of_getElem? (by rw [Array.getElem?_toList]; exact hv))
    subst hsc
    show wpAny _ _ _ _ _ _
    refine wpAny_Call_ofName (LCgL.ld_global F X T (by k_is) ?_)
    iterate 5 (try walk1)
    refine piece_spec B F X T hk hd hu fun h' tk' D' q kp hn hq hg => ?_
    obtain ⟨t', tf, tp, e0, o', ho', hc', n', hd'⟩ := hq
    cases e0
    have F' : Fr h₀ L h' m := F.keeps kp
    have hne : ∀ b o, h.get? b = some o → b ≠ D' := fun b o e z => by rw [z, hn] at e; cases e
    have N' : News h₀ L h' ((D', o') :: (I, oI) :: (C, oC) :: (D, LCg.lst ys) :: news) := fun p hp => by
      rcases List.mem_cons.mp hp with rfl | hp
      · refine ⟨ho', fun z => ?_, absent (fun b o e => F.keep b o e) hn⟩
        obtain ⟨oL, _, _, eL, _⟩ := F.ns
        exact hne _ _ eL (Eq.symm z)
      · exact ⟨kp _ _ (N p hp).1, (N p hp).2⟩
    refine LCg.CompEnd.intro F' N' ((D', o') :: news) (fun p hp => ?_) ⟨⟨?_, ?_, ?_⟩, off⟩ ?_ ?_
    · rcases List.mem_cons.mp hp with rfl | hp
      · exact .tail _ (.head _)
      · rcases List.mem_cons.mp hp with rfl | hp
        · exact .tail _ (.tail _ (.head _))
        · rcases List.mem_cons.mp hp with rfl | hp
          · exact .tail _ (.tail _ (.tail _ (.head _)))
          · rcases List.mem_cons.mp hp with rfl | hp
            · exact .head _
            · exact .tail _ (.tail _ (.tail _ (.tail _ hp)))
    · exact Ne.symm (hne I oI (N (I, oI) (by k_mem)).1)
    · exact Ne.symm (hne C oC (N (C, oC) (by k_mem)).1)
    · exact Ne.symm (hne D _ (N (D, LCg.lst ys) (by k_mem)).1)
    · rcases hS with hS | ⟨o, hm, r⟩
      · exact .inl hS
      · exact .inr ⟨o, .tail _ hm, r⟩
    · refine ih (i + 1) _ (qs ++ [q]) _ (by omega) (PcsIn.snoc (hys.mono fun p hp => .tail _ hp) (.head _) hc' hd') (fun p hp => ?_) (by simp [hl]) (hS.elim .inl fun ⟨o, hm, r⟩ => .inr ⟨o, .tail _ hm, r⟩) (fun p hp => .tail _ (hn₀ p hp))
      rcases List.mem_append.mp hp with hp | hp
      · exact hgd p hp
      · rw [List.mem_singleton.mp hp]; exact hg
end
section
open PySem PySem.W PyProof.Rows PySem.Calls
theorem PcsIn.length {news : List (Addr × Obj)} {vs : List Value} {qs : List Pc} (x : PcsIn news vs qs) : vs.length = qs.length := by
  induction x with
  | nil => rfl
  | cons _ _ _ _ ih => simp [ih]
theorem ints_of {vs : List Value} {ns : List Int} (h : IntsAre vs ns) : ∀ v ∈ vs, ∃ x t, v = .int x t := by
  induction h with
  | nil => intro v hv; cases hv
  | cons a b _ ih =>
    intro v hv
    rcases List.mem_cons.mp hv with rfl | hv
    · exact ⟨_, _, rfl⟩
    · exact ih v hv
noncomputable def IterO (o : Obj) (l : Addr) (i : Nat) : Prop := o.cls = .type "list_iterator" ∧ o.data = .fields #[.ref l, .int i 0]
section
variable {prog : Program} {w : World} {A : Around} {s : Shared} {env : Env} {h₀ : Heap}
theorem loop_list {R : Result → Shared → Prop} {x : Str} {pe : Pos} {body : List Stmt} {I l : Addr} {vs : Array Value} {n : Nat} {m : Str → Option Value} {o : Option Value} {oI : Obj} {rest : List (Addr × Obj)} {J : Nat → List (Addr × Obj) → Prop} {os : OsState}
    (hh : A.handled = none) (hx : env.kindOf x = some .local) (hp : (env.scope.kind == .class || (env.scope.kind == .module && env.locals != env.globals)) = false)
    (hI : IterO oI l 0) (F : Fr h₀ env.locals s.heap (fun z => if z = x then o else m z)) (N : News h₀ env.locals s.heap ((I, oI) :: (l, listOf vs n) :: rest)) (hIl : @Ne Nat l I) (hJI : ∀ i rest, J i rest → ∀ p ∈ rest, @Ne Nat p.1 I) (hJ : J 0 rest) (hos : s.os = os) (hb : AllBare s.gens)
    (hbody : ∀ i v s₁ oI rest, vs[i]? = some v → IterO oI l (i + 1) → Fr h₀ env.locals s₁.heap (fun z => if z = x then some v else m z) → News h₀ env.locals s₁.heap ((I, oI) :: (l, listOf vs n) :: rest) → J i rest → s₁.os = os → AllBare s₁.gens →
      wpAny (model prog w) A (execs body env) (fun fl s₂ => fl = .next ∧ ∃ rest', Fr h₀ env.locals s₂.heap (fun z => if z = x then some v else m z) ∧ News h₀ env.locals s₂.heap ((I, oI) :: (l, listOf vs n) :: rest') ∧ J (i + 1) rest' ∧ s₂.os = os ∧ AllBare s₂.gens) (notedBy (model prog w) A env fun e s' => R (.error e) s') s₁)
    (hR : ∀ s' o rest, Fr h₀ env.locals s'.heap (fun z => if z = x then o else m z) → News h₀ env.locals s'.heap rest → J vs.size rest → s'.os = os → AllBare s'.gens → R (.ok .next) s') :
    codeAny (model prog w) A (.forLoop (.Name x pe) (.ref I) body [] env) R s := by
  refine codeAny_forLoop_any (fun k' s' => ∃ i o' oI' rest', i ≤ vs.size ∧ k' = vs.size + 1 - i ∧ IterO oI' l i ∧ Fr h₀ env.locals s'.heap (fun z => if z = x then o' else m z) ∧ News h₀ env.locals s'.heap ((I, oI') :: (l, listOf vs n) :: rest') ∧ J i rest' ∧ s'.os = os ∧ AllBare s'.gens) ?_ (vs.size + 1)
    ⟨0, o, oI, rest, Nat.zero_le _, rfl, hI, F, N, hJ, hos, hb⟩
  rintro k' s' ⟨i, o', oI', rest', hi, rfl, hI', F', N', hJ', hos', hb'⟩
  have hIt : s'.heap.IsListIter I l i := ⟨oI', (N' (I, oI') (.head _)).1, hI'.1, hI'.2⟩
  have hl' : SeqAt s'.heap l vs := ⟨_, n, (N' (l, listOf vs n) (.tail _ (.head _))).1, rfl⟩
  have hI0 := (N' (I, oI') (.head _)).2
  have offI : ∀ p ∈ (l, listOf vs n) :: rest', @Ne Nat p.1 I := fun p hp => by
    rcases List.mem_cons.mp hp with rfl | hp
    · exact hIl
    · exact hJI i rest' hJ' p hp
  by_cases hlt : i < vs.size
  · refine next_item hIt hl' (Array.getElem?_eq_getElem hlt) fun h₁ hI₁ hs₁ => ?_
    dsimp only
    have ke : ∀ b o, b ≠ I → s'.heap.get? b = some o → h₁.get? b = some o := fun b o hb e => hs₁.extBut b o hb e
    have F₁ : Fr h₀ env.locals h₁ (fun z => if z = x then o' else m z) := ⟨F'.ns.at' fun o e => ke _ o (Ne.symm hI0.1) e, fun b o e => ke b o (fun z => by rw [z, hI0.2] at e; cases e) (F'.keep b o e), F'.above⟩
    obtain ⟨o₁, ho₁, hc₁, hd₁⟩ := hI₁
    have N₁ : News h₀ env.locals h₁ ((I, o₁) :: (l, listOf vs n) :: rest') := fun p hp => by
      rcases List.mem_cons.mp hp with rfl | hp
      · exact ⟨ho₁, hI0⟩
      · exact ⟨ke _ _ (offI p hp) (N' p (.tail _ hp)).1, (N' p (.tail _ hp)).2⟩
    refine wpAny_of_eq (a := ()) rfl ?_
    refine wpAny_assign_Name (wpAny_storeName_local hx F₁.ns (fun h₂ hn₂ hs₂ => ?_) hp)
    replace hs₂ : Heap.SameBut env.locals h₁ h₂ := hs₂
    have F₂ := F₁.set hn₂ hs₂
    have N₂ : News h₀ env.locals h₂ ((I, o₁) :: (l, listOf vs n) :: rest') := N₁.set hs₂
    have em : (fun z => if z = x then some vs[i] else if z = x then o' else m z) = fun z => if z = x then some vs[i] else m z := by
      funext z; by_cases h1 : z = x <;> simp [h1]
    rw [em] at F₂
    refine wpAny_mono (hbody i vs[i] _ o₁ rest' (Array.getElem?_eq_getElem hlt) ⟨hc₁, hd₁⟩ F₂ N₂ hJ' hos' hb') (fun fl s₂ h₂' => ?_) fun _ _ e => e
    obtain ⟨rfl, rest₃, F₃, N₃, hJ₃, hos₃, hb₃⟩ := h₂'
    exact ⟨_, by omega, i + 1, some vs[i], o₁, rest₃, hlt, rfl, ⟨hc₁, hd₁⟩, F₃, N₃, hJ₃, hos₃, hb₃⟩
  · have hei : i = vs.size := by omega
    refine next_end hh hIt hl' (Array.getElem?_eq_none (by omega)) fun h₁ he₁ hsz₁ => wpAny_execs_nil ?_
    have ke : ∀ b o, b ≠ I → s'.heap.get? b = some o → h₁.get? b = some o := fun b o hb e => he₁ b o hb e
    subst hei
    exact hR _ o' rest' ⟨F'.ns.at' fun o e => ke _ o (Ne.symm hI0.1) e, fun b o e => ke b o (fun z => by rw [z, hI0.2] at e; cases e) (F'.keep b o e), F'.above⟩
      (fun p hp => ⟨ke _ _ (offI p (.tail _ hp)) (N' p (.tail _ (.tail _ hp))).1, (N' p (.tail _ (.tail _ hp))).2⟩) hJ' hos' hb'
end
theorem frNone {h₀ h : Heap} {L : Addr} {m : Str → Option Value} {x : Str} (F : Fr h₀ L h m) (e : m x = none) : Fr h₀ L h (fun z => if z = x then none else m z) := by
  have : (fun z => if z = x then none else m z) = m := by
    funext z; by_cases h1 : z = x
    · rw [if_pos h1, h1, e]
    · rw [if_neg h1]
  rw [this]; exact F
theorem PcsIn.sub {news : List (Addr × Obj)} {vs : List Value} {qs : List Pc} (x : PcsIn news vs qs) : ∃ tl : List (Addr × Obj), (∀ p ∈ tl, p ∈ news ∧ p.2.cls = .type "tuple") ∧ PcsIn tl vs qs := by
  induction x with
  | nil => exact ⟨[], (fun _ h => (nomatch h)), .nil⟩
  | @cons t o tf tp n q vs qs a b c _ ih =>
    obtain ⟨tl, h1, h2⟩ := ih
    refine ⟨(t, o) :: tl, fun p hp => ?_, .cons (.head _) b c (h2.mono fun p hp => .tail _ hp)⟩
    rcases List.mem_cons.mp hp with rfl | hp
    · exact ⟨a, b⟩
    · exact h1 p hp
theorem allLt_mem {d : Nat} {l : List (Addr × Obj)} (h : AllLt d l) : ∀ p ∈ l, @LT.lt Nat _ p.1 d := by
  induction l with
  | nil => intro p hp; cases hp
  | cons q r ih =>
    intro p hp
    have h' : @LT.lt Nat _ q.1 d ∧ AllLt d r := h
    cases hp with
    | head => exact h'.1
    | tail _ hp => exact ih h'.2 p hp
theorem good_sm {q : Pc} (h : Good q) : q.1.length ≤ 4 ∧ q.2.length ≤ 4 := by
  refine ⟨?_, good_len h⟩
  have := h.1
  simp only [blanksL, List.mem_cons, List.not_mem_nil, or_false] at this
  rcases this with e | e | e | e <;> (rw [e]; decide)
theorem codeAmong_off {pos : Pos} {a b : Int} {c : Value} (l : List Value) (h : TriplesOk l) (hn : codeAmong pos l = none) (hne : (a == pos.line && b == pos.col) = false) : codeAmong pos (l ++ [rawInt a, rawInt b, c]) = none := by
  fun_induction TriplesOk l with
  | case1 => simp only [List.nil_append, codeAmong, rawInt, hne]; rfl
  | case2 a' t b' u x rest ih =>
    simp only [List.cons_append, codeAmong] at hn ⊢
    split at hn
    · cases hn
    · rename_i hc; rw [if_neg hc]; exact ih h hn
  | case3 l h1 h2 => exact h.elim
theorem newsApp {g h : Heap} {L : Addr} {a b : List (Addr × Obj)} (N : News g L h a) (M : News g L h b) : News g L h (a ++ b) := fun p hp => (List.mem_append.mp hp).elim (N p) (M p)
theorem newsTab {g h h' : Heap} {L : Addr} {news rest : List (Addr × Obj)} {ps pt pl ps' pt' pl' : Array Value} (N : News g L h news) (E : ∀ b o, b ≠ L → b ∉ [56, 63, 123] → h.get? b = some o → h'.get? b = some o) (m1 : (56, tabObj ps) ∈ news) (m2 : (63, tabObj pt) ∈ news) (m3 : (123, tabObj pl) ∈ news)
    (t1 : h'.get? 56 = some (tabObj ps')) (t2 : h'.get? 63 = some (tabObj pt')) (t3 : h'.get? 123 = some (tabObj pl')) (hr : ∀ p ∈ rest, p ∈ news ∧ ∀ qs, p.2 ≠ tabObj qs) : News g L h' ((56, tabObj ps') :: (63, tabObj pt') :: (123, tabObj pl') :: rest) := by
  intro p hp
  rcases List.mem_cons.mp hp with rfl | hp
  · exact ⟨t1, (N _ m1).2⟩
  · rcases List.mem_cons.mp hp with rfl | hp
    · exact ⟨t2, (N _ m2).2⟩
    · rcases List.mem_cons.mp hp with rfl | hp
      · exact ⟨t3, (N _ m3).2⟩
      · obtain ⟨h1, h2⟩ := hr p hp
        have off : ∀ b qs, (b, tabObj qs) ∈ news → p.1 ≠ b := fun b qs hm e => by
          have e1 := (N p h1).1
          rw [e, (N _ hm).1] at e1
          exact h2 qs (Option.some.inj e1).symm
        refine ⟨E _ _ (N p h1).2.1 ?_ (N p h1).1, (N p h1).2⟩
        simp only [List.mem_cons, List.not_mem_nil, or_false, not_or]
        exact ⟨off _ _ m1, off _ _ m2, off _ _ m3⟩
theorem lay_two {q : Pc} (h : Good q) : ∀ d ∈ [PyData.str q.1, PyData.str q.2], Lay 3 d := fun d hd => by
  simp only [List.mem_cons, List.not_mem_nil, or_false] at hd
  rcases hd with rfl | rfl
  · exact .str (good_ok h).1
  · exact .str (good_ok h).2
end
section
open PySem PySem.W PyProof.Rows PySem.Calls
theorem post_B {M : Model} {A : Around} {cd : Code} {s s₁ : Shared} {cw : ClaimW} {cl : Str → Option Addr} {mean : ExcName → Option Value} {args : List WData} {tabs : List (Addr × Addr)} (hT : TabsAt tabs s₁.heap) (hr : ∀ a x, cw.raises a x = false) (hp : cw.post args (.bool true) args = true)
    (h : codeAny M A cd (fun r s' => r = .ok (.ret (.bool true)) ∧ (∀ b o, (ghostOf s₁.heap tabs).get? b = some o → s'.heap.get? b = some o) ∧ s'.os = s₁.os ∧ AllBare s'.gens ∧ GrownAll tabs s'.heap) s) : codeAny M A cd (GoodWG cw cl mean args s₁) s := by
  refine codeAny_mono h fun r s' hs => ?_
  obtain ⟨rfl, hk, hos, hg, hgr⟩ := hs
  have kept : ∀ b o, b ∉ tabs.map (·.2) → s₁.heap.get? b = some o → s'.heap.get? b = some o := fun b o hb e => hk b o (ghost_ne e hb)
  have tab : ∀ b o, b ∈ tabs.map (·.2) → s₁.heap.get? b = some o → isCodeTable s₁.heap b ∧ o = tabObj #[] ∧ ∃ ps, s'.heap.get? b = some (tabObj ps) := by
    intro b o hb e
    obtain ⟨q, hq, rfl⟩ := List.mem_map.mp hb
    obtain ⟨hc, ht⟩ := hT q hq
    rw [ht] at e
    exact ⟨(hc.tab ht).isCodeTable, (Option.some.inj e).symm, hgr.get q hq⟩
  refine ⟨.inl ⟨.bool true, .bool true, [], rfl, hr _, .bool true, hp, fun _ => ⟨.nil, fun _ h => nomatch h⟩⟩, ⟨fun b o e => ?_, fun b o e => ?_⟩, hos, hg⟩
  · by_cases hb : b ∈ tabs.map (·.2)
    · obtain ⟨h1, rfl, ps, h2⟩ := tab b o hb e
      exact .inr (.inl ⟨h1, rfl, #[], ps, rfl, by rw [Array.empty_append]; exact h2⟩)
    · exact .inl (kept b o hb e)
  · by_cases hb : b ∈ tabs.map (·.2)
    · obtain ⟨_, _, ps, h2⟩ := tab b o hb e
      exact ⟨_, h2⟩
    · exact ⟨o, kept b o hb e⟩
end
section
open PySem PySem.W PyProof.Rows PySem.Calls
set_option maxRecDepth 100000 in
set_option maxHeartbeats 4000000 in
theorem walk_E {w : World} {dp un : Nat} {gd : Option (List Code)} {cn : Str} {cs : Scope} {a : Addr} {ccd : Value} {cl : List (Str × Addr)} {outer : List Env} {A₀ : Around} {base h₀ : Heap} {L : Addr} {m : Str → Option Value} {s : Shared}
   {loose : List Str} {mean : ExcName → Option Value} {mg mb : Str → Option Value} {p : Program} {Q E : Value → Shared → Prop} {pa fa : Addr} {np : Nat} {t : Tok} {i : Int}
   (B : Below A₀ base outer h₀) (F : Fr h₀ L s.heap m) (X : (Mine.hd.heap_39 w.params).In h₀) (N : News h₀ L s.heap [(pa, listOf #[] np)]) (T : Top p loose mean mg mb h₀) (hk : cs.kind = .function) (hd : dp + 120 < recursionLimit) (hu : un + 1200 < cLine)
   (hb : AllBare s.gens)
   (hQ : ∀ s' r as', Post [pa] s s' → Reads s'.heap (.ref r) (.list []) as' → Q (.ref r) s') :
   wpAny (model PySem.Challenge.rw_mq0119_01.row.prog w) (ktrTop dp un gd cn cs L a ccd cl outer) (call (.ref 138) [.int i t, .ref pa, .ref fa, .bool true]) Q E s := by
  revert X; k_fill; intro X
  k_dflt (refine' enterE (binds := [("first", .int i t), ("pieces", .ref pa), ("store", .ref fa), ("bare", .bool true)]) ?k1 ?k2 ?k3 ?k4 ?k5 ?kA ?kF ?kK ?k6 ?k7 ?k8 ?k9 ?kB ?_ ?c2 ?c3 ?c4 ?c5; (case kA => exact rfl); (case kF => exact rfl); (case kK => assumption); (case k1 => k_asm); (case k2 => k_asm); (case k3 => k_asm); (case k4 => k_asm); (case k5 => k_asm); (case k6 => k_is); (case k7 => k_is); (case k8 => (simp only []; omega)); (case k9 => first | exact binds_K (by k_in) rfl (by k_is) rfl rfl rfl | exact BindsTo.of_eq rfl); (case c5 => decide); (case kB => exact locs rfl); (case c2 => exact rfl); (case c3 => exact rfl); (case c4 => exact rfl); k_whole)
  intro g' L' h' hg' hL' hlt' F' N' B' X' T'
  k_lt hlt'
  (try dsimp only); (try k_fold)
  repeat' walk1
  rename Fr g' L' _ _ => F₁; rename News g' L' _ _ => N₁
  exact hQ _ _ _ ⟨fun b o hb e => F₁.keep b o (hg' b o (by simpa using hb) e), rfl, hb, Nat.le_trans hL' (Nat.le_of_lt F₁.ns.lt)⟩ (.list (News.get N₁ (by k_mem)) rfl rfl .nil)
end
theorem words7 : True := by
  k_with_none
  k_with "mine.mem" => (repeat (first | exact List.Mem.head _ | refine List.Mem.tail _ ?_))
  k_with "mine.nm" => ((repeat' (first | exact nm_nil | refine nm_cons ?_ ?_)) <;> (first | assumption | ((try dsimp only); first | decide | (refine neN ?_; omega))))
  k_with "mine.fa1" => (first | exact ncR | exact ncN | exact ncL | exact ncD | (walk_at "mine.mem"; done) | (refine fa_in ?_; walk_at "mine.mem"; done) | (refine fa_out ?_; walk_at "mine.mem"; done) | (refine Or.inl ⟨?_, ?_⟩; (focus (walk_at "mine.mem"; done)); (walk_at "mine.nm"; done)) | (refine Or.inr ⟨by assumption, ?_⟩; walk_at "mine.mem"; done) | (refine neN ?_; omega))
  k_with "mine.fa" => (first | exact fa_all | ((repeat' (first | exact fa_nil | refine fa_cons ?_ ?_)); (all_goals walk_at "mine.fa1"); done) | simp)
  k_with "getMethod ref" => (k_here; k_dflt (refine' getMethod_acc (by k_in) (by k_inst) (by k_is) (by k_is) (by k_is) (by k_is) (by decide) (by k_get) ?_; k_whole))
  k_with "call builtin:list.append" => (k_here; (with_reducible show wpAny _ _ (call (Value.builtin _) [Value.ref _, _]) _ _ _); k_dflt (refine' acc_append_K (by k_asm) (by k_asm) (by k_asm) (by k_upd) (by k_is) (by assumption) ?_; k_whole); intro _ _ _; (try k_sweep))
  k_with "getAttr ref" => (k_here; k_dflt (refine' get_acc (by k_in) (by exact News.get (by k_asm) (by k_mem)) (by exact News.get (by k_asm) (by k_mem)) (by k_is) (by k_is) (by k_is) (by k_is) (by k_is) (by k_get) (by k_handed) ?_; k_whole))
  k_with "setAttr ref" => (k_here; k_dflt (refine' set_attr_acc (by k_asm) (by k_asm) (by k_asm) (by k_inst) (by exact rfl) (by k_is) (by k_is) (by exact rfl) (by k_is) (by k_is) (by k_get) (by k_put) (by k_upd) (by exact Nat.le_of_ble_eq_true rfl) ?_; k_whole; intro _ _ _; (try k_sweep)))
  k_with "getMethod ref" => (k_here; k_dflt (refine' sup_meth bt_pop (by k_asm) (by k_asm) (by k_asm) (by k_mem) (by k_inst) (by k_is) (by ks_is) (by k_is) (by decide) ?_; intro _ _ _ _ l1; (try k_lt l1); (try (revert l1; intro _))))
  k_with "getMethod ref" => (k_here; k_dflt (refine' sup_meth bt_init (by k_asm) (by k_asm) (by k_asm) (by k_mem) (by k_inst) (by k_is) (by ks_is) (by k_is) (by decide) ?_; intro _ _ _ _ l1; (try k_lt l1); (try (revert l1; intro _))))
  k_with "getMethod ref" => (k_here; k_dflt (refine' sup_meth bt_len (by k_asm) (by k_asm) (by k_asm) (by k_mem) (by k_inst) (by k_is) (by ks_is) (by k_is) (by decide) ?_; intro _ _ _ _ l1; (try k_lt l1); (try (revert l1; intro _))))
  k_with "storeName" => (k_here; k_dflt (refine' storeX_keep (by k_asm) (by k_asm) ?_ (by rfl) (by rfl); k_whole); intro _ _ _ _; (try k_sweep))
  k_with "call builtin:iter" => (k_here; (with_reducible show wpAny _ _ (call (Value.builtin "iter") [Value.ref _]) _ _ _); k_dflt (refine' iter_b (by k_asm) (by k_asm) (by k_asm) (by k_mem) (by k_is) (by k_is) ?_; k_whole); intro _ _ _ _ l1 kp'; (try k_lt l1); (first | (revert l1 kp'; intro _ _) | (revert kp'; intro _)); (try k_sweep))
  k_with "exec For Name Name cons nil" => (k_here; refine wpAny_For ?_ (by intro _; rfl))
  trivial
section
open PySem PySem.W PyProof.Rows PySem.Calls
noncomputable def redScope : Scope := { kind := .function, names := [(Str.ofString "function", .local), (Str.ofString "sequence", .local), (Str.ofString "initial", .local), (Str.ofString "it", .local), (Str.ofString "value", .local), (Str.ofString "element", .local), (Str.ofString "iter", .globalImplicit), (Str.ofString "_initial_missing", .globalImplicit), (Str.ofString "next", .globalImplicit), (Str.ofString "StopIteration", .globalImplicit), (Str.ofString "TypeError", .globalImplicit)], isGenerator := false, isCoroutine := false }
set_option maxRecDepth 100000 in
set_option maxHeartbeats 8000000 in
theorem red0 {w : World} {dp un : Nat} {gd : Option (List Code)} {cn : Str} {cs : Scope} {a : Addr} {ccd : Value} {cl : List (Str × Addr)} {outer : List Env} {A₀ : Around} {base h₀ : Heap} {L : Addr} {m : Str → Option Value} {s : Shared}
   {loose : List Str} {mean : ExcName → Option Value} {mg mb : Str → Option Value} {p : Program} {Q E : Value → Shared → Prop} {x dx f : Addr} {n : Nat} {hB : Heap}
   (B : Below A₀ base outer h₀) (F : Fr h₀ L s.heap m) (X : (Mine.hd.heap_39 w.params).In h₀) (N : News h₀ L s.heap [(x, accObj dx #[] n)]) (T : Top p loose mean mg mb h₀) (hk : cs.kind = .function) (hd : dp + 120 < recursionLimit) (hu : un + 1200 < cLine)
   (hb : AllBare s.gens) (XB : (Mine.hd.heap_39 w.params).In hB) (TB : Top p loose mean mg mb hB) (hBz : hB.objs.size ≤ L) (kB : ∀ b o, hB.get? b = some o → h₀.get? b = some o ∧ b ∉ outer.filterMap (·.frame))
   (hE : ∀ e a0 Bs s', (∀ b o, b ∉ (envX cn cs L a ccd cl :: outer).filterMap (·.frame) → s.heap.get? b = some o → Bs.get? b = some o) → Heap.FlyingW Bs (envX cn cs L a ccd cl :: outer) e (.type "TypeError") a0 s'.heap → s.heap.UpToSlots s'.heap → s'.os = s.os → AllBare s'.gens → E (.ref e) s') :
   wpAny (model PySem.Challenge.rw_mq0119_01.row.prog w) (ktrTop dp un gd cn cs L a ccd cl outer) (call (.ref 107) [.ref f, .ref x]) Q E s := by
  revert X; k_fill; intro X
  k_dflt (refine' enterE (binds := [("function", .ref f), ("sequence", .ref x), ("initial", .ref 99)]) ?k1 ?k2 ?k3 ?k4 ?k5 ?kA ?kF ?kK ?k6 ?k7 ?k8 ?k9 ?kB ?_ ?c2 ?c3 ?c4 ?c5; (case kA => exact rfl); (case kF => exact rfl); (case kK => assumption); (case k1 => k_asm); (case k2 => k_asm); (case k3 => k_asm); (case k4 => k_asm); (case k5 => k_asm); (case k6 => k_is); (case k7 => k_is); (case k8 => (simp only []; omega)); (case k9 => first | exact binds_K (by k_in) rfl (by k_is) rfl rfl rfl | exact BindsTo.of_eq rfl); (case c5 => decide); (case kB => exact locs rfl); (case c2 => exact rfl); (case c3 => exact rfl); (case c4 => exact rfl); k_whole)
  intro g' L' h' hg' hL' hlt' F' N' B' X' T'
  k_lt hlt'
  (try dsimp only); (try k_fold)
  iterate 29 walk1
  rename Fr g' L' _ _ => F₁
  rename News g' L' _ _ => N₁
  rename_i I _ _ lI h₁ ks
  refine next_stop (items := #[]) rfl ⟨_, (N₁ (I, iterObj x 0) (by k_mem)).1, rfl, rfl⟩ ⟨_, n, (N₁ (x, accObj dx #[] n) (by k_mem)).1, rfl⟩ rfl fun h₂ h₃ e₁ hs₂ hm => ?_
  dsimp only at hs₂ hm ⊢
  -- the ground without frames and iterator
  have B₁ := B'.push (name := Str.ofString "reduce") (scope := redScope) (a := 107) (cd := .ref 106) F₁ rfl
  generalize hl9 : (envOf (Str.ofString "reduce") redScope L' 107 (.ref 106) :: envX cn cs L a ccd cl :: outer) = l9 at B₁
  obtain ⟨Bs, hBs⟩ : ∃ Bs, Bs = hideAll h₁ (I :: l9.filterMap (·.frame)) := ⟨_, rfl⟩
  have no : ∀ b ∈ I :: l9.filterMap (·.frame), Bs.get? b = none := fun b hb => by rw [hBs]; exact hideAll_none _ hb
  have st₁ : ∀ b o, Bs.get? b = some o → h₁.get? b = some o := fun b o e => by rw [hBs] at e; exact of_hideAll _ e
  have nI : ∀ b o, Bs.get? b = some o → b ≠ I := fun b o e z => by rw [z, no I (.head _)] at e; cases e
  have nF : ∀ b o, Bs.get? b = some o → b ∉ l9.filterMap (·.frame) := fun b o e z => by rw [no b (.tail _ z)] at e; cases e
  have ff₁ : h₁.FunFrames Bs l9 := by
    rw [hBs]
    exact funFrames_hide B₁.frames fun env he b hb => .tail _ (List.mem_filterMap.mpr ⟨env, he, hb⟩)
  have st₂ : Bs.StaysIn h₂ := fun b o e => hs₂.extBut b o (nI b o e) (st₁ b o e)
  have up₂ : h₁.UpToSlots h₂ := upFields (N₁ (I, iterObj x 0) (by k_mem)).1 rfl fun c o hc e => hs₂.extBut c o hc e
  have st₃ : Bs.StaysIn h₃ := fun b o e => hm.keeps b o (st₂ b o e)
  have up₃ := up₂.trans (Heap.UpToSlots.of_keeps hm.keeps)
  have ne₁ : Bs.get? e₁ = none := absent st₂ hm.new
  obtain ⟨t₁, he₁, ht₁, _⟩ := hm.there
  subst hl9
  refine note_first (base := Bs) rfl (upFrames up₃ ff₁) rfl he₁ rfl rfl fun h₄ T₁ ts hsl hT hTe hts h₅ k₅ e₅ T₅ => ?_
  dsimp only at hsl hT hts e₅ T₅ ⊢
  have st₅ : Bs.StaysIn h₅ := fun b o e => k₅ b o (fun z => by rw [z, ne₁] at e; cases e) ((hsl.2.1 b (nF b o e)).trans (st₃ b o e))
  obtain ⟨sl₄, e₄⟩ := hsl.2.2 e₁ _ he₁
  have up₅ := (up₃.trans (upOnly hsl)).trans (upFields e₄ rfl k₅)
  have e₅ : h₅.get? e₁ = some { cls := .type "StopIteration", data := .fields #[.ref t₁, .ref T₁, .none, .none, .bool false, .none] } := e₅
  have nT₁ : Bs.get? T₁ = none := absent st₃ hT
  have hts3 : 3 < ts.size := (Array.getElem?_eq_some_iff.mp hts).1
  clear hsl e₄ k₅ hm he₁ ht₁ hs₂ ks
  unfold setFlight
  refine wpAny_bind (wpAny_field e₅ rfl (x := .ref T₁) rfl ?_)
  rw [if_pos (by walk_at "mine.fa")]
  refine set_at T₅ rfl hts3 fun h₆ k₆ T₆ => ?_
  have st₆ : Bs.StaysIn h₆ := fun b o e => (k₆.2 b (fun z => by rw [z, nT₁] at e; cases e)).trans (st₅ b o e)
  have up₆ := up₅.trans (upFields T₅ rfl fun c o hc e => (k₆.2 c hc).trans e)
  have e₆ : h₆.get? e₁ = some { cls := .type "StopIteration", data := .fields #[.ref t₁, .ref T₁, .none, .none, .bool false, .none] } := (k₆.2 _ (Ne.symm hTe)).trans e₅
  have kBs : ∀ b o, hB.get? b = some o → Bs.get? b = some o := fun b o e => by
    obtain ⟨c1, c2⟩ := kB b o e
    rw [hBs]
    refine hideAll_get _ (F₁.keep b o (hg' b o (fun hb => ?_) (F.keep b o c1))) fun hm => ?_
    · simp only [List.map_cons, List.map_nil, List.mem_singleton] at hb
      rw [hb, (N (x, accObj dx #[] n) (.head _)).2.2] at c1; cases c1
    · have g1 := hg' b o (fun hb => by
        simp only [List.map_cons, List.map_nil, List.mem_singleton] at hb
        rw [hb, (N (x, accObj dx #[] n) (.head _)).2.2] at c1; cases c1) (F.keep b o c1)
      rcases List.mem_cons.mp hm with z | hm
      · rw [z, (N₁ (I, iterObj x 0) (by k_mem)).2.2] at g1; cases g1
      · rcases List.mem_cons.mp hm with z | hm
        · rw [z, Heap.get?_none_of_le F₁.above] at g1; cases g1
        · rcases List.mem_cons.mp hm with z | hm
          · rw [z, Heap.get?_none_of_le F.above] at c1; cases c1
          · exact c2 hm
  have Fh : ∀ h, Bs.StaysIn h → h₁.UpToSlots h → Fr hB L' h _ := fun h st up => ⟨up.ns F₁.ns, fun b o e => st b o (kBs b o e), Nat.le_trans hBz (Nat.le_trans (Nat.le_of_lt F.ns.lt) hL')⟩
  refine wpAny_handleBy_builtin (X := "StopIteration") (T := "StopIteration") (b := true) owsi_raise.isExc stop_notTuple owsi_facts.sub (name_B (Fh h₆ st₆ up₆) XB (topRead_of TB) (by k_is) Boot.«StopIteration» (by decide +kernel) ?_)
  refine ⟨rfl, ⟨_, e₆, rfl⟩, ?_⟩
  rw [if_pos rfl]
  unfold setFlight
  refine wpAny_bind (wpAny_field e₆ rfl (x := .ref T₁) rfl ?_)
  rw [if_pos (by walk_at "mine.fa")]
  refine set_at T₆ rfl (by simpa using hts3) fun h₇ k₇ T₇ => ?_
  have st₇ : Bs.StaysIn h₇ := fun b o e => (k₇.2 b (fun z => by rw [z, nT₁] at e; cases e)).trans (st₆ b o e)
  have up₇ := up₆.trans (upFields T₆ rfl fun c o hc e => (k₇.2 c hc).trans e)
  have e₇ : h₇.get? e₁ = some { cls := .type "StopIteration", data := .fields #[.ref t₁, .ref T₁, .none, .none, .bool false, .none] } := (k₇.2 _ (Ne.symm hTe)).trans e₆
  clear k₆ k₇ T₅ T₆ T₇ e₅ e₆ st₅ st₆ up₅ up₆
  dsimp only
  rw [arm_execs_cons]
  refine wpAny_bind ?_
  show wpAny _ _ (do standAt _; raiseStmt _ (some (do let v ← eval _ _; standAt _; pure v)) (some (do let v ← eval _ _; standAt _; pure v))) _ _ _
  refine wpAny_bind (wpAny_standAt ?_)
  refine raise_from (c := "TypeError") (h₀ := e₁) (fun Q' s' h => wpAny_bind (wpAny_pure (wpAny_bind (wpAny_standAt (wpAny_pure h))))) PySem.F.excRaise_TypeError rfl ?_
  refine wpAny_bind (wpAny_Call_ofName (name_B (Fh h₇ st₇ up₇) XB (topRead_of TB) (by k_is) Boot.«TypeError» (by decide +kernel) ?_))
  refine callWith_excType rfl ?_
  show wpAny _ _ (evalArgs _ true ((false, eval _ _) :: _) []) _ _ _
  refine Calls.evalArgs_plain ?_
  refine Calls.spliced_cons ?_
  walk1
  refine Calls.spliced_nil ?_
  dsimp only [List.nil_append]
  refine wpAny_call_exc PySem.F.excCall_TypeError fun h₈ e₂ hm₂ => ?_
  refine wpAny_bind (wpAny_standAt (wpAny_pure ?_))
  obtain ⟨t₂, he₂, ht₂, _⟩ := hm₂.there
  have e₈ := hm₂.keeps _ _ e₇
  have ne₂ : Bs.get? e₂ = none := absent st₇ hm₂.new
  refine ⟨e₂, t₂, rfl, (fun z => by have h9 := hm₂.new; rw [z, e₇] at h9; cases h9), he₂, ⟨_, _, e₈, rfl, rfl⟩, fun h₉ k₉ e₉ => ?_⟩
  have st₉ : Bs.StaysIn h₉ := fun b o e => k₉ b o (fun z => by rw [z, ne₂] at e; cases e) (hm₂.keeps b o (st₇ b o e))
  have up₉ := (up₇.trans (Heap.UpToSlots.of_keeps hm₂.keeps)).trans (upFields he₂ rfl k₉)
  clear st₇ up₇ e₇ e₈ k₉ he₂ hm₂
  show wpAny _ _ (noteFrame _ _) _ _ _
  refine note_first (base := Bs) rfl (upFrames up₉ ff₁) rfl e₉ rfl rfl fun h₁₀ T₂ ts₂ hsl₂ hT₂ hTe₂ hts₂ h₁₁ k₁₁ e₁₁ T₁₁ => ?_
  dsimp only at hsl₂ hT₂ e₁₁ T₁₁ ⊢
  have st₁₁ : Bs.StaysIn h₁₁ := fun b o e => k₁₁ b o (fun z => by rw [z, ne₂] at e; cases e) ((hsl₂.2.1 b (nF b o e)).trans (st₉ b o e))
  obtain ⟨sl₁₀, e₁₀⟩ := hsl₂.2.2 e₂ _ e₉
  have up₁₁ := (up₉.trans (upOnly hsl₂)).trans (upFields e₁₀ rfl k₁₁)
  have e₁₁ : h₁₁.get? e₂ = some { cls := .type "TypeError", data := .fields #[.ref t₂, .ref T₂, .ref e₁, .none, .bool true, .none] } := e₁₁
  have nT₂ : Bs.get? T₂ = none := absent st₉ hT₂
  have hts3' : 3 < ts₂.size := (Array.getElem?_eq_some_iff.mp hts₂).1
  clear hsl₂ e₁₀ k₁₁
  unfold cameBackBy
  refine wpAny_bind (wpAny_field e₁₁ rfl (x := .ref T₂) rfl ?_)
  rw [if_neg (by walk_at "mine.fa")]
  unfold setFlight
  refine wpAny_bind (wpAny_field e₁₁ rfl (x := .ref T₂) rfl ?_)
  rw [if_pos (by walk_at "mine.fa")]
  refine set_at T₁₁ rfl hts3' fun h₁₂ k₁₂ T₁₂ => ?_
  have st₁₂ : Bs.StaysIn h₁₂ := fun b o e => (k₁₂.2 b (fun z => by rw [z, nT₂] at e; cases e)).trans (st₁₁ b o e)
  have up₁₂ := up₁₁.trans (upFields T₁₁ rfl fun c o hc e => (k₁₂.2 c hc).trans e)
  have e₁₂ : h₁₂.get? e₂ = some { cls := .type "TypeError", data := .fields #[.ref t₂, .ref T₂, .ref e₁, .none, .bool true, .none] } := (k₁₂.2 _ (Ne.symm hTe₂)).trans e₁₁
  have hd₁₂ : Heap.HeldW Bs _ e₂ (.type "TypeError") (.ref t₂) L' h₁₂ := ⟨st₁₂, ne₂, upFrames up₁₂ ff₁, _, _, T₂, _, _, e₁₂, ⟨rfl, rfl⟩, rfl, rfl, nT₂, hTe₂, T₁₂, rfl, by simp [hts3', rawInt]; rfl⟩
  show wpAny _ _ (leaving _ _) _ _ _
  unfold leaving
  refine wpAny_bind (wpAny_noteFrame_againW rfl hd₁₂.2.2.2 (wpAny_landsW hd₁₂ fun h₁₃ hfl up₁₃ => ?_))
  obtain ⟨q1, q2, ⟨_, _, q3⟩, q4⟩ := hfl
  have kk : ∀ b o, s.heap.get? b = some o → h₁.get? b = some o := fun b o e => by
    by_cases hx : b = x
    · have z1 := (N (x, accObj dx #[] n) (.head _)).1
      rw [hx] at e ⊢
      rw [z1] at e; cases e
      exact (N₁ (x, accObj dx #[] n) (by k_mem)).1
    · exact F₁.keep b o (hg' b o (by simpa using hx) e)
  refine hE e₂ (.ref t₂) Bs _ (fun b o hb e => ?_) ⟨q1, q2, q3, q4⟩ (((Heap.UpToSlots.of_keeps kk).trans up₁₂).trans up₁₃) rfl hb
  rw [hBs]
  refine hideAll_get _ (kk b o e) fun hm => ?_
  rcases List.mem_cons.mp hm with z | hm
  · by_cases hx : b = x
    · exact absurd lI (by rw [← z, hx]; exact Nat.lt_irrefl x)
    · have g1 := hg' b o (by simpa using hx) e
      rw [z, (N₁ (I, iterObj x 0) (by k_mem)).2.2] at g1; cases g1
  · rcases List.mem_cons.mp hm with z | hm
    · rw [z, Heap.get?_none_of_le hL'] at e; cases e
    · exact hb hm
end
theorem words8 : True := by
  k_with_none
  k_with "mine.mem" => (repeat (first | exact List.Mem.head _ | refine List.Mem.tail _ ?_))
  k_with "mine.nm" => ((repeat' (first | exact nm_nil | refine nm_cons ?_ ?_)) <;> (first | assumption | ((try dsimp only); first | decide | (refine neN ?_; omega))))
  k_with "mine.fa1" => (first | exact ncR | exact ncN | exact ncL | exact ncD | (walk_at "mine.mem"; done) | (refine fa_in ?_; walk_at "mine.mem"; done) | (refine fa_out ?_; walk_at "mine.mem"; done) | (refine Or.inl ⟨?_, ?_⟩; (focus (walk_at "mine.mem"; done)); (walk_at "mine.nm"; done)) | (refine Or.inr ⟨by assumption, ?_⟩; walk_at "mine.mem"; done) | (refine neN ?_; omega))
  k_with "mine.fa" => (first | exact fa_all | ((repeat' (first | exact fa_nil | refine fa_cons ?_ ?_)); (all_goals walk_at "mine.fa1"); done) | simp)
  k_with "getMethod ref" => (k_here; k_dflt (refine' getMethod_acc (by k_in) (by k_inst) (by k_is) (by k_is) (by k_is) (by k_is) (by decide) (by k_get) ?_; k_whole))
  k_with "call builtin:list.append" => (k_here; (with_reducible show wpAny _ _ (call (Value.builtin _) [Value.ref _, _]) _ _ _); k_dflt (refine' acc_append_K (by k_asm) (by k_asm) (by k_asm) (by k_upd) (by k_is) (by assumption) ?_; k_whole); intro _ _ _; (try k_sweep))
  k_with "getAttr ref" => (k_here; k_dflt (refine' get_acc (by k_in) (by exact News.get (by k_asm) (by k_mem)) (by exact News.get (by k_asm) (by k_mem)) (by k_is) (by k_is) (by k_is) (by k_is) (by k_is) (by k_get) (by k_handed) ?_; k_whole))
  k_with "setAttr ref" => (k_here; k_dflt (refine' set_attr_acc (by k_asm) (by k_asm) (by k_asm) (by k_inst) (by exact rfl) (by k_is) (by k_is) (by exact rfl) (by k_is) (by k_is) (by k_get) (by k_put) (by k_upd) (by exact Nat.le_of_ble_eq_true rfl) ?_; k_whole; intro _ _ _; (try k_sweep)))
  k_with "getMethod ref" => (k_here; k_dflt (refine' sup_meth bt_pop (by k_asm) (by k_asm) (by k_asm) (by k_mem) (by k_inst) (by k_is) (by ks_is) (by k_is) (by decide) ?_; intro _ _ _ _ l1; (try k_lt l1); (try (revert l1; intro _))))
  k_with "getMethod ref" => (k_here; k_dflt (refine' sup_meth bt_init (by k_asm) (by k_asm) (by k_asm) (by k_mem) (by k_inst) (by k_is) (by ks_is) (by k_is) (by decide) ?_; intro _ _ _ _ l1; (try k_lt l1); (try (revert l1; intro _))))
  k_with "getMethod ref" => (k_here; k_dflt (refine' sup_meth bt_len (by k_asm) (by k_asm) (by k_asm) (by k_mem) (by k_inst) (by k_is) (by ks_is) (by k_is) (by decide) ?_; intro _ _ _ _ l1; (try k_lt l1); (try (revert l1; intro _))))
  k_with "storeName" => (k_here; k_dflt (refine' storeC_keep (by k_asm) (by k_asm) (by rfl) (by k_updF) (by k_asm) ?_ (by rfl) (by rfl); k_whole; intro h' o' F' N' d' ks'; (try dsimp only at N'); (revert h' o' F' N' d' ks'; intro _ _ _ _ _ _); (try k_sweep)))
  k_with "storeName" => (k_here; k_dflt (refine' storeX_keep (by k_asm) (by k_asm) ?_ (by rfl) (by rfl); k_whole; intro _ _ _ _; (try k_sweep)))
  k_with "call type:list" => (k_here; (with_reducible show wpAny _ _ (call (Value.type _) [Value.ref _]) _ _ _); k_dflt (refine' list_copy_keep (by k_asm) (by k_asm) (by exact Heap.IsList.at (by assumption) (fun o e => Fr.keep (by k_asm) _ o e)) ?_ (by omega)); intro _ _ _ _ _ l1 kp'; (try k_lt l1); (first | (revert l1 kp'; intro _ _) | (revert kp'; intro _)); (try k_sweep))
  k_with "newTuple" => (k_here; k_dflt (refine' newTuple_keep (by k_asm) (by k_asm) ?_ (by kmk_size)); intro _ _ _ _ l1 kp'; (try k_lt l1); (first | (revert l1 kp'; intro _ _) | (revert kp'; intro _)); (try k_sweep))
  k_with "newList" => (k_here; k_dflt (refine' newList_keep (by k_asm) (by k_asm) ?_ (by kmk_size)); intro _ _ _ _ l1 kp'; (try k_lt l1); (first | (revert l1 kp'; intro _ _) | (revert kp'; intro _)); (try k_sweep))
  trivial
section
open PySem PySem.W PyProof.Rows PySem.Calls
inductive FoldMid (w : World) (g : Heap) (L x dx y cS cR : Addr) (oS oR : Obj) (RR : List PyData × Int × List Pc × List Pc) (cv : Value) (pl : Array Value) (os : OsState) (s : Shared) : Prop
  | mk (r : Addr) (as' : List Addr) (c' : Addr) (vs us : Array Value) (n ny : Nat) (k t : Tok) (ps pt : Array Value) (m : Str → Option Value) (F : Fr g L s.heap m) (mt : m (Str.ofString "told") = some (.ref r))
    (N : News g L s.heap [(x, accObj dx vs n), (dx, accDict w k RR.2.1 t), (y, listOf us ny), (56, tabObj ps), (63, tabObj pt), (cS, oS), (cR, oR), (123, tabObj (pl ++ #[cv, rawInt 26, .ref c']))]) (t1 : TriplesOk ps.toList) (t2 : TriplesOk pt.toList)
    (P : PcsAt s.heap vs.toList RR.2.2.1) (U : PcsAt s.heap us.toList RR.2.2.2) (R : Reads s.heap (.ref r) (.tuple RR.1) as') (A : ListsAt [x, dx, y, 56, 63] s.heap as') (ho : s.os = os) (hb : AllBare s.gens) : FoldMid w g L x dx y cS cR oS oR RR cv pl os s
theorem newsRed {g h h' : Heap} {L x dx y cS cR : Addr} {a b c d e a' b' c' d' e' oS oR o3 : Obj} (N : News g L h [(x, a), (dx, b), (y, c), (56, d), (63, e), (cS, oS), (cR, oR), (123, o3)]) (E : Ext [x, dx, y, 56, 63] h h')
    (e1 : h'.get? x = some a') (e2 : h'.get? dx = some b') (e3 : h'.get? y = some c') (e4 : h'.get? 56 = some d') (e5 : h'.get? 63 = some e') (n1 : cS ∉ [x, dx, y, 56, 63]) (n2 : cR ∉ [x, dx, y, 56, 63]) (n3 : 123 ∉ [x, dx, y, 56, 63]) :
    News g L h' [(x, a'), (dx, b'), (y, c'), (56, d'), (63, e'), (cS, oS), (cR, oR), (123, o3)] :=
  fa_cons ⟨e1, (N _ (.head _)).2⟩ (fa_cons ⟨e2, (N (dx, b) (by k_mem)).2⟩ (fa_cons ⟨e3, (N (y, c) (by k_mem)).2⟩ (fa_cons ⟨e4, (N (56, d) (by k_mem)).2⟩ (fa_cons ⟨e5, (N (63, e) (by k_mem)).2⟩
    (fa_cons ⟨E _ _ n1 (N (cS, oS) (by k_mem)).1, (N (cS, oS) (by k_mem)).2⟩ (fa_cons ⟨E _ _ n2 (N (cR, oR) (by k_mem)).1, (N (cR, oR) (by k_mem)).2⟩ (fa_cons ⟨E _ _ n3 (N (123, o3) (by k_mem)).1, (N (123, o3) (by k_mem)).2⟩ fa_nil)))))))
set_option maxRecDepth 100000 in
set_option maxHeartbeats 8000000 in
theorem fold_all {w : World} {dp un : Nat} {gd : Option (List Code)} {cn : Str} {cs : Scope} {a : Addr} {ccd : Value} {cl : List (Str × Addr)} {outer : List Env} {A₀ : Around} {base h₀ : Heap} {L : Addr} {m : Str → Option Value} {s : Shared}
   {loose : List Str} {mean : ExcName → Option Value} {mg mb : Str → Option Value} {p : Program} {Q E : Value → Shared → Prop} {pa fa : Addr} {vs us : Array Value} {t : Tok} {i : Int} {ps pt pl : Array Value} {qs rs : List Pc} {bare : Bool}
   (B : Below A₀ base outer h₀) (F : Fr h₀ L s.heap m) (X : (Mine.hd.heap_39 w.params).In h₀) (N : News h₀ L s.heap [(56, tabObj ps), (63, tabObj pt), (123, tabObj pl)]) (T : Top p loose mean mg mb h₀) (hk : cs.kind = .function) (hd : dp + 200 < recursionLimit) (hu : un + 2000 < cLine)
   (hps : TriplesOk ps.toList) (hpt : TriplesOk pt.toList) (hpl : TriplesOk pl.toList) (hpa : s.heap.IsList pa vs) (hfa : s.heap.IsList fa us) (hp : PcsAt s.heap vs.toList qs) (hr : PcsAt s.heap us.toList rs) (hsm : Small (qs ++ rs)) (hgd : ∀ q ∈ qs ++ rs, Good q) (hi : 0 ≤ i ∧ i ≤ 10) (hb : AllBare s.gens) (hQ : (∃ (RR : List PyData × Int × List Pc × List Pc) (cv : Value), ((bare = false ∧ cv = rawInt 83 ∧ ∃ kf : Nat, RR = runP kf 0 i qs rs [] ∧ codeAmong ⟨83, 26, 83, 80⟩ pl.toList = none ∧ qs.length + rs.length < kf) ∨
     (bare = true ∧ cv = rawInt 81 ∧ ∃ (kf : Nat) (q₀ : Pc) (qt : List Pc), RR = runP kf 1 i (q₀ :: qt) rs [.str q₀.1, .str q₀.2] ∧ codeAmong ⟨81, 26, 81, 80⟩ pl.toList = none ∧ qs = q₀ :: qt ∧ (q₀ :: qt).length + rs.length < kf + 1)) ∧
     (Small (RR.2.2.1 ++ RR.2.2.2) ∧ (∀ q ∈ RR.2.2.1 ++ RR.2.2.2, Good q) ∧ 0 ≤ RR.2.1 ∧ RR.2.1 ≤ 10) ∧
     ∀ s' r as' c', Post [56, 63, 123] s s' → (∃ ps' pt', s'.heap.get? 56 = some (tabObj ps') ∧ s'.heap.get? 63 = some (tabObj pt') ∧ s'.heap.get? 123 = some (tabObj (pl ++ #[cv, rawInt 26, .ref c'])) ∧ TriplesOk ps'.toList ∧ TriplesOk pt'.toList) → Reads s'.heap (.ref r) (.list [.tuple RR.1, .int (RR.2.1 + (txt RR.2.2.1).length), .list (pcsD RR.2.2.1), .list (pcsD RR.2.2.2)]) as' → Q (.ref r) s') ∨ (bare = true ∧ (codeAmong ⟨81, 26, 81, 80⟩ pl.toList = none) ∧ (qs = []) ∧ (outer = []) ∧ (∀ s' r as', (∀ b o, b ∉ [L, 56, 63, 123] → s.heap.get? b = some o → s'.heap.get? b = some o) → s'.heap.Ns L m → s.heap.objs.size ≤ s'.heap.objs.size → s'.os = s.os → AllBare s'.gens → (∃ ps' pt' pl', s'.heap.get? 56 = some (tabObj ps') ∧ s'.heap.get? 63 = some (tabObj pt') ∧ s'.heap.get? 123 = some (tabObj pl') ∧ TriplesOk ps'.toList ∧ TriplesOk pt'.toList ∧ TriplesOk pl'.toList) → Reads s'.heap (.ref r) (.list []) as' → Q (.ref r) s'))) :
   wpAny (model PySem.Challenge.rw_mq0119_01.row.prog w) (ktrTop dp un gd cn cs L a ccd cl outer) (call (.ref 126) [.int i t, .ref pa, .ref fa, .bool bare]) Q E s := by
  revert X; k_fill; intro X
  k_dflt (refine' enterC (binds := [("first", .int i t), ("pieces", .ref pa), ("further", .ref fa), ("bare", .bool bare)]) B F X N T ?kA ?kF ?kK ?k6 ?k7 ?k8 ?k9 ?kB ?kD ?_ ?c2 ?c3 ?c4; (case kA => exact rfl); (case kF => exact rfl); (case kK => assumption); (case k6 => k_is); (case k7 => k_is); (case k8 => (simp only []; omega)); (case k9 => exact BindsTo.of_eq rfl); (case kB => exact rfl); (case kD => decide +kernel); (case c2 => exact rfl); (case c3 => exact rfl); (case c4 => exact rfl); k_whole)
  intro g' L' h' tk' cells' hg' hL' hlt' F' N' Y' B' X' T'
  k_lt hlt'
  k_cells Y'
  (try simp only [List.cons_append, List.nil_append] at N')
  (try dsimp only); (try k_fold)
  rename_i oS oR dS dR
  have dS : oS.data = .cell none := dS
  have dR : oR.data = .cell none := dR
  have tk : ∀ b o, o.cls = .type "tuple" → s.heap.get? b = some o → g'.get? b = some o := fun b o hc e => hg' b o (fun hb => noTup N (by walk_at "mine.fa") b hb o e hc) e
  have lk : ∀ {a its}, s.heap.IsList a its → g'.IsList a its := fun {a its} z => by
    obtain ⟨o, e, hc, r⟩ := z
    refine ⟨o, hg' a o (fun hm => ?_) e, hc, r⟩
    simp only [List.map_cons, List.map_nil, List.mem_cons, List.not_mem_nil, or_false] at hm
    rcases hm with rfl | rfl | rfl
    · rw [(N (56, tabObj ps) (by k_mem)).1] at e; cases e; cases hc
    · rw [(N (63, tabObj pt) (by k_mem)).1] at e; cases e; cases hc
    · rw [(N (123, tabObj pl) (by k_mem)).1] at e; cases e; cases hc
  have hpg := lk hpa
  have hfg := lk hfa
  have pg : PcsAt g' vs.toList qs := hp.mono tk
  have rg : PcsAt g' us.toList rs := hr.mono tk
  clear hp hr hpa hfa
  have hvl : vs.size = qs.length := by have h1 := pg.length; rwa [Array.length_toList] at h1
  have hul : us.size = rs.length := by have h1 := rg.length; rwa [Array.length_toList] at h1
  have hsz := hsm.1
  rw [List.length_append] at hsz
  have hsl := sizeLine_eq
  have h143 : @LT.lt Nat _ 143 L' := Nat.lt_of_lt_of_le (Heap.lt_size (X' 143 _ (by k_is))) F'.above
  repeat' walk1
  refine call_acc F' X' N' (by kernel_rfl) (by k_is) (by k_is) ?_
  intro x dx h₁ F₁ N₁ l1 l2 k1
  k_lt l1
  have l2 : @LT.lt Nat _ dx x := l2
  refine init_code (n := 0) (i := i) (t := t) B' F₁ X' (newsSub N₁ (by kqd_sub)) T' rfl (by first | (show dp + 1 + 40 < recursionLimit; omega) | (show dp + 1 + 0 + 40 < recursionLimit; omega) | (show dp + 1 + 1 + 40 < recursionLimit; omega) | (simp only [depth_under_make]; omega)) (by first | (show un + 3 + 1 + 400 < cLine; omega) | (show un + 3 + 400 < cLine; omega) | (simp only [Around.under]; trace_state; omega)) l2 hb ?_
  intro s₂ n₂ k₂ P₂ hx₂ hd₂
  obtain ⟨h₂, gn₂, dr₂, tk₂, os₂⟩ := s₂
  refine ⟨rfl, ?_⟩
  have F₂ := frPost F₁ N₁ P₂.ext (by walk_at "mine.fa")
  have N₂ := newsUpd2 N₁ P₂.ext (o' := accObj dx #[] n₂) (q' := accDict w k₂ i t) (by k_upd) (by k_upd) hx₂ hd₂ (by omega)
  clear F₁ N₁ F' N'
  dsimp only at F₂ N₂
  repeat' walk1
  rename News g' L' _ _ => N₃; rename Fr g' L' _ _ => F₃
  rename_i oR' dR' _
  refine wpAny_For ?_ (by intro _; rfl)
  repeat' walk1
  refine wpAny_pyIter_list (hpg.at fun o e => F₃.keep _ o e) ?_
  have N₀ : News g' L' _ ((x, accObj dx #[] n₂) :: [(dx, accDict w k₂ i t), (L' + 1 + 1, oS), (L' + 1, oR'), (56, tabObj ps), (63, tabObj pt), (123, tabObj pl)]) := N₃
  obtain ⟨opa, hpa1, hpa2, npa, hpa3⟩ := hpg
  have hpax : ∀ p ∈ [(x, accObj dx #[] n₂), (dx, accDict w k₂ i t), (L' + 1 + 1, oS), (L' + 1, oR'), (56, tabObj ps), (63, tabObj pt), (123, tabObj pl)], pa ≠ p.1 := fun p hp e => by
    have := (N₃ p hp).2.2
    rw [← e, hpa1] at this; cases this
  refine loop_push (x := x) (dx := dx) (us := vs) (vs := #[]) (n := n₂) (qs := []) (rs := qs) (o0 := none) (o1 := none) (l := pa)
    (rest := [(dx, accDict w k₂ i t), (L' + 1 + 1, oS), (L' + 1, oR'), (56, tabObj ps), (63, tabObj pt), (123, tabObj pl)]) rfl rfl rfl rfl ⟨_, Heap.get?_push_size _ rfl, rfl, rfl⟩ (Nat.ne_of_gt F₃.ns.lt) (next_is_new F₃) (Nat.ne_of_lt (Heap.lt_size (N₀ _ (.head _)).1))
    (fun p hp => Nat.ne_of_lt (Heap.lt_size (N₀ p (.tail _ hp)).1)) (by simp only [List.mem_cons, List.not_mem_nil, or_false, forall_eq_or_imp, forall_eq]; refine ⟨?_, ?_, ?_, ?_, ?_, ?_⟩ <;> (refine neN ?_; omega)) ⟨_, _, Heap.get?_push_of_some _ (F₃.keep _ _ hpa1), hpa3⟩ (hpax (x, accObj dx #[] n₂) (by k_mem)) (Nat.ne_of_lt (Heap.lt_size (F₃.keep _ _ hpa1)))
    (fun e => by have := nsNe F₃.ns hpa3 (F₃.keep _ _ hpa1); exact this e)
    (twoFr (F₃.push _) rfl rfl) (News.pushKeep N₀ _) .nil (pg.mono fun b o _ e => Heap.get?_push_of_some _ (F₃.keep _ _ e)) P₂.bare ?body ?R
  case body =>
    intro j q' s₁ vs₁ n₁ tf' tp' hq' F₅ N₅ hs₁ hb₁
    obtain ⟨h₅, gn₅, dr₅, tk₅, os₅⟩ := s₁
    have hU₀ : j < vs.size := by
      have h1 : j < qs.length := (List.getElem?_eq_some_iff.mp hq').1
      omega
    have hs₁ : vs₁.size = j := by simpa using hs₁
    clear F₃ N₃ N₀
    simp only [two] at F₅
    dsimp only at F₅ N₅ hb₁
    change Fr g' L' h₅ _ at F₅; change News g' L' h₅ _ at N₅
    repeat' walk1
    refine push_spec (vs := vs₁) (n := n₁) (k := k₂) (t := t) (i := i) (dx := dx) B' F₅ X' (newsSub N₅ (by kqd_sub)) T' rfl (rm 41 hd rfl) (rm 403 hu rfl) (by omega) l2 hb₁ ?_
    intro s₄ D₄ n₄ P₄ hx₄ hDn hD₄
    repeat' walk1
    all_goals first | exact ⟨P₄.ext, P₄.os, P₄.bare, P₄.size⟩ | exact ⟨D₄, n₄, hx₄, hD₄⟩
  case R =>
    intro s₄ vs₄ n₄ o0 o1 F₄ N₄ hP₄ hos₄ hb₄ hk₄
    obtain ⟨h₄, gn₄, dr₄, tk₄, os₄⟩ := s₄
    clear F₃ N₃ N₀ hk₄
    simp only [two] at F₄
    dsimp only at F₄ N₄ hb₄ hos₄ hP₄ ⊢
    change Fr g' L' h₄ _ at F₄; change News g' L' h₄ _ at N₄
    rw [List.nil_append] at hP₄
    have N₄c : h₄.get? (L' + 1 + 1) = some oS := (N₄ (L' + 1 + 1, oS) (by k_mem)).1
    repeat' walk1
    rename News g' L' _ _ => N₅; rename Fr g' L' _ _ => F₅
    rename_i y cy h₅ kA lA h₆ oS' dS' kB
    have kt5 : TupKeep h₄ h₆ := fun b o vs n hc hd e => kB b o (fun z => by rw [z, (N₄c)] at e; cases e; rw [hd] at dS; cases dS) (kA b o e)
    have hP₅ : PcsAt h₆ vs₄.toList qs := hP₄.mono2 kt5
    refine wpAny_Try_except ?_
    rcases hQ with ⟨RR, cv, hFT, ⟨hS', hG', hi'⟩, hQ⟩ | ⟨rfl, hnf, hq₀, hout, hQ⟩
    · refine wpAny_mono (Q := fun (fl : Flow) s₂ => fl = .next ∧ FoldMid w g' L' x dx y (L' + 1 + 1) (L' + 1) oS' oR' RR cv pl s.os s₂) ?firstFT ?restFT fun _ _ e => e
      case firstFT =>
        clear hS' hG' hi' hQ
        have hfne : ∀ b ∈ [x, dx, y, 56, 63], @LT.lt Nat _ b h₆.objs.size :=
          fa_cons (Heap.lt_size (News.get (o := accObj dx vs₄ n₄) N₅ (by k_mem))) (fa_cons (Heap.lt_size (News.get (o := accDict w k₂ i t) N₅ (by k_mem))) (fa_cons (Heap.lt_size (News.get (o := listOf us cy) N₅ (by k_mem)))
            (fa_cons (Heap.lt_size (News.get (o := tabObj ps) N₅ (by k_mem))) (fa_cons (Heap.lt_size (News.get (o := tabObj pt) N₅ (by k_mem))) fa_nil))))
        have hrc : L' + 1 ∉ [x, dx, y, 56, 63] := by walk_at "mine.nm"
        have hsc : L' + 1 + 1 ∉ [x, dx, y, 56, 63] := by walk_at "mine.nm"
        have h123 : 123 ∉ [x, dx, y, 56, 63] := by walk_at "mine.nm"
        show wpAny _ _ _ _ _ _
        (try k_fold)
        rcases hFT with ⟨rfl, rfl, kf, hRR, hnf, hkf⟩ | ⟨rfl, rfl, kf, q₀, qt, hRR, hnf, hq₀, hkf⟩
        · repeat' walk1
          refine kla_eval rfl ?_
          refine lam_make (c := 125) (P := 123) F₅ N₅ T' (codeHd_of_K X' (by kernel_rfl)) rfl (fun c' => by k_upd) hpl hnf rfl ?_
          intro f c' pm ctv h₇ tk₇ F₇ N₇ hf₇ hc₇ gc gf k₇
          have hL7 : LamAt x dx y f h₇ := ⟨_, _, _, _, _, _, _, _, _, _, c', L' + 1, L' + 1 + 1, _, ctv, oR', oS', hf₇, hc₇, ⟨News.get N₇ (by k_mem), dR'⟩, ⟨News.get N₇ (by k_mem), dS'⟩,
            fun hm => Nat.lt_irrefl _ (Nat.lt_of_lt_of_le (hfne _ hm) gf), fun hm => Nat.lt_irrefl _ (Nat.lt_of_lt_of_le (hfne _ hm) gc), hrc, hsc⟩
          have hP₇ : PcsAt h₇ vs₄.toList qs := hP₅.mono2 fun b o vs n hc hd e => k₇ b o (fun z => by rw [z, News.get (o := tabObj pl) N₅ (by k_mem)] at e; cases e; cases hd) e
          clear F₅ N₅
          repeat' walk1
          rename News g' L' _ _ => N₈; rename Fr g' L' _ _ => F₈
          rename_i to h₈ k₈ lt
          have hP₈ : PcsAt h₈ vs₄.toList qs := hP₇.mono fun b o _ e => k₈ b o e
          refine red_spec (kf := kf) (vs := vs₄) (us := us) (n := n₄) (ny := cy) (k := k₂) (t := t) (i := i) (qs := qs) (rs := rs) B' F₈ X' (newsSub N₈ (by kqd_sub)) T' rfl (rm 121 hd rfl) (rm 1203 hu rfl)
            (hL7.mono fun b o _ e => k₈ b o e) hps hpt hP₈ (rg.mono fun b o _ e => F₈.keep b o e) hsm hgd l2 (by omega) (by omega) hi hb₄ (.tuple (News.get N₈ (by k_mem)) rfl rfl .nil) (by omega) hkf ?_
          intro s₉ r as' P₉ H₉ R₉ A₉
          rw [← hRR] at H₉ R₉
          obtain ⟨h₉, gn₉, dr₉, tk₉, os₉⟩ := s₉
          obtain ⟨vs₉, us₉, n₉, ny₉, k₉, t₉, ps₉, pt₉, e1, e2, e3, e4, e5, t1, t2, Q1, Q2⟩ := H₉
          have F₉ := frPost F₈ N₈ P₉.ext (by walk_at "mine.fa")
          dsimp only at e1 e2 e3 e4 e5 Q1 Q2 R₉ A₉ F₉
          have N₉ : News g' L' h₉ [(x, accObj dx vs₉ n₉), (dx, accDict w k₉ RR.2.1 t₉), (y, listOf us₉ ny₉), (56, tabObj ps₉), (63, tabObj pt₉), (L' + 1 + 1, oS'), (L' + 1, oR'), (123, tabObj (pl ++ #[rawInt 83, rawInt 26, .ref c']))] := newsRed (newsSub N₈ (by kqd_sub)) P₉.ext e1 e2 e3 e4 e5 hsc hrc h123
          clear F₈ N₈
          have hn₉ := F₉.ns
          repeat' walk1
          rename News g' L' _ _ => N₁₀; rename Fr g' L' _ _ => F₁₀
          rename_i h₁₀ ks₁₀
          have R₁₀ := A₉.read2 R₉ (tupNs hn₉ ks₁₀) (fun b o vs n _ ho e => ks₁₀ b o (by subst ho; exact nsNe hn₉ (vs := vs) (n := n) rfl e) e)
          have A₁₀ := A₉.keep (fun b o vs n _ ho e => ks₁₀ b o (by subst ho; exact nsNe hn₉ (vs := vs) (n := n) rfl e) e)
          have Q1 := Q1.mono2 fun b o vs n hc hd e => (tupNs hn₉ ks₁₀) b o vs n hc hd e
          have Q2 := Q2.mono2 fun b o vs n hc hd e => (tupNs hn₉ ks₁₀) b o vs n hc hd e
          exact .mk r as' c' vs₉ us₉ n₉ ny₉ k₉ t₉ ps₉ pt₉ _ F₁₀ rfl N₁₀ t1 t2 Q1 Q2 R₁₀ A₁₀ (P₉.os.trans (hos₄.trans P₂.os)) P₉.bare
        · repeat' walk1
          refine kla_eval rfl ?_
          refine lam_make (c := 125) (P := 123) F₅ N₅ T' (codeHd_of_K X' (by kernel_rfl)) rfl (fun c' => by k_upd) hpl hnf rfl ?_
          intro f c' pm ctv h₇ tk₇ F₇ N₇ hf₇ hc₇ gc gf k₇
          have hL7 : LamAt x dx y f h₇ := ⟨_, _, _, _, _, _, _, _, _, _, c', L' + 1, L' + 1 + 1, _, ctv, oR', oS', hf₇, hc₇, ⟨News.get N₇ (by k_mem), dR'⟩, ⟨News.get N₇ (by k_mem), dS'⟩,
            fun hm => Nat.lt_irrefl _ (Nat.lt_of_lt_of_le (hfne _ hm) gf), fun hm => Nat.lt_irrefl _ (Nat.lt_of_lt_of_le (hfne _ hm) gc), hrc, hsc⟩
          have hP₇ : PcsAt h₇ vs₄.toList qs := hP₅.mono2 fun b o vs n hc hd e => k₇ b o (fun z => by rw [z, News.get (o := tabObj pl) N₅ (by k_mem)] at e; cases e; cases hd) e
          clear F₅ N₅
          repeat' walk1
          rename News g' L' _ _ => N₈; rename Fr g' L' _ _ => F₈
          subst hq₀
          refine red1_spec (kf := kf) (q₀ := q₀) (vs := vs₄) (us := us) (n := n₄) (ny := cy) (k := k₂) (t := t) (i := i) (qs := qt) (rs := rs) B' F₈ X' (newsSub N₈ (by kqd_sub)) T' rfl (rm 121 hd rfl) (rm 1203 hu rfl)
            hL7 hps hpt hP₇ (rg.mono fun b o _ e => F₈.keep b o e) hsm hgd l2 (by omega) (by omega) hi hb₄ hkf ?_
          intro s₉ r as' P₉ H₉ R₉ A₉
          rw [← hRR] at H₉ R₉
          obtain ⟨h₉, gn₉, dr₉, tk₉, os₉⟩ := s₉
          obtain ⟨vs₉, us₉, n₉, ny₉, k₉, t₉, ps₉, pt₉, e1, e2, e3, e4, e5, t1, t2, Q1, Q2⟩ := H₉
          have F₉ := frPost F₈ N₈ P₉.ext (by walk_at "mine.fa")
          dsimp only at e1 e2 e3 e4 e5 Q1 Q2 R₉ A₉ F₉
          have N₉ : News g' L' h₉ [(x, accObj dx vs₉ n₉), (dx, accDict w k₉ RR.2.1 t₉), (y, listOf us₉ ny₉), (56, tabObj ps₉), (63, tabObj pt₉), (L' + 1 + 1, oS'), (L' + 1, oR'), (123, tabObj (pl ++ #[rawInt 81, rawInt 26, .ref c']))] := newsRed (newsSub N₈ (by kqd_sub)) P₉.ext e1 e2 e3 e4 e5 hsc hrc h123
          clear F₈ N₈
          have hn₉ := F₉.ns
          repeat' walk1
          rename News g' L' _ _ => N₁₀; rename Fr g' L' _ _ => F₁₀
          rename_i h₁₀ ks₁₀
          have R₁₀ := A₉.read2 R₉ (tupNs hn₉ ks₁₀) (fun b o vs n _ ho e => ks₁₀ b o (by subst ho; exact nsNe hn₉ (vs := vs) (n := n) rfl e) e)
          have A₁₀ := A₉.keep (fun b o vs n _ ho e => ks₁₀ b o (by subst ho; exact nsNe hn₉ (vs := vs) (n := n) rfl e) e)
          have Q1 := Q1.mono2 fun b o vs n hc hd e => (tupNs hn₉ ks₁₀) b o vs n hc hd e
          have Q2 := Q2.mono2 fun b o vs n hc hd e => (tupNs hn₉ ks₁₀) b o vs n hc hd e
          exact .mk r as' c' vs₉ us₉ n₉ ny₉ k₉ t₉ ps₉ pt₉ _ F₁₀ rfl N₁₀ t1 t2 Q1 Q2 R₁₀ A₁₀ (P₉.os.trans (hos₄.trans P₂.os)) P₉.bare
      case restFT =>
        clear hFT F₅ N₅ hP₅ hP₄
        rintro fl s₉ ⟨rfl, r, as', c', vs₉, us₉, n₉, ny₉, k₉, t₉, ps₉, pt₉, m₉, F₉, mt, N₉, t1, t2, Q1, Q2, R₉, A₉, hos₉, hb₉⟩
        obtain ⟨h₉, gn₉, dr₉, tk₉, os₉⟩ := s₉
        obtain ⟨told, i', qs', rs'⟩ := RR
        dsimp only at *
        have F₉ := frOver F₉ mt
        have hsq := Small.left hS'
        have hL2 := hsq.txt
        repeat' walk1
        refine len_spec (k := k₉) (i := i') (t := t₉) (dx := dx) (vs := vs₉) (n := n₉) (qs := qs') (ps := ps₉) B' F₉ X' (newsSub N₉ (by kqd_sub)) T' rfl (rm 41 hd rfl) (rm 404 hu rfl) t1 Q1 hsq hb₉ ?_
        intro s₁₁ t₁₁ ps₁₁ P₁₁ hP₁₁ hps₁₁
        obtain ⟨h₁₁, gn₁₁, dr₁₁, tk₁₁, os₁₁⟩ := s₁₁
        have F₁₁ := frPost F₉ N₉ P₁₁.ext (by walk_at "mine.fa")
        have N₁₁ := newsUpd N₉ P₁₁.ext (by k_upd) hP₁₁
        have tk₁₁' : TupKeep h₉ h₁₁ := fun b o vs n hc hd e => P₁₁.ext b o (fun z => by rw [List.mem_singleton.mp z, News.get (o := tabObj ps₉) N₉ (by k_mem)] at e; cases e; cases hd) e
        have kl₁₁ : ∀ b o vs n, b ∉ [x, dx, y, 56, 63] → o = listOf vs n → h₉.get? b = some o → h₁₁.get? b = some o := fun b o vs n hb _ e => P₁₁.ext b o (fun z => hb (by rw [List.mem_singleton.mp z]; simp)) e
        have R₁₁ := A₉.read2 R₉ tk₁₁' kl₁₁
        have A₁₁ := A₉.keep kl₁₁
        have Q1 := Q1.mono2 tk₁₁'
        have Q2 := Q2.mono2 tk₁₁'
        clear F₉ N₉
        dsimp only at F₁₁ N₁₁
        refine ⟨⟨by omega, by omega⟩, ?_⟩
        repeat' walk1
        have hv9 : vs₉.size ≤ sizeLine := by have h1 := Q1.length; rw [Array.length_toList] at h1; have := hsq.1; omega
        refine comp_acc rfl F₁₁ X' N₁₁ (by k_mem) (by k_is) (by k_is) rfl (fun _ => rfl) hv9 ?_
        intro D cD h₁₂ tk₁₂ F₁₂ N₁₂ lD k₁₂
        clear F₁₁ N₁₁
        repeat' walk1
        rename News g' L' _ _ => N₁₃; rename Fr g' L' _ _ => F₁₃
        rename_i rr h₁₃ k₁₃ lr

        have kk : ∀ b o, h₁₁.get? b = some o → h₁₃.get? b = some o := fun b o e => k₁₃ b o (k₁₂ b o e)
        refine hQ _ rr _ c' ⟨extOf N hg' F₁₃ N₁₃ (by walk_at "mine.fa"), ?_, P₁₁.bare, Nat.le_trans hL' (Nat.le_of_lt F₁₃.ns.lt)⟩ ⟨ps₁₁, pt₉, News.get N₁₃ (by k_mem), News.get N₁₃ (by k_mem), News.get N₁₃ (by k_mem), hps₁₁, t2⟩
          (.list (News.get N₁₃ (by k_mem)) rfl rfl (.cons (Reads.keeps kk R₁₁) (.cons (.int _ _) (.cons (.list (News.get N₁₃ (by k_mem)) rfl rfl (PcsAt.reads (Q1.mono fun b o _ e => kk b o e))) (.cons (.list (News.get N₁₃ (by k_mem)) rfl rfl (PcsAt.reads (Q2.mono fun b o _ e => kk b o e))) .nil)))))
        exact P₁₁.os.trans hos₉
    · repeat' walk1
      refine kla_eval rfl ?_
      refine lam_make (c := 125) (P := 123) F₅ N₅ T' (codeHd_of_K X' (by kernel_rfl)) rfl (fun c' => by k_upd) hpl hnf rfl ?_
      intro f c' pm ctv h₇ tk₇ F₇ N₇ hf₇ hc₇ gc gf k₇
      have hP₇ : PcsAt h₇ vs₄.toList qs := hP₅.mono2 fun b o vs n hc hd e => k₇ b o (fun z => by rw [z, News.get (o := tabObj pl) N₅ (by k_mem)] at e; cases e; cases hd) e
      clear F₅ N₅
      repeat' walk1
      rename News g' L' _ _ => N₈; rename Fr g' L' _ _ => F₈
      subst hout
      have hv0 : vs₄ = #[] := by
        have h1 := hP₇.length
        rw [hq₀] at h1
        exact Array.toList_inj.mp (List.eq_nil_of_length_eq_zero h1)
      subst hv0
      have nW : ∀ b o, h₀.get? b = some o → b ∉ [56, 63, 123] := fun b o e hm => by
        simp only [List.mem_cons, List.not_mem_nil, or_false] at hm
        rcases hm with rfl | rfl | rfl
        · rw [(N (56, tabObj ps) (by k_mem)).2.2] at e; cases e
        · rw [(N (63, tabObj pt) (by k_mem)).2.2] at e; cases e
        · rw [(N (123, tabObj pl) (by k_mem)).2.2] at e; cases e
      have kG : ∀ b o, h₀.get? b = some o → g'.get? b = some o ∧ b ∉ [envX cn cs L a ccd cl].filterMap (·.frame) := fun b o e => ⟨hg' b o (by simpa using nW b o e) (F.keep b o e), fun hm => by
        simp only [envX, List.filterMap_cons, List.filterMap_nil, List.mem_cons, List.not_mem_nil, or_false] at hm
        rw [hm, Heap.get?_none_of_le F.above] at e; cases e⟩
      have zG : h₀.objs.size ≤ L' := Nat.le_trans F.above (Nat.le_trans (Nat.le_of_lt F.ns.lt) hL')
      refine red0 (n := n₄) (hB := h₀) B' F₈ X' (newsSub N₈ (by kqd_sub)) T' rfl (rm 121 hd rfl) (rm 1203 hu rfl) hb₄ X T zG kG ?_
      intro e a0 Bs s₉ kB fl up os₉' b₉
      obtain ⟨h₉, gn₉, dr₉, tk₉, os₉⟩ := s₉
      dsimp only at kB fl up os₉' b₉ ⊢
      refine wpAny_looks_onW rfl rfl fl fun h₁₀ held up₁₀ => ?_
      refine wpAny_landsW held fun h₁₁ fl₁₁ up₁₁ => ?_
      dsimp only at fl₁₁ up₁₀ up₁₁ ⊢
      have uT := (up.trans up₁₀).trans up₁₁
      have oldB : ∀ b o, b ∉ [L, 56, 63, 123] → s.heap.get? b = some o → Bs.get? b = some o := fun b o hb e => by
        simp only [List.mem_cons, List.not_mem_nil, or_false, not_or] at hb
        refine kB b o (fun hm => ?_) (F₈.keep b o (hg' b o (by simpa using hb.2) e))
        rcases List.mem_cons.mp hm with z | hm
        · rw [z, Heap.get?_none_of_le hL'] at e; cases e
        · rcases List.mem_cons.mp hm with z | hm
          · exact hb.1 z
          · cases hm
      have hB₀ : ∀ b o, h₀.get? b = some o → Bs.get? b = some o := fun b o e => oldB b o (by
        have h1 := nW b o e
        simp only [List.mem_cons, List.not_mem_nil, or_false, not_or] at h1 ⊢
        exact ⟨(fun z => by rw [z, Heap.get?_none_of_le F.above] at e; cases e), h1⟩) (F.keep b o e)
      obtain ⟨ob, hob, hobc⟩ := fl₁₁.there
      have F₁₁ : Fr h₀ L' h₁₁ _ := ⟨uT.ns F₈.ns, fun b o e => fl₁₁.1 b o (hB₀ b o e), zG⟩
      refine wpAny_handleBy_builtin (X := "TypeError") (T := "TypeError") (b := true) PySem.F.isExc_TypeError PySem.F.notTuple_TypeError PySem.F.self_TypeError (nameX_B F₁₁ X (topRead_of T) (by k_is) Boot.«TypeError» (by decide +kernel) ?_)
      refine ⟨rfl, ⟨ob, hob, hobc⟩, ?_⟩
      rw [if_pos rfl]
      refine lands_againW fl₁₁ fun h₁₂ fl₁₂ up₁₂ => ?_
      dsimp only at fl₁₂ up₁₂ ⊢
      have uT₂ := uT.trans up₁₂
      rw [arm_execs_cons]
      refine wpAny_bind (wpAny_Return_some ?_)
      rw [arm_eval_List]
      refine wpAny_bind (wpAny_standAt (wpAny_bind (Calls.spliced_nil ?_)))
      refine wpAny_newObj_type ?_ (by size_fits)
      refine wpAny_pure ?_
      have kp : ∀ b o, Bs.get? b = some o → (h₁₂.push { cls := .type "list", data := .seq ([] : List Value).toArray }).get? b = some o := fun b o e => Heap.get?_push_of_some _ (fl₁₂.1 b o e)
      have tabF : ∀ b q q₀, (b, tabObj q) ∈ [(x, accObj dx #[] n₄), (dx, accDict w k₂ i t), (y, listOf us cy), (L' + 1 + 1, oS'), (L' + 1, oR'), (56, tabObj ps), (63, tabObj pt), (123, tabObj (pl ++ #[rawInt 81, rawInt 26, .ref c']))] → (b, tabObj q₀) ∈ [(56, tabObj ps), (63, tabObj pt), (123, tabObj pl)] → Bs.get? b = some (tabObj q) := fun b q q₀ h1 h2 => by
        have z8 := newsSub (news' := [(x, accObj dx #[] n₄), (dx, accDict w k₂ i t), (y, listOf us cy), (L' + 1 + 1, oS'), (L' + 1, oR'), (56, tabObj ps), (63, tabObj pt), (123, tabObj (pl ++ #[rawInt 81, rawInt 26, .ref c']))]) N₈ (by kqd_sub) _ h1
        refine kB b _ (fun hm => ?_) z8.1
        rcases List.mem_cons.mp hm with z | hm
        · exact z8.2.1 z
        · rcases List.mem_cons.mp hm with z | hm
          · exact (N _ h2).2.1 z
          · cases hm
      have hLW : L ∉ [56, 63, 123] := fun hm => by
        simp only [List.mem_cons, List.not_mem_nil, or_false] at hm
        rcases hm with z | z | z
        · exact (N (56, tabObj ps) (by k_mem)).2.1 z.symm
        · exact (N (63, tabObj pt) (by k_mem)).2.1 z.symm
        · exact (N (123, tabObj pl) (by k_mem)).2.1 z.symm
      have nsL : h₁₂.Ns L m := uT₂.ns (F.ns.at' fun o e => F₈.keep L o (hg' L o (by simpa using hLW) e))
      have zL : L' < h₁₂.objs.size := (uT₂.ns F₈.ns).lt
      refine hQ _ h₁₂.objs.size [h₁₂.objs.size] (fun b o hb e => kp b o (oldB b o hb e)) (nsL.at' fun o e => Heap.get?_push_of_some _ e) ?_ (os₉'.trans (hos₄.trans P₂.os)) b₉
        ⟨ps, pt, _, kp _ _ (tabF 56 _ ps (by k_mem) (by k_mem)), kp _ _ (tabF 63 _ pt (by k_mem) (by k_mem)), kp _ _ (tabF 123 _ pl (by k_mem) (by k_mem)), hps, hpt, by simpa using TriplesOk_snoc _ _ _ _ hpl⟩ (.list (Heap.get?_push_size _ rfl) rfl rfl .nil)
      show s.heap.objs.size ≤ (h₁₂.push _).objs.size
      rw [Heap.size_push]
      exact Nat.le_succ_of_le (Nat.le_trans hL' (Nat.le_of_lt zL))
theorem fold_F {w : World} {dp un : Nat} {gd : Option (List Code)} {cn : Str} {cs : Scope} {a : Addr} {ccd : Value} {cl : List (Str × Addr)} {outer : List Env} {A₀ : Around} {base h₀ : Heap} {L : Addr} {m : Str → Option Value} {s : Shared}
   {loose : List Str} {mean : ExcName → Option Value} {mg mb : Str → Option Value} {p : Program} {Q E : Value → Shared → Prop} {pa fa : Addr} {vs us : Array Value} {t : Tok} {i : Int} {ps pt pl : Array Value} {qs rs : List Pc} {kf : Nat}
   (B : Below A₀ base outer h₀) (F : Fr h₀ L s.heap m) (X : (Mine.hd.heap_39 w.params).In h₀) (N : News h₀ L s.heap [(56, tabObj ps), (63, tabObj pt), (123, tabObj pl)]) (T : Top p loose mean mg mb h₀) (hk : cs.kind = .function) (hd : dp + 200 < recursionLimit) (hu : un + 2000 < cLine)
   (hps : TriplesOk ps.toList) (hpt : TriplesOk pt.toList) (hpl : TriplesOk pl.toList) (hpa : s.heap.IsList pa vs) (hfa : s.heap.IsList fa us) (hp : PcsAt s.heap vs.toList qs) (hr : PcsAt s.heap us.toList rs) (hsm : Small (qs ++ rs)) (hgd : ∀ q ∈ qs ++ rs, Good q) (hi : 0 ≤ i ∧ i ≤ 10) (hb : AllBare s.gens) (hnf : codeAmong ⟨83, 26, 83, 80⟩ pl.toList = none) (hkf : qs.length + rs.length < kf)
   (hQ : ∀ s' r as' c', Post [56, 63, 123] s s' → (∃ ps' pt', s'.heap.get? 56 = some (tabObj ps') ∧ s'.heap.get? 63 = some (tabObj pt') ∧ s'.heap.get? 123 = some (tabObj (pl ++ #[rawInt 83, rawInt 26, .ref c'])) ∧ TriplesOk ps'.toList ∧ TriplesOk pt'.toList) → Reads s'.heap (.ref r) (.list [.tuple (runP kf 0 i qs rs []).1, .int ((runP kf 0 i qs rs []).2.1 + (txt (runP kf 0 i qs rs []).2.2.1).length), .list (pcsD (runP kf 0 i qs rs []).2.2.1), .list (pcsD (runP kf 0 i qs rs []).2.2.2)]) as' → Q (.ref r) s') :
   wpAny (model PySem.Challenge.rw_mq0119_01.row.prog w) (ktrTop dp un gd cn cs L a ccd cl outer) (call (.ref 126) [.int i t, .ref pa, .ref fa, .bool false]) Q E s := fold_all B F X N T hk hd hu hps hpt hpl hpa hfa hp hr hsm hgd hi hb (.inl ⟨_, _, .inl ⟨rfl, rfl, kf, rfl, hnf, hkf⟩, runP_facts kf 0 i qs rs [] hsm hgd hi, hQ⟩)
theorem fold_T {w : World} {dp un : Nat} {gd : Option (List Code)} {cn : Str} {cs : Scope} {a : Addr} {ccd : Value} {cl : List (Str × Addr)} {outer : List Env} {A₀ : Around} {base h₀ : Heap} {L : Addr} {m : Str → Option Value} {s : Shared}
   {loose : List Str} {mean : ExcName → Option Value} {mg mb : Str → Option Value} {p : Program} {Q E : Value → Shared → Prop} {pa fa : Addr} {vs us : Array Value} {t : Tok} {i : Int} {ps pt pl : Array Value} {qs rs : List Pc} {kf : Nat} {q₀ : Pc} {qt : List Pc}
   (B : Below A₀ base outer h₀) (F : Fr h₀ L s.heap m) (X : (Mine.hd.heap_39 w.params).In h₀) (N : News h₀ L s.heap [(56, tabObj ps), (63, tabObj pt), (123, tabObj pl)]) (T : Top p loose mean mg mb h₀) (hk : cs.kind = .function) (hd : dp + 200 < recursionLimit) (hu : un + 2000 < cLine)
   (hps : TriplesOk ps.toList) (hpt : TriplesOk pt.toList) (hpl : TriplesOk pl.toList) (hpa : s.heap.IsList pa vs) (hfa : s.heap.IsList fa us) (hp : PcsAt s.heap vs.toList qs) (hr : PcsAt s.heap us.toList rs) (hsm : Small (qs ++ rs)) (hgd : ∀ q ∈ qs ++ rs, Good q) (hi : 0 ≤ i ∧ i ≤ 10) (hb : AllBare s.gens) (hnf : codeAmong ⟨81, 26, 81, 80⟩ pl.toList = none) (hq₀ : qs = q₀ :: qt) (hkf : (q₀ :: qt).length + rs.length < kf + 1)
   (hQ : ∀ s' r as' c', Post [56, 63, 123] s s' → (∃ ps' pt', s'.heap.get? 56 = some (tabObj ps') ∧ s'.heap.get? 63 = some (tabObj pt') ∧ s'.heap.get? 123 = some (tabObj (pl ++ #[rawInt 81, rawInt 26, .ref c'])) ∧ TriplesOk ps'.toList ∧ TriplesOk pt'.toList) → Reads s'.heap (.ref r) (.list [.tuple (runP kf 1 i (q₀ :: qt) rs [.str q₀.1, .str q₀.2]).1, .int ((runP kf 1 i (q₀ :: qt) rs [.str q₀.1, .str q₀.2]).2.1 + (txt (runP kf 1 i (q₀ :: qt) rs [.str q₀.1, .str q₀.2]).2.2.1).length), .list (pcsD (runP kf 1 i (q₀ :: qt) rs [.str q₀.1, .str q₀.2]).2.2.1), .list (pcsD (runP kf 1 i (q₀ :: qt) rs [.str q₀.1, .str q₀.2]).2.2.2)]) as' → Q (.ref r) s') :
   wpAny (model PySem.Challenge.rw_mq0119_01.row.prog w) (ktrTop dp un gd cn cs L a ccd cl outer) (call (.ref 126) [.int i t, .ref pa, .ref fa, .bool true]) Q E s := by
  subst hq₀
  exact fold_all B F X N T hk hd hu hps hpt hpl hpa hfa hp hr hsm hgd hi hb (.inl ⟨_, _, .inr ⟨rfl, rfl, kf, q₀, qt, rfl, hnf, rfl, hkf⟩, runP_facts kf 1 i (q₀ :: qt) rs [.str q₀.1, .str q₀.2] hsm hgd hi, hQ⟩)
theorem fold_E {w : World} {dp un : Nat} {gd : Option (List Code)} {cn : Str} {cs : Scope} {a : Addr} {ccd : Value} {cl : List (Str × Addr)} {outer : List Env} {A₀ : Around} {base h₀ : Heap} {L : Addr} {m : Str → Option Value} {s : Shared}
   {loose : List Str} {mean : ExcName → Option Value} {mg mb : Str → Option Value} {p : Program} {Q E : Value → Shared → Prop} {pa fa : Addr} {vs us : Array Value} {t : Tok} {i : Int} {ps pt pl : Array Value} {qs rs : List Pc} 
   (B : Below A₀ base outer h₀) (F : Fr h₀ L s.heap m) (X : (Mine.hd.heap_39 w.params).In h₀) (N : News h₀ L s.heap [(56, tabObj ps), (63, tabObj pt), (123, tabObj pl)]) (T : Top p loose mean mg mb h₀) (hk : cs.kind = .function) (hd : dp + 200 < recursionLimit) (hu : un + 2000 < cLine)
   (hps : TriplesOk ps.toList) (hpt : TriplesOk pt.toList) (hpl : TriplesOk pl.toList) (hpa : s.heap.IsList pa vs) (hfa : s.heap.IsList fa us) (hp : PcsAt s.heap vs.toList qs) (hr : PcsAt s.heap us.toList rs) (hsm : Small (qs ++ rs)) (hgd : ∀ q ∈ qs ++ rs, Good q) (hi : 0 ≤ i ∧ i ≤ 10) (hb : AllBare s.gens) (hnf : codeAmong ⟨81, 26, 81, 80⟩ pl.toList = none) (hq₀ : qs = []) (hout : outer = [])
   (hQ : ∀ s' r as', (∀ b o, b ∉ [L, 56, 63, 123] → s.heap.get? b = some o → s'.heap.get? b = some o) → s'.heap.Ns L m → s.heap.objs.size ≤ s'.heap.objs.size → s'.os = s.os → AllBare s'.gens →
      (∃ ps' pt' pl', s'.heap.get? 56 = some (tabObj ps') ∧ s'.heap.get? 63 = some (tabObj pt') ∧ s'.heap.get? 123 = some (tabObj pl') ∧ TriplesOk ps'.toList ∧ TriplesOk pt'.toList ∧ TriplesOk pl'.toList) → Reads s'.heap (.ref r) (.list []) as' → Q (.ref r) s') :
   wpAny (model PySem.Challenge.rw_mq0119_01.row.prog w) (ktrTop dp un gd cn cs L a ccd cl outer) (call (.ref 126) [.int i t, .ref pa, .ref fa, .bool true]) Q E s := fold_all B F X N T hk hd hu hps hpt hpl hpa hfa hp hr hsm hgd hi hb (.inr ⟨rfl, hnf, hq₀, hout, hQ⟩)
end
theorem words9 : True := by
  k_with_none
  k_with "mine.mem" => (repeat (first | exact List.Mem.head _ | refine List.Mem.tail _ ?_))
  k_with "mine.nm" => ((repeat' (first | exact nm_nil | refine nm_cons ?_ ?_)) <;> (first | assumption | ((try dsimp only); first | decide | (refine neN ?_; omega))))
  k_with "mine.fa1" => (first | exact ncR | exact ncN | exact ncL | exact ncD | (walk_at "mine.mem"; done) | (refine fa_in ?_; walk_at "mine.mem"; done) | (refine fa_out ?_; walk_at "mine.mem"; done) | (refine Or.inl ⟨?_, ?_⟩; (focus (walk_at "mine.mem"; done)); (walk_at "mine.nm"; done)) | (refine Or.inr ⟨by assumption, ?_⟩; walk_at "mine.mem"; done) | (refine neN ?_; omega))
  k_with "mine.fa" => (first | exact fa_all | ((repeat' (first | exact fa_nil | refine fa_cons ?_ ?_)); (all_goals walk_at "mine.fa1"); done) | simp)
  k_with "getMethod ref" => (k_here; k_dflt (refine' getMethod_acc (by k_in) (by k_inst) (by k_is) (by k_is) (by k_is) (by k_is) (by decide) (by k_get) ?_; k_whole))
  k_with "call builtin:list.append" => (k_here; (with_reducible show wpAny _ _ (call (Value.builtin _) [Value.ref _, _]) _ _ _); k_dflt (refine' acc_append_K (by k_asm) (by k_asm) (by k_asm) (by k_upd) (by k_is) (by assumption) ?_; k_whole); intro _ _ _; (try k_sweep))
  k_with "getAttr ref" => (k_here; k_dflt (refine' get_acc (by k_in) (by exact News.get (by k_asm) (by k_mem)) (by exact News.get (by k_asm) (by k_mem)) (by k_is) (by k_is) (by k_is) (by k_is) (by k_is) (by k_get) (by k_handed) ?_; k_whole))
  k_with "setAttr ref" => (k_here; k_dflt (refine' set_attr_acc (by k_asm) (by k_asm) (by k_asm) (by k_inst) (by exact rfl) (by k_is) (by k_is) (by exact rfl) (by k_is) (by k_is) (by k_get) (by k_put) (by k_upd) (by exact Nat.le_of_ble_eq_true rfl) ?_; k_whole; intro _ _ _; (try k_sweep)))
  k_with "getMethod ref" => (k_here; k_dflt (refine' sup_meth bt_pop (by k_asm) (by k_asm) (by k_asm) (by k_mem) (by k_inst) (by k_is) (by ks_is) (by k_is) (by decide) ?_; intro _ _ _ _ l1; (try k_lt l1); (try (revert l1; intro _))))
  k_with "getMethod ref" => (k_here; k_dflt (refine' sup_meth bt_init (by k_asm) (by k_asm) (by k_asm) (by k_mem) (by k_inst) (by k_is) (by ks_is) (by k_is) (by decide) ?_; intro _ _ _ _ l1; (try k_lt l1); (try (revert l1; intro _))))
  k_with "getMethod ref" => (k_here; k_dflt (refine' sup_meth bt_len (by k_asm) (by k_asm) (by k_asm) (by k_mem) (by k_inst) (by k_is) (by ks_is) (by k_is) (by decide) ?_; intro _ _ _ _ l1; (try k_lt l1); (try (revert l1; intro _))))
  k_with "subscriptTail Name Slice ref ref" => (k_here; k_dflt (refine' slice_from (by k_asm) (by k_asm) (by k_mem) ?_ (by with_unfolding_all rfl) (by kmk_pure) (by omega)); intro _ _ _ _ l1; (try k_lt l1); (try (revert l1; intro _)); (try k_sweep))
  k_with "subscriptTail Name Slice ref ref" => (k_here; k_dflt (refine' slice_up (by k_asm) (by k_asm) (by k_mem) ?_ (by with_unfolding_all rfl) (by kmk_pure) (by omega)); intro _ _ _ _ l1; (try k_lt l1); (try (revert l1; intro _)); (try k_sweep))
  k_with "call builtin:len" => (k_here; (with_reducible show wpAny _ _ (call (Value.builtin _) [Value.str _ _]) _ _ _); k_dflt (refine' PySem.P.len_str (by omega) ?_; k_whole))
  trivial
section
open PySem PySem.W PyProof.Rows PySem.Calls
inductive WalkMid (g : Heap) (L pa fa : Addr) (vs us : Array Value) (np nf : Nat) (i : Int) (t : Tok) (ds₀ : List PyData) (j₀ : Nat) (os : OsState) (s : Shared) : Prop
  | mk (to : Addr) (m : Str → Option Value) (tJ : Tok) (as : List Addr) (F : Fr g L s.heap m) (m1 : m (Str.ofString "first") = some (.int i t)) (m2 : m (Str.ofString "pieces") = some (.ref pa)) (m3 : m (Str.ofString "store") = some (.ref fa)) (m4 : m (Str.ofString "told") = some (.ref to)) (m5 : m (Str.ofString "place") = some (.int j₀ tJ))
    (N : News g L s.heap [(pa, listOf vs np), (fa, listOf us nf)]) (R : Reads s.heap (.ref to) (.tuple ds₀) as) (ho : s.os = os) (hb : AllBare s.gens) : WalkMid g L pa fa vs us np nf i t ds₀ j₀ os s
inductive WalkInv (g : Heap) (L : Addr) (RR : List PyData × Int × List Pc × List Pc) (os : OsState) (k : Nat) (s' : Shared) : Prop
  | mk (j : Nat) (i' : Int) (pa' fa' : Addr) (np' nf' : Nat) (vs' us' : Array Value) (qs' rs' : List Pc) (ds' : List PyData) (as' : List Addr) (to' : Addr) (tI tJ : Tok) (m' : Str → Option Value) (F : Fr g L s'.heap m')
    (m1 : m' (Str.ofString "first") = some (.int i' tI)) (m2 : m' (Str.ofString "pieces") = some (.ref pa')) (m3 : m' (Str.ofString "store") = some (.ref fa')) (m4 : m' (Str.ofString "told") = some (.ref to')) (m5 : m' (Str.ofString "place") = some (.int j tJ))
    (N : News g L s'.heap [(pa', listOf vs' np'), (fa', listOf us' nf')]) (P : PcsAt s'.heap vs'.toList qs') (U : PcsAt s'.heap us'.toList rs') (R : Reads s'.heap (.ref to') (.tuple ds') as') (fl : flatAll ds' = true) (sm : Small (qs' ++ rs')) (gd : ∀ q ∈ qs' ++ rs', Good q) (hi : 0 ≤ i' ∧ i' ≤ 10) (hl : ds'.length + (qs'.length + rs'.length - j) ≤ 1000)
    (hk : qs'.length + rs'.length < k + j) (hr : runP k j i' qs' rs' ds' = RR) (ho : s'.os = os) (hb : AllBare s'.gens) : WalkInv g L RR os k s'
inductive TurnMid (g : Heap) (L to : Addr) (i : Int) (qs rs gave : List Pc) (q : Pc) (j : Nat) (tl : List (Addr × Obj)) (os : OsState) (s : Shared) : Prop
  | mk (gA pa fa : Addr) (gvs vs us : Array Value) (gn np nf : Nat) (tI tJ tf tp : Tok) (m : Str → Option Value) (F : Fr g L s.heap m)
    (m1 : m (Str.ofString "first") = some (.int i tI)) (m2 : m (Str.ofString "pieces") = some (.ref pa)) (m3 : m (Str.ofString "store") = some (.ref fa)) (m4 : m (Str.ofString "told") = some (.ref to)) (m5 : m (Str.ofString "place") = some (.int j tJ)) (m6 : m (Str.ofString "fws") = some (.str q.1 tf)) (m7 : m (Str.ofString "part") = some (.str q.2 tp)) (m8 : m (Str.ofString "gave") = some (.ref gA))
    (N : News g L s.heap ((gA, listOf gvs gn) :: (pa, listOf vs np) :: (fa, listOf us nf) :: tl)) (P : PcsAt s.heap vs.toList qs) (U : PcsAt s.heap us.toList rs) (G : PcsAt s.heap gvs.toList gave) (ho : s.os = os) (hb : AllBare s.gens) : TurnMid g L to i qs rs gave q j tl os s
theorem turn_mk {g : Heap} {L to : Addr} {i : Int} {qs rs gave : List Pc} {q : Pc} {j : Nat} {tl news : List (Addr × Obj)} {os : OsState} {s : Shared} {gA pa fa : Addr} {gvs vs us : Array Value} {gn np nf : Nat} {tI tJ tf tp : Tok} {m : Str → Option Value} (F : Fr g L s.heap m)
    (h1 : m (Str.ofString "first") = some (.int i tI)) (h2 : m (Str.ofString "pieces") = some (.ref pa)) (h3 : m (Str.ofString "store") = some (.ref fa)) (h4 : m (Str.ofString "told") = some (.ref to)) (h5 : m (Str.ofString "place") = some (.int j tJ)) (h6 : m (Str.ofString "fws") = some (.str q.1 tf)) (h7 : m (Str.ofString "part") = some (.str q.2 tp)) (h8 : m (Str.ofString "gave") = some (.ref gA))
    (N : News g L s.heap news) (n1 : (gA, listOf gvs gn) ∈ news) (n2 : (pa, listOf vs np) ∈ news) (n3 : (fa, listOf us nf) ∈ news) (nt : ∀ p ∈ tl, p ∈ news) (P : PcsAt s.heap vs.toList qs) (U : PcsAt s.heap us.toList rs) (G : PcsAt s.heap gvs.toList gave) (ho : s.os = os) (hb : AllBare s.gens) : TurnMid g L to i qs rs gave q j tl os s := by
  refine ⟨gA, pa, fa, gvs, vs, us, gn, np, nf, tI, tJ, tf, tp, m, F, h1, h2, h3, h4, h5, h6, h7, h8, fun p hp => ?_, P, U, G, ho, hb⟩
  rcases List.mem_cons.mp hp with rfl | hp
  · exact N _ n1
  · rcases List.mem_cons.mp hp with rfl | hp
    · exact N _ n2
    · rcases List.mem_cons.mp hp with rfl | hp
      · exact N _ n3
      · exact N _ (nt p hp)
theorem cut_m1 (n : Nat) : cut (-1) n = n - 1 := by unfold cut; rw [if_pos (by decide)]; omega
set_option maxRecDepth 100000 in
set_option maxHeartbeats 8000000 in
theorem walk_spec {w : World} {dp un : Nat} {gd : Option (List Code)} {cn : Str} {cs : Scope} {a : Addr} {ccd : Value} {cl : List (Str × Addr)} {outer : List Env} {A₀ : Around} {base h₀ : Heap} {L : Addr} {m : Str → Option Value} {s : Shared}
   {loose : List Str} {mean : ExcName → Option Value} {mg mb : Str → Option Value} {p : Program} {Q E : Value → Shared → Prop} {pa fa : Addr} {vs us : Array Value} {np nf : Nat} {t : Tok} {i : Int} {qs rs : List Pc} {bare : Bool} {ds₀ : List PyData} {j₀ kf : Nat}
   (B : Below A₀ base outer h₀) (F : Fr h₀ L s.heap m) (X : (Mine.hd.heap_39 w.params).In h₀) (N : News h₀ L s.heap [(pa, listOf vs np), (fa, listOf us nf)]) (T : Top p loose mean mg mb h₀) (hk : cs.kind = .function) (hd : dp + 120 < recursionLimit) (hu : un + 1200 < cLine)
   (hp : PcsAt s.heap vs.toList qs) (hr : PcsAt s.heap us.toList rs) (hsm : Small (qs ++ rs)) (hgd : ∀ q ∈ qs ++ rs, Good q) (hi : 0 ≤ i ∧ i ≤ 10) (hb : AllBare s.gens)
   (hfl : flatAll ds₀ = true) (hkf : qs.length + rs.length < kf + j₀) (hdl : ds₀.length ≤ 2)
   (hQ : ∀ s' r as', Post [pa, fa] s s' → Reads s'.heap (.ref r) (.list [.tuple (runP kf j₀ i qs rs ds₀).1, .int ((runP kf j₀ i qs rs ds₀).2.1 + (txt (runP kf j₀ i qs rs ds₀).2.2.1).length), .list (pcsD (runP kf j₀ i qs rs ds₀).2.2.1), .list (pcsD (runP kf j₀ i qs rs ds₀).2.2.2)]) as' → Q (.ref r) s')
   (hst : (bare = false ∧ ds₀ = [] ∧ j₀ = 0) ∨ (bare = true ∧ ∃ q₀ qt, qs = q₀ :: qt ∧ ds₀ = [.str q₀.1, .str q₀.2] ∧ j₀ = 1)) :
   wpAny (model PySem.Challenge.rw_mq0119_01.row.prog w) (ktrTop dp un gd cn cs L a ccd cl outer) (call (.ref 138) [.int i t, .ref pa, .ref fa, .bool bare]) Q E s := by
  revert X; k_fill; intro X
  k_dflt (refine' enterE (binds := [("first", .int i t), ("pieces", .ref pa), ("store", .ref fa), ("bare", .bool bare)]) ?k1 ?k2 ?k3 ?k4 ?k5 ?kA ?kF ?kK ?k6 ?k7 ?k8 ?k9 ?kB ?_ ?c2 ?c3 ?c4 ?c5; (case kA => exact rfl); (case kF => exact rfl); (case kK => assumption); (case k1 => k_asm); (case k2 => k_asm); (case k3 => k_asm); (case k4 => k_asm); (case k5 => k_asm); (case k6 => k_is); (case k7 => k_is); (case k8 => (simp only []; omega)); (case k9 => first | exact binds_K (by k_in) rfl (by k_is) rfl rfl rfl | exact BindsTo.of_eq rfl); (case c5 => decide); (case kB => exact locs rfl); (case c2 => exact rfl); (case c3 => exact rfl); (case c4 => exact rfl); k_whole)
  intro g' L' h' hg' hL' hlt' F' N' B' X' T'
  k_lt hlt'
  (try dsimp only); (try k_fold)
  have tk : ∀ b o, o.cls = .type "tuple" → s.heap.get? b = some o → g'.get? b = some o := fun b o hc e => hg' b o (fun hb => noTup N (by walk_at "mine.fa") b hb o e hc) e
  have pg : PcsAt g' vs.toList qs := hp.mono tk
  have rg : PcsAt g' us.toList rs := hr.mono tk
  clear hp hr
  have hvl : vs.size = qs.length := by have h1 := pg.length; rwa [Array.length_toList] at h1
  have hul : us.size = rs.length := by have h1 := rg.length; rwa [Array.length_toList] at h1
  have hsz := hsm.1
  rw [List.length_append] at hsz
  have hsl := sizeLine_eq
  refine execs_cut (wpAny_mono (Q := fun (f : Flow) s' => f = .next ∧ WalkMid g' L' pa fa vs us np nf i t ds₀ j₀ s.os s') ?first (fun f s₁ hf => ?rest) fun _ _ e => e)
  case rest =>
    obtain ⟨rfl, to₀, m₁, tJ₀, as₀, F₁, m1, m2, m3, m4, m5, N₁, R₁, os₁', hb₁⟩ := hf
    obtain ⟨h₁, gn₁, dr₁, tk₁, os₁⟩ := s₁
    dsimp only at F₁ N₁ R₁ os₁' hb₁ ⊢
    walk1
    refine wpAny_While ?_
    refine codeAny_whileLoop (WalkInv g' L' (runP kf j₀ i qs rs ds₀) s.os) ?turn kf ?init
    case init =>
      exact ⟨j₀, i, pa, fa, np, nf, vs, us, qs, rs, ds₀, as₀, to₀, t, tJ₀, m₁, F₁, m1, m2, m3, m4, m5, N₁, pg.mono fun b o _ e => F₁.keep b o e, rg.mono fun b o _ e => F₁.keep b o e, R₁, hfl, hsm, hgd, hi, by omega, hkf, rfl, os₁', hb₁⟩
    case turn =>
      clear F₁ N₁ R₁ pg rg m1 m2 m3 m4 m5
      rintro k s₂ ⟨j, i', pa', fa', np', nf', vs', us', qs', rs', ds', as', to', tI, tJ, m₂, F₂, m1, m2, m3, m4, m5, N₂, P₂, U₂, R₂, fl₂, sm₂, gd₂, hi₂, hl₂, hk₂, run₂, os₂', hb₂⟩
      obtain ⟨h₂, gn₂, dr₂, tk₂, os₂⟩ := s₂
      dsimp only at F₂ N₂ P₂ U₂ R₂ os₂' hb₂ ⊢
      have F₂ := frOver (frOver (frOver (frOver (frOver F₂ m1) (x := Str.ofString "pieces") (v := .ref pa') m2) (x := Str.ofString "store") (v := .ref fa') m3) (x := Str.ofString "told") (v := .ref to') m4) (x := Str.ofString "place") (v := .int j tJ) m5
      obtain ⟨ta, a1, a2⟩ := P₂.tl
      obtain ⟨tb, b1, b2⟩ := U₂.tl
      obtain ⟨tc, c1, c2⟩ := readsTl (d := .tuple ds') fl₂ R₂
      obtain ⟨tl, Nt, kt⟩ := keepTl F₂ (tl := ta ++ (tb ++ tc)) fun p hp => (List.mem_append.mp hp).elim (a1 p) fun hp => (List.mem_append.mp hp).elim (b1 p) (c1 p)
      have up : ∀ h' m', Fr g' L' h' m' → News g' L' h' tl → PcsAt h' vs'.toList qs' ∧ PcsAt h' us'.toList rs' ∧ Reads h' (.ref to') (.tuple ds') as' := fun h' m' F N => by
        have z := kt h' m' F N
        exact ⟨a2 h' fun p hp => z p (List.mem_append_left _ hp), b2 h' fun p hp => z p (List.mem_append_right _ (List.mem_append_left _ hp)), c2 h' fun p hp => z p (List.mem_append_right _ (List.mem_append_right _ hp))⟩
      have N₃ : News g' L' h₂ ((pa', listOf vs' np') :: (fa', listOf us' nf') :: tl) := fun p hp => by
        rcases List.mem_cons.mp hp with rfl | hp
        · exact N₂ _ (by k_mem)
        · rcases List.mem_cons.mp hp with rfl | hp
          · exact N₂ _ (by k_mem)
          · exact Nt p hp
      clear N₂ Nt R₂ a1 a2 b1 b2 c1 c2 kt
      have hvl : vs'.size = qs'.length := by have h1 := P₂.length; rwa [Array.length_toList] at h1
      have hul : us'.size = rs'.length := by have h1 := U₂.length; rwa [Array.length_toList] at h1
      have hsz := sm₂.1
      rw [List.length_append] at hsz
      repeat' walk1
      rotate_left
      · as_aux_lemma =>
          rename ¬((j : Int) < (qs'.length : Int)) => hj
          rename Fr g' L' _ _ => F₃
          have u₃ := up _ _ F₃ (newsSub N₃ fun p hp => .tail _ (.tail _ hp))
          have hsq := Small.left sm₂
          have hL2 := hsq.txt
          refine text_spec (vs := vs') (qs := qs') B' F₃ X' T' rfl (rm 41 hd rfl) (rm 403 hu rfl) ⟨_, News.get N₃ (by k_mem), rfl, _, rfl⟩ u₃.1 hsq hb₂ ?_
          intro s₄ t₄ P₄
          obtain ⟨h₄, gn₄, dr₄, tk₄, os₄⟩ := s₄
          have F₄ := frPost F₃ N₃ P₄.ext (fun b hb => nomatch hb)
          have N₄ := newsPost N₃ P₄.ext (fun p hp => .inl ⟨hp, by walk_at "mine.fa"⟩)
          clear F₃ N₃
          dsimp only at F₄ N₄
          repeat' walk1
          rename Fr g' L' _ _ => F₅; rename News g' L' _ _ => N₅
          rename_i rr h₅ lr
          have u₅ := up _ _ F₅ (newsSub N₅ fun p hp => .tail _ (.tail _ (.tail _ hp)))
          have hjn : qs'[j]? = none := List.getElem?_eq_none (by omega)
          rw [runP_end hjn] at run₂
          rw [← run₂] at hQ
          exact hQ _ rr _ ⟨fun b o hb e => F₅.keep _ _ (hg' b o (by simpa using hb) e), P₄.os.trans os₂', P₄.bare, Nat.le_trans hL' (Nat.le_of_lt F₅.ns.lt)⟩
            (.list (News.get N₅ (by k_mem)) rfl rfl (.cons u₅.2.2 (.cons (.int _ _) (.cons (.list (News.get N₅ (by k_mem)) rfl rfl u₅.1.reads) (.cons (.list (News.get N₅ (by k_mem)) rfl rfl u₅.2.1.reads) .nil)))))
      · rename (j : Int) < (qs'.length : Int) => hj
        have hj : j < qs'.length := by omega
        obtain ⟨T, tf, tp, hv, hT⟩ := P₂.got (List.getElem?_eq_getElem hj)
        have hqj : qs'[j]? = some qs'[j] := List.getElem?_eq_getElem hj
        have hgq : Good qs'[j] := gd₂ _ (List.mem_append_left _ (List.getElem_mem hj))
        generalize qs'[j] = q at hT hqj hgq
        show wpAny _ _ _ _ _ _
        k_fold
        refine item_at (v := .ref T) N₃ (by k_mem) (by omega) (by omega) (by simpa using hv) ?_ (by with_unfolding_all rfl)
        iterate 20 walk1
        rename Fr g' L' _ _ => F₄; rename News g' L' _ _ => N₄
        iterate 2 walk1
        refine wpAny_mono (Q := fun (f : Flow) s₅ => f = .next ∧ TurnMid g' L' to' (deedP q i' qs' rs').2.1 (deedP q i' qs' rs').2.2.1 (deedP q i' qs' rs').2.2.2 (deedP q i' qs' rs').1 q (j + 1) tl os₂ s₅) ?turnBr ?turnEnd fun _ _ e => e
        case turnEnd =>
          as_aux_lemma =>
            intro f₀ s₅ hf
            obtain ⟨rfl, gA, pa₅, fa₅, gvs, vs₅, us₅, gn, np₅, nf₅, tI₅, tJ₅, tf₅, tp₅, m₅, F₅, n1, n2, n3, n4, n5, n6, n7, n8, N₅, P₅, U₅, G₅, os₅', hb₅⟩ := hf
            obtain ⟨h₅, gn₅, dr₅, tk₅, os₅⟩ := s₅
            dsimp only at F₅ N₅ P₅ U₅ G₅ os₅' hb₅ ⊢
            clear F₄ N₄ P₂ U₂
            obtain ⟨k₀, rfl⟩ : ∃ k₀, k = k₀ + 1 := ⟨k - 1, by omega⟩
            rw [runP_step hqj] at run₂
            have hl5 := deedP_len (q := q) (i := i') (qs := qs') (rs := rs')
            have F₅ := frOver (frOver (frOver (frOver (frOver (frOver (frOver (frOver F₅ n1) (x := Str.ofString "pieces") (v := .ref pa₅) n2) (x := Str.ofString "store") (v := .ref fa₅) n3) (x := Str.ofString "told") (v := .ref to') n4) (x := Str.ofString "place") (v := .int (j + 1 : Nat) tJ₅) n5) (x := Str.ofString "fws") (v := .str q.1 tf₅) n6) (x := Str.ofString "part") (v := .str q.2 tp₅) n7) (x := Str.ofString "gave") (v := .ref gA) n8
            clear n1 n2 n3 n4 n5 n6 n7 n8
            obtain ⟨ta, a1, a2⟩ := P₅.tl
            obtain ⟨tb, b1, b2⟩ := U₅.tl
            obtain ⟨tc, c1, c2⟩ := G₅.tl
            obtain ⟨tl2, Nt, kt⟩ := keepTl F₅ (tl := ta ++ (tb ++ tc)) fun p hp => (List.mem_append.mp hp).elim (a1 p) fun hp => (List.mem_append.mp hp).elim (b1 p) (c1 p)
            have up2 : ∀ h' m', Fr g' L' h' m' → News g' L' h' tl2 → PcsAt h' vs₅.toList (deedP q i' qs' rs').2.2.1 ∧ PcsAt h' us₅.toList (deedP q i' qs' rs').2.2.2 ∧ PcsAt h' gvs.toList (deedP q i' qs' rs').1 := fun h' m' F N => by
              have z := kt h' m' F N
              exact ⟨a2 h' fun p hp => z p (List.mem_append_left _ hp), b2 h' fun p hp => z p (List.mem_append_right _ (List.mem_append_left _ hp)), c2 h' fun p hp => z p (List.mem_append_right _ (List.mem_append_right _ hp))⟩
            obtain ⟨tl3, hT1, hT2, N₆⟩ : ∃ tl3, (∀ p ∈ tl, p ∈ tl3) ∧ (∀ p ∈ tl2, p ∈ tl3) ∧ News g' L' h₅ ((gA, listOf gvs gn) :: (pa₅, listOf vs₅ np₅) :: (fa₅, listOf us₅ nf₅) :: tl3) := by
              refine ⟨tl ++ tl2, fun p hp => List.mem_append_left _ hp, fun p hp => List.mem_append_right _ hp, fun p hp => ?_⟩
              have e : p ∈ ((gA, listOf gvs gn) :: (pa₅, listOf vs₅ np₅) :: (fa₅, listOf us₅ nf₅) :: tl) ++ tl2 := hp
              exact (List.mem_append.mp e).elim (N₅ p) (Nt p)
            clear N₅ Nt a1 a2 b1 b2 c1 c2 kt
            show wpAny _ _ _ _ _ _
            k_fold
            repeat' walk1
            rename Fr g' L' _ (fun y => _) => F₆
            have sm₅ := deedP_small (q := q) (i := i') sm₂
            have hsq := Small.left sm₅
            have hL2 := hsq.txt
            have hv5 : vs₅.size = (deedP q i' qs' rs').2.2.1.length := by have h1 := P₅.length; rwa [Array.length_toList] at h1
            have hz5 := sm₅.1
            rw [List.length_append] at hz5
            refine text_spec (vs := vs₅) (qs := (deedP q i' qs' rs').2.2.1) B' F₆ X' T' rfl (rm 41 hd rfl) (rm 403 hu rfl) ⟨_, News.get N₆ (by k_mem), rfl, _, rfl⟩ P₅ hsq hb₅ ?_
            intro s₇ t₇ P₇
            obtain ⟨h₇, gn₇, dr₇, tk₇, os₇⟩ := s₇
            have F₇ := frPost F₆ N₆ P₇.ext (fun b hb => nomatch hb)
            have N₇ := newsPost N₆ P₇.ext (fun p hp => .inl ⟨hp, by walk_at "mine.fa"⟩)
            clear F₆ F₅ N₆ P₅ U₅ G₅
            dsimp only at F₇ N₇
            iterate 60 (first | (with_reducible show wpAny _ _ (eval (PySem.Expr.BoolOp _ _ _) _) _ _ _) | walk1)
            dsimp only
            refine mono_bool (b := onlyB (deedP q i' qs' rs').2.1 (txt (deedP q i' qs' rs').2.2.1)) ?boolAnd fun tB => ?_
            case boolAnd =>
              repeat' walk1
              · rename (deedP q i' qs' rs').2.1 = 0 => h0
                exact ⟨_, by rw [strip_nil_iff, onlyB, if_pos h0], rfl⟩
              · rename (deedP q i' qs' rs').2.1 ≠ 0 => h0
                exact ⟨_, by rw [onlyB, if_neg h0, beq_false_of_ne h0], rfl⟩
            dsimp only
            repeat' walk1
            rename Fr g' L' _ (fun y => _) => F₈; rename News g' L' _ (_ :: _) => N₈
            (have u := up _ _ F₈ (newsSub N₈ (fun p hp => by have hp := hT1 p hp; repeat (first | exact hp | refine List.Mem.tail _ ?_))))
            (have u2 := up2 _ _ F₈ (newsSub N₈ (fun p hp => by have hp := hT2 p hp; repeat (first | exact hp | refine List.Mem.tail _ ?_))))
            (obtain ⟨to₂, l, e0, ht, hl⟩ := reads_tuple_items u.2.2)
            cases e0
            (have hlen := ReadsAll.len hl)
            (have pcT : IsTup _ _ #[.str q.1 tf₅, .str q.2 tp₅] := ⟨{ cls := .type "tuple", data := .seq #[.str q.1 tf₅, .str q.2 tp₅] }, News.get N₈ (by k_mem), rfl, 0, rfl⟩)
            (dsimp only)
            (refine add_tup (vs := l) (ws := [.ref _]) ht ⟨_, News.get N₈ (by k_mem), rfl, 0, rfl⟩ (by walk_at "mine.fa") (fun r h₉ k₉ z₉ hr₉ => ?_) (by rw [sizeLine_eq, hlen]; simp; omega))
            (obtain ⟨or, hr1, hr2, nr, hr3⟩ := hr₉)
            (have F₉ : Fr g' L' h₉ _ := ⟨F₈.ns.keeps k₉, fun b o e => k₉ b o (F₈.keep b o e), F₈.above⟩)
            (have N₉ := newsKeep N₈ k₉)
            have nr₉ := note_reads (q := q) (qs := (deedP q i' qs' rs').2.2.1) (i := (deedP q i' qs' rs').2.1) (gave := (deedP q i' qs' rs').1) (c := (deedP q i' qs' rs').2.2.1.length) pcT (News.get N₈ (by k_mem)) u2.2.2 rfl (News.get N₈ (by k_mem))
            have fl₉ : flatAll (ds' ++ [recD q i' qs' rs']) = true := flat_snoc _ _ fl₂ (flat_note _ _ _ _)
            have R₉ : Reads h₉ (.ref r) (.tuple (ds' ++ [recD q i' qs' rs'])) _ := .tuple hr1 hr2 hr3 (ReadsAll.keeps k₉ (ReadsAll.snoc hl nr₉))
            obtain ⟨td, d1, d2⟩ := readsTl (d := .tuple (ds' ++ [recD q i' qs' rs'])) fl₉ R₉
            obtain ⟨tl4, Nt4, kt4⟩ := keepTl F₉ (tl := td) d1
            obtain ⟨tl5, hT4, hT5, N₁₀⟩ : ∃ tl5, (∀ p ∈ tl2, p ∈ tl5) ∧ (∀ p ∈ tl4, p ∈ tl5) ∧ News g' L' h₉ ((gA, listOf gvs gn) :: (pa₅, listOf vs₅ np₅) :: (fa₅, listOf us₅ nf₅) :: tl5) := by
              refine ⟨tl2 ++ tl4, fun p hp => List.mem_append_left _ hp, fun p hp => List.mem_append_right _ hp, fun p hp => ?_⟩
              have e : p ∈ ((gA, listOf gvs gn) :: (pa₅, listOf vs₅ np₅) :: (fa₅, listOf us₅ nf₅) :: tl2) ++ tl4 := hp
              refine (List.mem_append.mp e).elim (fun hp => ?_) (Nt4 p)
              rcases List.mem_cons.mp hp with rfl | hp
              · exact N₉ _ (by k_mem)
              · rcases List.mem_cons.mp hp with rfl | hp
                · exact N₉ _ (by k_mem)
                · rcases List.mem_cons.mp hp with rfl | hp
                  · exact N₉ _ (by k_mem)
                  · exact N₉ _ (by have hp := hT2 p hp; repeat (first | exact hp | refine List.Mem.tail _ ?_))
            clear F₈ N₈ N₉ Nt4 d1
            iterate 3 walk1
            rename Fr g' L' _ (fun y => _) => F₁₁; rename News g' L' _ (_ :: _) => N₁₁
            have v2 := up2 _ _ F₁₁ (newsSub N₁₁ (fun p hp => by have hp := hT4 p hp; repeat (first | exact hp | refine List.Mem.tail _ ?_)))
            have v4 := kt4 _ _ F₁₁ (newsSub N₁₁ (fun p hp => by have hp := hT5 p hp; repeat (first | exact hp | refine List.Mem.tail _ ?_)))
            have R₁₁ := d2 _ v4
            refine ⟨k₀, Nat.lt_succ_self _, ?_⟩
            exact ⟨j + 1, (deedP q i' qs' rs').2.1, pa₅, fa₅, np₅, nf₅, vs₅, us₅, (deedP q i' qs' rs').2.2.1, (deedP q i' qs' rs').2.2.2, ds' ++ [recD q i' qs' rs'], _, r, tI₅, tJ₅, _, F₁₁, rfl, rfl, rfl, rfl, rfl, newsSub N₁₁ (by kqd_sub), v2.1, v2.2.1, R₁₁, fl₉, sm₅,
              fun p hp => gd₂ p (List.mem_append.mpr (deedP_mem (List.mem_append.mp hp))), deedP_i hi₂, by simp only [List.length_append, List.length_cons, List.length_nil]; omega, by omega, run₂, P₇.os.trans (os₅'.trans os₂'), P₇.bare⟩
        case turnBr =>
          show wpAny _ _ _ _ _ _
          k_fold
          clear P₂ U₂ hT hv
          obtain ⟨f, wd⟩ := q
          obtain ⟨hf, hw⟩ := hgq
          dsimp only at F₄ hf hw
          simp only [wordsL, List.mem_cons, List.not_mem_nil, or_false] at hw
          replace hw : wd = Str.ofString "" ∨ (wd = Str.ofString "p" ∨ wd = Str.ofString "pp") ∨ wd = Str.ofString "d" ∨ wd = Str.ofString "c" ∨ wd = Str.ofString "r" := by
            rcases hw with h | h | h | h | h | h
            · exact .inl h
            · exact .inr (.inl (.inl h))
            · exact .inr (.inr (.inl h))
            · exact .inr (.inr (.inr (.inl h)))
            · exact .inr (.inr (.inr (.inr h)))
            · exact .inr (.inl (.inr h))
          rcases hw with rfl | hpp | rfl | rfl | rfl
          · as_aux_lemma =>
              iterate 10 walk1
              rename Fr g' L' _ _ => F₅; rename News g' L' _ _ => N₅
              refine in2 false N₅ (by k_mem) (by decide +kernel) (by decide +kernel) (by decide +kernel) (rm 67 hu rfl) (by decide) ?_
              repeat' walk1
              rw [deedP_n (by dsimp only; decide) (by dsimp only; decide) (by dsimp only; decide) (by dsimp only; decide) (by dsimp only; decide)]
              rename Fr g' L' _ _ => F₈; rename News g' L' _ _ => N₈
              have u := up _ _ F₈ (newsSub N₈ (fun p hp => by repeat (first | exact hp | refine List.Mem.tail _ ?_)))
              exact turn_mk F₈ rfl rfl rfl rfl rfl rfl rfl rfl (gvs := #[]) N₈ (by k_mem) (by k_mem) (by k_mem) (fun p hp => by repeat (first | exact hp | refine List.Mem.tail _ ?_)) u.1 u.2.1 .nil rfl hb₂
          · as_aux_lemma =>
              have hwl : wd.length ≤ 2 := by rcases hpp with rfl | rfl <;> decide
              have hpq : (wd == Str.ofString "p") = true ∨ (wd == Str.ofString "pp") = true := by rcases hpp with rfl | rfl <;> decide
              iterate 10 walk1
              rename Fr g' L' _ _ => F₅; rename News g' L' _ _ => N₅
              refine in2 true N₅ (by k_mem) (by decide +kernel) (by decide +kernel) (by rcases hpp with rfl | rfl <;> decide +kernel) (rm 67 hu rfl) (by rcases hpp with rfl | rfl <;> decide) ?_
              repeat' walk1
              rename Fr g' L' _ _ => F₆; rename News g' L' _ _ => N₆
              dsimp only
              refine add_arrays F₆ N₆ (its := vs') (its2 := (us'.toList.take (cut (wd.length : Nat) us'.size)).toArray) ⟨_, News.get N₆ (by k_mem), rfl, np', rfl⟩ ⟨_, News.get N₆ (by k_mem), rfl, 0, rfl⟩ (fun h₇ F₇ N₇ => ?_) (by simp; omega)
              clear F₆ N₆
              repeat' walk1
              rw [deedP_p (q := (f, wd)) hpq]
              rename Fr g' L' _ _ => F₈; rename News g' L' _ _ => N₈
              have u := up _ _ F₈ (newsSub N₈ (fun p hp => by repeat (first | exact hp | refine List.Mem.tail _ ?_)))
              have e1 := u.1.append (u.2.1.take wd.length)
              have e2 := u.2.1.drop wd.length
              rw [← take_cut us'.toList wd.length us'.size (by walk_at "mine.fa")] at e1
              rw [← drop_cut us'.toList wd.length us'.size (by walk_at "mine.fa")] at e2
              exact turn_mk (gvs := #[]) F₈ rfl rfl rfl rfl rfl rfl rfl rfl N₈ (by k_mem) (by k_mem) (by k_mem) (fun p hp => by repeat (first | exact hp | refine List.Mem.tail _ ?_)) (by simpa using e1) e2 .nil rfl hb₂
          · as_aux_lemma =>
              iterate 10 walk1
              rename Fr g' L' _ _ => F₅; rename News g' L' _ _ => N₅
              refine in2 false N₅ (by k_mem) (by decide +kernel) (by decide +kernel) (by decide +kernel) (rm 67 hu rfl) (by decide) ?_
              repeat' walk1
              rw [deedP_d (by dsimp only; decide) (by dsimp only; decide) (by dsimp only; decide)]
              rename Fr g' L' _ _ => F₈; rename News g' L' _ _ => N₈
              have u := up _ _ F₈ (newsSub N₈ (fun p hp => by repeat (first | exact hp | refine List.Mem.tail _ ?_)))
              rw [cut_m1] at N₈
              rw [← hvl]
              exact turn_mk F₈ rfl rfl rfl rfl rfl rfl rfl rfl N₈ (by k_mem) (by k_mem) (by k_mem) (fun p hp => by repeat (first | exact hp | refine List.Mem.tail _ ?_)) (u.1.take _) u.2.1 (u.1.drop _) rfl hb₂
          · as_aux_lemma =>
              have cutE : cut (pick4 f 0 (if 0 > (qs'.length : Int) - 1 then 0 else (qs'.length : Int) - 1) 2 4) vs'.size = cut (cutOf f) qs'.length := by
                rw [hvl]
                simp only [blanksL, List.mem_cons, List.not_mem_nil, or_false] at hf
                rcases hf with rfl | rfl | rfl | rfl
                · rfl
                · show cut (if 0 > (qs'.length : Int) - 1 then 0 else (qs'.length : Int) - 1) qs'.length = cut (-1) qs'.length
                  rw [cut_m1]
                  unfold cut
                  split <;> first | omega | (simp only [Int.lt_irrefl, if_false]; omega) | (rw [if_neg (by omega)]; omega)
                · rfl
                · rfl
              iterate 10 walk1
              rename Fr g' L' _ _ => F₅; rename News g' L' _ _ => N₅
              refine in2 false N₅ (by k_mem) (by decide +kernel) (by decide +kernel) (by decide +kernel) (rm 67 hu rfl) (by decide) ?_
              iterate 57 (try walk1)
              rename News g' L' _ _ => N₆; rename Obj.IsDictOf _ _ _ => hD
              refine dict4 N₆ (by k_mem) hD rfl hf fun t₁ k₁ => ?_
              replace N₆ := newsSub N₆ fun p hp => List.Mem.tail _ hp
              repeat' walk1
              rename Fr g' L' _ _ => F₈; rename News g' L' _ _ => N₈
              rw [deedP_c (by dsimp only; decide) (by dsimp only; decide) (by dsimp only; decide) (by dsimp only; decide)]
              have u := up _ _ F₈ (newsSub N₈ (fun p hp => by repeat (first | exact hp | refine List.Mem.tail _ ?_)))
              dsimp only
              rw [cutE] at N₈
              exact turn_mk F₈ rfl rfl rfl rfl rfl rfl rfl rfl N₈ (by k_mem) (by k_mem) (by k_mem) (fun p hp => by repeat (first | exact hp | refine List.Mem.tail _ ?_)) (u.1.take _) u.2.1 (u.1.drop _) rfl hb₂
          · as_aux_lemma =>
              have cutE : cut (pick4 f 0 1 2 3) us'.size = cut (bi f : Nat) us'.size := by
                have e : pick4 f 0 1 2 3 = (bi f : Nat) := by
                  simp only [blanksL, List.mem_cons, List.not_mem_nil, or_false] at hf
                  rcases hf with rfl | rfl | rfl | rfl <;> rfl
                rw [e]
              iterate 10 walk1
              rename Fr g' L' _ _ => F₅; rename News g' L' _ _ => N₅
              refine in2 false N₅ (by k_mem) (by decide +kernel) (by decide +kernel) (by decide +kernel) (rm 67 hu rfl) (by decide) ?_
              iterate 33 (try walk1)
              dsimp only
              rename Fr g' L' _ _ => F₆; rename News g' L' _ _ => N₆
              with_reducible refine disp4 F₆ N₆ T' ?_
              intro D₇ o₇ h₇ u0 u1 u2 u3 k₇ F₇ N₇ l₇ hD
              clear F₆ N₆
              dsimp only
              walk1
              refine dict4 N₇ (by k_mem) hD rfl hf fun t₁ k₁ => ?_
              replace N₇ := newsSub N₇ fun p hp => List.Mem.tail _ hp
              repeat' walk1
              rename Fr g' L' _ _ => F₈; rename News g' L' _ _ => N₈
              rw [deedP_r (by dsimp only; decide) (by dsimp only; decide) (by dsimp only; decide) (by dsimp only; decide) (by dsimp only; decide)]
              have u := up _ _ F₈ (newsSub N₈ (fun p hp => by repeat (first | exact hp | refine List.Mem.tail _ ?_)))
              dsimp only
              rw [cutE] at N₈
              have e1 := u.2.1.take (bi f)
              have e2 := u.2.1.drop (bi f)
              rw [← take_cut us'.toList (bi f) us'.size (by walk_at "mine.fa")] at e1
              rw [← drop_cut us'.toList (bi f) us'.size (by walk_at "mine.fa")] at e2
              exact turn_mk (gvs := #[]) F₈ rfl rfl rfl rfl rfl rfl rfl rfl N₈ (by k_mem) (by k_mem) (by k_mem) (fun p hp => by repeat (first | exact hp | refine List.Mem.tail _ ?_)) (by simpa using e1) (by simpa using e2) .nil rfl hb₂
  case first =>
    as_aux_lemma =>
      rcases hst with ⟨rfl, rfl, rfl⟩ | ⟨rfl, q₀, qt, rfl, rfl, rfl⟩
      · repeat' walk1
        rename Fr g' L' _ _ => F₁; rename News g' L' _ _ => N₁
        exact ⟨_, _, _, [], F₁, rfl, rfl, rfl, rfl, rfl, newsSub N₁ (by kqd_sub), .tuple (News.get N₁ (by k_mem)) rfl rfl .nil, rfl, hb⟩
      · obtain ⟨T0, tf0, tp0, hv0, hT0⟩ := pg.got (j := 0) rfl
        repeat' walk1
        rename Fr g' L' _ _ => F₁; rename News g' L' _ _ => N₁
        dsimp only
        refine eq_dataH (da := .list (pcsD (q₀ :: qt))) (db := .list []) (.list (News.get N₁ (by k_mem)) rfl rfl (PcsAt.reads (pg.mono fun b o _ e => F₁.keep b o e))) (.list (News.get N₁ (by k_mem)) rfl rfl .nil) (shaped_pcs fun q hq => hgd q (List.mem_append_left _ hq)) (by decide) (rm 67 hu rfl) ?_
        rw [show PyData.eqv (.list (pcsD (q₀ :: qt))) (.list []) = false from rfl]
        repeat' walk1
        rename Fr g' L' _ _ => F₁; rename News g' L' _ _ => N₁
        refine item_at (v := .ref T0) N₁ (by k_mem) (by decide) (by decide) (by simpa using hv0) ?_ (by with_unfolding_all rfl)
        repeat' walk1
        rename Fr g' L' _ _ => F₁; rename News g' L' _ _ => N₁
        exact ⟨_, _, _, [], F₁, rfl, rfl, rfl, rfl, rfl, newsSub N₁ (by kqd_sub), PcAt.reads (q := q₀) ⟨T0, tf0, tp0, rfl, tupG F₁ hT0⟩, rfl, hb⟩
end
section
open PySem PySem.W PyProof.Rows PySem.Calls
/-- what the two sides answer, by the flag -/
noncomputable def outB (bare : Bool) (kf : Nat) (i : Int) (qs rs : List Pc) : PyData := match bare, qs with
  | false, qs => outD (runP kf 0 i qs rs [])
  | true, [] => .list []
  | true, q₀ :: qt => outD (runP kf 1 i (q₀ :: qt) rs [.str q₀.1, .str q₀.2])
theorem flat_outB {bare : Bool} {kf : Nat} {i : Int} {qs rs : List Pc} : flatD (outB bare kf i qs rs) = true := by
  cases bare with
  | false => exact flat_out (flat_run _ _ _ _ _ _ rfl)
  | true => cases qs with
    | nil => rfl
    | cons q qt => exact flat_out (flat_run _ _ _ _ _ _ rfl)
theorem lay_outB {bare : Bool} {kf : Nat} {i : Int} {qs rs : List Pc} (hsm : Small (qs ++ rs)) (hgd : ∀ q ∈ qs ++ rs, Good q) (hi : 0 ≤ i ∧ i ≤ 10) : SeqAt.shaped (outB bare kf i qs rs) = true := by
  cases bare with
  | false => exact lay_out (lay_run _ _ _ _ _ _ hgd (fun d hd => nomatch hd)) (runP_facts _ _ _ _ _ _ hsm hgd hi).2.1
  | true => cases qs with
    | nil => exact (by decide : SeqAt.shaped (.list []) = true)
    | cons q qt => exact lay_out (lay_run _ _ _ _ _ _ hgd (lay_two (hgd q (.head _)))) (runP_facts _ _ _ _ _ _ hsm hgd hi).2.1
theorem fold_any {w : World} {dp un : Nat} {gd : Option (List Code)} {cn : Str} {cs : Scope} {a : Addr} {ccd : Value} {cl : List (Str × Addr)} {outer : List Env} {A₀ : Around} {base h₀ : Heap} {L : Addr} {m : Str → Option Value} {s : Shared}
   {loose : List Str} {mean : ExcName → Option Value} {mg mb : Str → Option Value} {p : Program} {Q E : Value → Shared → Prop} {pa fa : Addr} {vs us : Array Value} {t : Tok} {i : Int} {ps pt pl : Array Value} {qs rs : List Pc} {bare : Bool} {kf : Nat}
   (B : Below A₀ base outer h₀) (F : Fr h₀ L s.heap m) (X : (Mine.hd.heap_39 w.params).In h₀) (N : News h₀ L s.heap [(56, tabObj ps), (63, tabObj pt), (123, tabObj pl)]) (T : Top p loose mean mg mb h₀) (hk : cs.kind = .function) (hd : dp + 200 < recursionLimit) (hu : un + 2000 < cLine)
   (hps : TriplesOk ps.toList) (hpt : TriplesOk pt.toList) (hpl : TriplesOk pl.toList) (hpa : s.heap.IsList pa vs) (hfa : s.heap.IsList fa us) (hp : PcsAt s.heap vs.toList qs) (hr : PcsAt s.heap us.toList rs) (hsm : Small (qs ++ rs)) (hgd : ∀ q ∈ qs ++ rs, Good q) (hi : 0 ≤ i ∧ i ≤ 10) (hb : AllBare s.gens)
   (hf : bare = false → codeAmong ⟨83, 26, 83, 80⟩ pl.toList = none) (ht : codeAmong ⟨81, 26, 81, 80⟩ pl.toList = none) (hkf : qs.length + rs.length < kf) (hout : outer = [])
   (hQ : ∀ s' r as', (∀ b o, b ∉ [L, 56, 63, 123] → s.heap.get? b = some o → s'.heap.get? b = some o) → s'.heap.Ns L m → s.heap.objs.size ≤ s'.heap.objs.size → s'.os = s.os → AllBare s'.gens →
      (∃ ps' pt' pl', s'.heap.get? 56 = some (tabObj ps') ∧ s'.heap.get? 63 = some (tabObj pt') ∧ s'.heap.get? 123 = some (tabObj pl') ∧ TriplesOk ps'.toList ∧ TriplesOk pt'.toList ∧ TriplesOk pl'.toList ∧ (bare = false → codeAmong ⟨81, 26, 81, 80⟩ pl'.toList = none)) → Reads s'.heap (.ref r) (outB bare kf i qs rs) as' → Q (.ref r) s') :
   wpAny (model PySem.Challenge.rw_mq0119_01.row.prog w) (ktrTop dp un gd cn cs L a ccd cl outer) (call (.ref 126) [.int i t, .ref pa, .ref fa, .bool bare]) Q E s := by
  have hLW : L ∉ [56, 63, 123] := fun hm => by
    simp only [List.mem_cons, List.not_mem_nil, or_false] at hm
    rcases hm with z | z | z
    · exact (N (56, tabObj ps) (by k_mem)).2.1 z.symm
    · exact (N (63, tabObj pt) (by k_mem)).2.1 z.symm
    · exact (N (123, tabObj pl) (by k_mem)).2.1 z.symm
  have ns : ∀ {s' : Shared}, Post [56, 63, 123] s s' → s'.heap.Ns L m := fun P => F.ns.at' fun o e => P.ext L o hLW e
  cases bare with
  | false =>
    refine fold_F B F X N T hk hd hu hps hpt hpl hpa hfa hp hr hsm hgd hi hb (hf rfl) hkf fun s' r as' c' P Z R => ?_
    obtain ⟨ps', pt', e1, e2, e3, t1, t2⟩ := Z
    exact hQ s' r as' (fun b o hb e => P.ext b o (fun hm => hb (.tail _ hm)) e) (ns P) P.size P.os P.bare ⟨ps', pt', _, e1, e2, e3, t1, t2, by simpa using TriplesOk_snoc _ _ _ _ hpl, fun _ => by simpa using codeAmong_off _ hpl ht rfl⟩ R
  | true => cases qs with
    | nil =>
      refine fold_E B F X N T hk hd hu hps hpt hpl hpa hfa hp hr hsm hgd hi hb ht rfl hout fun s' r as' k1 k2 k3 k4 k5 Z R => ?_
      obtain ⟨ps', pt', pl', e1, e2, e3, t1, t2, t3⟩ := Z
      exact hQ s' r as' k1 k2 k3 k4 k5 ⟨ps', pt', pl', e1, e2, e3, t1, t2, t3, nofun⟩ R
    | cons q₀ qt =>
      refine fold_T (q₀ := q₀) (qt := qt) B F X N T hk hd hu hps hpt hpl hpa hfa hp hr hsm hgd hi hb ht rfl (Nat.lt_succ_of_lt hkf) fun s' r as' c' P Z R => ?_
      obtain ⟨ps', pt', e1, e2, e3, t1, t2⟩ := Z
      exact hQ s' r as' (fun b o hb e => P.ext b o (fun hm => hb (.tail _ hm)) e) (ns P) P.size P.os P.bare ⟨ps', pt', _, e1, e2, e3, t1, t2, by simpa using TriplesOk_snoc _ _ _ _ hpl, nofun⟩ R
theorem walk_any {w : World} {dp un : Nat} {gd : Option (List Code)} {cn : Str} {cs : Scope} {a : Addr} {ccd : Value} {cl : List (Str × Addr)} {outer : List Env} {A₀ : Around} {base h₀ : Heap} {L : Addr} {m : Str → Option Value} {s : Shared}
   {loose : List Str} {mean : ExcName → Option Value} {mg mb : Str → Option Value} {p : Program} {Q E : Value → Shared → Prop} {pa fa : Addr} {vs us : Array Value} {np nf : Nat} {t : Tok} {i : Int} {qs rs : List Pc} {bare : Bool} {kf : Nat}
   (B : Below A₀ base outer h₀) (F : Fr h₀ L s.heap m) (X : (Mine.hd.heap_39 w.params).In h₀) (N : News h₀ L s.heap [(pa, listOf vs np), (fa, listOf us nf)]) (T : Top p loose mean mg mb h₀) (hk : cs.kind = .function) (hd : dp + 120 < recursionLimit) (hu : un + 1200 < cLine)
   (hp : PcsAt s.heap vs.toList qs) (hr : PcsAt s.heap us.toList rs) (hsm : Small (qs ++ rs)) (hgd : ∀ q ∈ qs ++ rs, Good q) (hi : 0 ≤ i ∧ i ≤ 10) (hb : AllBare s.gens) (hkf : qs.length + rs.length < kf)
   (hQ : ∀ s' r as', Post [pa, fa] s s' → Reads s'.heap (.ref r) (outB bare kf i qs rs) as' → Q (.ref r) s') :
   wpAny (model PySem.Challenge.rw_mq0119_01.row.prog w) (ktrTop dp un gd cn cs L a ccd cl outer) (call (.ref 138) [.int i t, .ref pa, .ref fa, .bool bare]) Q E s := by
  cases bare with
  | false => exact walk_spec (ds₀ := []) (j₀ := 0) (kf := kf) B F X N T hk hd hu hp hr hsm hgd hi hb rfl hkf (by decide) hQ (.inl ⟨rfl, rfl, rfl⟩)
  | true => cases qs with
    | nil =>
      have hv : vs = #[] := by
        have h1 := hp.length
        exact Array.toList_inj.mp (List.eq_nil_of_length_eq_zero h1)
      subst hv
      exact walk_E B F X (newsSub N (by kqd_sub)) T hk hd hu hb fun s' r as' P R => hQ s' r as' ⟨fun b o hb e => P.ext b o (fun hm => hb (by rw [List.mem_singleton.mp hm]; exact .head _)) e, P.os, P.bare, P.size⟩ R
    | cons q₀ qt => exact walk_spec (ds₀ := [.str q₀.1, .str q₀.2]) (j₀ := 1) (kf := kf) B F X N T hk hd hu hp hr hsm hgd hi hb rfl (Nat.lt_succ_of_lt hkf) (Nat.le_refl 2) hQ (.inr ⟨rfl, q₀, qt, rfl, rfl, rfl⟩)
end
section
open PySem PySem.W PyProof.Rows PySem.Calls
set_option maxRecDepth 100000 in
set_option maxHeartbeats 8000000 in
theorem law_holds : PySem.Challenge.rw_mq0119_01.Holds := by
  refine Mine.hd ?_
  k_fill
  intro w s₀ s₁ mg mb G Y fa o pm cd doc dV kV ho hd hcd hD hmg hg args vals as hpre hlay hrd hwl hlo
  have KX := km_in_of Y
  have hT8 := km_tabs_of Y
  have X := (Ground.X G).1
  have V := (Ground.X G).2
  refine Ground.open G ?_
  intro T B D TE TW
  try (refine guard_noD D (by decide +kernel) ?_; clear D)
  have hT9 : TabsAt [(60, 56), (67, 63), (125, 123)] _ := List.forall_mem_cons.mpr ⟨⟨codeHd_of_K (c := 60) (P := 56) KX (by kernel_rfl), hT8 56 (by k_mem)⟩, List.forall_mem_cons.mpr ⟨⟨codeHd_of_K (c := 67) (P := 63) KX (by kernel_rfl), hT8 63 (by k_mem)⟩, List.forall_mem_cons.mpr ⟨⟨codeHd_of_K (c := 125) (P := 123) KX (by kernel_rfl), hT8 123 (by k_mem)⟩, fun _ h => nomatch h⟩⟩⟩
  clear hmg
  wrow_args hpre hlay hrd hwl hlo
  first | refine callC_kw (enter_call ?_) | refine enter_call ?_
  w_top on
  refine post_B hT9 (fun _ _ => rfl) (by wrow_post) ?_
  w_call any ho hd hcd hD T F
  clear hd
  kn_ghosts F T
  k_drop
  dsimp only
  show wpAny _ _ _ _ _ _
  k_fold
  rename Frag.In _ _ => X'
  rename Top _ _ _ _ _ _ => T'
  rename Below _ _ _ _ => B'
  rename Fr _ _ _ _ => F'
  rename News _ _ _ _ => N'
  rename IntsAre _ _ => hI
  rename List Int => ns
  rename Heap.IsList (ghostOf _ _) _ _ => hScr
  iterate 2 walk1
  refine LCg.Assign_ListComp_U (F₀ := F') rfl rfl rfl (by decide) rfl (by decide) rfl rfl rfl ?_
  iterate 26 walk1
  dsimp only
  rename Fr _ _ _ _ => F₁
  rename News _ _ _ _ => N₁
  rename IntsAre _ (_ ++ _) => hI₁
  have hlen := hI₁.length
  have hlen0 := hI.length
  simp only [List.length_append, List.length_take, List.length_drop, List.length_cons, List.length_nil] at hlen
  have hsl := sizeLine_eq
  refine LCg.CompSrc.ledger rfl F₁ N₁ (.head _) (by rw [List.size_toArray]; omega) fun g₁ => pc_rest (Q := fun _ _ => True) (E := fun _ _ => True) (n₀ := [(56, tabObj #[]), (63, tabObj #[]), (123, tabObj #[])]) B' X' T' rfl (by decide +kernel) (by decide +kernel) (by simpa using ints_of hI₁) rfl ?_ _ 0 [] [] _ rfl .nil (fun q hq => nomatch hq) rfl (.inr ⟨_, .head _, rfl, _, rfl⟩) (by kqd_sub)
  clear F₁ N₁
  intro ys qs news hys hgd hqs hn₀ D h₂ tk₂ F₂ N₂ off₂
  have hn0 : 6 ≤ qs.length ∧ qs.length ≤ 14 := by
    rw [hqs, List.size_toArray, hlen]
    exact ⟨Nat.le_add_left 6 _, Nat.add_le_add_right (Nat.le_trans (Nat.min_le_left _ _) (Nat.sub_le_sub_right (Nat.min_le_left 9 _) 1)) 6⟩
  clear hqs hI₁ hlen off₂
  obtain ⟨tl, htl, hys⟩ := hys.sub
  have N₂ : News _ _ h₂ ((D, listOf ys.toArray ys.length) :: (56, tabObj #[]) :: (63, tabObj #[]) :: (123, tabObj #[]) :: tl) := fun p hp => by
    rcases List.mem_cons.mp hp with rfl | hp
    · exact N₂ _ (.head _)
    · refine N₂ _ (.tail _ ?_)
      rcases List.mem_cons.mp hp with rfl | hp
      · exact hn₀ _ (by k_mem)
      · rcases List.mem_cons.mp hp with rfl | hp
        · exact hn₀ _ (by k_mem)
        · rcases List.mem_cons.mp hp with rfl | hp
          · exact hn₀ _ (by k_mem)
          · exact (htl p hp).1
  replace htl : ∀ p ∈ tl, p.2.cls = .type "tuple" := fun p hp => (htl p hp).2
  clear hn₀
  dsimp only
  iterate 48 walk1
  rename Fr _ _ _ _ => F₃
  rename News _ _ _ _ => N₃
  have hi1 : 0 ≤ (List.take 1 ns).sum.fmod 3 ∧ (List.take 1 ns).sum.fmod 3 < 3 := ⟨fmod_lo _ (by decide), fmod_hi _ (by decide)⟩
  have hk1 : 0 ≤ ((List.take 1 ns).sum.fdiv 3 + 3).fmod 7 ∧ ((List.take 1 ns).sum.fdiv 3 + 3).fmod 7 < 7 := ⟨fmod_lo _ (by decide), fmod_hi _ (by decide)⟩
  generalize (List.take 1 ns).sum.fmod 3 = i at F₃ hi1
  generalize ((List.take 1 ns).sum.fdiv 3 + 3).fmod 7 = k at F₃ hk1
  replace N₃ := newsSub N₃ (news' := (D, listOf ys.toArray ys.length) :: (56, tabObj #[]) :: (63, tabObj #[]) :: (123, tabObj #[]) :: tl) (fun p hp => by repeat (first | exact hp | refine List.Mem.tail _ ?_))
  dsimp only at F₃ N₃ ⊢
  iterate 1 walk1
  refine wpAny_For ?_ (by intro _; rfl)
  iterate 7 walk1
  rename Fr _ _ _ _ => F₄
  rename News _ _ _ _ => N₄
  rename Addr => l₀
  rename Heap => h₄
  have hb₀ : AllBare s₁.gens := .of_eq hg
  refine wpAny_pyIter_list ⟨_, (N₄ _ (.head _)).1, rfl, 0, rfl⟩ ?_
  show codeAny _ _ _ _ _
  refine loop_list (oI := iterObj _ 0) (x := Str.ofString "bare") (os := s₁.os) (J := fun j rest => ∃ ps pt pl, rest = (D, listOf ys.toArray ys.length) :: (56, tabObj ps) :: (63, tabObj pt) :: (123, tabObj pl) :: tl ∧ (TriplesOk ps.toList ∧ TriplesOk pt.toList ∧ TriplesOk pl.toList) ∧ (j = 0 → codeAmong ⟨83, 26, 83, 80⟩ pl.toList = none) ∧ (j ≤ 1 → codeAmong ⟨81, 26, 81, 80⟩ pl.toList = none))
    rfl rfl rfl ⟨rfl, rfl⟩ (frNone (F₄.push _) rfl) (News.push F₄ N₄ (iterObj _ 0)) (Nat.ne_of_lt (Heap.lt_size (N₄ _ (.head _)).1)) ?sep ⟨#[], #[], #[], rfl, ⟨trivial, trivial, trivial⟩, fun _ => rfl, fun _ => rfl⟩ (by rfl) hb₀ ?body ?R
  case sep =>
    rintro j rest ⟨ps, pt, pl, rfl, -⟩ p hp
    rcases List.mem_cons.mp hp with rfl | hp
    · exact Nat.ne_of_lt (Heap.lt_size (N₄ _ (.tail _ (.head _))).1)
    · rcases List.mem_cons.mp hp with rfl | hp
      · exact Nat.ne_of_lt (Heap.lt_size (N₄ (56, tabObj #[]) (by k_mem)).1)
      · rcases List.mem_cons.mp hp with rfl | hp
        · exact Nat.ne_of_lt (Heap.lt_size (N₄ (63, tabObj #[]) (by k_mem)).1)
        · rcases List.mem_cons.mp hp with rfl | hp
          · exact Nat.ne_of_lt (Heap.lt_size (N₄ (123, tabObj #[]) (by k_mem)).1)
          · exact Nat.ne_of_lt (Heap.lt_size (N₄ p (by repeat (first | exact hp | refine List.Mem.tail _ ?_))).1)
  case body =>
    intro j v s₂ oI rest hv hIt F₅ N₅ hJ hos₅ hb₅
    obtain ⟨ps, pt, pl, rfl, ⟨tps, tpt, tpl⟩, hnf0, hnf1⟩ := hJ
    obtain ⟨h₅, gn₅, dr₅, tk₅, os₅⟩ := s₂
    change Fr _ s₁.heap.objs.size h₅ _ at F₅
    change News _ s₁.heap.objs.size h₅ _ at N₅
    dsimp only at hv hos₅ hb₅ ⊢
    dsimp only at N₅
    clear F₄ N₄ hb₀
    have hj : ∃ bare : Bool, v = .bool bare ∧ ((j = 0 ∧ bare = false) ∨ (j = 1 ∧ bare = true)) := by
      rcases j with _ | _ | j
      · simp at hv; exact ⟨false, hv.symm, .inl ⟨rfl, rfl⟩⟩
      · simp at hv; exact ⟨true, hv.symm, .inr ⟨rfl, rfl⟩⟩
      · simp at hv
    clear hv
    obtain ⟨bare, rfl, hj⟩ := hj
    have hnf0 : bare = false → codeAmong ⟨83, 26, 83, 80⟩ pl.toList = none := fun e => hnf0 (by rcases hj with ⟨h, _⟩ | ⟨_, h⟩; exact h; rw [e] at h; cases h)
    have hnf1 : codeAmong ⟨81, 26, 81, 80⟩ pl.toList = none := hnf1 (by omega)
    show wpAny _ _ _ _ _ _
    k_fold
    have hyz : ys.toArray.size = qs.length := by rw [List.size_toArray]; exact hys.length
    iterate 30 walk1
    rename Fr _ _ _ _ => F₆
    rename News _ _ _ _ => N₆
    rw [hyz] at N₆
    have P₆ : PcsAt _ ys qs := hys.at (newsSub N₆ (fun p hp => by repeat (first | exact hp | refine List.Mem.tail _ ?_)))
    have hsm : Small (qs.take (cut k qs.length) ++ qs.drop (cut k qs.length)) := by
      rw [List.take_append_drop]
      exact ⟨by omega, fun q hq => good_sm (hgd q hq)⟩
    have hgd' : ∀ q ∈ qs.take (cut k qs.length) ++ qs.drop (cut k qs.length), Good q := by rw [List.take_append_drop]; exact hgd
    have hkf : (qs.take (cut k qs.length)).length + (qs.drop (cut k qs.length)).length < qs.length + 1 := by rw [← List.length_append, List.take_append_drop]; omega
    refine fold_any (kf := qs.length + 1) (bare := bare) (ps := ps) (pt := pt) (pl := pl) (qs := qs.take (cut k qs.length)) (rs := qs.drop (cut k qs.length)) B' F₆ X' (newsSub N₆ (by kqd_sub)) T' rfl (by decide +kernel) (by decide +kernel) tps tpt tpl ⟨_, News.get N₆ (by k_mem), rfl, 0, rfl⟩ ⟨_, News.get N₆ (by k_mem), rfl, 0, rfl⟩ (by simpa using P₆.take (cut k qs.length)) (by simpa using P₆.drop (cut k qs.length)) hsm hgd' ⟨hi1.1, by omega⟩ hb₅ hnf0 hnf1 hkf rfl ?_
    intro s₇ r as₇ K₇ ns₇ z₇ os₇' b₇ T₇ R₇
    obtain ⟨h₇, gn₇, dr₇, tk₇, os₇⟩ := s₇
    obtain ⟨ps', pt', pl', t1, t2, t3, t4, t5, t6, t7'⟩ := T₇
    dsimp only at K₇ ns₇ z₇ os₇' b₇ t1 t2 t3 R₇
    have hL₀ := Heap.get?_none_of_le F₆.above
    have F₇ : Fr _ s₁.heap.objs.size h₇ _ := ⟨ns₇, fun b o e => K₇ b o (by
      simp only [List.mem_cons, List.not_mem_nil, or_false, not_or]
      refine ⟨fun z => ?_, fun z => ?_, fun z => ?_, fun z => ?_⟩
      · rw [z, hL₀] at e; cases e
      · rw [z, (N₆ (56, tabObj ps) (by k_mem)).2.2] at e; cases e
      · rw [z, (N₆ (63, tabObj pt) (by k_mem)).2.2] at e; cases e
      · rw [z, (N₆ (123, tabObj pl) (by k_mem)).2.2] at e; cases e) (F₆.keep b o e), F₆.above⟩
    have hfl := flat_outB (bare := bare) (kf := qs.length + 1) (i := i) (qs := qs.take (cut k qs.length)) (rs := qs.drop (cut k qs.length))
    have hly := lay_outB (bare := bare) (kf := qs.length + 1) (i := i) hsm hgd' ⟨hi1.1, by omega⟩
    generalize hD : outB bare (qs.length + 1) i (qs.take (cut k qs.length)) (qs.drop (cut k qs.length)) = DD at R₇ hfl hly
    obtain ⟨td, d1, d2⟩ := readsTl hfl R₇
    obtain ⟨t7, Nt, kt⟩ := keepTl F₇ d1
    have N₇ := newsApp (newsTab (rest := (h₄.objs.size, oI) :: (l₀, listOf #[.bool false, .bool true] 0) :: (D, listOf ys.toArray ys.length) :: tl) N₆ (fun b o hL hb e => K₇ b o (by simp only [List.mem_cons, not_or] at hb ⊢; exact ⟨hL, hb⟩) e) (by k_mem) (by k_mem) (by k_mem) t1 t2 t3 fun p hp => by
      rcases List.mem_cons.mp hp with rfl | hp
      · exact ⟨by k_mem, fun ps e => by have := hIt.1; dsimp only at e; rw [e] at this; cases this⟩
      · rcases List.mem_cons.mp hp with rfl | hp
        · exact ⟨by k_mem, fun ps e => by cases e⟩
        · rcases List.mem_cons.mp hp with rfl | hp
          · exact ⟨by k_mem, fun ps e => by cases e⟩
          · exact ⟨by repeat (first | exact hp | refine List.Mem.tail _ ?_), fun ps e => by have := htl p hp; rw [e] at this; cases this⟩) Nt
    simp only [List.cons_append] at N₇
    clear F₆ N₆ P₆ Nt R₇ d1 K₇ ns₇
    iterate 27 walk1
    rename Fr _ _ _ _ => F₉
    rename News _ _ _ _ => N₉
    rename_i pa₉ hx lp fa₉ h₉ lf
    rw [hyz] at N₉
    have P₉ : PcsAt h₉ ys qs := hys.at (newsSub N₉ (fun p hp => by have hp := List.mem_append_left t7 hp; repeat (first | exact hp | refine List.Mem.tail _ ?_)))
    refine walk_any (kf := qs.length + 1) (bare := bare) (qs := qs.take (cut k qs.length)) (rs := qs.drop (cut k qs.length)) B' F₉ X' (newsSub N₉ (by kqd_sub)) T' rfl (by decide +kernel) (by decide +kernel) (by simpa using P₉.take (cut k qs.length)) (by simpa using P₉.drop (cut k qs.length)) hsm hgd' ⟨hi1.1, by omega⟩ b₇ hkf ?_
    intro s₁₀ r2 as2 P₁₀ R₁₀
    rw [hD] at R₁₀
    obtain ⟨h₁₀, gn₁₀, dr₁₀, tk₁₀, os₁₀⟩ := s₁₀
    have F₁₀ := frPost F₉ N₉ P₁₀.ext (by walk_at "mine.fa")
    have N₁₀ := newsPost (news' := (56, tabObj ps') :: (63, tabObj pt') :: (123, tabObj pl') :: (h₄.objs.size, oI) :: (l₀, listOf #[.bool false, .bool true] 0) :: (D, listOf ys.toArray ys.length) :: (tl ++ t7)) N₉ P₁₀.ext fun p hp => .inl ⟨.tail _ (.tail _ hp), by
      have a1 := allLt_mem (d := pa₉) (l := (56, tabObj ps') :: (63, tabObj pt') :: (123, tabObj pl') :: (h₄.objs.size, oI) :: (l₀, listOf #[.bool false, .bool true] 0) :: (D, listOf ys.toArray ys.length) :: (tl ++ t7)) lp p hp
      have a2 := allLt_mem (d := fa₉) (l := (56, tabObj ps') :: (63, tabObj pt') :: (123, tabObj pl') :: (h₄.objs.size, oI) :: (l₀, listOf #[.bool false, .bool true] 0) :: (D, listOf ys.toArray ys.length) :: (tl ++ t7)) lf.2 p hp
      simp only [List.mem_cons, List.not_mem_nil, or_false, not_or]
      exact ⟨Nat.ne_of_lt a1, Nat.ne_of_lt a2⟩⟩
    have R₁₁ := d2 h₁₀ (kt _ _ F₁₀ (newsSub N₁₀ (fun p hp => by have hp := List.mem_append_right tl hp; repeat (first | exact hp | refine List.Mem.tail _ ?_))))
    clear F₉ N₉ P₉ lp lf
    dsimp only at F₁₀ N₁₀ R₁₀ R₁₁ ⊢
    refine ne_dataH (da := DD) (db := DD) R₁₁ R₁₀ hly hly (by show callerA.units + 3 + 64 < cLine; decide +kernel) ?_
    rw [eqv_refl _ (SeqAt.canLay_of_shaped hly)]
    iterate 4 walk1
    exact ⟨rfl, (D, listOf ys.toArray ys.length) :: (56, tabObj ps') :: (63, tabObj pt') :: (123, tabObj pl') :: tl, F₁₀, newsSub N₁₀ (fun p hp => by
      rcases List.mem_cons.mp hp with rfl | hp
      · k_mem
      · rcases List.mem_cons.mp hp with rfl | hp
        · k_mem
        · rcases List.mem_cons.mp hp with rfl | hp
          · k_mem
          · rcases List.mem_cons.mp hp with rfl | hp
            · k_mem
            · rcases List.mem_cons.mp hp with rfl | hp
              · k_mem
              · rcases List.mem_cons.mp hp with rfl | hp
                · k_mem
                · have hp := List.mem_append_left t7 hp
                  repeat (first | exact hp | refine List.Mem.tail _ ?_)), ⟨ps', pt', pl', rfl, ⟨t4, t5, t6⟩, fun h => absurd h (Nat.succ_ne_zero _), fun h => t7' (by rcases hj with ⟨_, h'⟩ | ⟨h', _⟩; exact h'; omega)⟩, P₁₀.os.trans (os₇'.trans hos₅), P₁₀.bare⟩
  case R =>
    intro s₁₂ o₁₂ rest F₁₂ N₁₂ hJ hos₁₂ hb₁₂
    obtain ⟨ps, pt, pl, rfl, -⟩ := hJ
    obtain ⟨h₁₂, gn₁₂, dr₁₂, tk₁₂, os₁₂⟩ := s₁₂
    change Fr _ s₁.heap.objs.size h₁₂ _ at F₁₂
    change News _ s₁.heap.objs.size h₁₂ _ at N₁₂
    dsimp only at hos₁₂ hb₁₂ ⊢
    clear F₄ N₄ hb₀
    iterate 3 walk1
    exact ⟨rfl, fun b o e => F₁₂.keep b o e, hos₁₂, hb₁₂, GrownAt.of N₁₂ (by k_mem), GrownAt.of N₁₂ (by k_mem), GrownAt.of N₁₂ (by k_mem), trivial⟩
end
end Mine
end
open PySem PySem.W PyProof.Rows
theorem PySem.Challenge.cw_mq0119_01_holds : PySem.Challenge.rw_mq0119_01.Holds := by
  exact Mine.law_holds

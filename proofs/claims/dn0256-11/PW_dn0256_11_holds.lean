import PyProof.Rows.All
import Wide.All
import OpenK.AllK
import Wide.FinOn
import PySem.Challenge.RW_dn0256_11
open PySem PySem.W PyProof.Rows
set_option Elab.async false
set_option maxRecDepth 100000
set_option maxHeartbeats 8000000
section secMBase
namespace Mine
noncomputable def Ext (h h' : Heap) : Prop := ∀ b o, h.get? b = some o → h'.get? b = some o
end Mine
end secMBase
section secMMap
namespace Mine
section mapfacts
end mapfacts

end Mine
end secMMap
section secMMap2
namespace Mine
/-- what the walk of a map keeps of the heap at its start -/
noncomputable abbrev OffIt (it : Addr) (h₀ h : Heap) : Prop := ∀ b o, b ≠ it → h₀.get? b = some o → h.get? b = some o

end Mine
end secMMap2
section secMList
namespace Mine
section
variable {prog : Program} {w : World} {A : Around} {E : Value → Shared → Prop} {s : Shared} {I : Addr} {fp wr : List Addr} {n : Nat} {P : Nat → Value → Prop} {St : Nat → Heap → Prop}

theorem extend_walk {T : String} {R : Result → Shared → Prop} (W : Walks prog w A.in1 I fp wr n P St) (hT : ∀ s : Shared, St 0 s.heap → s.TypeIs (.ref I) T)
    (h2 : (Value.type T == Value.type "list") = false) (h3 : (Value.type T == Value.type "tuple") = false)
    (hlen : typeLookup (.type T) "__len__" = pure none) (hhint : typeLookup (.type T) "__length_hint__" = pure none)
    (hst : St 0 s.heap) (hn : n ≤ sizeLine) (S : Addr) (hSf : S ∉ fp) (hIf : I ∈ fp) (res : Value) (c₀ : Nat) (hS : s.heap.get? S = some { cls := .type "list", data := .seq #[] c₀ })
    (hR : ∀ h' tk acc' c', (∀ b o, b ≠ S → b ∉ wr → s.heap.get? b = some o → h'.get? b = some o) → h'.get? S = some { cls := .type "list", dict := none, data := .seq acc' c', slots := #[] } →
      ItemsOf P acc' n → R (.ok (.ret res)) { s with heap := h', toks := tk }) :
    wpAny (model prog w) A.in1 (Builtin.List.listExtendWith (.ref S) (.ref I) res)
      (fun fin s' => match fin with | .done f => R (.ok f) s' | .again c' => c'.quiet = true ∧ codeAny (model prog w) A c' R s') (fun e s' => R (.error e) s') s := by
  have hSI : S ≠ I := fun e => hSf (e ▸ hIf)
  unfold Builtin.List.listExtendWith
  refine wpAny_bind (wpAny_typeOf (hT s hst) ?_)
  have h1 : Builtin.List.listSameRef (.ref S) (.ref I) = false := by simp [Builtin.List.listSameRef, hSI]
  simp only [h1, h2, h3, Bool.or_false, Bool.false_eq_true, if_false]
  refine wpAny_bind (W.self 0 _ _ _ hst ?_)
  refine wpAny_bind (wpAny_holding ?_)
  unfold Builtin.List.listLengthHint
  refine wpAny_bind (wpAny_specialOf (hT s hst) hlen ?_)
  show wpAny _ A.in1 (specialOf (Value.ref I) (Str.ofString "__length_hint__") >>= _) _ _ _
  refine wpAny_bind (wpAny_specialOf (hT s hst) hhint ?_)
  refine wpAny_pure ?_
  show wpAny _ A.in1 (rule "list.extend.makes-room" >>= fun _ => Builtin.List.listTouch (.ref S) >>= fun _ =>
    again (.builtin "list.extend.loop" ⟨[.ref S, .ref I, res], []⟩)) _ _ _
  refine wpAny_bind (wpAny_rule ?_)
  refine wpAny_bind ?_
  show wpAny _ A.in1 (updateSeq S (·.push .none) >>= fun _ => updateSeq S (·.pop)) _ _ _
  refine wpAny_bind (wpAny_updateSeq hS rfl ?_)
  have hS₂ := Heap.get?_update_self (Obj.mapSeq (·.push Value.none)) hS rfl
  refine wpAny_updateSeq (hz := by seq_fits) hS₂ rfl ?_
  have hS₃ := Heap.get?_update_self (Obj.mapSeq (·.pop)) hS₂ rfl
  have oth : ∀ b o, b ≠ S → s.heap.get? b = some o → ((s.heap.update S (Obj.mapSeq (·.push Value.none))).update S (Obj.mapSeq (·.pop))).get? b = some o :=
    fun b o hb e => (Heap.get?_update_other _ _ (Ne.symm hb)).trans ((Heap.get?_update_other _ _ (Ne.symm hb)).trans e)
  refine wpAny_pure ⟨plainId_quiet F.plain_extend_loop _, codeAny_extend_loopS W.toS hn _ hSf _ n 0 _ _ _ rfl (Nat.zero_le _)
    (W.frame 0 s.heap _ hst fun b hb o e => oth b o (fun h => hSf (h ▸ hb)) e) hS₃ (ItemsOf.nil P) fun s' acc' c' hm hS' hacc => ?_⟩
  rw [Moved.eq_with hm]
  refine hR s'.heap s'.toks acc' c' (fun b o hb hw e => hm.heap b o (fun hmem => ?_) (oth b o hb e)) hS' hacc
  rcases List.mem_cons.mp hmem with e' | hmem
  · exact hb e'
  · exact hw hmem

theorem call_list_walk {T : String} {Q : Value → Shared → Prop} (W : Walks prog w A.in1.in1 I fp wr n P St) (hT : ∀ s : Shared, St 0 s.heap → s.TypeIs (.ref I) T)
    (h2 : (Value.type T == Value.type "list") = false) (h3 : (Value.type T == Value.type "tuple") = false)
    (hlen : typeLookup (.type T) "__len__" = pure none) (hhint : typeLookup (.type T) "__length_hint__" = pure none)
    (hst : St 0 s.heap) (hn : n ≤ sizeLine) (hIf : I ∈ fp) (hfp : ∀ b ∈ fp, b < s.heap.objs.size)
    (hQ : ∀ h' tk acc' c', (∀ b o, b ∉ wr → s.heap.get? b = some o → h'.get? b = some o) →
      h'.get? s.heap.objs.size = some { cls := .type "list", dict := none, data := .seq acc' c', slots := #[] } → ItemsOf P acc' n → Q (.ref s.heap.objs.size) { s with heap := h', toks := tk }) :
    wpAny (model prog w) A (call (.type "list") [.ref I]) Q E s := by
  refine callType_codes (Q₁ := fun obj s₁ => obj = .ref s.heap.objs.size ∧ s₁ = { s with heap := s.heap.push { cls := .type "list", data := .seq #[] } }) F.called_list (F.typeCall_list_1 _) F.entry_list_init
    (code_list_new _ ⟨rfl, rfl⟩) fun obj s₁ h₁ => ?_
  obtain ⟨rfl, rfl⟩ := h₁
  have hS : (s.heap.push { cls := .type "list", data := .seq #[] }).get? s.heap.objs.size = some { cls := .type "list", data := .seq #[] } := Heap.get?_push_size _ rfl
  have hSf : s.heap.objs.size ∉ fp := fun hm => Nat.lt_irrefl _ (hfp _ hm)
  refine ⟨⟨_, hS, rfl⟩, F.args_list_init_2 _ _, ?_⟩
  show wpAny _ _ (do let old ← Builtin.List.listItems (.ref s.heap.objs.size); Builtin.List.listUpdate (.ref s.heap.objs.size) (fun _ => #[]); letGo old.toList.reverse; Builtin.List.listExtendWith (.ref s.heap.objs.size) (.ref I) .none) _ _ _
  refine wpAny_bind ?_
  unfold Builtin.List.listItems
  refine wpAny_bind (wpAny_seqItems hS rfl (wpAny_pure ?_))
  show wpAny _ _ (updateSeq s.heap.objs.size (fun _ => #[]) >>= fun _ => letGo (#[] : Array Value).toList.reverse >>= fun _ => Builtin.List.listExtendWith (.ref s.heap.objs.size) (.ref I) .none) _ _ _
  refine wpAny_bind (wpAny_updateSeq hS rfl ?_)
  have hS₂ := Heap.get?_update_self (Obj.mapSeq (fun _ => (#[] : Array Value))) hS rfl
  refine wpAny_bind (wpAny_letGo ?_)
  have up : ∀ b o, s.heap.get? b = some o → ((s.heap.push { cls := .type "list", data := .seq #[] }).update s.heap.objs.size (Obj.mapSeq (fun _ => (#[] : Array Value)))).get? b = some o :=
    fun b o e => (Heap.get?_update_other _ _ (Nat.ne_of_gt (Heap.lt_size e))).trans (Heap.get?_push_of_some _ e)
  refine extend_walk (A := A.in1) W hT h2 h3 hlen hhint (W.frame 0 s.heap _ hst fun b _ o e => up b o e) hn s.heap.objs.size hSf hIf .none _ hS₂ fun h' tk acc' c' hk hS' hacc => ?_
  exact ⟨rfl, hQ h' tk acc' c' (fun b o hw e => hk b o (Nat.ne_of_lt (Heap.lt_size e)) hw (up b o e)) hS' hacc⟩
end
end Mine
namespace Mine
theorem ne_add (a k : Nat) : a + (k + 1) ≠ a := by omega
theorem lt_add (a b k : Nat) (h : b = a + (k + 1)) : a < b := by omega
end Mine
end secMList
section secMLed
namespace Mine
section
variable {prog : Program} {w : World} {A : Around} {E : Value → Shared → Prop} {s : Shared} {h₀ : Heap} {L D : Addr} {m : Str → Option Value} {rest : List (Addr × Obj)} {vs : List Value} {n : Nat} {v : Value}

end
end Mine
end secMLed
section secMTp
namespace Mine
end Mine
namespace Mine
/-- a goal that the walk is to leave -/
noncomputable def Stop (P : Prop) : Prop := P
theorem Stop.of {P : Prop} (h : Stop P) : P := h
theorem Stop.go {P : Prop} (h : P) : Stop P := h
end Mine
end secMTp
section secMRec
namespace Mine
theorem newsExt {h₀ h h' : Heap} {L : Addr} {news : List (Addr × Obj)} (N : News h₀ L h news) (e : Ext h h') : News h₀ L h' news := fun q hq => ⟨e _ _ (N q hq).1, (N q hq).2⟩
theorem instBase {h₀ h : Heap} {L x C dx : Addr} {m : Str → Option Value} {od : Obj} (F : Fr h₀ L h m) (h1 : h₀.get? x = some (instObj C dx)) (h2 : h₀.get? dx = some od) : InstAt h x (instObj C dx) C (some od) :=
  ⟨F.keep _ _ h1, rfl, rfl, F.keep _ _ h2⟩
noncomputable def noneV : Value → Bool
  | .none => true
  | _ => false
theorem beq_none (v : Value) : (v == .none) = noneV v := by cases v <;> rfl
section
variable {prog : Program} {w : World} {A : Around} {E : Value → Shared → Prop} {s : Shared} {Q : Value → Shared → Prop}
theorem is_noneV {v : Value} (h : Q (.bool (noneV v)) s) : wpAny (model prog w) A (compareOp .Is v .none) Q E s := by
  refine is_none_gen ?_
  rw [beq_none]; exact h
end
/-- a record of the class at C: its four parts -/
structure RecD where
  r : Addr
  d : Addr
  u : Addr
  l : Addr
  us : List Value
  ls : List Value
  dv : Value
  rv : Value
  k1 : Tok
  k2 : Tok
  k3 : Tok
  k4 : Tok
  cu : Nat
  cl : Nat
noncomputable def recDict (p : Params) (R : RecD) : Obj :=
  dictOf [{ hash := PyData.keyHash p (Str.ofString "useragents"), key := Value.str (Str.ofString "useragents") R.k1, val := Value.ref R.u },
     { hash := PyData.keyHash p (Str.ofString "rulelines"), key := Value.str (Str.ofString "rulelines") R.k2, val := Value.ref R.l },
     { hash := PyData.keyHash p (Str.ofString "delay"), key := Value.str (Str.ofString "delay") R.k3, val := R.dv },
     { hash := PyData.keyHash p (Str.ofString "req_rate"), key := Value.str (Str.ofString "req_rate") R.k4, val := R.rv }] 4
structure RecAt (p : Params) (C : Addr) (h : Heap) (R : RecD) : Prop where
  hr : h.get? R.r = some (instObj C R.d)
  hd : h.get? R.d = some (recDict p R)
  hu : h.get? R.u = some (W.listOf R.us.toArray R.cu)
  hl : h.get? R.l = some (W.listOf R.ls.toArray R.cl)
end Mine
namespace Mine
theorem Fr.lower {g h h' : Heap} {L : Addr} {m : Str → Option Value} (F : Fr h L h' m) (e : Ext g h) (hs : @LE.le Nat _ g.objs.size h.objs.size) : Fr g L h' m := ⟨F.ns, fun b o q => F.keep b o (e b o q), Nat.le_trans hs F.above⟩
end Mine
namespace Mine
/-- a def of the written heap without captured locals, entered from the caller's own heap -/
theorem call_defK {prog : Program} {w : World} {A : Around} {s : Shared} {R : Result → Shared → Prop} {name qual : Str} {params : Arguments} {body : List Stmt} {scope : Scope} {dV kV doc pm cdv ct : Value} {an : Option Addr} {f : Addr} {args : Args} {binds : List (Str × Value)}
    {K : Frag} {oc : Value} {od : Option Addr} {osl : Array (Option Value)} (X : K.In s.heap) (ho : K.lookup f = some ⟨oc, od, .func (fnOf name qual params body scope dV kV doc pm an cdv ct), osl⟩) (hcd : codeIn K cdv qual = true) (hlim : s.heap.NoLimit) (hroom : A.depth < recursionLimit)
    (hbind : BindsTo s (fnOf name qual params body scope dV kV doc pm an cdv ct) args binds) (hloc : ∀ y ∈ binds, scope.names.lookup y.1 = some .local)
    (h : ∀ h₁ tk, Fr s.heap s.heap.objs.size h₁ (fun y => binds.reverse.lookup y) →
      wpAny (model prog w) (A.deeper (envOf qual scope s.heap.objs.size f cdv)) (execs body (envOf qual scope s.heap.objs.size f cdv))
        (fun fl s' => R (.ok (.ret (match fl with | .ret v => v | _ => .none))) s') (fun _ _ => False)
        { s with heap := h₁, toks := tk })
    (hco : scope.isCoroutine = false) (hgen : scope.isGenerator = false) (hk : scope.kind = .function) (hcell : ∀ x ∈ scope.names, x.2 ≠ .cell) : codeAny (model prog w) A (.call (.ref f) args) R s :=
  codeAny_call_def (fd := fnX name qual params body scope [] dV kV doc pm an cdv ct) (body := body) (binds := binds) hroom (X _ _ ho) rfl hlim (codeRec_of X hcd) rfl hbind hcell hloc
    (fun h₁ hns hk₁ => wpAny_mono (h h₁ _ ⟨hns, fun b o e => hk₁ b o e, Nat.le_refl _⟩) (fun _ _ x => x) fun _ _ x => x.elim) hco hgen hk
end Mine
namespace Mine
/-- the four objects are four -/
noncomputable def Apart (R : RecD) : Prop := @Ne Nat R.r R.d ∧ @Ne Nat R.r R.u ∧ @Ne Nat R.r R.l ∧ @Ne Nat R.d R.u ∧ @Ne Nat R.d R.l ∧ @Ne Nat R.u R.l
theorem ne_of_objs {h : Heap} {a b : Addr} {o o' : Obj} (ha : h.get? a = some o) (hb : h.get? b = some o') (hne : o ≠ o') : @Ne Nat a b := fun e => hne (by
  have e' : a = b := e
  rw [e', hb] at ha; exact (Option.some.inj ha).symm)
theorem RecAt.apart {p : Params} {C : Addr} {h : Heap} {R : RecD} (x : RecAt p C h R) (hul : @Ne Nat R.u R.l) : Apart R :=
  ⟨ne_of_objs x.hr x.hd (by intro e; cases e), ne_of_objs x.hr x.hu (by intro e; cases e), ne_of_objs x.hr x.hl (by intro e; cases e), ne_of_objs x.hd x.hu (fun e => by have := congrArg Obj.data e; cases this), ne_of_objs x.hd x.hl (fun e => by have := congrArg Obj.data e; cases this), hul⟩
noncomputable def RecNew (h : Heap) (R : RecD) : Prop := h.get? R.r = none ∧ h.get? R.d = none ∧ h.get? R.u = none ∧ h.get? R.l = none
theorem rec_new {p : Params} {C L x d u l : Addr} {h₀ h : Heap} {k1 k2 k3 k4 : Tok} {c1 c2 : Nat} {us ls : List Value} {dv rv : Value} {rest : List (Addr × Obj)} (N : News h₀ L h rest) (n1 : (l, W.listOf ls.toArray c2) ∈ rest) (n2 : (u, W.listOf us.toArray c1) ∈ rest) (n3 : (x, instObj C d) ∈ rest)
      (n4 : (d, dictOf [{ hash := PyData.keyHash p (Str.ofString "useragents"), key := Value.str (Str.ofString "useragents") k1, val := Value.ref u },
        { hash := PyData.keyHash p (Str.ofString "rulelines"), key := Value.str (Str.ofString "rulelines") k2, val := Value.ref l },
        { hash := PyData.keyHash p (Str.ofString "delay"), key := Value.str (Str.ofString "delay") k3, val := dv },
        { hash := PyData.keyHash p (Str.ofString "req_rate"), key := Value.str (Str.ofString "req_rate") k4, val := rv }] 4) ∈ rest) (hul : @Ne Nat u l) :
    ∃ R : RecD, R.r = x ∧ RecAt p C h R ∧ R.us = us ∧ R.ls = ls ∧ R.dv = dv ∧ R.rv = rv ∧ RecNew h₀ R ∧ Apart R := by
  have m1 := N _ n1
  have m2 := N _ n2
  have m3 := N _ n3
  have m4 := N _ n4
  have X : RecAt p C h ⟨x, d, u, l, us, ls, dv, rv, k1, k2, k3, k4, c1, c2⟩ := ⟨m3.1, m4.1, m2.1, m1.1⟩
  exact ⟨_, rfl, X, rfl, rfl, rfl, rfl, ⟨m3.2.2, m4.2.2, m2.2.2, m1.2.2⟩, X.apart hul⟩
theorem rec_led {p : Params} {C L : Addr} {h₀ h₁ h : Heap} {m : Str → Option Value} {R : RecD} (F : Fr h₀ L h₁ m) (x : RecAt p C h R) (n : RecNew h₁ R) : News h₀ L h [(R.u, W.listOf R.us.toArray R.cu), (R.l, W.listOf R.ls.toArray R.cl), (R.r, instObj C R.d), (R.d, recDict p R)] := by
  have key : ∀ a, h₁.get? a = none → a ≠ L ∧ h₀.get? a = none := by
    intro a ha
    constructor
    · intro e
      obtain ⟨oL, _, _, hL, _⟩ := F.ns
      rw [e, hL] at ha; cases ha
    · cases e : h₀.get? a with
      | none => rfl
      | some o => rw [F.keep _ _ e] at ha; cases ha
  obtain ⟨n1, n2, n3, n4⟩ := n
  intro q hq
  simp only [List.mem_cons, List.not_mem_nil, or_false] at hq
  rcases hq with rfl | rfl | rfl | rfl
  · exact ⟨x.hu, key _ n3⟩
  · exact ⟨x.hl, key _ n4⟩
  · exact ⟨x.hr, key _ n1⟩
  · exact ⟨x.hd, key _ n2⟩
theorem newsApp {h₀ h : Heap} {L : Addr} {a b : List (Addr × Obj)} (N : News h₀ L h a) (M : News h₀ L h b) : News h₀ L h (a ++ b) := fun q hq => (List.mem_append.mp hq).elim (N q) (M q)
end Mine
namespace Mine
theorem news_fresh {h₀ h₁ h : Heap} {L a : Addr} {m : Str → Option Value} {o : Obj} {news : List (Addr × Obj)} (F : Fr h₀ L h₁ m) (N : News h₀ L h news) (hn : h₁.get? a = none) (ha : h.get? a = some o) : News h₀ L h ((a, o) :: news) := by
  intro q hq
  rcases List.mem_cons.mp hq with rfl | hq
  · refine ⟨ha, ?_, ?_⟩
    · intro e
      obtain ⟨oL, _, _, hL, _⟩ := F.ns
      rw [show L = _ from e.symm, hn] at hL; cases hL
    · cases e : h₀.get? _ with
      | none => rfl
      | some o' => rw [F.keep _ _ e] at hn; cases hn
  · exact N q hq
theorem ne_fresh {h₀ h₁ : Heap} {L a b : Addr} {o : Obj} {news : List (Addr × Obj)} (N : News h₀ L h₁ news) (hm : (b, o) ∈ news) (hn : h₁.get? a = none) : @Ne Nat a b := fun e => by
  have e' : a = b := e
  rw [e', (N _ hm).1] at hn; cases hn
end Mine
namespace Mine
theorem add_listsK {prog : Program} {w : World} {A : Around} {E : Value → Shared → Prop} {s : Shared} {h₀ : Heap} {L : Addr} {m : Str → Option Value} {news : List (Addr × Obj)} {l b : Addr} {vs ws : List Value} {Q : Value → Shared → Prop} (F : Fr h₀ L s.heap m) (N : News h₀ L s.heap news) (hl : s.heap.IsList l vs.toArray) (hb : s.heap.IsList b ws.toArray)
    (h : ∀ D h', Fr h₀ L h' m → News h₀ L h' ((D, W.listOf (vs ++ ws).toArray 0) :: news) → (∀ q ∈ news, @Ne Nat D q.1) → Q (.ref D) { s with heap := h' }) (hsz : vs.length + ws.length ≤ 100000) :
    wpAny (model prog w) A (binaryOp .Add (.ref l) (.ref b)) Q E s :=
  add_lists F N hl hb (fun h' F' N' => h _ h' F' N' fun q hq => Nat.ne_of_gt (Heap.lt_size (N q hq).1)) (by rw [sizeLine_eq]; omega)
end Mine
namespace Mine
theorem For_of {prog : Program} {w : World} {A : Around} {E : Value → Shared → Prop} {s : Shared} {env : Env} {Q : Flow → Shared → Prop} {x : Str} {px pos : Pos} {iter : PySem.Expr} {body : List Stmt} {h₀ : Heap} {m : Str → Option Value}
    (_F : Fr h₀ env.locals s.heap m) (hx : env.kindOf x = some .local) (hp : (env.scope.kind == .class || (env.scope.kind == .module && env.locals != env.globals)) = false)
    (h1 : wpAny (model prog w) A (eval iter env) (fun v s' => wpAny (model prog w) A (pyIter v) (fun it s₂ => LoopAtV prog w A h₀ env x body Q E it s₂) E s') E s)
    (hs : ∀ x, foldedSetIterable iter env x = pure x := by intro _; rfl) (hE : PassesOwn (model prog w) A env E := by passes_own) :
    wpAny (model prog w) A (exec (.For (.Name x px) iter body [] pos) env) Q E s := For_invV h₀ hx hp h1 hs hE
end Mine
end secMRec
section secMSetS
namespace Mine
-- set(list of texts)
section
variable {prog : Program} {w : World} {A : Around} {R : Result → Shared → Prop} {I : Addr} {fp wr : List Addr} {G : Array GenState → Array GenState → Prop} {n : Nat} {P : Nat → Value → Prop} {St : Nat → Shared → Prop}
noncomputable def metS (val : Nat → Str) (i : Nat) (k : Str) : Bool := ((List.range i).map val).any (· == k)
theorem metS_succ (val : Nat → Str) (i : Nat) (k : Str) : metS val (i + 1) k = (metS val i k || decide (k = val i)) := by
  unfold metS
  rw [List.range_succ, List.map_append, List.any_append, List.map_cons, List.map_nil, List.any_cons, List.any_nil, Bool.or_false]
  congr 1
  rw [Bool.eq_iff_iff, beq_iff_eq, decide_eq_true_eq]
  exact ⟨Eq.symm, Eq.symm⟩
theorem set_loopS (W : WalksS prog w A.in1 I fp wr G n P St) (S : Addr) (hSf : S ∉ fp)
    (val : Nat → Str) (hval : ∀ i v, P i v → ∃ t, v = .str (val i) t) (hb : n + 1 < scanBound) :
    ∀ (k i c : Nat) (s : Shared), n - i = k → i ≤ n → c ≤ i → St i s →
      s.heap.SetOf (strKind prog w) S (metS val i) c →
      (∀ s' c', c' ≤ n → Moved (S :: wr) G s s' → s'.heap.SetOf (strKind prog w) S (metS val n) c' → R (.ok (.ret .none)) s') →
      codeAny (model prog w) A (.builtin "set.update.loop" ⟨[.ref S, .ref I], []⟩) R s := by
  have hSw : S ∉ wr := fun h => hSf (W.sub _ h)
  have hsub : ∀ b ∈ wr, b ∈ S :: wr := fun b hb => List.mem_cons_of_mem _ hb
  intro k
  induction k with
  | zero =>
    intro i c s hk hi hci hst hS hR
    have hin : i = n := by omega
    subst hin
    refine codeAny_builtin PyProof.Rows.F.entry_set_update_loop ?_
    rw [Around.under_plainId PyProof.Rows.F.plain_set_update_loop _]
    show wpAny _ A.in1 (pyNext (.ref I) >>= _) _ _ s
    refine wpAny_bind (W.done s _ _ hst fun s' hm => ?_)
    show wpAny _ A.in1 (ret Value.none) _ _ s'
    exact wpAny_pure (hR s' c hci (hm.mono hsub) (by
      obtain ⟨o, es, ep, t, ho, rest⟩ := hS
      exact ⟨o, es, ep, t, hm.heap S _ hSw ho, rest⟩))
  | succ k ih =>
    intro i c s hk hi hci hst hS hR
    have hlt : i < n := by omega
    refine codeAny_builtin PyProof.Rows.F.entry_set_update_loop ?_
    rw [Around.under_plainId PyProof.Rows.F.plain_set_update_loop _]
    show wpAny _ A.in1 (pyNext (.ref I) >>= _) _ _ s
    refine wpAny_bind (W.item i s _ _ hlt hst fun v s' hP hst' hm => ?_)
    obtain ⟨t, rfl⟩ := hval i v hP
    have hS' : s'.heap.SetOf (strKind prog w) S (metS val i) c := by
      obtain ⟨o, es, ep, tb, ho, rest⟩ := hS
      exact ⟨o, es, ep, tb, hm.heap S _ hSw ho, rest⟩
    show wpAny _ A.in1 (holding [Value.str (val i) t] (setAdd S (.str (val i) t)) >>= _) _ _ s'
    refine wpAny_bind (wpAny_holding ?_)
    unfold setAdd
    refine wpAny_holding ?_
    refine wpAny_bind ((strKind prog w).pyHash (k := val i) (strKind_is _ _ _ _) ?_)
    refine wpAny_setAddHashed_of (knd := strKind prog w) (s := { s' with toks := s'.toks + 1 }) (strKind_is _ _ _ _) rfl hS' (by omega) fun h' hsb hS2 => ?_
    have hSi : h'.SetOf (strKind prog w) S (metS val (i + 1)) (if metS val i (val i) = true then c else c + 1) :=
      SetOf_congr hS2 (fun k' => by rw [metS_succ]) rfl
    refine wpAny_pure ⟨plainId_quiet PyProof.Rows.F.plain_set_update_loop _, ih (i + 1) _ _ (by omega) hlt (by split <;> omega) (W.frame _ s' _ _ hst' (Nat.le_succ _) fun b hb o e => ?_) hSi fun s'' c'' hc'' hm'' hS'' => ?_⟩
    · rw [hsb.2 b (fun h : b = S => hSf (by rw [← h]; exact hb))]; exact e
    · refine hR s'' c'' hc'' (Moved.trans W.gtrans ((hm.mono hsub).then_heap (Nat.le_succ _) fun b o hb e => ?_) hm'') hS''
      rw [hsb.2 b (fun h : b = S => hb (by rw [h]; exact List.mem_cons_self))]; exact e
end
section
variable {prog : Program} {w : World} {A : Around} {E : Value → Shared → Prop} {s : Shared}
theorem strsAt : ∀ {vs : List Value} {ss : List Str}, StrsAre vs ss → ∀ (i : Nat) (v : Value), vs[i]? = some v → ∃ t, v = .str (ss.getD i (Str.ofString "")) t
  | _, _, .nil, i, v, h => by simp at h
  | _, _, .cons n t hr, 0, v, h => by simp at h; exact ⟨t, by rw [← h]; rfl⟩
  | _, _, .cons n t hr, i + 1, v, h => by
    simp only [List.getElem?_cons_succ] at h
    obtain ⟨t', e⟩ := strsAt hr i v h
    exact ⟨t', by rw [e]; rfl⟩
theorem metS_all (ss : List Str) (k : Str) : metS (fun i => ss.getD i (Str.ofString "")) ss.length k = ss.contains k := by
  unfold metS
  have e : (List.range ss.length).map (fun i => ss.getD i (Str.ofString "")) = ss := by
    apply List.ext_getElem
    · simp
    · intro i h1 h2
      simp [h2]
  rw [e, Bool.eq_iff_iff, List.any_eq_true, List.contains_iff_mem]
  exact ⟨fun ⟨x, hx, e⟩ => beq_iff_eq.mp e ▸ hx, fun h => ⟨k, h, beq_self_eq_true k⟩⟩
theorem call_setS {l : Addr} {vs : List Value} {ss : List Str} {Q : Value → Shared → Prop}
    (hh : A.handled = none) (hl : s.heap.IsList l vs.toArray) (hi : StrsAre vs ss) (hb : vs.length + 1 < 4096)
    (h : ∀ (h' : Heap) (tk c : Nat), h'.SetOf (strKind prog w) s.heap.objs.size (fun k => ss.contains k) c →
      (∀ b o, s.heap.get? b = some o → h'.get? b = some o) → Q (.ref s.heap.objs.size) { s with heap := h', toks := tk }) :
    wpAny (model prog w) A (call (.type "set") [.ref l]) Q E s := by
  have hvl : vs.length = ss.length := StrsAre.length hi
  obtain ⟨c, tl, hmro⟩ := PySem.F.called_set.mro
  have hmade := PySem.F.called_set.made
  have hsub := PySem.F.called_set.sub
  refine wpAny_call (codeAny_of_tree ?_)
  show wpAny _ _ (callAny (.type "set") _) _ _ _
  refine wpAny_pure ⟨Code.quiet_builtin _ (by decide +kernel), codeAny_builtin PySem.F.entry_type_call ?_⟩
  rw [Around.under_plain (weight_type_call_type "set" [.ref l] []) rfl]
  have h1 := PySem.F.called_set.notType
  have h2 := PySem.F.called_set.canCreate
  have hct := PySem.F.typeCall_set_1 (.ref l)
  repeat (any_goals (first | assumption | wp_step))
  refine codeAny_mono (code_set_new_1 (.ref l) (E := E) (Q₁ := fun obj s₁ => ∃ led : Bool, obj = .ref s.heap.objs.size ∧ s₁ = { s with heap := s.heap.push { cls := .type "set", dict := none, data := .set #[] 0 (.fresh 0 0 led) } }) fun led => ⟨led, rfl, rfl⟩) fun r s₁ hr => ?_
  cases r with
  | error e => exact hr
  | ok fl =>
    cases fl with
    | ret obj =>
      obtain ⟨led, rfl, rfl⟩ := hr
      have hS : (s.heap.push { cls := .type "set", dict := none, data := .set #[] 0 (.fresh 0 0 led) }).get? s.heap.objs.size = some { cls := .type "set", dict := none, data := .set #[] 0 (.fresh 0 0 led) } := Heap.get?_push_size _ rfl
      have hT : Shared.TypeIs { s with heap := s.heap.push { cls := .type "set", dict := none, data := .set #[] 0 (.fresh 0 0 led) } } (.ref s.heap.objs.size) "set" := ⟨_, hS, rfl⟩
      have hli := PySem.F.called_set.init.lookup
      have hbi := PySem.F.called_set.init.bind (.ref s.heap.objs.size)
      repeat (any_goals (first | assumption | wp_step))
      refine codeAny_mono (codeAny_call_builtin (R := wants (fun r s₂ => r = .none ∧ ∃ h' tk c, s₂ = { s with heap := h', toks := tk } ∧
          h'.SetOf (strKind prog w) s.heap.objs.size (fun k => ss.contains k) c ∧
          (∀ b o, s.heap.get? b = some o → h'.get? b = some o)) E) PySem.F.called_set.init.plain PySem.F.entry_set_init (check_set_init_1 hT ?_)) fun r₂ s₂ hr₂ => ?_
      · obtain ⟨ol, hol, hcl, nl, hdl⟩ := hl
        obtain ⟨ocls, odict, odata, oslots⟩ := ol
        simp only at hcl hdl
        subst hcl; subst hdl
        have hol' : (s.heap.push { cls := .type "set", dict := none, data := .set #[] 0 (.fresh 0 0 led) }).get? l = some { cls := .type "list", dict := odict, data := .seq vs.toArray nl, slots := oslots } := Heap.get?_push_of_some _ hol
        have hsls := PySem.F.sub_list_set
        have hslf := PySem.F.sub_list_frozenset
        have hne : (Value.type "list" == Value.type "dict") = false := by decide
        have hl1 : (s.heap.push { cls := .type "set", dict := none, data := .set #[] 0 (.fresh 0 0 led) }).IsList l vs.toArray := ⟨_, hol', rfl, nl, rfl⟩
        unfold Builtin.«set.__init__» noKeywords Builtin.Frozenset.updateFrom
        generalize hPI : pyIter = PI
        wp_walk
        subst hPI
        refine wpAny_pyIter_list hl1 ?_
        refine wpAny_bind (wpAny_runValue ?_)
        have hlS : l < s.heap.objs.size := Heap.lt_size hol
        have hh3 : A.in1.in1.in1.handled = none := by simp [hh]
        have hneI : l ≠ (s.heap.push { cls := .type "set", dict := none, data := .set #[] 0 (.fresh 0 0 led) }).objs.size := by
          rw [Heap.size_push]; exact Nat.ne_of_lt (Nat.lt_succ_of_lt hlS)
        have hSf : s.heap.objs.size ∉ [(s.heap.push { cls := .type "set", dict := none, data := .set #[] 0 (.fresh 0 0 led) }).objs.size, l] := by
          rw [Heap.size_push]; simp only [List.mem_cons, List.mem_singleton, List.not_mem_nil, or_false, not_or]
          exact ⟨Nat.ne_of_lt (Nat.lt_succ_self _), Nat.ne_of_gt hlS⟩
        have hval : ∀ (i : Nat) (v : Value), vs.toArray[i]? = some v → ∃ t, v = .str ((fun i => ss.getD i (Str.ofString "")) i) t := fun i v hv =>
          strsAt hi i v (by rw [List.getElem?_toArray] at hv; exact hv)
        refine set_loopS ((Walks.list hh3 _ l hneI vs.toArray).toS) s.heap.objs.size
          hSf (fun i => ss.getD i (Str.ofString "")) hval (by rw [List.size_toArray]; exact hb) (vs.toArray.size - 0) 0 0 _ (by omega) (Nat.zero_le _) (Nat.le_refl _)
          ⟨⟨_, Heap.get?_push_size _ rfl, rfl, rfl⟩, (hl1.push _)⟩ ?hS0 ?hR
        case hS0 =>
          have hget : ((s.heap.push { cls := .type "set", dict := none, data := .set #[] 0 (.fresh 0 0 led) }).push { cls := .type "list_iterator", data := .fields #[.ref l, .int 0 0] }).get? s.heap.objs.size
              = some { cls := .type "set", dict := none, data := .set #[] 0 (.fresh 0 0 led) } := Heap.get?_push_of_some _ hS
          exact SetOf_congr ((setObjOf_fresh (knd := strKind prog w) led).setOf hget (by unfold scanBound; omega)) (fun _ => rfl) rfl
        case hR =>
          intro s' c' _ hm hS'
          have hvz : vs.toArray.size = ss.length := by rw [List.size_toArray]; exact hvl
          rw [hvz] at hS'
          obtain ⟨h', g', d', tk', os'⟩ := s'
          have eg : g' = s.gens := hm.gens
          have ed : d' = s.drawn := hm.drawn
          have eo : os' = s.os := hm.os
          subst eg; subst ed; subst eo
          show wpAny _ _ _ _ _ _
          refine wpAny_pure ?_
          show wpAny _ _ (ret Value.none) _ _ _
          refine wpAny_pure ⟨rfl, h', tk', c', rfl, SetOf_congr hS' (fun k => metS_all ss k) rfl, fun b o e => ?_⟩
          have hb := Heap.lt_size e
          have hb1 : b ≠ s.heap.objs.size := Nat.ne_of_lt hb
          have hb2 : b ≠ (s.heap.push { cls := .type "set", dict := none, data := .set #[] 0 (.fresh 0 0 led) }).objs.size := by
            rw [Heap.size_push]; exact Nat.ne_of_lt (Nat.lt_succ_of_lt hb)
          exact hm.heap b o (by simp only [List.mem_cons, List.mem_singleton, List.not_mem_nil, or_false, not_or]; exact ⟨hb1, hb2⟩) (Heap.get?_push_of_some _ (Heap.get?_push_of_some _ e))
      · cases r₂ with
        | error e => exact hr₂
        | ok fl₂ =>
          cases fl₂ with
          | ret r =>
            obtain ⟨rfl, h', tk, c, rfl, hS', hk'⟩ := hr₂
            repeat (any_goals (first | assumption | wp_step))
            exact h _ _ _ hS' hk'
          | _ => exact hr₂.elim
    | _ => exact hr.elim
end
end Mine
end secMSetS
section secMSetC
namespace Mine
section setfacts
theorem slot_md_get : Slot "method_descriptor" "__get__" "method_descriptor.__get__" :=
  .of (owner := "method_descriptor") (n := "__get__") (by rw [typeLookup_type, builtinLookup_eq_fast]; kernel_rfl) (by decide +kernel) (by decide +kernel) (by decide +kernel)
    (by first | exact .inl (by decide +kernel) | exact .inr (by decide +kernel)) (by rw [isSubtype_type]; kernel_rfl)
theorem md_no_set : typeLookup (.type "method_descriptor") "__set__" = pure none := by rw [typeLookup_type, builtinLookup_eq_fast]; kernel_rfl
theorem md_no_del : typeLookup (.type "method_descriptor") "__delete__" = pure none := by rw [typeLookup_type, builtinLookup_eq_fast]; kernel_rfl
theorem entry_md_get : entryFor table "method_descriptor.__get__" = some Builtin.«method_descriptor.__get__» := entryFor_of_tree (by kernel_rfl)
theorem args_md_get (a b c : Value) : argsOk "method_descriptor.__get__" ⟨[a, b, c], []⟩ := by unfold argsOk; kernel_rfl
theorem typeOf_set_in : typeOf (.builtin "set.__contains__") = pure (.type "method_descriptor") := by show builtinType _ = _; rw [builtinType_eq_fast]; kernel_rfl
theorem lk_set_in : typeLookup (.type "set") "__contains__" = pure (some (.builtin "set.__contains__")) := by rw [typeLookup_type, builtinLookup_eq_fast]; kernel_rfl
theorem owner_set_in : (".".intercalate ("set.__contains__".cutAt '.').dropLast) = "set" := by
  have e0 : "set.__contains__".cutAt '.' = ["set", "__contains__"] := by first | rfl | decide +kernel
  rw [e0]; decide +kernel
theorem sub_set_set : isSubtype (.type "set") (.type "set") = pure true := by rw [isSubtype_type]; kernel_rfl
theorem sub_set_owner : isSubtype (.type "set") (.type (".".intercalate ("set.__contains__".cutAt '.').dropLast)) = pure true := by
  rw [owner_set_in]; exact sub_set_set
theorem told_set_in : Manifest.toldItsClass.contains "set.__contains__" = false := by decide +kernel
end setfacts
noncomputable abbrev boundIn (a : Addr) : Obj := { cls := .type "builtin_function_or_method", data := .fields #[.builtin "set.__contains__", .ref a] }
section
variable {prog : Program} {w : World} {A : Around} {E : Value → Shared → Prop} {h : Heap} {g : Array GenState} {d : Drawn} {t : Nat} {os : OsState} {a : Addr} {o : Obj}
theorem in_get {R : Result → Shared → Prop} (hx : h.get? a = some o) (hc : o.cls = .type "set") (hq : R (.ok (.ret (.ref h.objs.size))) ⟨h.push (boundIn a), g, d, t, os⟩) :
    codeAny (model prog w) A (.call (.builtin "method_descriptor.__get__") ⟨[.builtin "set.__contains__", .ref a, .type "set"], []⟩) R ⟨h, g, d, t, os⟩ := by
  have hT : (⟨h, g, d, t, os⟩ : Shared).TypeIs (.ref a) "set" := ⟨_, hx, hc⟩
  have hT5 : (⟨h, g, d, t, os⟩ : Shared).TypeIs (.builtin "set.__contains__") "method_descriptor" := typeOf_set_in
  have f8 := sub_set_owner
  have f9 := told_set_in
  refine codeAny_call_builtin slot_md_get.plain entry_md_get (slot_md_get.check _ _ _ _ _ _ _ _ hT5 (args_md_get _ _ _) ?_)
  repeat (any_goals (first | assumption | wp_step))
theorem in_entry {tk : Tok} {Q : Fin → Shared → Prop} {es : Array (Int × Value)} {ep : Nat} {tb : SetTable} (hx : h.get? a = some { cls := .type "set", dict := none, data := .set es ep tb, slots := #[] }) (hq : Q (.done (.ret (.ref h.objs.size))) ⟨h.push (boundIn a), g, d, t, os⟩) :
    wpAny (model prog w) A (Builtin.«object.__getattribute__» ⟨[.ref a, .str "__contains__" tk], []⟩) Q E ⟨h, g, d, t, os⟩ := by
  have hT : (⟨h, g, d, t, os⟩ : Shared).TypeIs (.ref a) "set" := ⟨_, hx, rfl⟩
  have hT5 : (⟨h, g, d, t, os⟩ : Shared).TypeIs (.builtin "set.__contains__") "method_descriptor" := typeOf_set_in
  have f4 := lk_set_in
  have f5 := typeOf_set_in
  have f6 := slot_md_get.lookup
  have f7 := md_no_set
  have f8 := md_no_del
  repeat (any_goals (first | assumption | wp_step))
  refine in_get hx rfl ?_
  exact wpAny_pure hq
theorem in_call {tk : Tok} {R : Result → Shared → Prop} {es : Array (Int × Value)} {ep : Nat} {tb : SetTable} (hx : h.get? a = some { cls := .type "set", dict := none, data := .set es ep tb, slots := #[] }) (hq : R (.ok (.ret (.ref h.objs.size))) ⟨h.push (boundIn a), g, d, t, os⟩) :
    codeAny (model prog w) A (.call (.builtin "set.__getattribute__") ⟨[.ref a, .str "__contains__" tk], []⟩) R ⟨h, g, d, t, os⟩ :=
  codeAny_call_builtin PySem.F.slot_set_getattribute.plain PySem.F.entry_set_ga (PySem.F.slot_set_getattribute.check _ _ _ _ _ _ _ _ (show (⟨h, g, d, t, os⟩ : Shared).TypeIs (.ref a) "set" from ⟨_, hx, rfl⟩) (PySem.F.args_set_getattribute_2 _ _) (in_entry hx hq))
theorem in_attr {Q : Value → Shared → Prop} {ex : Bool} {es : Array (Int × Value)} {ep : Nat} {tb : SetTable} (hx : h.get? a = some { cls := .type "set", dict := none, data := .set es ep tb, slots := #[] }) (hq : Q (.ref h.objs.size) ⟨h.push (boundIn a), g, d, t + 1, os⟩) :
    wpAny (model prog w) A (getAttr (.ref a) "__contains__" ex) Q E ⟨h, g, d, t, os⟩ := by
  have hT : ∀ k, (⟨h, g, d, k, os⟩ : Shared).TypeIs (.ref a) "set" := fun k => ⟨_, hx, rfl⟩
  have hT1 := hT t
  have hT2 := hT (t + 1)
  have f2 := PySem.F.slot_set_getattribute.lookup
  have f3 := PySem.F.slot_set_getattribute.bind (.ref a)
  have f4 : onTheHeap (.type "set") = false := rfl
  unfold getAttr getAttrBy
  repeat (any_goals (first | assumption | wp_step))
  rw [if_neg (by cases ex <;> decide)]
  repeat (any_goals (first | assumption | wp_step))
  refine in_call hx ?_
  repeat (any_goals (first | assumption | wp_step))
end
section
variable {prog : Program} {w : World} {A : Around} {E : Value → Shared → Prop} {s : Shared} {a b : Addr}
theorem sig_in : Manifest.signature? "set.__contains__" = some ⟨.oneArg, "set.__contains__", "__contains__", .self, [⟨"object", .posOnly, true⟩]⟩ := by
  rw [signature?_of (id := "set.__contains__") (n := ['_', '_', 's', 'n', 'i', 'a', 't', 'n', 'o', 'c', '_', '_']) (o := ['t', 'e', 's']) (by kernel_rfl) PySem.F.owner_set]; kernel_rfl
theorem kind_in : builtinKind "set.__contains__" = some .method := by decide +kernel
theorem var_in : Manifest.varargsMethods.contains "set.__contains__" = false := by decide +kernel
theorem sub_set_module : isSubtype (.type "set") (.type "module") = pure false := by rw [isSubtype_type]; kernel_rfl
theorem check_in {h : Heap} {g : Array GenState} {d : Drawn} {t : Nat} {os : OsState} {es : Array (Int × Value)} {ep : Nat} {tb : SetTable} {v : Value} {Q : Unit → Shared → Prop} (hx : h.get? a = some { cls := .type "set", dict := none, data := .set es ep tb, slots := #[] }) (hq : Q () ⟨h, g, d, t, os⟩) :
    wpAny (model prog w) A (checkBoundCall "set.__contains__" ⟨[.ref a, v], []⟩) Q E ⟨h, g, d, t, os⟩ := by
  have hT : (⟨h, g, d, t, os⟩ : Shared).TypeIs (.ref a) "set" := ⟨_, hx, rfl⟩
  have f1 := sub_set_module
  have f2 := PySem.F.called_set.notType
  unfold checkBoundCall
  rw [sig_in, kind_in]
  dsimp only
  rw [if_neg (by decide)]
  refine wpAny_bind (wpAny_isInstance hT f1 ?_)
  rw [var_in, if_neg (by decide)]
  repeat (any_goals (first | assumption | wp_step))
end
end Mine
end secMSetC
section secMSetD
namespace Mine
section
variable {prog : Program} {w : World} {A : Around} {E : Value → Shared → Prop} {s : Shared} {a b : Addr}
theorem quiet_in (x : Args) : (Code.builtin "set.__contains__" x).quiet = true := Code.quiet_builtin _ (by decide +kernel)
theorem call_in {S : Str → Bool} {n : Nat} {x : Str} {tx : Tok} {Q : Value → Shared → Prop} (hb : s.heap.get? b = some (boundIn a)) (hS : s.heap.SetOf (strKind prog w) a S n)
    (h : Q (.bool (S x)) { s with toks := s.toks + 1 }) : wpAny (model prog w) A (call (.ref b) [.str x tx]) Q E s := by
  obtain ⟨⟨c, dct, dt, sl⟩, es, ep, tb, ho, ⟨h1, h2, h3⟩, hd, hrest⟩ := id hS
  replace h1 : c = .type "set" := h1
  replace h2 : dct = none := h2
  replace h3 : sl = #[] := h3
  replace hd : dt = .set es ep tb := hd
  subst h1 h2 h3 hd
  refine wpAny_call (codeAny_of_tree ?_)
  show wpAny _ _ (callAny (.ref b) _) _ _ _
  unfold callAny
  refine wpAny_bind (wpAny_load hb ?_)
  dsimp only
  rw [if_pos (by decide)]
  show wpAny _ _ (checkBoundCall "set.__contains__" ⟨[.ref a, .str x tx], []⟩ >>= fun _ => again (Code.builtin "set.__contains__" ⟨[.ref a, .str x tx], []⟩)) _ _ _
  obtain ⟨hp, g, d, tk, os⟩ := s
  refine wpAny_bind (check_in ho ?_)
  refine wpAny_pure ⟨quiet_in _, codeAny_builtin entry_set_contains ?_⟩
  unfold Builtin.«frozenset.__contains__» Builtin.Frozenset.oneOther
  simp only [List.isEmpty_nil, bind_assoc]
  unfold Builtin.Frozenset.addrOf Builtin.Frozenset.withSetAsKey setContains
  refine wpAny_bind (wpAny_pure ?_)
  try dsimp only
  refine wpAny_bind (wpAny_pure ?_)
  try dsimp only
  refine wpAny_bind (wpAny_tryCatch ?_)
  refine wpAny_holding ?_
  refine wpAny_bind ((strKind prog w).pyHash (strKind_is _ _ _ _) ?_)
  refine wpAny_bind (wpAny_setFind_of (s := ⟨hp, g, d, tk + 1, os⟩) (knd := strKind prog w) (strKind_is _ _ _ _) rfl hS fun r hr => ?_)
  refine wpAny_pure ?_
  show wpAny _ _ (ret (Value.bool r.isSome)) _ _ _
  rw [hr]
  exact wpAny_pure h
end
end Mine
namespace Mine
theorem attr_in {prog : Program} {w : World} {A : Around} {E : Value → Shared → Prop} {s : Shared} {a : Addr} {S : Str → Bool} {n : Nat} {ex : Bool} {Q : Value → Shared → Prop} (hS : s.heap.SetOf (strKind prog w) a S n)
    (h : ∀ h' tk, h'.get? s.heap.objs.size = some (boundIn a) → Ext s.heap h' → Q (.ref s.heap.objs.size) { s with heap := h', toks := tk }) : wpAny (model prog w) A (getAttr (.ref a) "__contains__" ex) Q E s := by
  obtain ⟨⟨c, dct, dt, sl⟩, es, ep, tb, ho, ⟨h1, h2, h3⟩, hd, hrest⟩ := id hS
  replace h1 : c = .type "set" := h1
  replace h2 : dct = none := h2
  replace h3 : sl = #[] := h3
  replace hd : dt = .set es ep tb := hd
  subst h1 h2 h3 hd
  obtain ⟨hp, g, d, tk, os⟩ := s
  exact in_attr ho (h _ _ (Heap.get?_push_size _ rfl) fun b o e => Heap.get?_push_of_some _ e)
theorem SetOf.ext {prog : Program} {w : World} {h h' : Heap} {a : Addr} {S : Str → Bool} {n : Nat} (hS : h.SetOf (strKind prog w) a S n) (e : Ext h h') : h'.SetOf (strKind prog w) a S n := by
  obtain ⟨o, es, ep, t, ho, rest⟩ := hS
  exact ⟨o, es, ep, t, e _ _ ho, rest⟩
end Mine
end secMSetD
section secMFilt
namespace Mine
section filtfacts
theorem slot_filter_init : Slot "filter" "__init__" "object.__init__" :=
  .of (owner := "object") (n := "__init__") (by rw [typeLookup_type, builtinLookup_eq_fast]; kernel_rfl) (by decide +kernel) (by decide +kernel) (by decide +kernel)
    (by first | exact .inl (by decide +kernel) | exact .inr (by decide +kernel)) (by rw [isSubtype_type]; kernel_rfl)
theorem slot_filter_iter : Slot "filter" "__iter__" "filter.__iter__" :=
  .of (owner := "filter") (n := "__iter__") (by rw [typeLookup_type, builtinLookup_eq_fast]; kernel_rfl) (by decide +kernel) (by decide +kernel) (by decide +kernel)
    (by first | exact .inl (by decide +kernel) | exact .inr (by decide +kernel)) (by rw [isSubtype_type]; kernel_rfl)
theorem slot_filter_next : Slot "filter" "__next__" "filter.__next__" :=
  .of (owner := "filter") (n := "__next__") (by rw [typeLookup_type, builtinLookup_eq_fast]; kernel_rfl) (by decide +kernel) (by decide +kernel) (by decide +kernel)
    (by first | exact .inl (by decide +kernel) | exact .inr (by decide +kernel)) (by rw [isSubtype_type]; kernel_rfl)
theorem entry_filter_next : entryFor table "filter.__next__" = some Builtin.«filter.__next__» := entryFor_of_tree (by kernel_rfl)
theorem entry_filter_new : entryFor table "filter.__new__" = some Builtin.«filter.__new__» := entryFor_of_tree (by kernel_rfl)
theorem entry_filter_iter : entryFor table "filter.__iter__" = some Builtin.«dict_keyiterator.__iter__» :=
  entryFor_alias (id' := "dict_keyiterator.__iter__") (by kernel_rfl) (by first | rfl | decide +kernel | (unfold String.splitOn; simp +decide [String.splitOnAux])) (by decide +kernel) (by kernel_rfl)
theorem args_filter_next (a : Value) : argsOk "filter.__next__" ⟨[a], []⟩ := by unfold argsOk; kernel_rfl
theorem args_filter_iter (a : Value) : argsOk "filter.__iter__" ⟨[a], []⟩ := by unfold argsOk; kernel_rfl
theorem mro_filter : mroOf (.type "filter") = pure [.type "filter", .type "object"] := by rw [mroOf_type]; kernel_rfl
theorem lookup_filter_new : typeLookup (.type "filter") "__new__" = pure (some (.builtin "filter.__new__")) := by rw [typeLookup_type, builtinLookup_eq_fast]; kernel_rfl
theorem called_filter : TypeCalled "filter" "filter.__new__" "object.__init__" :=
  ⟨by decide +kernel, by decide +kernel, ⟨_, _, mro_filter⟩, madeBy_type mro_filter lookup_filter_new (by decide +kernel), by decide +kernel, by rw [isSubtype_type]; kernel_rfl, slot_filter_init⟩
theorem typeCall_filter_2 (a b : Value) : checkTypeCall "filter" ⟨[a, b], []⟩ = pure () := by kernel_rfl
theorem newCall_filter_2 (a b : Value) : checkBuiltinCall "filter.__new__" ⟨[.type "filter", a, b], []⟩ = pure () := by kernel_rfl
theorem sub_filter : isSubtype (.type "filter") (.type "filter") = pure true := by rw [isSubtype_type]; kernel_rfl
theorem filter_no_len : typeLookup (.type "filter") "__len__" = pure none := by rw [typeLookup_type, builtinLookup_eq_fast]; kernel_rfl
theorem filter_no_hint : typeLookup (.type "filter") "__length_hint__" = pure none := by rw [typeLookup_type, builtinLookup_eq_fast]; kernel_rfl
theorem plain_filter_next : plainId "filter.__next__" = true := by decide +kernel
end filtfacts
noncomputable abbrev filtObj (f : Value) (it : Addr) : Obj := { cls := .type "filter", data := .fields #[f, .ref it] }
theorem meets_filter_new (f : Value) (l : Addr) (items : Array Value) (n : Nat) (dct : Option Addr) (sl : Array (Option Value)) :
    Meets (Builtin.«filter.__new__» ⟨[.type "filter", f, .ref l], []⟩) (fun _ R s => s.heap.get? l = some { cls := .type "list", dict := dct, data := .seq items n, slots := sl } ∧
      R (.ok (.ret (.ref (s.heap.push { cls := .type "list_iterator", data := .fields #[.ref l, .int 0 0] }).objs.size)))
        { s with heap := (s.heap.push { cls := .type "list_iterator", data := .fields #[.ref l, .int 0 0] }).push (filtObj f s.heap.objs.size) }) :=
  .of_wp fun prog w A R s h => by
    obtain ⟨hp, g, d, tk, os⟩ := s; obtain ⟨hl, h⟩ := h
    have hsub := sub_filter
    have hL : Heap.IsList (Shared.heap ⟨hp, g, d, tk, os⟩) l items := ⟨_, hl, rfl, n, rfl⟩
    unfold Builtin.«filter.__new__»
    refine wpAny_bind ?_
    wp_walk using wpAny_pyIter_list hL
    exact ⟨_, rfl, h⟩
theorem call_filter {prog : Program} {w : World} {A : Around} {E : Value → Shared → Prop} {s : Shared} {f : Value} {l : Addr} {items : Array Value} {Q : Value → Shared → Prop} (hL : s.heap.IsList l items)
    (h : ∀ h', h'.get? (s.heap.objs.size + 1) = some (filtObj f s.heap.objs.size) → h'.IsListIter s.heap.objs.size l 0 → h'.objs.size = s.heap.objs.size + 2 →
      Ext s.heap h' → Q (.ref (s.heap.objs.size + 1)) { s with heap := h' }) :
    wpAny (model prog w) A (call (.type "filter") [f, .ref l]) Q E s := by
  obtain ⟨⟨c, dct, dt, sl⟩, hl, hc, n, hd⟩ := hL
  replace hc : c = .type "list" := hc
  replace hd : dt = .seq items n := hd
  subst hc hd
  refine callType_new called_filter (by decide) (typeCall_filter_2 _ _) (newCall_filter_2 _ _) (fun obj => F.args_object_init_3 obj _ _) entry_filter_new
    (meets_filter_new f l items n dct sl) ⟨hl, ?_⟩
  have hz : (s.heap.push { cls := .type "list_iterator", data := .fields #[.ref l, .int 0 0] }).objs.size = s.heap.objs.size + 1 := Heap.size_push ..
  show _ ∧ _
  rw [hz]
  have h1 := Heap.get?_push_size (s.heap.push { cls := .type "list_iterator", data := .fields #[.ref l, .int 0 0] }) (o := filtObj f s.heap.objs.size) rfl
  rw [hz] at h1
  refine ⟨⟨_, h1, rfl⟩, h _ h1 ⟨_, Heap.get?_push_of_some _ (Heap.get?_push_size _ rfl), rfl, rfl⟩ (by rw [Heap.size_push, hz]) fun b o e => Heap.get?_push_of_some _ (Heap.get?_push_of_some _ e)⟩
end Mine
end secMFilt
section secMFilt2
namespace Mine
section
variable {prog : Program} {w : World} {A : Around} {E : Value → Shared → Prop} {s : Shared}
theorem sp_item {it l : Addr} {i : Nat} {items : Array Value} {x : Value} {Q : Option Value → Shared → Prop} (hit : s.heap.IsListIter it l i)
    (hl : s.heap.IsList l items) (hx : items[i]? = some x) (hQ : ∀ h', h'.IsListIter it l (i + 1) → Heap.SameBut it s.heap h' → Q (some x) { s with heap := h' }) :
    wpAny (model prog w) A (callSpecial? (.ref it) (Str.ofString "__next__")) Q E s := by
  obtain ⟨o, ho, hc, hd⟩ := id hit
  obtain ⟨ol, hol, _, nl, hdl⟩ := hl
  refine wpAny_callSpecial?_slot (name := Str.ofString "__next__") hit.typeIs slot_listiter_next
    (wpAny_call_entry slot_listiter_next hit.typeIs entry_listiter_next ?_ (args_listiter_next _))
  show wpAny _ _ (field (.ref it) 0 >>= _) _ _ s
  refine wpAny_bind (wpAny_field ho hd (x := .ref l) rfl ?_)
  show wpAny _ _ (if (Value.ref l == Value.none) = true then _ else _) _ _ s
  rw [if_neg (show ¬ ((Value.ref l == Value.none) = true) from Bool.false_ne_true)]
  show wpAny _ _ (field (.ref it) 1 >>= _) _ _ s
  refine wpAny_bind (wpAny_field ho hd (x := .int i 0) rfl ?_)
  show wpAny _ _ (seqItems? (.ref l) >>= _) _ _ s
  refine wpAny_bind (wpAny_seqItems hol hdl ?_)
  simp only [Int.toNat_natCast, hx]
  refine wpAny_bind (wpAny_setField ho hd (by simp) (wpAny_pure ⟨x, rfl, hQ _ ?_ (Heap.SameBut.update ..)⟩))
  exact ⟨_, Heap.get?_update_self _ ho (Obj.isFreed_of_fields (Obj.data_mapFields hd _)), (Obj.cls_mapFields ..).trans hc, by
    rw [Obj.data_mapFields hd]; simp [rawInt]⟩
theorem sp_end {it l : Addr} {i : Nat} {items : Array Value} {Q : Option Value → Shared → Prop} (hh : A.handled = none)
    (hit : s.heap.IsListIter it l i) (hl : s.heap.IsList l items) (hx : items[i]? = none)
    (hE : ∀ h' e, Heap.ExtBut it s.heap h' → (∃ o, h'.get? e = some o ∧ o.cls = .type "StopIteration") → E (.ref e) { s with heap := h' }) :
    wpAny (model prog w) A (callSpecial? (.ref it) (Str.ofString "__next__")) Q E s := by
  obtain ⟨o, ho, hc, hd⟩ := id hit
  obtain ⟨ol, hol, _, nl, hdl⟩ := hl
  refine wpAny_callSpecial?_slot (name := Str.ofString "__next__") hit.typeIs slot_listiter_next
    (wpAny_call_entry slot_listiter_next hit.typeIs entry_listiter_next ?_ (args_listiter_next _))
  show wpAny _ _ (field (.ref it) 0 >>= _) _ _ s
  refine wpAny_bind (wpAny_field ho hd (x := .ref l) rfl ?_)
  show wpAny _ _ (if (Value.ref l == Value.none) = true then _ else _) _ _ s
  rw [if_neg (show ¬ ((Value.ref l == Value.none) = true) from Bool.false_ne_true)]
  show wpAny _ _ (field (.ref it) 1 >>= _) _ _ s
  refine wpAny_bind (wpAny_field ho hd (x := .int i 0) rfl ?_)
  show wpAny _ _ (seqItems? (.ref l) >>= _) _ _ s
  refine wpAny_bind (wpAny_seqItems hol hdl ?_)
  simp only [Int.toNat_natCast, hx]
  refine wpAny_bind (wpAny_rule (wpAny_bind (wpAny_setField ho hd (by simp) ?_)))
  show wpAny _ _ (newExc (.type "StopIteration") [] >>= _) _ _ _
  refine wpAny_bind ?_
  simp only [newExc, newTuple]
  refine wpAny_bind (wpAny_newObj_type ?_ (by size_fits))
  refine wpAny_bind (m := firstArgMember _ _) (wpAny_of_eq (a := Value.none) (by first | rfl | (simp only [firstArgMember]; rfl)) ?_)
  refine wpAny_newObj_type ?_ (by size_fits)
  simp only [raiseNew]
  refine wpAny_bind (wpAny_handled ?_)
  first | rw [show A.in1.handled = none from hh] | rw [hh]
  refine wpAny_bind (wpAny_pure (wpAny_throw ?_))
  exact hE _ _ (((Heap.SameBut.update ..).extBut.push _).push _) ⟨_, Heap.get?_push_size _ rfl, rfl⟩
end
/-- what filter's next does from place j on -/
theorem filt_code {prog : Program} {w : World} {A : Around} (hh : A.handled = none) {h₀ : Heap} {I it l fb : Addr} {items : Array Value} {keep : Value → Bool}
    (hI : h₀.get? I = some (filtObj (.ref fb) it)) (hl : h₀.IsList l items) (n1 : I ≠ it) (n3 : l ≠ it)
    (hf : ∀ (i : Nat) x (s : Shared) (Q E : Value → Shared → Prop), items[i]? = some x → OffIt it h₀ s.heap → (∀ h' tk, Ext s.heap h' → Q (.bool (keep x)) { s with heap := h', toks := tk }) → wpAny (model prog w) A.in1 (call (.ref fb) [x]) Q E s) :
    ∀ (k j : Nat) (s : Shared) (R : Result → Shared → Prop), items.size - j = k → OffIt it h₀ s.heap → s.heap.IsListIter it l j →
      (∀ j' v h' tk, j ≤ j' → items[j']? = some v → keep v = true → (∀ q x, j ≤ q → q < j' → items[q]? = some x → keep x = false) → OffIt it h₀ h' → h'.IsListIter it l (j' + 1) → OffIt it s.heap h' → R (.ok (.ret v)) { s with heap := h', toks := tk }) →
      (∀ h' e tk, (∀ q x, j ≤ q → items[q]? = some x → keep x = false) → OffIt it s.heap h' → (∃ o, h'.get? e = some o ∧ o.cls = .type "StopIteration") → R (.error (.ref e)) { s with heap := h', toks := tk }) →
      codeAny (model prog w) A (.builtin "filter.__next__" ⟨[.ref I], []⟩) R s := by
  intro k
  induction k with
  | zero =>
    intro j s R hk ho hit hfound hend
    have hIs := ho I _ n1 hI
    have hls : s.heap.IsList l items := hl.at fun o e => ho l o n3 e
    refine codeAny_builtin entry_filter_next ?_
    rw [Around.under_plainId plain_filter_next _]
    show wpAny _ _ (field (.ref I) 0 >>= _) _ _ _
    refine wpAny_bind (wpAny_field hIs rfl (x := .ref fb) rfl ?_)
    refine wpAny_bind (wpAny_field hIs rfl (x := .ref it) rfl ?_)
    refine wpAny_bind (sp_end (A := A.in1) hh hit hls (by simp; omega) fun h' e he hx => ?_)
    exact hend h' e s.toks (fun q x hq hx => by have := (Array.getElem?_eq_some_iff.mp hx).1; omega) (fun b o hb e => he b o hb e) hx
  | succ k ih =>
    intro j s R hk ho hit hfound hend
    have hIs := ho I _ n1 hI
    have hls : s.heap.IsList l items := hl.at fun o e => ho l o n3 e
    have hj : j < items.size := by omega
    have hx : items[j]? = some items[j] := by simp [hj]
    refine codeAny_builtin entry_filter_next ?_
    rw [Around.under_plainId plain_filter_next _]
    show wpAny _ _ (field (.ref I) 0 >>= _) _ _ _
    refine wpAny_bind (wpAny_field hIs rfl (x := .ref fb) rfl ?_)
    refine wpAny_bind (wpAny_field hIs rfl (x := .ref it) rfl ?_)
    refine wpAny_bind (sp_item hit hls hx fun h₁ hit₁ hs₁ => ?_)
    dsimp only
    have ho₁ : OffIt it h₀ h₁ := fun b o hb e => hs₁.extBut b o hb (ho b o hb e)
    refine wpAny_bind (wpAny_holding ?_)
    rw [if_neg (by simp [BEq.beq])]
    refine wpAny_bind (hf j _ _ _ _ hx ho₁ fun h₂ tk₂ he₂ => ?_)
    refine wpAny_holding (wpAny_truthy_bool ?_)
    have hk2 : OffIt it s.heap h₂ := fun b o hb e => he₂ b o (hs₁.extBut b o hb e)
    have hit₂ : h₂.IsListIter it l (j + 1) := hit₁.at fun o e => he₂ it o e
    have ho₂ : OffIt it h₀ h₂ := fun b o hb e => he₂ b o (ho₁ b o hb e)
    cases hkp : keep items[j] with
    | true =>
      rw [if_pos rfl]
      exact wpAny_pure (hfound j _ h₂ tk₂ (Nat.le_refl _) hx hkp (fun q x h1 h2 => by omega) ho₂ hit₂ hk2)
    | false =>
      rw [if_neg (by decide)]
      refine wpAny_pure ⟨plainId_quiet plain_filter_next _, ih (j + 1) _ R (by omega) ho₂ hit₂ ?_ ?_⟩
      · intro j' v h' tk h1 h2 h3 h4 h5 h6 h7
        refine hfound j' v h' tk (by omega) h2 h3 (fun q x q1 q2 q3 => ?_) h5 h6 (fun b o hb e => h7 b o hb (hk2 b o hb e))
        by_cases hq : q = j
        · subst hq; rw [hx] at q3; cases q3; exact hkp
        · exact h4 q x (by omega) q2 q3
      · intro h' e tk h1 h2 h3
        refine hend h' e tk (fun q x q1 q3 => ?_) (fun b o hb e => h2 b o hb (hk2 b o hb e)) h3
        by_cases hq : q = j
        · subst hq; rw [hx] at q3; cases q3; exact hkp
        · exact h1 q x (by omega) q3
end Mine
end secMFilt2
section secMFilt3
namespace Mine
theorem filt_none {α : Type} {p : α → Bool} {xs : List α} {j j' : Nat} (h : j ≤ j') (hn : ∀ q x, j ≤ q → q < j' → xs[q]? = some x → p x = false) : (xs.take j').filter p = (xs.take j).filter p := by
  have e : xs.take j' = xs.take j ++ (xs.take j').drop j := by
    conv => lhs; rw [← List.take_append_drop j (xs.take j')]
    rw [List.take_take, Nat.min_eq_left h]
  rw [e, List.filter_append]
  have : ((xs.take j').drop j).filter p = [] := by
    rw [List.filter_eq_nil_iff]
    intro x hx
    obtain ⟨q, hq⟩ := List.getElem?_of_mem hx
    rw [List.getElem?_drop, List.getElem?_take] at hq
    by_cases h2 : j + q < j'
    · rw [if_pos h2] at hq
      rw [hn (j + q) x (by omega) h2 hq]; decide
    · rw [if_neg h2] at hq; cases hq
  rw [this, List.append_nil]
theorem filt_step {α : Type} {p : α → Bool} {xs : List α} {j j' : Nat} {v : α} (h : j ≤ j') (hv : xs[j']? = some v) (hp : p v = true) (hn : ∀ q x, j ≤ q → q < j' → xs[q]? = some x → p x = false) :
    (xs.take (j' + 1)).filter p = (xs.take j).filter p ++ [v] := by
  rw [List.take_add_one, hv, List.filter_append, filt_none h hn]
  simp [hp]
theorem filt_pre {α : Type} {p : α → Bool} (xs : List α) (j : Nat) : xs.filter p = (xs.take j).filter p ++ (xs.drop j).filter p := by
  rw [← List.filter_append, List.take_append_drop]
theorem walks_filter {prog : Program} {w : World} {A : Around} (hh : A.handled = none) {h₀ : Heap} {I it l fb : Addr} {vs : List Value} {keep : Value → Bool}
    (hI : h₀.get? I = some (filtObj (.ref fb) it)) (hl : h₀.IsList l vs.toArray) (hit : it < h₀.objs.size) (n1 : I ≠ it) (n3 : l ≠ it)
    (hf : ∀ (i : Nat) x (s : Shared) (Q E : Value → Shared → Prop), vs[i]? = some x → OffIt it h₀ s.heap → (∀ h' tk, Ext s.heap h' → Q (.bool (keep x)) { s with heap := h', toks := tk }) → wpAny (model prog w) A.in1 (call (.ref fb) [x]) Q E s) :
    Walks prog w A I (List.range h₀.objs.size) [it] (vs.filter keep).length (fun i v => (vs.filter keep)[i]? = some v) (fun i h => OffIt it h₀ h ∧ ∃ j, h.IsListIter it l j ∧ ((vs.take j).filter keep).length = i) where
  sub := fun b hb => by rw [List.mem_singleton.mp hb]; exact List.mem_range.mpr hit
  frame := fun i h h' st hk => ⟨fun b o hb e => hk b (List.mem_range.mpr (Heap.lt_size e)) o (st.1 b o hb e), st.2.choose, st.2.choose_spec.1.at fun o e => hk it (List.mem_range.mpr hit) o e, st.2.choose_spec.2⟩
  item := fun i s Q E hi st hQ => by
    obtain ⟨ho, j, hij, hlen⟩ := st
    have hIs := ho I _ n1 hI
    have hT : s.TypeIs (.ref I) "filter" := ⟨_, hIs, rfl⟩
    unfold pyNext
    refine wpAny_bind (wpAny_attempt (wpAny_callSpecial?_slot (name := Str.ofString "__next__") hT slot_filter_next (wpAny_call ?_)))
    refine codeAny_call_builtin_code (plainId_quiet plain_filter_next _) (slot_filter_next.check _ _ _ _ _ _ _ _ hT (args_filter_next _) ?_)
    refine filt_code hh hI hl n1 n3 (fun i x s Q E hx => hf i x s Q E (by rw [List.getElem?_toArray] at hx; exact hx)) _ j s _ rfl ho hij ?_ ?_
    · intro j' v h' tk h1 h2 h3 h4 h5 h6 h7
      simp only [List.getElem?_toArray] at h2 h4
      have hs := filt_step h1 h2 h3 h4
      refine wpAny_pure (hQ v h' tk ?_ ⟨h5, j' + 1, h6, ?_⟩ fun b o hb e => h7 b o (fun e' => hb (List.mem_singleton.mpr e')) e)
      · rw [filt_pre vs (j' + 1), hs, ← hlen]; simp
      · rw [hs, List.length_append, hlen]; rfl
    · intro h' e tk h1 _ _
      exfalso
      have := filt_none (xs := vs) (p := keep) (j := j) (j' := max j vs.length) (by omega) (fun q x q1 _ q3 => h1 q x q1 (by rw [List.getElem?_toArray]; exact q3))
      rw [List.take_of_length_le (by omega)] at this
      rw [this, hlen] at hi
      omega
  done := fun s Q E st hQ => by
    obtain ⟨ho, j, hij, hlen⟩ := st
    have hIs := ho I _ n1 hI
    have hT : s.TypeIs (.ref I) "filter" := ⟨_, hIs, rfl⟩
    unfold pyNext
    refine wpAny_bind (wpAny_attempt (wpAny_callSpecial?_slot (name := Str.ofString "__next__") hT slot_filter_next (wpAny_call ?_)))
    refine codeAny_call_builtin_code (plainId_quiet plain_filter_next _) (slot_filter_next.check _ _ _ _ _ _ _ _ hT (args_filter_next _) ?_)
    refine filt_code hh hI hl n1 n3 (fun i x s Q E hx => hf i x s Q E (by rw [List.getElem?_toArray] at hx; exact hx)) _ j s _ rfl ho hij ?_ ?_
    · intro j' v h' tk h1 h2 h3 h4 _ _ _
      exfalso
      simp only [List.getElem?_toArray] at h2 h4
      have hs := congrArg List.length (filt_pre (p := keep) vs (j' + 1))
      rw [filt_step h1 h2 h3 h4, List.length_append, List.length_append, hlen] at hs
      simp at hs
      omega
    · intro h' e tk h1 h2 ⟨o, ho, hc⟩
      show wpAny _ _ _ _ _ _
      refine wpAny_bind (wpAny_isInstance (T := "StopIteration") (b := true) ⟨o, ho, hc⟩ isSubtype_stop ?_)
      exact wpAny_pure (hQ h' tk fun b o hb e => h2 b o (fun e' => hb (List.mem_singleton.mpr e')) e)
  self := fun i s Q E st hQ => by
    have hIs := st.1 I _ n1 hI
    have hT : s.TypeIs (.ref I) "filter" := ⟨_, hIs, rfl⟩
    refine wpAny_pyIter_slot hT slot_filter_iter (wpAny_call_entry slot_filter_iter hT entry_filter_iter ?_ (args_filter_iter _))
    show wpAny _ _ (ret (.ref I)) _ _ s
    exact wpAny_pure ⟨_, rfl, "filter", _, hT, slot_filter_next.lookup, hQ⟩
end Mine
namespace Mine
theorem itemsOf_list {xs : List Value} {acc : Array Value} (h : ItemsOf (fun i v => xs[i]? = some v) acc xs.length) : acc = xs.toArray := by
  apply Array.ext'
  apply List.ext_getElem?
  intro i
  rw [Array.getElem?_toList]
  by_cases hi : i < acc.size
  · have e : acc[i]? = some acc[i] := by simp [hi]
    rw [e]
    exact (h.2 i _ e).symm
  · have h2 := h.1
    rw [Array.getElem?_eq_none (by omega), List.getElem?_eq_none (by simp; omega)]
theorem call_list_filter {prog : Program} {w : World} {A : Around} {E : Value → Shared → Prop} {s : Shared} {h₁ : Heap} {l fb : Addr} {vs : List Value} {keep : Value → Bool} {Q : Value → Shared → Prop}
    (hh : A.handled = none) (e1 : Ext h₁ s.heap) (hz : s.heap.objs.size = h₁.objs.size + 2) (hM : s.heap.get? (h₁.objs.size + 1) = some (filtObj (.ref fb) h₁.objs.size))
    (hIt : s.heap.IsListIter h₁.objs.size l 0) (hl : h₁.IsList l vs.toArray) (hn : vs.length ≤ 1000)
    (hf : ∀ (i : Nat) x (s' : Shared) (Q E : Value → Shared → Prop), vs[i]? = some x → Ext h₁ s'.heap → (∀ h' tk, Ext s'.heap h' → Q (.bool (keep x)) { s' with heap := h', toks := tk }) → wpAny (model prog w) A.in1.in1.in1 (call (.ref fb) [x]) Q E s')
    (hQ : ∀ h' tk c, Ext h₁ h' → h₁.get? s.heap.objs.size = none → h'.get? s.heap.objs.size = some (W.listOf (vs.filter keep).toArray c) → Q (.ref s.heap.objs.size) { s with heap := h', toks := tk }) :
    wpAny (model prog w) A (call (.type "list") [.ref (h₁.objs.size + 1)]) Q E s := by
  have nin : ∀ b o, h₁.get? b = some o → b ≠ h₁.objs.size := fun b o e => Nat.ne_of_lt (Heap.lt_size e)
  have hl1 : l ≠ h₁.objs.size := by obtain ⟨o, ho, _⟩ := hl; exact nin _ _ ho
  have W := walks_filter (prog := prog) (w := w) (A := A.in1.in1) (keep := keep) hh hM (hl.at fun o e => e1 l o e) (lt_add _ _ 1 hz) (ne_add _ 0) hl1
    (fun i x s' Q E hx ho hq => hf i x s' Q E hx (fun b o e => ho b o (nin b o e) (e1 b o e)) hq)
  refine call_list_walk W (T := "filter") (fun s' st => ⟨_, st.1 _ _ (ne_add _ 0) hM, rfl⟩) (by decide) (by decide) filter_no_len filter_no_hint ⟨fun _ _ _ e => e, 0, hIt, rfl⟩ (by have := List.length_filter_le keep vs; rw [sizeLine_eq]; omega) (List.mem_range.mpr (by rw [hz]; exact Nat.lt_succ_self _)) (fun b hb => List.mem_range.mp hb) ?_
  intro h' tk acc c hk hS hacc
  rw [itemsOf_list hacc] at hS
  refine hQ h' tk c (fun b o e => hk b o (fun hm => nin b o e (List.mem_singleton.mp hm)) (e1 b o e)) ?_ hS
  cases hq : h₁.get? s.heap.objs.size with
  | none => rfl
  | some o => exact absurd (Heap.lt_size hq) (by rw [hz]; exact Nat.not_lt.mpr (Nat.le_add_right _ _))
end Mine
end secMFilt3
section secMBook
open PySem PySem.W PyProof.Rows PySem.SeqAt
namespace Mine
/-- a list of four: agents, rules, delay, rate -/
structure BookD where
  b : Addr
  bu : Addr
  bl : Addr
  us : List Value
  ls : List Value
  dv : Value
  rv : Value
  cb : Nat
  cu : Nat
  cl : Nat
structure BookAt (h : Heap) (B : BookD) : Prop where
  hb : h.get? B.b = some (W.listOf #[.ref B.bu, .ref B.bl, B.dv, B.rv] B.cb)
  hu : h.get? B.bu = some (W.listOf B.us.toArray B.cu)
  hl : h.get? B.bl = some (W.listOf B.ls.toArray B.cl)
end Mine
namespace Mine
noncomputable def strOf : Value → Str
  | .str x _ => x
  | _ => Str.ofString ""
noncomputable def AllStr (us : List Value) : Prop := ∀ v ∈ us, ∃ x t, v = .str x t
section
variable {prog : Program} {w : World} {A : Around} {E : Value → Shared → Prop} {s : Shared} {Q : Value → Shared → Prop}
theorem eqAt_str {A : Around} {s : Shared} (x y : Str) (t u : Tok) : EqAt A s (.str y t) (.str x u) (y == x) := fun prog w E Q h => eqBool_str h
theorem in_strs {l : Addr} {vs : List Value} {x : Str} {t : Tok} (hl : s.heap.IsList l vs.toArray) (hv : AllStr vs) (h : Q (.bool ((vs.map strOf).contains x)) s) : wpAny (model prog w) A (compareOp .In (.str x t) (.ref l)) Q E s := by
  refine in_listAt (fun v => strOf v == x) hl (fun y hy => ?_) ?_
  · obtain ⟨z, u, rfl⟩ := hv y (by simpa using hy)
    exact eqAt_str x z u t
  · have e : vs.toArray.any (fun v => strOf v == x) = (vs.map strOf).contains x := by
      rw [List.any_toArray, Bool.eq_iff_iff, List.any_eq_true, List.contains_iff_mem, List.mem_map]
      exact ⟨fun ⟨v, hv, e⟩ => ⟨v, hv, beq_iff_eq.mp e⟩, fun ⟨v, hv, e⟩ => ⟨v, hv, beq_iff_eq.mpr e⟩⟩
    rw [e]; exact h
end
end Mine
namespace Mine
end Mine
namespace Mine
end Mine
end secMBook
section secMExt
namespace Mine
/-- the items of a list with those of a walk put behind -/
noncomputable def behind (p : Array Value) (P : Nat → Value → Prop) (i : Nat) (v : Value) : Prop := if i < p.size then p[i]? = some v else P (i - p.size) v
section
variable {prog : Program} {w : World} {A : Around} {E : Value → Shared → Prop} {s : Shared} {I : Addr} {fp wr : List Addr} {n : Nat} {P : Nat → Value → Prop} {St : Nat → Heap → Prop}
end
end Mine
namespace Mine
end Mine
end secMExt
section secMTxt
namespace Mine
/-- a text by its signs' numbers -/
noncomputable def S (l : List Nat) : Str := ⟨l.toArray⟩
section
variable {prog : Program} {w : World} {A : Around} {E : Value → Shared → Prop} {s : Shared} {t u : Tok} {value slice : PySem.Expr} {Q : Value → Shared → Prop} {h₀ : Heap} {L : Addr} {m : Str → Option Value} {news : List (Addr × Obj)}

theorem gtI_t {a b : Int} (h : b < a) (hq : Q (.bool true) s) : wpAny (model prog w) A (compareOp .Gt (.int a t) (.int b u)) Q E s := by
  refine PyProof.Rows.gt_int ?_; rw [decide_eq_true h]; exact hq
theorem gtI_f {a b : Int} (h : a ≤ b) (hq : Q (.bool false) s) : wpAny (model prog w) A (compareOp .Gt (.int a t) (.int b u)) Q E s := by
  refine PyProof.Rows.gt_int ?_; rw [decide_eq_false (Int.not_lt.mpr h)]; exact hq
theorem eqI_t {a b : Int} (h : a = b) (hq : Q (.bool true) s) : wpAny (model prog w) A (compareOp .Eq (.int a t) (.int b u)) Q E s := by
  refine PyProof.Rows.eq_int ?_; rw [beq_iff_eq.mpr h]; exact hq
theorem eqI_f {a b : Int} (h : a ≠ b) (hq : Q (.bool false) s) : wpAny (model prog w) A (compareOp .Eq (.int a t) (.int b u)) Q E s := by
  refine PyProof.Rows.eq_int ?_; rw [beq_eq_false_iff_ne.mpr h]; exact hq
theorem inL_t {x y : Str} (h : Txt.contains x y = true) (hq : Q (.bool true) s) : wpAny (model prog w) A (compareOp .In (.str y u) (.str x t)) Q E s := by
  refine PyProof.Rows.in_str ?_
  rw [show (!(Builtin.Str.occurrences x y 0 x.length 1).isEmpty) = true from h]; exact hq
theorem inL_f {x y : Str} (h : Txt.contains x y = false) (hq : Q (.bool false) s) : wpAny (model prog w) A (compareOp .In (.str y u) (.str x t)) Q E s := by
  refine PyProof.Rows.in_str ?_
  rw [show (!(Builtin.Str.occurrences x y 0 x.length 1).isEmpty) = false from h]; exact hq
end
end Mine
end secMTxt
section secMTurn
open PySem PySem.W PyProof.Rows PySem.Calls PySem.Spec PyProof.V
namespace Mine
section
variable {prog : Program} {w : World} {A : Around} {E : Value → Shared → Prop} {s : Shared} {env : Env} {h₀ : Heap} {body : List Stmt} {Q : Flow → Shared → Prop} {x : Str} {px : Pos}
noncomputable def TxtEnd (h₀ : Heap) (L : Addr) (own : List (Addr × Obj)) (J : (Str → Option Value) → List (Addr × Obj) → Prop) (s₁ s₂ : Shared) : Prop :=
  ∃ h' tk m' news' nx, s₂ = { s₁ with heap := h', toks := tk } ∧ Fr h₀ L h' m' ∧ News h₀ L h' news' ∧ (∀ p ∈ nx, p ∈ news') ∧ (∀ p ∈ own, p ∈ news') ∧ OwnOff own (nx.map (·.1)) ∧ J m' nx
noncomputable def TxtPost (h₀ : Heap) (L : Addr) (own : List (Addr × Obj)) (J : (Str → Option Value) → List (Addr × Obj) → Prop) (s₁ : Shared) (Q : Flow → Shared → Prop) (f : Flow) (s₂ : Shared) : Prop :=
  match f with
  | .ret v => Q (.ret v) s₂
  | .brk => Q .next s₂
  | _ => TxtEnd h₀ L own J s₁ s₂
theorem text_core {I : Addr} {n : Nat} {P : Nat → Value → Prop} {St : Nat → Heap → Prop} {m₀ : Str → Option Value} {news : List (Addr × Obj)} (J : Nat → (Str → Option Value) → List (Addr × Obj) → Prop)
    (W : Walks prog w A I [I] [I] n P St) (hI : ∀ i h, St i h → ∃ o, h.get? I = some o) (hst : St 0 s.heap) (hI0 : h₀.get? I = none) (hL : env.locals ≠ I) (F : Fr h₀ env.locals s.heap m₀) (N : News h₀ env.locals s.heap news) (hoff : ∀ p ∈ news, p.1 ≠ I) (hj : J 0 m₀ news)
    (turn : ∀ i v m₁ news₁ h tk own, i < n → P i v → OwnOff own (news₁.map (·.1)) → J i m₁ news₁ → Fr h₀ env.locals h m₁ → News h₀ env.locals h (news₁ ++ own) →
      wpAny (model prog w) A (assign (.Name x px) env v) (fun _ s₃ => wpAny (model prog w) A (execs body env) (TxtPost h₀ env.locals own (J (i + 1)) { s with heap := h, toks := tk } Q) E s₃) E { s with heap := h, toks := tk })
    (done : ∀ m₁ news₁ h tk, J n m₁ news₁ → Fr h₀ env.locals h m₁ → News h₀ env.locals h news₁ → Q .next { s with heap := h, toks := tk }) :
    TurnsAt prog w A h₀ env (.Name x px) body Q E (.ref I) s := by
  refine ⟨I, [I], [I], n, fun i v _ => P i v, _, St, m₀, news, J, rfl, KTurns.ofWalks W (fun i v s Q E _ q => wpAny_of_eq (show letOwnedTupleGo (.Name x px) (.ref I) v = pure () from rfl) q), by simpa using hL, by simpa using hI0, fun p hp => by simpa using hoff p hp, hst, F, N, hj, ?_, ?_⟩
  · intro i v m₁ news₁ h₁ tk₁ own hin hP hJ hnw hown hval hall hst₁ F₁ N₁
    obtain ⟨oI, hoI⟩ := hI _ _ hst₁
    have hIown : (I, oI) ∈ own := hall I (by simp) hI0 _ hoI
    have hsep : OwnOff own (news₁.map (·.1)) := by
      intro p hp b hb e
      obtain ⟨q, hq, rfl⟩ := List.mem_map.mp hb
      have h1 : p.1 = I := by simpa using hown p hp
      exact hnw q hq (by simp [← e, h1])
    have N₂ : News h₀ env.locals h₁ (news₁ ++ own) := fun p hp => N₁ p ((List.mem_append.mp hp).elim (fun h => List.mem_append.mpr (.inr h)) fun h => List.mem_append.mpr (.inl h))
    refine wpAny_mono (turn i v m₁ news₁ h₁ tk₁ own hin hP hsep hJ F₁ N₂) (fun _ s₂ h₂ => wpAny_mono h₂ (fun f s₃ p => ?_) fun _ _ e => e) fun _ _ e => e
    have fin : TxtEnd h₀ env.locals own (J (i + 1)) { s with heap := h₁, toks := tk₁ } s₃ → LoopStepU h₀ env.locals [I] own (J (i + 1)) { s with heap := h₁, toks := tk₁ } .next s₃ := by
      rintro ⟨h', tk, m', news', nx, e, F', N', hn, ho, ha, hm⟩
      refine ⟨rfl, h', tk, m', nx, e, F', fun p hp => N' p ((List.mem_append.mp hp).elim (ho p) (hn p)), fun p hp hq => ?_, hm⟩
      exact ha _ hIown p.1 (List.mem_map.mpr ⟨p, hp, rfl⟩) (List.mem_singleton.mp hq).symm
    cases f with
    | ret v => exact .ret p
    | brk => exact .brk p
    | next => exact .next (fin p)
    | cont => exact .cont (fin p)
  · intro h' tk m' news' F' N' _ hJ
    exact done m' news' h' tk hJ F' N'
end
end Mine
end secMTurn
section secMTurn2
open PySem PySem.W PyProof.Rows PySem.Calls PySem.Spec PyProof.V
namespace Mine
section
variable {prog : Program} {w : World} {A : Around} {E : Value → Shared → Prop} {s : Shared} {env : Env} {h₀ : Heap} {body : List Stmt} {Q : Flow → Shared → Prop} {x : Str} {px : Pos}
end
end Mine
end secMTurn2
section secMLoop
open PySem PySem.W PyProof.Rows PySem.Calls PySem.Spec PyProof.V
namespace Mine
section
variable {prog : Program} {w : World} {A : Around} {E : Value → Shared → Prop} {s : Shared} {env : Env} {h₀ : Heap} {x : Str} {body : List Stmt} {Q : Flow → Shared → Prop}
/-- a loop over a list of the base's, whatever its items, the ledger may grow -/
theorem iter_anyG {l : Addr} {vs : List Value} {m₀ : Str → Option Value} {news : List (Addr × Obj)} (J : Nat → (Str → Option Value) → List (Addr × Obj) → Prop)
    (hh : A.handled = none) (hl : h₀.IsList l vs.toArray) (F : Fr h₀ env.locals s.heap m₀) (N : News h₀ env.locals s.heap news) (hj : J 0 m₀ news)
    (turn : ∀ i v m₁ news₁ h tk own, vs[i]? = some v → OwnOff own (news₁.map (·.1)) → J i m₁ news₁ → Fr h₀ env.locals h (fun y => if y = x then some v else m₁ y) → News h₀ env.locals h (news₁ ++ own) →
      wpAny (model prog w) A (execs body env) (InvPostG h₀ env.locals (J (i + 1)) own { s with heap := h, toks := tk } Q) E { s with heap := h, toks := tk })
    (done : ∀ m₁ news₁ h tk, J vs.length m₁ news₁ → Fr h₀ env.locals h m₁ → News h₀ env.locals h news₁ → Q .next { s with heap := h, toks := tk }) :
    wpAny (model prog w) A (pyIter (.ref l)) (fun it s₂ => LoopAtV prog w A h₀ env x body Q E it s₂) E s := by
  have hls : s.heap.IsList l vs.toArray := hl.at fun o e => F.keep l o e
  obtain ⟨ol, hol, _⟩ := id hl
  have hlt : l < h₀.objs.size := Heap.lt_size hol
  have hne : l ≠ s.heap.objs.size := Nat.ne_of_lt (Nat.lt_trans (Nat.lt_of_lt_of_le hlt F.above) F.ns.lt)
  refine wpAny_pyIter_list hls ?_
  have Wk := Walks.list (prog := prog) (w := w) hh s.heap.objs.size l hne vs.toArray
  have hlen : vs.toArray.size = vs.length := by simp
  rw [hlen] at Wk
  refine ⟨_, _, _, vs.length, _, _, m₀, news, J, rfl, Wk, ?_, ?_, ?_, ⟨⟨_, Heap.get?_push_size _ rfl, rfl, rfl⟩, hls.at fun o e => Heap.get?_push_of_some _ e⟩, F.push _, (fun p hp => ⟨Heap.get?_push_of_some _ (N p hp).1, (N p hp).2⟩), hj, ?_, ?_⟩
  · intro hm
    rcases List.mem_cons.mp hm with e | hm
    · exact absurd F.ns.lt (e ▸ Nat.lt_irrefl _)
    · exact absurd (Nat.lt_of_lt_of_le hlt F.above) ((List.mem_singleton.mp hm) ▸ Nat.lt_irrefl _)
  · intro b hb
    rw [List.mem_singleton.mp hb]
    exact next_is_new F
  · intro p hp hI
    exact absurd (Heap.lt_size (N p hp).1) ((List.mem_singleton.mp hI) ▸ Nat.lt_irrefl _)
  · rintro i v m₁ news₁ s₁ own ⟨hh', tk', rfl⟩ hin hP hJ hoff hown _ hfp hst F₁ N₁
    have hI0 : h₀.get? s.heap.objs.size = none := next_is_new F
    obtain ⟨⟨oI, hoI, _⟩, _⟩ := id hst
    have hIown : (s.heap.objs.size, oI) ∈ own := hfp _ (List.mem_cons.mpr (.inl rfl)) hI0 _ hoI
    have hsep : OwnOff own (news₁.map (·.1)) := by
      intro p hp b hb e
      obtain ⟨q, hq, rfl⟩ := List.mem_map.mp hb
      rcases List.mem_cons.mp (hown p hp) with h1 | h1
      · exact hoff q hq (List.mem_singleton.mpr (e ▸ h1))
      · have h2 := List.mem_singleton.mp h1
        have h3 := (N₁ q (List.mem_append.mpr (.inr hq))).2.2
        rw [← e, h2, hol] at h3
        cases h3
    have N₂ : News h₀ env.locals hh' (news₁ ++ own) := fun p hp => N₁ p ((List.mem_append.mp hp).elim (fun h => List.mem_append.mpr (.inr h)) fun h => List.mem_append.mpr (.inl h))
    refine wpAny_mono (turn i v m₁ news₁ hh' tk' own (by simpa using hP) hsep hJ F₁ N₂) (fun f s₂ p => ?_) fun _ _ e => e
    have fin : InvEndG h₀ env.locals (J (i + 1)) own { s with heap := hh', toks := tk' } s₂ → LoopStepU h₀ env.locals [s.heap.objs.size] own (J (i + 1)) { s with heap := hh', toks := tk' } .next s₂ := by
      rintro ⟨h', tk, m', news', nx, e, F', N', hn, ho, ha, hm⟩
      refine ⟨rfl, h', tk, m', nx, e, F', fun p hp => N' p ((List.mem_append.mp hp).elim (ho p) (hn p)), fun p hp hq => ?_, hm⟩
      exact ha _ hIown p.1 (List.mem_map.mpr ⟨p, hp, rfl⟩) (List.mem_singleton.mp hq).symm
    cases f with
    | ret v => exact .ret p
    | brk => exact .brk p
    | next => exact .next (fin p)
    | cont => exact .cont (fin p)
  · rintro h' tk m' news' F' N' _ hJ
    exact done m' news' h' tk hJ F' N'
/-- the same over a list of the ledger's that stays as it is -/
theorem iter_anyGL {l : Addr} {vs : List Value} {nn : Nat} {m₀ : Str → Option Value} {news : List (Addr × Obj)} (J : Nat → (Str → Option Value) → List (Addr × Obj) → Prop)
    (hh : A.handled = none) (hl : (l, W.listOf vs.toArray nn) ∈ news) (F : Fr h₀ env.locals s.heap m₀) (N : News h₀ env.locals s.heap news) (hj : J 0 m₀ news)
    (turn : ∀ i v m₁ news₁ h tk own, vs[i]? = some v → OwnOff own (news₁.map (·.1)) → (l, W.listOf vs.toArray nn) ∈ news₁ → J i m₁ news₁ → Fr h₀ env.locals h (fun y => if y = x then some v else m₁ y) → News h₀ env.locals h (news₁ ++ own) →
      wpAny (model prog w) A (execs body env) (InvPostG h₀ env.locals (fun m' nx => (l, W.listOf vs.toArray nn) ∈ nx ∧ J (i + 1) m' nx) own { s with heap := h, toks := tk } Q) E { s with heap := h, toks := tk })
    (done : ∀ m₁ news₁ h tk, (l, W.listOf vs.toArray nn) ∈ news₁ → J vs.length m₁ news₁ → Fr h₀ env.locals h m₁ → News h₀ env.locals h news₁ → Q .next { s with heap := h, toks := tk }) :
    wpAny (model prog w) A (pyIter (.ref l)) (fun it s₂ => LoopAtV prog w A h₀ env x body Q E it s₂) E s := by
  have hol : s.heap.get? l = some (W.listOf vs.toArray nn) := (N _ hl).1
  have hls : s.heap.IsList l vs.toArray := ⟨_, hol, rfl, nn, rfl⟩
  have hne : l ≠ s.heap.objs.size := Nat.ne_of_lt (Heap.lt_size hol)
  refine wpAny_pyIter_list hls ?_
  have Wk := Walks.list (prog := prog) (w := w) hh s.heap.objs.size l hne vs.toArray
  have hlen : vs.toArray.size = vs.length := by simp
  rw [hlen] at Wk
  refine ⟨_, _, _, vs.length, _, _, m₀, news, (fun i m nx => (l, W.listOf vs.toArray nn) ∈ nx ∧ J i m nx), rfl, Wk, ?_, ?_, ?_, ⟨⟨_, Heap.get?_push_size _ rfl, rfl, rfl⟩, hls.at fun o e => Heap.get?_push_of_some _ e⟩, F.push _, (fun p hp => ⟨Heap.get?_push_of_some _ (N p hp).1, (N p hp).2⟩), ⟨hl, hj⟩, ?_, ?_⟩
  · intro hm
    rcases List.mem_cons.mp hm with e | hm
    · exact absurd F.ns.lt (e ▸ Nat.lt_irrefl _)
    · exact (N _ hl).2.1 ((List.mem_singleton.mp hm).symm)
  · intro b hb
    rw [List.mem_singleton.mp hb]
    exact next_is_new F
  · intro p hp hI
    exact absurd (Heap.lt_size (N p hp).1) ((List.mem_singleton.mp hI) ▸ Nat.lt_irrefl _)
  · rintro i v m₁ news₁ s₁ own ⟨hh', tk', rfl⟩ hin hP ⟨hl₁, hJ⟩ hoff hown hget hfp hst F₁ N₁
    have hI0 : h₀.get? s.heap.objs.size = none := next_is_new F
    obtain ⟨⟨oI, hoI, _⟩, _⟩ := id hst
    have hIown : (s.heap.objs.size, oI) ∈ own := hfp _ (List.mem_cons.mpr (.inl rfl)) hI0 _ hoI
    have hsep : OwnOff (own.filter fun p => decide (p.1 = s.heap.objs.size)) (news₁.map (·.1)) := by
      intro p hp b hb e
      obtain ⟨q, hq, rfl⟩ := List.mem_map.mp hb
      have h1 : p.1 = s.heap.objs.size := by simpa using (List.mem_filter.mp hp).2
      exact hoff q hq (List.mem_singleton.mpr (e ▸ h1))
    have N₂ : News h₀ env.locals hh' (news₁ ++ own.filter fun p => decide (p.1 = s.heap.objs.size)) := fun p hp => N₁ p ((List.mem_append.mp hp).elim (fun h => List.mem_append.mpr (.inr h)) fun h => List.mem_append.mpr (.inl ((List.mem_filter.mp h).1)))
    have hlo : hh'.get? l = some (W.listOf vs.toArray nn) := (N₁ _ (List.mem_append.mpr (.inr hl₁))).1
    refine wpAny_mono (turn i v m₁ news₁ hh' tk' _ (by simpa using hP) hsep hl₁ hJ F₁ N₂) (fun f s₂ p => ?_) fun _ _ e => e
    have fin : InvEndG h₀ env.locals (fun m' nx => (l, W.listOf vs.toArray nn) ∈ nx ∧ J (i + 1) m' nx) (own.filter fun p => decide (p.1 = s.heap.objs.size)) { s with heap := hh', toks := tk' } s₂ →
        LoopStepU h₀ env.locals [s.heap.objs.size] own (fun m nx => (l, W.listOf vs.toArray nn) ∈ nx ∧ J (i + 1) m nx) { s with heap := hh', toks := tk' } .next s₂ := by
      rintro ⟨h', tk, m', news', nx, e, F', N', hn, ho, ha, hm⟩
      refine ⟨rfl, h', tk, m', nx, e, F', fun p hp => ?_, fun p hp hq => ?_, hm⟩
      · rcases List.mem_append.mp hp with h | h
        · by_cases hI : p.1 = s.heap.objs.size
          · exact N' p (ho p (List.mem_filter.mpr ⟨h, by simpa using hI⟩))
          · have h1 : p.1 = l := by
              rcases List.mem_cons.mp (hown p h) with h2 | h2
              · exact absurd h2 hI
              · exact List.mem_singleton.mp h2
            have h2 : hh'.get? p.1 = some p.2 := hget p h
            rw [h1, hlo] at h2
            have h3 : p = (l, W.listOf vs.toArray nn) := Prod.ext h1 (Option.some.inj h2).symm
            rw [h3]
            exact N' _ (hn _ hm.1)
        · exact N' p (hn p h)
      · exact ha _ (List.mem_filter.mpr ⟨hIown, by simp⟩) p.1 (List.mem_map.mpr ⟨p, hp, rfl⟩) (List.mem_singleton.mp hq).symm
    cases f with
    | ret v => exact .ret p
    | brk => exact .brk p
    | next => exact .next (fin p)
    | cont => exact .cont (fin p)
  · rintro h' tk m' news' F' N' _ ⟨hl', hJ⟩
    exact done m' news' h' tk hl' hJ F' N'
end
end Mine
namespace Mine
section
variable {prog : Program} {w : World} {A : Around} {E : Value → Shared → Prop} {s : Shared} {env : Env} {h₀ : Heap} {x : Str} {body : List Stmt} {Q : Flow → Shared → Prop}
/-- a loop over range(a, a + n), the ledger may grow -/
theorem iter_rangeG {r : Addr} {a b : Int} {t₀ u₀ v₀ : Tok} {n : Nat} {m₀ : Str → Option Value} {news : List (Addr × Obj)} (J : Nat → (Str → Option Value) → List (Addr × Obj) → Prop)
    (hh : A.handled = none) (hr : IsRange s.heap r a b 1 t₀ u₀ v₀) (hb : b = a + (n : Int)) (ha : 0 ≤ a) (ha2 : a ≤ 100000) (hn : n ≤ 100000) (F : Fr h₀ env.locals s.heap m₀) (N : News h₀ env.locals s.heap news) (hj : J 0 m₀ news)
    (turn : ∀ (i : Nat) t m₁ news₁ h tk own, i < n → OwnOff own (news₁.map (·.1)) → J i m₁ news₁ → Fr h₀ env.locals h (fun y => if y = x then some (.int (a + (i : Int)) t) else m₁ y) → News h₀ env.locals h (news₁ ++ own) →
      wpAny (model prog w) A (execs body env) (InvPostG h₀ env.locals (J (i + 1)) own { s with heap := h, toks := tk } Q) E { s with heap := h, toks := tk })
    (done : ∀ m₁ news₁ h tk, J n m₁ news₁ → Fr h₀ env.locals h m₁ → News h₀ env.locals h news₁ → Q .next { s with heap := h, toks := tk }) :
    wpAny (model prog w) A (pyIter (.ref r)) (fun it s₂ => LoopAtV prog w A h₀ env x body Q E it s₂) E s := by
  subst hb
  have hsz : Builtin.Range.rangeSize a (a + (n : Int)) 1 = (n : Int) := by rw [rangeSize_nat]; omega
  refine wpAny_pyIter_range hr (small_one (by omega) (by omega) (by omega) (by omega)) ?_
  have Wk : Walks prog w A s.heap.objs.size [s.heap.objs.size] [s.heap.objs.size] n (fun i v => i < n ∧ ∃ t, v = .int (a + i * 1) t)
      (fun i h => IsRangeIter h s.heap.objs.size (a + (i : Nat) * 1) ((n : Int) - (i : Nat)) 1) := (Walks.range hh _ a 1 n).bound
  refine ⟨_, _, _, n, _, _, m₀, news, J, rfl, Wk, ?_, ?_, ?_, (by show IsRangeIter _ _ _ _ _; rw [hsz]; simpa using Heap.get?_push_size _ rfl), F.push _, (fun p hp => ⟨Heap.get?_push_of_some _ (N p hp).1, (N p hp).2⟩), hj, ?_, ?_⟩
  · intro hm
    exact absurd F.ns.lt ((List.mem_singleton.mp hm) ▸ Nat.lt_irrefl _)
  · intro b hb
    rw [List.mem_singleton.mp hb]
    exact next_is_new F
  · intro p hp hI
    exact absurd (Heap.lt_size (N p hp).1) ((List.mem_singleton.mp hI) ▸ Nat.lt_irrefl _)
  · rintro i v m₁ news₁ s₁ own ⟨hh', tk', rfl⟩ hin hP hJ hoff hown _ hfp hst F₁ N₁
    have hI0 : h₀.get? s.heap.objs.size = none := next_is_new F
    have hoI : hh'.get? s.heap.objs.size = some _ := hst
    have hIown := hfp _ (List.mem_singleton.mpr rfl) hI0 _ hoI
    have hsep : OwnOff own (news₁.map (·.1)) := by
      intro p hp b hb e
      obtain ⟨q, hq, rfl⟩ := List.mem_map.mp hb
      exact hoff q hq (List.mem_singleton.mpr (e ▸ List.mem_singleton.mp (hown p hp)))
    have N₂ : News h₀ env.locals hh' (news₁ ++ own) := fun p hp => N₁ p ((List.mem_append.mp hp).elim (fun h => List.mem_append.mpr (.inr h)) fun h => List.mem_append.mpr (.inl h))
    obtain ⟨hi, t, rfl⟩ := hP
    rw [Int.mul_one] at F₁
    refine wpAny_mono (turn i t m₁ news₁ hh' tk' own hi hsep hJ F₁ N₂) (fun f s₂ p => ?_) fun _ _ e => e
    have fin : InvEndG h₀ env.locals (J (i + 1)) own { s with heap := hh', toks := tk' } s₂ → LoopStepU h₀ env.locals [s.heap.objs.size] own (J (i + 1)) { s with heap := hh', toks := tk' } .next s₂ := by
      rintro ⟨h', tk, m', news', nx, e, F', N', hn, ho, ha, hm⟩
      refine ⟨rfl, h', tk, m', nx, e, F', fun p hp => N' p ((List.mem_append.mp hp).elim (ho p) (hn p)), fun p hp hq => ?_, hm⟩
      exact ha _ hIown p.1 (List.mem_map.mpr ⟨p, hp, rfl⟩) (List.mem_singleton.mp hq).symm
    cases f with
    | ret v => exact .ret p
    | brk => exact .brk p
    | next => exact .next (fin p)
    | cont => exact .cont (fin p)
  · rintro h' tk m' news' F' N' _ hJ
    exact done m' news' h' tk hJ F' N'
end
end Mine
end secMLoop
section secMCell
open PySem PySem.W PyProof.Rows PySem.Calls PySem.Spec
namespace Mine
section
variable {prog : Program} {w : World} {A : Around} {s : Shared}
  {R : Result → Shared → Prop} {name qual : Str} {params : Arguments} {body : List Stmt} {scope : Scope} {dV kV doc pm cdv ct : Value} {an : Option Addr} {fo : Obj} {f : Addr} {args : Args} {binds : List (Str × Value)}
/-- the same, with one list of the caller's that is none of the base's -/
theorem call_cellsH {K : Frag} {oc : Value} {od : Option Addr} {osl : Array (Option Value)} {h₀ : Heap} {l : Addr} {ol : Obj} (X : K.In h₀) (hkeep : ∀ b o, h₀.get? b = some o → s.heap.get? b = some o) (hl : s.heap.get? l = some ol) (hl0 : h₀.get? l = none)
    (ho : K.lookup f = some ⟨oc, od, .func (fnOf name qual params body scope dV kV doc pm an cdv ct), osl⟩) (hcd : codeIn K cdv qual = true) (hlim : h₀.NoLimit) (hroom : A.depth < recursionLimit)
    (hbind : BindsTo s (fnOf name qual params body scope dV kV doc pm an cdv ct) args binds)
    (hkind : (binds.all fun y => scope.names.lookup y.1 == some .local || scope.names.lookup y.1 == some .cell) = true)
    (hnd : ((cellsFrom 0 scope.names []).map (·.1)).Nodup)
    (h : ∀ g h₁ tk cells, (∀ b o, h₀.get? b = some o → g.get? b = some o) → (∀ b o, b ≠ l → s.heap.get? b = some o → g.get? b = some o) → (@LT.lt Nat _ l s.heap.objs.size) → Fr g s.heap.objs.size h₁ (bindL (envOfC qual scope s.heap.objs.size f cdv).kindOf binds fun _ => none) → News g s.heap.objs.size h₁ (cells ++ [(l, ol)]) →
      CellsAre (bindC (envOfC qual scope s.heap.objs.size f cdv).kindOf binds fun _ => none) (cellsFrom (s.heap.objs.size + 1) scope.names []) cells →
      wpAny (model prog w) (A.deeper (envOfC qual scope s.heap.objs.size f cdv)) (execs body (envOfC qual scope s.heap.objs.size f cdv))
        (fun fl s' => R (.ok (.ret (match fl with | .ret v => v | _ => .none))) s') (fun _ _ => False)
        { s with heap := h₁, toks := tk })
    (hco : scope.isCoroutine = false) (hgen : scope.isGenerator = false) (hk : scope.kind = .function) : codeAny (model prog w) A (.call (.ref f) args) R s := by
  refine codeAny_call_function hroom (hkeep _ _ (X _ _ ho)) rfl hco hgen rfl (codeRec_of (X.keeps hkeep) hcd) (hbind _ _ _ _ ?_)
  refine wpAny_newFunctionEnv_cells hk (kindsX hkind _) fun env' he s' x => ?_
  subst he
  refine ⟨(hlim.keeps hkeep).keeps x.toInCall.keep, codeAny_func ?_⟩
  obtain ⟨h₁, tk, rfl, _⟩ := x.done
  have hk₁ := x.toInCall.keep
  obtain ⟨cells, NC, Y⟩ := Cl.news (h₀ := s.heap) (Nat.le_refl _) fun n c hm => ⟨x.cell n c (lookup_of_mem_nodup (cellsFrom_names scope.names 0 (s.heap.objs.size + 1) [] [] rfl ▸ hnd) hm), x.above n c hm⟩
  refine wpAny_mono (h (hideAll s.heap [l]) h₁ tk cells (fun b o e => hideAll_get _ (hkeep b o e) fun q => ?_) (fun b o hb e => hideAll_get _ e fun q => hb (List.mem_singleton.mp q)) (Heap.lt_size hl) ⟨x.toInCall.ns, fun b o e => hk₁ b o (of_hideAll _ e), Nat.le_of_eq (hideAll_size _ _)⟩ (fun p hp => ?_) Y) (fun fl s' hl => hl) fun _ _ y => y.elim
  · rw [List.mem_singleton.mp q, hl0] at e; cases e
  · rcases List.mem_append.mp hp with hp | hp
    · refine ⟨(NC p hp).1, (NC p hp).2.1, ?_⟩
      cases q : (hideAll s.heap [l]).get? p.1 with
      | none => rfl
      | some o => have := of_hideAll _ q; rw [(NC p hp).2.2] at this; cases this
    · rw [List.mem_singleton.mp hp]
      exact ⟨hk₁ _ _ hl, Nat.ne_of_lt (Heap.lt_size hl), hideAll_none _ (List.mem_singleton.mpr rfl)⟩
end
end Mine
end secMCell
section secMComp2
open PySem PySem.W PyProof.Rows PySem.Calls PySem.Spec PyProof.Rows.LCg PyProof.Rows.LCt
namespace Mine
section
variable {prog : Program} {w : World} {A : Around} {E : Value → Shared → Prop} {R : Result → Shared → Prop} {s : Shared} {x y : Str} {px py pe : Pos} {iter iter2 : PySem.Expr} {scope : Scope} {pos : Pos}
end
end Mine
end secMComp2
section secMComp3
open PySem PySem.W PyProof.Rows PySem.Calls PySem.Spec PyProof.Rows.LCg PyProof.Rows.LCt
namespace Mine
/-- a step that leaves the frame and the ledger as they stand -/
noncomputable def Quiet (h₀ : Heap) (L : Addr) (m : Str → Option Value) (led : List (Addr × Obj)) (s s' : Shared) : Prop := ∃ h' tk, s' = { s with heap := h', toks := tk } ∧ Fr h₀ L h' m ∧ News h₀ L h' led
/-- the source of a comprehension -/
noncomputable def SrcIs (h₀ : Heap) (L : Addr) (m : Str → Option Value) (news : List (Addr × Obj)) (s : Shared) (ax : Addr) (vs : List Value) (xv : Value) (s₁ : Shared) : Prop := xv = .ref ax ∧ Quiet h₀ L m news s s₁ ∧ SrcAt h₀ ax vs.toArray news
/-- what a test must answer -/
noncomputable def TestIs (b : Bool) (Y N : Shared → Prop) (ok : Bool) (s' : Shared) : Prop := ok = b ∧ if ok = true then Y s' else N s'
/-- what an element must be -/
noncomputable def EltIs (h₀ : Heap) (L : Addr) (m : Str → Option Value) (led : List (Addr × Obj)) (s : Shared) (k : Int) (z : Value) (s' : Shared) : Prop := (∃ t', z = .int k t') ∧ Quiet h₀ L m led s s'
theorem IntsAre.append' {vs us : List Value} {ns ms : List Int} (h : IntsAre vs ns) (h2 : IntsAre us ms) : IntsAre (vs ++ us) (ns ++ ms) := by
  induction h with
  | nil => exact h2
  | cons n t _ ih => exact .cons n t ih
section
variable {prog : Program} {w : World} {A : Around} {E : Value → Shared → Prop} {s : Shared} {h₀ : Heap} {L : Addr} {m : Str → Option Value} {env : Env}
end
end Mine
end secMComp3
section secMComp4
open PySem PySem.W PyProof.Rows PySem.Calls PySem.Spec PyProof.Rows.LCg PyProof.Rows.LCt
namespace Mine
noncomputable def EltG (h₀ : Heap) (L : Addr) (m : Str → Option Value) (led : List (Addr × Obj)) (s : Shared) (G : Value → Prop) (z : Value) (s' : Shared) : Prop := G z ∧ Quiet h₀ L m led s s'
section
variable {prog : Program} {w : World} {A : Around} {E : Value → Shared → Prop} {s : Shared} {h₀ : Heap} {L : Addr} {m : Str → Option Value} {env : Env}
theorem restU {elt : PySem.Expr} {x : Str} {scope : Scope} {cl : List (Str × Addr)} {ax : Addr} {vs : List Value} {news : List (Addr × Obj)} {Fin : List Value → List (Addr × Obj) → Prop} (G : Value → Value → Prop) (hS : SrcAt h₀ ax vs.toArray news)
    (turn : ∀ v I oI C oC D oD m₂ h tk (E' : Value → Shared → Prop), v ∈ vs → NsObj oC m₂ → m₂ x = some v → Fr h₀ L h m → News h₀ L h ((I, oI) :: (C, oC) :: (D, oD) :: news) → (∀ q ∈ news, q.1 ≠ I ∧ q.1 ≠ C ∧ q.1 ≠ D) → ((@Ne Nat I C) ∧ (@Ne Nat I D) ∧ (@Ne Nat C D)) →
      wpAny (model prog w) A (eval elt (compEnvC scope cl C env)) (EltG h₀ L m ((I, oI) :: (C, oC) :: (D, oD) :: news) { s with heap := h, toks := tk } (G v)) E' { s with heap := h, toks := tk })
    (fin : ∀ ys, Paired G vs ys → Fin ys news) :
    ∀ (k i : Nat) (ys : List Value), i + k = vs.length → Paired G (vs.take i) ys → CompRest prog w A h₀ L m env elt x scope cl s (SrcAt h₀ ax vs.toArray) (fun i v => vs.toArray[i]? = some v) Fin k i ys news := by
  intro k
  induction k with
  | zero =>
    intro i ys hk hy
    refine CompRest.zero (fin ys ?_)
    rw [show i = vs.length by omega, List.take_length] at hy
    exact hy
  | succ k ih =>
    intro i ys hk hy
    refine CompRest.succ fun v I oI C oC D m₂ h tk E' hv hC hx F N off ne => ?_
    have hlt : i < vs.length := by omega
    have hv' : vs[i]? = some v := by rw [List.getElem?_toArray] at hv; exact hv
    have hvv : vs[i] = v := by rw [List.getElem?_eq_getElem hlt] at hv'; exact Option.some.inj hv'
    have hs : vs.take (i + 1) = vs.take i ++ [v] := by rw [List.take_add_one, hv']; rfl
    refine wpAny_mono (turn v I oI C oC D (lst ys) m₂ h tk E' (hvv ▸ List.getElem_mem _) hC hx F N off.mem ne) (fun z s'' h2 => ?_) fun _ _ e => e
    obtain ⟨hg, h', tk', rfl, F', N'⟩ := h2
    refine ⟨h', tk', news, rfl, F', N', off, hS, ih (i + 1) _ (by omega) ?_⟩
    rw [hs]
    exact hy.snoc hg
/-- [elt for x in src], as a value -/
theorem compU {elt iter : PySem.Expr} {x : Str} {px : Pos} {scope : Scope} {cl : List (Str × Addr)} {pos : Pos} {Q : Value → Shared → Prop} {ax : Addr} {vs : List Value} {news : List (Addr × Obj)} (G : Value → Value → Prop)
    (hh : A.handled = none) (F₀ : Fr h₀ L s.heap m) (_N₀ : News h₀ L s.heap news) (hsz : vs.length ≤ 16777216)
    (hclos : closureFor scope env = pure cl) (hcell : ∀ z ∈ scope.names, z.2 ≠ .cell) (hkind : scope.kind = .function)
    (hnames : ∀ z ∈ scope.names, z.2 = .local → scope.names.lookup z.1 = some .local) (hx : scope.names.lookup x = some .local)
    (hiter : wpAny (model prog w) A (eval iter env) (SrcIs h₀ L m news s ax vs) E s)
    (turn : ∀ v I oI C oC D oD m₂ h tk (E' : Value → Shared → Prop), v ∈ vs → NsObj oC m₂ → m₂ x = some v → Fr h₀ L h m → News h₀ L h ((I, oI) :: (C, oC) :: (D, oD) :: news) → (∀ q ∈ news, q.1 ≠ I ∧ q.1 ≠ C ∧ q.1 ≠ D) → ((@Ne Nat I C) ∧ (@Ne Nat I D) ∧ (@Ne Nat C D)) →
      wpAny (model prog w) A (eval elt (compEnvC scope cl C env)) (EltG h₀ L m ((I, oI) :: (C, oC) :: (D, oD) :: news) { s with heap := h, toks := tk } (G v)) E' { s with heap := h, toks := tk })
    (fin : ∀ D ys h tk, Paired G vs ys → Fr h₀ L h m → News h₀ L h ((D, lst ys) :: news) → (∀ q ∈ news, q.1 ≠ D) → Q (.ref D) { s with heap := h, toks := tk })
    (hs : ∀ x, foldedSetIterable iter env x = pure x := by intro _; rfl) :
    wpAny (model prog w) A (eval (.ListComp elt [⟨.Name x px, iter, [], 0⟩] scope pos) env) Q E s := by
  refine ListComp_U F₀ hclos hcell hkind hnames hx (wpAny_mono hiter (fun xv s₁ h₁ => ?_) fun _ _ e => e) hs
  obtain ⟨rfl, ⟨h₁, tk₁, rfl, F₁, N₁⟩, hS⟩ := h₁
  refine .inl ⟨ax, vs.toArray, news, rfl, hh, F₁, N₁, hS, by rw [List.size_toArray, sizeLine_eq]; exact hsz, ?_⟩
  rintro s₂ ⟨g, rfl⟩
  rw [List.size_toArray]
  refine restU (s := ⟨g, s.gens, s.drawn, tk₁, s.os⟩) (Fin := FinE h₀ L m ⟨g, s.gens, s.drawn, tk₁, s.os⟩ Q) G hS turn (fun ys hys D h tk F N off => fin D ys h tk hys F N ?_) vs.length 0 [] (by omega) .nil
  intro q hq
  have : ∀ {l : List (Addr × Obj)}, Off1 D l → ∀ p ∈ l, p.1 ≠ D := by
    intro l
    induction l with
    | nil => intro _ p hp; cases hp
    | cons a r ih =>
      intro o p hp
      rcases List.mem_cons.mp hp with rfl | hp
      · exact o.1
      · exact ih o.2 p hp
  exact this off q hq
end
end Mine
end secMComp4
section secMComp5
open PySem PySem.W PyProof.Rows PySem.Calls PySem.Spec PyProof.Rows.LCg PyProof.Rows.LCt
namespace Mine
/-- what an element of a comprehension leaves: the ledger may have grown -/
noncomputable def EltJ (h₀ : Heap) (L : Addr) (m : Str → Option Value) (I : Addr) (oI : Obj) (C : Addr) (oC : Obj) (D : Addr) (oD : Obj) (s : Shared) (S : List (Addr × Obj) → Prop) (J : Value → List (Addr × Obj) → Prop) (z : Value) (s' : Shared) : Prop :=
  ∃ h' tk news', s' = { s with heap := h', toks := tk } ∧ Fr h₀ L h' m ∧ News h₀ L h' ((I, oI) :: (C, oC) :: (D, oD) :: news') ∧ (∀ q ∈ news', q.1 ≠ I ∧ q.1 ≠ C ∧ q.1 ≠ D) ∧ S news' ∧ J z news'
theorem off1_mem {D : Addr} : ∀ {l : List (Addr × Obj)}, Off1 D l → ∀ p ∈ l, p.1 ≠ D
  | [], _, _, hp => nomatch hp
  | _ :: _, o, p, hp => by
    rcases List.mem_cons.mp hp with rfl | hp
    · exact o.1
    · exact off1_mem o.2 p hp
section
variable {prog : Program} {w : World} {A : Around} {E : Value → Shared → Prop} {s : Shared} {h₀ : Heap} {L : Addr} {m : Str → Option Value} {env : Env}
theorem restG {elt : PySem.Expr} {x : Str} {scope : Scope} {cl : List (Str × Addr)} {S : List (Addr × Obj) → Prop} {P : Nat → Value → Prop} {n : Nat} {Fin : List Value → List (Addr × Obj) → Prop} (J : Nat → List Value → List (Addr × Obj) → Prop)
    (turn : ∀ i v ys news₁ I oI C oC D m₂ h tk (E' : Value → Shared → Prop), i < n → P i v → J i ys news₁ → S news₁ → NsObj oC m₂ → m₂ x = some v → Fr h₀ L h m → News h₀ L h ((I, oI) :: (C, oC) :: (D, lst ys) :: news₁) → (∀ q ∈ news₁, q.1 ≠ I ∧ q.1 ≠ C ∧ q.1 ≠ D) → ((@Ne Nat I C) ∧ (@Ne Nat I D) ∧ (@Ne Nat C D)) →
      wpAny (model prog w) A (eval elt (compEnvC scope cl C env)) (EltJ h₀ L m I oI C oC D (lst ys) { s with heap := h, toks := tk } S (fun z news' => J (i + 1) (ys ++ [z]) news')) E' { s with heap := h, toks := tk })
    (fin : ∀ ys news', J n ys news' → Fin ys news') :
    ∀ (k i : Nat) (ys : List Value) (news : List (Addr × Obj)), i + k = n → S news → J i ys news → CompRest prog w A h₀ L m env elt x scope cl s S P Fin k i ys news := by
  intro k
  induction k with
  | zero =>
    intro i ys news hk _ hj
    refine CompRest.zero (fin ys news ?_)
    rw [show i = n by omega] at hj
    exact hj
  | succ k ih =>
    intro i ys news hk hS hj
    refine CompRest.succ fun v I oI C oC D m₂ h tk E' hv hC hx F N off ne => ?_
    refine wpAny_mono (turn i v ys news I oI C oC D m₂ h tk E' (by omega) hv hj hS hC hx F N off.mem ne) (fun z s'' h2 => ?_) fun _ _ e => e
    obtain ⟨h', tk', news', rfl, F', N', off', hS', hj'⟩ := h2
    exact ⟨h', tk', news', rfl, F', N', Off3.of off', hS', ih (i + 1) _ _ (by omega) hS' hj'⟩
/-- range(n) as a source -/
noncomputable def RngIs (h₀ : Heap) (L : Addr) (m : Str → Option Value) (news : List (Addr × Obj)) (s : Shared) (n : Nat) (xv : Value) (s₁ : Shared) : Prop := ∃ (r : Addr) (t u v : Tok), xv = .ref r ∧ Quiet h₀ L m news s s₁ ∧ IsRange s₁.heap r 0 (n : Int) 1 t u v
end
end Mine
namespace Mine
section
variable {prog : Program} {w : World} {A : Around} {E : Value → Shared → Prop} {s : Shared} {h₀ : Heap} {L : Addr} {m : Str → Option Value} {env : Env}
/-- y = [elt for x in src], the ledger may grow -/
theorem compGA {elt iter : PySem.Expr} {x y : Str} {px py : Pos} {scope : Scope} {cl : List (Str × Addr)} {pos spos : Pos} {Q : Flow → Shared → Prop} {ax : Addr} {vs : List Value} {news : List (Addr × Obj)} (J : Nat → List Value → List (Addr × Obj) → Prop)
    (hh : A.handled = none) (F₀ : Fr h₀ L s.heap m) (hLe : env.locals = L) (hsz : vs.length ≤ 16777216)
    (hsw : swapsWith (.ListComp elt [⟨.Name x px, iter, [], 0⟩] scope pos) (some (.Name y py)) spos.line env = pure true)
    (hclos : closureFor scope env = pure cl) (hcell : ∀ z ∈ scope.names, z.2 ≠ .cell) (hkind : scope.kind = .function)
    (hnames : ∀ z ∈ scope.names, z.2 = .local → scope.names.lookup z.1 = some .local) (hx : scope.names.lookup x = some .local)
    (hy : env.kindOf y = some .local) (hp : (env.scope.kind == .class || (env.scope.kind == .module && env.locals != env.globals)) = false)
    (hiter : wpAny (model prog w) A (eval iter env) (SrcIs h₀ L m news s ax vs) E s) (hj : J 0 [] news)
    (turn : ∀ i v ys news₁ I oI C oC D m₂ h tk (E' : Value → Shared → Prop), i < vs.length → vs[i]? = some v → J i ys news₁ → SrcAt h₀ ax vs.toArray news₁ → NsObj oC m₂ → m₂ x = some v → Fr h₀ L h m → News h₀ L h ((I, oI) :: (C, oC) :: (D, lst ys) :: news₁) → (∀ q ∈ news₁, q.1 ≠ I ∧ q.1 ≠ C ∧ q.1 ≠ D) → ((@Ne Nat I C) ∧ (@Ne Nat I D) ∧ (@Ne Nat C D)) →
      wpAny (model prog w) A (eval elt (compEnvC scope cl C env)) (EltJ h₀ L m I oI C oC D (lst ys) { s with heap := h, toks := tk } (SrcAt h₀ ax vs.toArray) (fun z news' => J (i + 1) (ys ++ [z]) news')) E' { s with heap := h, toks := tk })
    (fin : ∀ D ys news' h tk, J vs.length ys news' → Fr h₀ L h (fun z => if z = y then some (.ref D) else m z) → News h₀ L h ((D, lst ys) :: news') → (∀ q ∈ news', q.1 ≠ D) → Q .next { s with heap := h, toks := tk })
    (hs : ∀ x, foldedSetIterable iter env x = pure x := by intro _; rfl) :
    wpAny (model prog w) A (exec (.Assign [.Name y py] (.ListComp elt [⟨.Name x px, iter, [], 0⟩] scope pos) spos) env) Q E s := by
  refine Assign_ListComp_U F₀ hLe hsw hclos hcell hkind hnames hx hy hp (wpAny_mono hiter (fun xv s₁ h₁ => ?_) fun _ _ e => e) hs
  obtain ⟨rfl, ⟨h₁, tk₁, rfl, F₁, N₁⟩, hS⟩ := h₁
  refine .inl ⟨ax, vs.toArray, news, rfl, hh, F₁, N₁, hS, by rw [List.size_toArray, sizeLine_eq]; exact hsz, ?_⟩
  rintro s₂ ⟨g, rfl⟩
  rw [List.size_toArray]
  exact restG (s := ⟨g, s.gens, s.drawn, tk₁, s.os⟩) (n := vs.length) (Fin := FinA h₀ L m ⟨g, s.gens, s.drawn, tk₁, s.os⟩ y Q) J
    (fun i v ys news₁ I oI C oC D m₂ h tk E' hi hv => turn i v ys news₁ I oI C oC D m₂ h tk E' hi (by rw [List.getElem?_toArray] at hv; exact hv))
    (fun ys news' hj D h tk F N off => fin D ys news' h tk hj F N (off1_mem off)) vs.length 0 [] news (by omega) hS hj
end
end Mine
end secMComp5
section secMComp6
open PySem PySem.W PyProof.Rows PySem.Calls PySem.Spec PyProof.Rows.LCg PyProof.Rows.LCt
namespace Mine
/-- the element is the item itself -/
noncomputable def EltV (h₀ : Heap) (L : Addr) (m : Str → Option Value) (led : List (Addr × Obj)) (s : Shared) (v : Value) (z : Value) (s' : Shared) : Prop := z = v ∧ Quiet h₀ L m led s s'
section
variable {prog : Program} {w : World} {A : Around} {E : Value → Shared → Prop} {s : Shared} {h₀ : Heap} {L : Addr} {m : Str → Option Value} {env : Env}
theorem restF {ct elt : PySem.Expr} {x : Str} {scope : Scope} {cl : List (Str × Addr)} {S : List (Addr × Obj) → Prop} {P : Nat → Value → Prop} {vs : List Value} {news : List (Addr × Obj)} {Fin : List Value → List (Addr × Obj) → Prop} (p : Value → Bool) (hS : S news) (hP : ∀ i v, i < vs.length → P i v → vs[i]? = some v)
    (turn : ∀ (i : Nat) v I oI C oC D oD m₂ h tk (E' : Value → Shared → Prop), vs[i]? = some v → NsObj oC m₂ → m₂ x = some v → Fr h₀ L h m → News h₀ L h ((I, oI) :: (C, oC) :: (D, oD) :: news) → (∀ q ∈ news, q.1 ≠ I ∧ q.1 ≠ C ∧ q.1 ≠ D) → ((@Ne Nat I C) ∧ (@Ne Nat I D) ∧ (@Ne Nat C D)) →
      wpAny (model prog w) A (isTrue ct (compEnvC scope cl C env) (eval ct (compEnvC scope cl C env))) (TestIs (p v) (fun s' => wpAny (model prog w) A (eval elt (compEnvC scope cl C env)) (EltV h₀ L m ((I, oI) :: (C, oC) :: (D, oD) :: news) { s with heap := h, toks := tk } v) E' s') (Quiet h₀ L m ((I, oI) :: (C, oC) :: (D, oD) :: news) { s with heap := h, toks := tk })) E' { s with heap := h, toks := tk })
    (fin : Fin (vs.filter p) news) :
    ∀ (k i : Nat), i + k = vs.length → CompRestT prog w A h₀ L m env ct elt x scope cl s S P Fin k i ((vs.take i).filter p) news := by
  intro k
  induction k with
  | zero =>
    intro i hk
    refine CompRestT.zero ?_
    rw [show i = vs.length by omega, List.take_length]
    exact fin
  | succ k ih =>
    intro i hk
    refine CompRestT.succ fun v I oI C oC D m₂ h tk E' hv hC hx F N off ne => ?_
    have hv' := hP i v (by omega) hv
    have hs : vs.take (i + 1) = vs.take i ++ [v] := by rw [List.take_add_one, hv']; rfl
    have hi' := ih (i + 1) (by omega)
    refine wpAny_mono (turn i v I oI C oC D _ m₂ h tk E' hv' hC hx F N off.mem ne) (fun ok s' h1 => ?_) fun _ _ e => e
    obtain ⟨hok, h1⟩ := h1
    cases ok with
    | true =>
      simp only [if_true] at h1 ⊢
      refine wpAny_mono h1 (fun z s'' h2 => ?_) fun _ _ e => e
      obtain ⟨rfl, h', tk', rfl, F', N'⟩ := h2
      rw [hs, List.filter_append, List.filter_cons_of_pos (by rw [← hok]), List.filter_nil] at hi'
      exact ⟨h', tk', news, rfl, F', N', off, hS, hi'⟩
    | false =>
      simp only [Bool.false_eq_true, if_false] at h1 ⊢
      obtain ⟨h', tk', rfl, F', N'⟩ := h1
      rw [hs, List.filter_append, List.filter_cons_of_neg (by rw [← hok]; decide), List.filter_nil, List.append_nil] at hi'
      exact ⟨h', tk', news, rfl, F', N', off, hS, hi'⟩
/-- [x for x in src if ct] -/
theorem compF {ct elt iter : PySem.Expr} {x : Str} {px : Pos} {scope : Scope} {cl : List (Str × Addr)} {pos : Pos} {Q : Value → Shared → Prop} {ax : Addr} {vs : List Value} {news : List (Addr × Obj)} (p : Value → Bool)
    (hh : A.handled = none) (F₀ : Fr h₀ L s.heap m) (hsz : vs.length ≤ 16777216)
    (hclos : closureFor scope env = pure cl) (hcell : ∀ z ∈ scope.names, z.2 ≠ .cell) (hkind : scope.kind = .function)
    (hnames : ∀ z ∈ scope.names, z.2 = .local → scope.names.lookup z.1 = some .local) (hx : scope.names.lookup x = some .local)
    (hiter : wpAny (model prog w) A (eval iter env) (SrcIs h₀ L m news s ax vs) E s)
    (turn : ∀ (i : Nat) v I oI C oC D oD m₂ h tk (E' : Value → Shared → Prop), vs[i]? = some v → NsObj oC m₂ → m₂ x = some v → Fr h₀ L h m → News h₀ L h ((I, oI) :: (C, oC) :: (D, oD) :: news) → (∀ q ∈ news, q.1 ≠ I ∧ q.1 ≠ C ∧ q.1 ≠ D) → ((@Ne Nat I C) ∧ (@Ne Nat I D) ∧ (@Ne Nat C D)) →
      wpAny (model prog w) A (isTrue ct (compEnvC scope cl C env) (eval ct (compEnvC scope cl C env))) (TestIs (p v) (fun s' => wpAny (model prog w) A (eval elt (compEnvC scope cl C env)) (EltV h₀ L m ((I, oI) :: (C, oC) :: (D, oD) :: news) { s with heap := h, toks := tk } v) E' s') (Quiet h₀ L m ((I, oI) :: (C, oC) :: (D, oD) :: news) { s with heap := h, toks := tk })) E' { s with heap := h, toks := tk })
    (fin : ∀ D h tk, Fr h₀ L h m → News h₀ L h ((D, lst (vs.filter p)) :: news) → (∀ q ∈ news, q.1 ≠ D) → Q (.ref D) { s with heap := h, toks := tk })
    (hs : ∀ x, foldedSetIterable iter env x = pure x := by intro _; rfl) :
    wpAny (model prog w) A (eval (.ListComp elt [⟨.Name x px, iter, [ct], 0⟩] scope pos) env) Q E s := by
  refine ListComp_T F₀ hclos hcell hkind hnames hx (wpAny_mono hiter (fun xv s₁ h₁ => ?_) fun _ _ e => e) hs
  obtain ⟨rfl, ⟨h₁, tk₁, rfl, F₁, N₁⟩, hS⟩ := h₁
  refine .inl ⟨ax, vs.toArray, news, rfl, hh, F₁, N₁, hS, by rw [List.size_toArray, sizeLine_eq]; exact hsz, ?_⟩
  rintro s₂ ⟨g, rfl⟩
  rw [List.size_toArray]
  exact restF (s := ⟨g, s.gens, s.drawn, tk₁, s.os⟩) (vs := vs) (Fin := FinE h₀ L m ⟨g, s.gens, s.drawn, tk₁, s.os⟩ Q) p hS (fun i v _ hv => by rw [List.getElem?_toArray] at hv; exact hv)
    turn (fun D h tk F N off => fin D h tk F N (off1_mem off)) vs.length 0 (by omega)
end
end Mine
namespace Mine
end Mine
namespace Mine
theorem testIs {b b' : Bool} {Y N : Shared → Prop} {s : Shared} (h : b' = b) (hy : b' = true → Y s) (hn : b' = false → N s) : TestIs b Y N b' s := by
  refine ⟨h, ?_⟩
  cases b' with
  | true => rw [if_pos rfl]; exact hy rfl
  | false => rw [if_neg (by decide)]; exact hn rfl
end Mine
end secMComp6
section secMTool
open PySem PySem.W PyProof.Rows PyProof.Rows.LCg
namespace Mine
noncomputable def recLed (p : Params) (C : Addr) (R : RecD) : List (Addr × Obj) := [(R.u, W.listOf R.us.toArray R.cu), (R.l, W.listOf R.ls.toArray R.cl), (R.r, instObj C R.d), (R.d, recDict p R)]
noncomputable def adr (R : RecD) : List Addr := [R.u, R.l, R.r, R.d]
theorem recLed_at {p : Params} {C : Addr} {h₀ h : Heap} {L : Addr} {R : RecD} {news : List (Addr × Obj)} (N : News h₀ L h news) (hin : ∀ q ∈ recLed p C R, q ∈ news) : RecAt p C h R :=
  ⟨(N _ (hin _ (List.Mem.tail _ (List.Mem.tail _ (List.Mem.head _))))).1, (N _ (hin _ (List.Mem.tail _ (List.Mem.tail _ (List.Mem.tail _ (List.Mem.head _)))))).1, (N _ (hin _ (List.Mem.head _))).1, (N _ (hin _ (List.Mem.tail _ (List.Mem.head _)))).1⟩
theorem news_rec {p : Params} {C L : Addr} {h₀ h₁ h : Heap} {m : Str → Option Value} {R : RecD} (F : Fr h₀ L h₁ m) (x : RecAt p C h R) (n : RecNew h₁ R) : News h₀ L h (recLed p C R) := rec_led F x n
theorem adr_nodup {R : RecD} (h : Apart R) : (adr R).Nodup := by
  obtain ⟨c1, c2, c3, c4, c5, c6⟩ := h
  simp only [adr, List.nodup_cons, List.mem_cons, List.not_mem_nil, not_or, or_false, not_false_eq_true, List.nodup_nil, and_true]
  exact ⟨⟨c6, Ne.symm c2, Ne.symm c4⟩, ⟨Ne.symm c3, Ne.symm c5⟩, c1⟩
theorem rec_fresh {p : Params} {C : Addr} {h : Heap} {R : RecD} (n : RecNew h R) : ∀ q ∈ recLed p C R, h.get? q.1 = none := fun q hq => by
  simp only [recLed, List.mem_cons, List.not_mem_nil, or_false] at hq
  rcases hq with rfl | rfl | rfl | rfl
  · exact n.2.2.1
  · exact n.2.2.2
  · exact n.1
  · exact n.2.1
noncomputable def Fits (n : Nat) : Prop := n ≤ sizeLine
theorem new_ne {h : Heap} {a b : Addr} {o : Obj} (hn : h.get? a = none) (hs : h.get? b = some o) : @Ne Nat a b := fun e => by
  have e' : a = b := e
  rw [e', hs] at hn; cases hn
section
variable {prog : Program} {w : World} {A : Around} {E : Value → Shared → Prop} {s : Shared} {t u : Tok} {value slice : PySem.Expr} {Q : Value → Shared → Prop} {h₀ : Heap} {L a : Addr} {news : List (Addr × Obj)} {vs : List Value} {n : Nat}
theorem itemL {k : Nat} {v : Value} (N : News h₀ L s.heap news) (hm : (a, W.listOf vs.toArray n) ∈ news) (hk : vs[k]? = some v) (h9 : k ≤ 1000) (h : Q v s)
    (hs : subscripted slice false (.ref a) (.int (k : Int) u) = operate [.ref a, .int (k : Int) u] (getItem (.ref a) (.int (k : Int) u)) := by with_unfolding_all rfl) :
    wpAny (model prog w) A (subscriptTail value slice (.ref a) (.int (k : Int) u)) Q E s := by
  refine item_listR (News.isList N hm) (by omega) (by omega) (x := v) ?_ h hs
  rw [Int.toNat_natCast, List.getElem?_toArray]; exact hk
end
theorem mapS {m₀ m₁ : Str → Option Value} {st : List Str} (h : ∀ y, st.contains y = false → m₁ y = m₀ y) : m₁ = fun y => if st.contains y then m₁ y else m₀ y := by
  funext y
  cases hc : st.contains y with
  | true => simp
  | false => simp [h y hc]
theorem off_str {z : Str} {l : List Str} (h : l.contains z = false) {a : Str} (ha : a ∈ l) : z ≠ a := by
  intro e; subst e; rw [List.contains_iff_mem.mpr ha] at h; cases h
theorem InvEndG.mono {g : Heap} {L : Addr} {J J' : (Str → Option Value) → List (Addr × Obj) → Prop} {own : List (Addr × Obj)} {s s' : Shared} (h : InvEndG g L J own s s') (hi : ∀ m nx, J m nx → J' m nx) : InvEndG g L J' own s s' := by
  obtain ⟨h', tk, m', news', nx, e, F', N', hn, ho, ha, hm⟩ := h
  exact ⟨h', tk, m', news', nx, e, F', N', hn, ho, ha, hi _ _ hm⟩
structure ModIs (a b r : Int) : Prop where
  e : Int.fmod a b = r
section
variable {prog : Program} {w : World} {A : Around} {E : Value → Shared → Prop} {s : Shared} {t u : Tok} {Q : Value → Shared → Prop}
theorem modE {a b r : Int} (h : ModIs a b r) (hb : b ≠ 0) (hq : ∀ t' tk, Q (.int r t') { s with toks := tk }) : wpAny (model prog w) A (binaryOp .Mod (.int a t) (.int b u)) Q E s := by
  refine mod_int hb ?_
  rw [h.e]; exact hq _ _
end
theorem ints_at : ∀ {vs : List Value} {ns : List Int}, IntsAre vs ns → ∀ {i : Nat} {v : Value}, vs[i]? = some v → ∃ z t, v = .int z t
  | _, _, .nil, i, v, h => by simp at h
  | _, _, .cons n t r, 0, v, h => ⟨n, t, by simpa using h.symm⟩
  | _, _, .cons n t r, i + 1, v, h => ints_at r (i := i) (by simpa using h)
theorem fmod_nat (z : Int) (m : Nat) (hm : 0 < m) : ∃ k : Nat, Int.fmod z (m : Int) = (k : Int) ∧ k < m := by
  have a := Int.fmod_nonneg_of_pos z (b := (m : Int)) (by omega)
  have b := Int.fmod_lt_of_pos z (b := (m : Int)) (by omega)
  exact ⟨(Int.fmod z m).toNat, by omega, by omega⟩
noncomputable abbrev Led := List (Addr × Obj)
structure Off (f r k : Led) : Prop where
  nd : (f.map (·.1)).Nodup
  a : OwnOff r (f.map (·.1))
  b : OwnOff k (f.map (·.1))
  c : OwnOff k (r.map (·.1))
theorem srcAt_mono {g : Heap} {ax : Addr} {its : Array Value} {a b : Led} (h : SrcAt g ax its a) (hs : ∀ q ∈ a, q ∈ b) : SrcAt g ax its b := h.imp id fun ⟨o, h1, h2⟩ => ⟨o, hs _ h1, h2⟩
section
variable {prog : Program} {w : World} {A : Around} {E : Value → Shared → Prop} {s : Shared} {t u : Tok} {value slice : PySem.Expr} {Q : Value → Shared → Prop} {h₀ : Heap} {L a : Addr} {news : List (Addr × Obj)} {vs : List Value} {n : Nat}
theorem itemZ {k : Int} {i : Nat} {v : Value} (hz : k = (i : Int)) (N : News h₀ L s.heap news) (hm : (a, W.listOf vs.toArray n) ∈ news) (hk : vs[i]? = some v) (h9 : i ≤ 1000) (h : Q v s)
    (hs : subscripted slice false (.ref a) (.int k u) = operate [.ref a, .int k u] (getItem (.ref a) (.int k u)) := by with_unfolding_all rfl) :
    wpAny (model prog w) A (subscriptTail value slice (.ref a) (.int k u)) Q E s := by
  subst hz
  exact itemL N hm hk h9 h hs
end
theorem off_subl {l l' : List Str} {z : Str} (h : l.contains z = false) (hs : ∀ a ∈ l', a ∈ l) : l'.contains z = false := by
  cases hc : l'.contains z with
  | false => rfl
  | true => rw [List.contains_iff_mem.mpr (hs _ (List.contains_iff_mem.mp hc))] at h; cases h
noncomputable def JQ (X : Led) (st : List Str) (m₀ : Str → Option Value) (_i : Nat) (m : Str → Option Value) (nx : Led) : Prop := nx = X ∧ ∀ y, st.contains y = false → m y = m₀ y
theorem JQ.finish {g h' : Heap} {L : Addr} {m' m₀ : Str → Option Value} {X own news' : Led} {st : List Str} {s₁ : Shared} {tk i : Nat} (ho : OwnOff own (X.map (·.1))) (F : Fr g L h' m') (N : News g L h' news') (hin : ∀ q ∈ X ++ own, q ∈ news') (hm : ∀ y, st.contains y = false → m' y = m₀ y) :
    InvEndG g L (JQ X st m₀ i) own s₁ { s₁ with heap := h', toks := tk } :=
  InvEndG.intro (nx := X) F N ⟨rfl, hm⟩ ho (fun q hq => hin q (List.mem_append.mpr (.inl hq))) (fun q hq => hin q (List.mem_append.mpr (.inr hq)))
end Mine
end secMTool
section secMShadow
namespace Mine
section
variable {prog : Program} {w : World} {A : Around} {E : Value → Shared → Prop} {s : Shared} {K : Frag} {x C L : Addr} {h₀ : Heap} {m : Str → Option Value} {ox od : Obj} {es : List DictEntry} {n : Nat} {name : Str} {v : Value}
theorem findObj_shadow {a g : Value} (hh : hasDictIn K C = true) (ha : findIn K (.ref C) name = some (some a)) (hg : specialIn K a "__get__" = some (some g)) (ht : takesIn K a = some false) (hl : lookIn name od = some (some v)) :
    findObj K C (some od) name = some (.value v) := by
  obtain ⟨cd, hc, hd⟩ := any_some hh
  unfold findObj
  have ho : W.ownOf cd (some od) name = some (some v) := by unfold W.ownOf; rw [if_pos hd]; exact hl
  rw [hc, Option.bind_some, ha, Option.bind_some]
  simp [hg, ht, ho]
/-- an attribute of the object's own that a method of the class bears too -/
theorem get_shadow {expr : Bool} {Q : Value → Shared → Prop} {a g : Value} (F : Fr h₀ L s.heap m) (X₀ : K.In h₀) (I : InstAt s.heap x ox C (some (dictOf es n))) (hp : plainGet K C name = true) (hh : hasDictIn K C = true)
    (ha : findIn K (.ref C) name = some (some a)) (hg : specialIn K a "__get__" = some (some g)) (ht : takesIn K a = some false) (hl : getL name es = some (some v)) (hv : handedIn v = true) (h : Q v { s with toks := s.toks + 1 }) :
    wpAny (model prog w) A (getAttr (.ref x) name expr) Q E s :=
  get_value (X₀.keeps F.keep) I (plainGet_of hp).1 (findObj_shadow hh ha hg ht hl) hv h
theorem method_shadowU {pl : Sem Bool} {Q : Value × List Value → Shared → Prop} {f : Addr} {od : Option Obj} (X : K.In s.heap) (I : InstAt s.heap x ox C od) (hga : findIn K (.ref C) "__getattribute__" = some (some (.builtin "object.__getattribute__"))) (hk : findIn K (.ref C) "__getattr__" = some none)
    (hf : findIn K (.ref C) name = some (some (.ref f))) (ht : typeIn K (.ref f) = some (.type "function")) (hs : shadowIn od name = some true) (h : wpAny (model prog w) A (getAttr (.ref x) name) (fun v => Q (v, [])) E s) :
    wpAny (model prog w) A (getMethod (.ref x) name pl) Q E s := by
  have hcan := PySem.F.canon_object_ga
  have u : wpAny (model prog w) A (do return (← getAttr (.ref x) name, ([] : List Value))) Q E s := wpAny_bind (wpAny_mono h (fun _ _ z => wpAny_pure z) fun _ _ z => z)
  unfold getMethod specialOf
  refine wpAny_bind (wpAny_bind (I.type.here ((looks_findIn X hga).here ?_)))
  dsimp only
  rw [hcan, if_neg (by decide)]
  refine wpAny_bind (wpAny_bind (I.type.here ((looks_findIn X hk).here ?_)))
  refine wpAny_bind (wpAny_bind (I.type.here ((looks_findIn X hf).here (wpAny_bind ((looks_typeIn X ht).here ?_)))))
  rw [if_neg (by decide +kernel)]
  refine wpAny_bind (wpAny_loadPart I.at_ ?_)
  have hd := I.dict
  cases e : ox.dict with
  | none =>
    cases od with
    | none => cases hs
    | some o => rw [e] at hd; exact hd.elim
  | some dx =>
    cases od with
    | none => cases hs
    | some o =>
      rw [e] at hd
      obtain ⟨r, a, b⟩ := Option.map_eq_some_iff.mp hs
      refine wpAny_bind (wpAny_bind (wpAny_loadPart hd ?_))
      rw [nsLook_of a]
      refine wpAny_pure ?_
      rw [b]
      exact u
theorem method_shadow {pl : Sem Bool} {Q : Value × List Value → Shared → Prop} {f : Addr} {g : Value} (F : Fr h₀ L s.heap m) (X₀ : K.In h₀) (I : InstAt s.heap x ox C (some (dictOf es n))) (hp : plainGet K C name = true) (hh : hasDictIn K C = true)
    (hf : findIn K (.ref C) name = some (some (.ref f))) (hn : isFn K (.ref f) = true) (hg : specialIn K (.ref f) "__get__" = some (some g)) (ht : takesIn K (.ref f) = some false) (hl : getL name es = some (some v)) (hv : handedIn v = true) (h : Q (v, []) { s with toks := s.toks + 1 }) :
    wpAny (model prog w) A (getMethod (.ref x) name pl) Q E s :=
  method_shadowU (X₀.keeps F.keep) I (plainGet_of hp).1 (plainGet_of hp).2 hf (beq_iff_eq.mp hn) (by show (lookIn name (dictOf es n)).map _ = _; rw [lookIn_dict, hl]; rfl) (get_shadow F X₀ I hp hh hf hg ht hl hv h)
end
end Mine
end secMShadow
section secMNe
namespace Mine
end Mine
end secMNe
section secMComp7
open PySem PySem.W PyProof.Rows PySem.Calls PySem.Spec PyProof.Rows.LCg PyProof.Rows.LCt
namespace Mine
end Mine
end secMComp7
section secMTurn3
open PySem PySem.W PyProof.Rows PySem.Calls PySem.Spec PyProof.V
namespace Mine
section
variable {prog : Program} {w : World} {A : Around} {E : Value → Shared → Prop} {s : Shared} {env : Env} {h₀ : Heap} {body : List Stmt} {Q : Flow → Shared → Prop} {x : Str} {px : Pos}
theorem txt_of_inv {h₀ : Heap} {L : Addr} {own : List (Addr × Obj)} {J : (Str → Option Value) → List (Addr × Obj) → Prop} {s₁ s₂ : Shared} {f : Flow} (h : InvPostG h₀ L J own s₁ Q f s₂) : TxtPost h₀ L own J s₁ Q f s₂ := by
  cases f <;> exact h
/-- a for over range(n), whatever its target's kind -/
theorem range_turns {r : Addr} {t₀ u₀ v₀ : Tok} {n : Nat} {m₀ : Str → Option Value} {news : List (Addr × Obj)} (J : Nat → (Str → Option Value) → List (Addr × Obj) → Prop)
    (hh : A.handled = none) (hr : IsRange s.heap r 0 (n : Int) 1 t₀ u₀ v₀) (hn : n ≤ 100000) (F : Fr h₀ env.locals s.heap m₀) (N : News h₀ env.locals s.heap news) (hj : J 0 m₀ news)
    (turn : ∀ (i : Nat) t m₁ news₁ h tk own, i < n → OwnOff own (news₁.map (·.1)) → J i m₁ news₁ → Fr h₀ env.locals h m₁ → News h₀ env.locals h (news₁ ++ own) →
      wpAny (model prog w) A (assign (.Name x px) env (.int (i : Int) t)) (fun _ s₃ => wpAny (model prog w) A (execs body env) (InvPostG h₀ env.locals (J (i + 1)) own { s with heap := h, toks := tk } Q) E s₃) E { s with heap := h, toks := tk })
    (done : ∀ m₁ news₁ h tk, J n m₁ news₁ → Fr h₀ env.locals h m₁ → News h₀ env.locals h news₁ → Q .next { s with heap := h, toks := tk }) :
    wpAny (model prog w) A (pyIter (.ref r)) (fun it s₂ => TurnsAt prog w A h₀ env (.Name x px) body Q E it s₂) E s := by
  have hsz : Builtin.Range.rangeSize 0 (n : Int) 1 = (n : Int) := by rw [rangeSize_nat]; omega
  refine wpAny_pyIter_range hr (small_one (by omega) (by omega) (by omega) (by omega)) ?_
  have up : ∀ (o : Obj) b o', s.heap.get? b = some o' → (s.heap.push o).get? b = some o' := fun o b o' e => Heap.get?_push_of_some _ e
  have Wk : Walks prog w A s.heap.objs.size [s.heap.objs.size] [s.heap.objs.size] n (fun i v => i < n ∧ ∃ t, v = .int (0 + i * 1) t)
      (fun i h => IsRangeIter h s.heap.objs.size (0 + (i : Nat) * 1) ((n : Int) - (i : Nat)) 1) := (Walks.range hh _ 0 1 n).bound
  refine text_core J Wk (fun i h st => ⟨_, st⟩) (by show IsRangeIter _ _ _ _ _; rw [hsz]; simpa using Heap.get?_push_size _ rfl) (next_is_new F) (Nat.ne_of_lt F.ns.lt) (F.keeps (up _)) (N.grown (up _)) (fun p hp => Nat.ne_of_lt (Heap.lt_size (N p hp).1)) hj ?_ (fun m₁ news₁ h tk hJ F₁ N₁ => done m₁ news₁ h tk hJ F₁ N₁)
  rintro i v m₁ news₁ h tk own hi ⟨_, t, rfl⟩ hoff hJ F₁ N₁
  have e : (0 : Int) + (i : Int) * 1 = (i : Int) := by omega
  rw [e]
  exact wpAny_mono (turn i t m₁ news₁ h tk own hi hoff hJ F₁ N₁) (fun _ _ h2 => wpAny_mono h2 (fun f _ p => txt_of_inv p) fun _ _ e => e) fun _ _ e => e
/-- a for over a list of the ledger's that stays, whatever its target -/
theorem listL_turns {target : PySem.Expr} {l : Addr} {vs : List Value} {nn : Nat} {m₀ : Str → Option Value} {news : List (Addr × Obj)} (J : Nat → (Str → Option Value) → List (Addr × Obj) → Prop)
    (hgo : ∀ i (I : Addr) v (s : Shared) (Q : Unit → Shared → Prop) (E : Value → Shared → Prop), s.heap.IsListIter I l i → Q () s → wpAny (model prog w) A (letOwnedTupleGo target (.ref I) v) Q E s)
    (hh : A.handled = none) (hl : (l, W.listOf vs.toArray nn) ∈ news) (F : Fr h₀ env.locals s.heap m₀) (N : News h₀ env.locals s.heap news) (hj : J 0 m₀ news)
    (turn : ∀ i v m₁ news₁ h tk own, vs[i]? = some v → OwnOff own (news₁.map (·.1)) → (l, W.listOf vs.toArray nn) ∈ news₁ → J i m₁ news₁ → Fr h₀ env.locals h m₁ → News h₀ env.locals h (news₁ ++ own) →
      wpAny (model prog w) A (assign target env v) (fun _ s₃ => wpAny (model prog w) A (execs body env) (InvPostG h₀ env.locals (fun m' nx => (l, W.listOf vs.toArray nn) ∈ nx ∧ J (i + 1) m' nx) own { s with heap := h, toks := tk } Q) E s₃) E { s with heap := h, toks := tk })
    (done : ∀ m₁ news₁ h tk, (l, W.listOf vs.toArray nn) ∈ news₁ → J vs.length m₁ news₁ → Fr h₀ env.locals h m₁ → News h₀ env.locals h news₁ → Q .next { s with heap := h, toks := tk }) :
    wpAny (model prog w) A (pyIter (.ref l)) (fun it s₂ => TurnsAt prog w A h₀ env target body Q E it s₂) E s := by
  have hol : s.heap.get? l = some (W.listOf vs.toArray nn) := (N _ hl).1
  have hls : s.heap.IsList l vs.toArray := ⟨_, hol, rfl, nn, rfl⟩
  have hne : l ≠ s.heap.objs.size := Nat.ne_of_lt (Heap.lt_size hol)
  refine wpAny_pyIter_list hls ?_
  have Wk := Walks.list (prog := prog) (w := w) hh s.heap.objs.size l hne vs.toArray
  have hlen : vs.toArray.size = vs.length := by simp
  rw [hlen] at Wk
  have hI0 : h₀.get? s.heap.objs.size = none := next_is_new F
  refine ⟨s.heap.objs.size, [s.heap.objs.size, l], [s.heap.objs.size], vs.length, fun i v _ => vs.toArray[i]? = some v, _, _, m₀, news, (fun i m nx => (l, W.listOf vs.toArray nn) ∈ nx ∧ J i m nx), rfl, KTurns.ofWalks Wk (fun i v s' Q E st q => hgo _ _ v s' Q E st.1 q), ?_, by simpa using hI0, fun p hp => by simpa using Nat.ne_of_lt (Heap.lt_size (N p hp).1), ⟨⟨_, Heap.get?_push_size _ rfl, rfl, rfl⟩, hls.at fun o e => Heap.get?_push_of_some _ e⟩, F.push _, (fun p hp => ⟨Heap.get?_push_of_some _ (N p hp).1, (N p hp).2⟩), ⟨hl, hj⟩, ?_, ?_⟩
  · intro hm
    rcases List.mem_cons.mp hm with e | hm
    · exact absurd F.ns.lt (e ▸ Nat.lt_irrefl _)
    · exact (N _ hl).2.1 ((List.mem_singleton.mp hm).symm)
  · rintro i v m₁ news₁ h₁ tk₁ own hin hP ⟨hl₁, hJ⟩ hnw hown hval hall hst₁ F₁ N₁
    obtain ⟨⟨oI, hoI, _⟩, _⟩ := id hst₁
    have hIown : (s.heap.objs.size, oI) ∈ own := hall _ (List.Mem.head _) hI0 _ hoI
    have hlo : h₁.get? l = some (W.listOf vs.toArray nn) := (N₁ _ (List.mem_append.mpr (.inr hl₁))).1
    have hsep : OwnOff (own.filter fun p => decide (p.1 = s.heap.objs.size)) (news₁.map (·.1)) := by
      intro p hp b hb e
      obtain ⟨q, hq, rfl⟩ := List.mem_map.mp hb
      have h1 : p.1 = s.heap.objs.size := by simpa using (List.mem_filter.mp hp).2
      exact hnw q hq (by rw [← e, h1]; exact List.Mem.head _)
    have N₂ : News h₀ env.locals h₁ (news₁ ++ own.filter fun p => decide (p.1 = s.heap.objs.size)) := fun p hp => N₁ p ((List.mem_append.mp hp).elim (fun h => List.mem_append.mpr (.inr h)) fun h => List.mem_append.mpr (.inl ((List.mem_filter.mp h).1)))
    refine wpAny_mono (turn i v m₁ news₁ h₁ tk₁ _ (by rw [List.getElem?_toArray] at hP; exact hP) hsep hl₁ hJ F₁ N₂) (fun _ s₂ h₂ => wpAny_mono h₂ (fun f s₃ p => ?_) fun _ _ e => e) fun _ _ e => e
    have fin : InvEndG h₀ env.locals (fun m' nx => (l, W.listOf vs.toArray nn) ∈ nx ∧ J (i + 1) m' nx) (own.filter fun p => decide (p.1 = s.heap.objs.size)) { s with heap := h₁, toks := tk₁ } s₃ →
        LoopStepU h₀ env.locals [s.heap.objs.size] own (fun m nx => (l, W.listOf vs.toArray nn) ∈ nx ∧ J (i + 1) m nx) { s with heap := h₁, toks := tk₁ } .next s₃ := by
      rintro ⟨h', tk, m', news', nx, e, F', N', hn, ho, ha, hm⟩
      refine ⟨rfl, h', tk, m', nx, e, F', fun p hp => ?_, fun p hp hq => ?_, hm⟩
      · rcases List.mem_append.mp hp with h | h
        · by_cases hI : p.1 = s.heap.objs.size
          · exact N' p (ho p (List.mem_filter.mpr ⟨h, by simpa using hI⟩))
          · have h1 : p.1 = l := by
              rcases List.mem_cons.mp (hown p h) with h2 | h2
              · exact absurd h2 hI
              · exact List.mem_singleton.mp h2
            have h2 : h₁.get? p.1 = some p.2 := hval p h
            rw [h1, hlo] at h2
            have h3 : p = (l, W.listOf vs.toArray nn) := Prod.ext h1 (Option.some.inj h2).symm
            rw [h3]
            exact N' _ (hn _ hm.1)
        · exact N' p (hn p h)
      · exact ha _ (List.mem_filter.mpr ⟨hIown, by simp⟩) p.1 (List.mem_map.mpr ⟨p, hp, rfl⟩) (List.mem_singleton.mp hq).symm
    cases f with
    | ret v => exact .ret p
    | brk => exact .brk p
    | next => exact .next (fin p)
    | cont => exact .cont (fin p)
  · rintro h' tk m' news' F' N' _ ⟨hl', hJ⟩
    exact done m' news' h' tk hl' hJ F' N'
/-- a tuple target over a list's iterator -/
theorem go_tuple {elts : List PySem.Expr} {k : Nat} {pos : Pos} {l : Addr} (i : Nat) (I : Addr) (v : Value) (s : Shared) (Q : Unit → Shared → Prop) (E : Value → Shared → Prop) (hit : s.heap.IsListIter I l i) (hQ : Q () s) : wpAny (model prog w) A (letOwnedTupleGo (.Tuple elts k pos) (.ref I) v) Q E s := by
  cases v with
  | ref T => exact wpAny_letOwnedTupleGo_listiter hit hQ
  | _ => exact wpAny_of_eq (show letOwnedTupleGo (.Tuple elts k pos) (.ref I) _ = pure () from rfl) hQ
end
end Mine
end secMTurn3
section secMComp8
open PySem PySem.W PyProof.Rows PySem.Calls PySem.Spec PyProof.Rows.LCg PyProof.Rows.LCt
namespace Mine
section
variable {prog : Program} {w : World} {A : Around} {E : Value → Shared → Prop} {s : Shared} {h₀ : Heap} {L : Addr} {m : Str → Option Value} {env : Env}
theorem restRI {ct elt : PySem.Expr} {x : Str} {scope : Scope} {cl : List (Str × Addr)} {n : Nat} {news : List (Addr × Obj)} {Fin : List Value → List (Addr × Obj) → Prop} (p : Nat → Bool)
    (turn : ∀ (c : Nat) t I oI C oC D oD m₂ h tk (E' : Value → Shared → Prop), c < n → NsObj oC m₂ → m₂ x = some (.int (c : Int) t) → Fr h₀ L h m → News h₀ L h ((I, oI) :: (C, oC) :: (D, oD) :: news) → (∀ q ∈ news, q.1 ≠ I ∧ q.1 ≠ C ∧ q.1 ≠ D) → ((@Ne Nat I C) ∧ (@Ne Nat I D) ∧ (@Ne Nat C D)) →
      wpAny (model prog w) A (isTrue ct (compEnvC scope cl C env) (eval ct (compEnvC scope cl C env))) (TestIs (p c) (fun s' => wpAny (model prog w) A (eval elt (compEnvC scope cl C env)) (EltIs h₀ L m ((I, oI) :: (C, oC) :: (D, oD) :: news) { s with heap := h, toks := tk } (c : Int)) E' s') (Quiet h₀ L m ((I, oI) :: (C, oC) :: (D, oD) :: news) { s with heap := h, toks := tk })) E' { s with heap := h, toks := tk })
    (fin : ∀ ys, IntsAre ys (((List.range n).filter p).map Int.ofNat) → Fin ys news) :
    ∀ (k i : Nat) (ys : List Value), i + k = n → IntsAre ys (((List.range i).filter p).map Int.ofNat) → CompRestT prog w A h₀ L m env ct elt x scope cl s (fun _ => True) (fun i v => ∃ t, v = .int (0 + (i : Int)) t) Fin k i ys news := by
  intro k
  induction k with
  | zero =>
    intro i ys hk hy
    refine CompRestT.zero (fin ys ?_)
    rw [show i = n by omega] at hy
    exact hy
  | succ k ih =>
    intro i ys hk hy
    refine CompRestT.succ fun v I oI C oC D m₂ h tk E' hv hC hx F N off ne => ?_
    obtain ⟨t, rfl⟩ := hv
    rw [Int.zero_add] at hx
    refine wpAny_mono (turn i t I oI C oC D (lst ys) m₂ h tk E' (by omega) hC hx F N off.mem ne) (fun ok s' h1 => ?_) fun _ _ e => e
    obtain ⟨hok, h1⟩ := h1
    cases ok with
    | true =>
      simp only [if_true] at h1 ⊢
      refine wpAny_mono h1 (fun z s'' h2 => ?_) fun _ _ e => e
      obtain ⟨⟨t', rfl⟩, h', tk', rfl, F', N'⟩ := h2
      refine ⟨h', tk', news, rfl, F', N', off, trivial, ih (i + 1) _ (by omega) ?_⟩
      rw [List.range_succ, List.filter_append, List.filter_cons_of_pos (by rw [← hok]), List.filter_nil, List.map_append]
      exact IntsAre.append' hy (.cons _ _ .nil)
    | false =>
      simp only [Bool.false_eq_true, if_false] at h1 ⊢
      obtain ⟨h', tk', rfl, F', N'⟩ := h1
      refine ⟨h', tk', news, rfl, F', N', off, trivial, ih (i + 1) _ (by omega) ?_⟩
      rw [List.range_succ, List.filter_append, List.filter_cons_of_neg (by rw [← hok]; decide), List.filter_nil, List.append_nil]
      exact hy
/-- y = [x for x in range(n) if ct] -/
theorem compRI {ct elt iter : PySem.Expr} {x y : Str} {px py : Pos} {scope : Scope} {cl : List (Str × Addr)} {pos spos : Pos} {Q : Flow → Shared → Prop} {n : Nat} {news : List (Addr × Obj)} (p : Nat → Bool)
    (hh : A.handled = none) (F₀ : Fr h₀ L s.heap m) (hLe : env.locals = L) (hsz : n ≤ 1000)
    (hsw : swapsWith (.ListComp elt [⟨.Name x px, iter, [ct], 0⟩] scope pos) (some (.Name y py)) spos.line env = pure true)
    (hclos : closureFor scope env = pure cl) (hcell : ∀ z ∈ scope.names, z.2 ≠ .cell) (hkind : scope.kind = .function)
    (hnames : ∀ z ∈ scope.names, z.2 = .local → scope.names.lookup z.1 = some .local) (hx : scope.names.lookup x = some .local)
    (hy : env.kindOf y = some .local) (hp : (env.scope.kind == .class || (env.scope.kind == .module && env.locals != env.globals)) = false)
    (hiter : wpAny (model prog w) A (eval iter env) (RngIs h₀ L m news s n) E s)
    (turn : ∀ (c : Nat) t I oI C oC D oD m₂ h tk (E' : Value → Shared → Prop), c < n → NsObj oC m₂ → m₂ x = some (.int (c : Int) t) → Fr h₀ L h m → News h₀ L h ((I, oI) :: (C, oC) :: (D, oD) :: news) → (∀ q ∈ news, q.1 ≠ I ∧ q.1 ≠ C ∧ q.1 ≠ D) → ((@Ne Nat I C) ∧ (@Ne Nat I D) ∧ (@Ne Nat C D)) →
      wpAny (model prog w) A (isTrue ct (compEnvC scope cl C env) (eval ct (compEnvC scope cl C env))) (TestIs (p c) (fun s' => wpAny (model prog w) A (eval elt (compEnvC scope cl C env)) (EltIs h₀ L m ((I, oI) :: (C, oC) :: (D, oD) :: news) { s with heap := h, toks := tk } (c : Int)) E' s') (Quiet h₀ L m ((I, oI) :: (C, oC) :: (D, oD) :: news) { s with heap := h, toks := tk })) E' { s with heap := h, toks := tk })
    (fin : ∀ D ys h tk, IntsAre ys (((List.range n).filter p).map Int.ofNat) → Fr h₀ L h (fun z => if z = y then some (.ref D) else m z) → News h₀ L h ((D, lst ys) :: news) → (∀ q ∈ news, q.1 ≠ D) → Q .next { s with heap := h, toks := tk })
    (hs : ∀ x, foldedSetIterable iter env x = pure x := by intro _; rfl) :
    wpAny (model prog w) A (exec (.Assign [.Name y py] (.ListComp elt [⟨.Name x px, iter, [ct], 0⟩] scope pos) spos) env) Q E s := by
  refine Assign_ListComp_T F₀ hLe hsw hclos hcell hkind hnames hx hy hp (wpAny_mono hiter (fun xv s₁ h₁ => ?_) fun _ _ e => e) hs
  obtain ⟨r, t, u, v, rfl, ⟨h₁, tk₁, rfl, F₁, N₁⟩, hR⟩ := h₁
  refine .inr ⟨r, 0, (n : Int), t, u, v, n, news, rfl, hh, F₁, N₁, hR, small_one (by omega) (by omega) (by omega) (by omega), by rw [rangeSize_nat]; congr 1, by rw [sizeLine_eq]; omega, ?_⟩
  rintro s₂ ⟨g, rfl⟩
  exact restRI (s := ⟨g, s.gens, s.drawn, tk₁, s.os⟩) (n := n) (Fin := FinA h₀ L m ⟨g, s.gens, s.drawn, tk₁, s.os⟩ y Q) p
    turn (fun ys hys D h tk F N off => fin D ys h tk hys F N (off1_mem off)) n 0 [] (by omega) .nil
end
end Mine
namespace Mine
theorem datsI_of {news : List (Addr × Obj)} : ∀ {vs : List Value} {ns : List Int}, IntsAre vs ns → DatAll news vs (ns.map Dat.int)
  | _, _, .nil => .nil
  | _, _, .cons x t r => .cons (.int x t) (datsI_of r)
theorem ne_nilI {prog : Program} {w : World} {A : Around} {E : Value → Shared → Prop} {s : Shared} {Q : Value → Shared → Prop} {h₀ : Heap} {L a b : Addr} {news : List (Addr × Obj)} {vs : List Value} {ns : List Int} {n m : Nat} (N : News h₀ L s.heap news) (ma : (a, W.listOf vs.toArray n) ∈ news) (mb : (b, W.listOf (([] : List Value)).toArray m) ∈ news)
    (hs : IntsAre vs ns) (hk : ∀ x ∈ ns, kqdOk 8 (Dat.int x) = true) (hu : A.units + 64 < cLine) (h : Q (.bool (!ns.isEmpty)) s) : wpAny (model prog w) A (compareOp .NotEq (.ref a) (.ref b)) Q E s := by
  refine kqd_ne (ds := ns.map Dat.int) (es := []) N ma rfl rfl (datsI_of hs) (fun _ hp => hp) mb rfl rfl .nil (fun _ hp => hp) ?_ (fun _ hd => nomatch hd) hu ?_
  · intro d hd
    obtain ⟨x, hx, rfl⟩ := List.mem_map.mp hd
    exact hk x hx
  · cases ns with
    | nil => rw [show (!decide (List.map Dat.int [] = [])) = false from by simp]; exact h
    | cons x r => rw [show (!decide (List.map Dat.int (x :: r) = [])) = true from by simp]; exact h
/-- an int of a list that passes a test -/
noncomputable def onI (p : Int → Bool) : Value → Bool
  | .int n _ => p n
  | _ => false
theorem ints_filter {p : Int → Bool} : ∀ {vs : List Value} {ns : List Int}, IntsAre vs ns → IntsAre (vs.filter (onI p)) (ns.filter p)
  | _, _, .nil => .nil
  | _, _, .cons n t r => by
    cases hp : p n with
    | true =>
      rw [List.filter_cons_of_pos (show onI p (Value.int n t) = true from hp), List.filter_cons_of_pos hp]
      exact .cons _ _ (ints_filter r)
    | false =>
      rw [List.filter_cons_of_neg (show ¬ onI p (Value.int n t) = true from by rw [show onI p (Value.int n t) = p n from rfl, hp]; decide), List.filter_cons_of_neg (by rw [hp]; decide)]
      exact ints_filter r
end Mine
end secMComp8
namespace Mine
open_top hd11 for PySem.Challenge.rw_dn0256_11
end Mine
section secA11n
namespace Mine
local macro_rules | `(tactic| walk_at "go") => `(tactic| repeat' (first | (k_unfold; (try dsimp only)) | walk1 | (dsimp only; walk1)))
/-- Entry() -/
theorem ct_new {w : World} {A : Around} {s : Shared} {Q E : Value → Shared → Prop} {mean : ExcName → Option Value} {mg mb : Str → Option Value}
   (X : (hd11.heap_39 w.params).In s.heap) (T : Top topProg (looseW hd11.view_39 [] ++ (recsOf hd11.view_39).map (·.name) ++ (litsOf hd11.view_39).map (·.1) ++ (clssOf hd11.view_39 (looseW hd11.view_39 [])).map (·.name)) mean mg mb s.heap) (hd : A.depth + 3 < recursionLimit) (hh : A.handled = none)
   (hQ : ∀ h' tk R, Ext s.heap h' → RecAt w.params 52 h' R → R.us = [] → R.ls = [] → R.dv = .none → R.rv = .none → RecNew s.heap R → Apart R →
     Q (.ref R.r) {s with heap := h', toks := tk}) :
   wpAny (model Challenge.rw_dn0256_11.row.prog w) A (call (.ref 52) []) Q E s := by
  revert X
  k_fill
  intro X
  obtain ⟨hp, g, dr, tk, os⟩ := s
  refine wpAny_call ?_
  refine make_core (makes_of X (by k_is)) (looks_findIn X (by k_is)) (fun self => bind_fn X self (by k_is)) (.inl rfl) ?_
  have hz : (hp.push emptyDict).objs.size = hp.objs.size + 1 := Heap.size_push ..
  have e0 : Ext hp ((hp.push emptyDict).push (instObj 52 hp.objs.size)) := fun b o e => Heap.get?_push_of_some _ (Heap.get?_push_of_some _ e)
  have X2 := X.keeps e0
  refine' call_defK (f := 28) X2 ?k6 ?k7 (T.keeps e0).nolimit (by (simp only [depth_under_make]; omega)) ?k9 ?kB ?_ ?c2 ?c3 ?c4 ?c5
  case k6 => k_is
  case k7 => k_is
  case k9 => exact BindsTo.of_eq rfl
  case kB => exact locs rfl
  case c2 => exact rfl
  case c3 => exact rfl
  case c4 => exact rfl
  case c5 => decide
  intro h₁ tk1 F0
  replace F0 : Fr ((hp.push emptyDict).push (instObj 52 hp.objs.size)) ((hp.push emptyDict).push (instObj 52 hp.objs.size)).objs.size h₁ (fun y => [(Str.ofString "self", Value.ref (hp.objs.size + 1))].reverse.lookup y) := F0
  have hz2 : ((hp.push emptyDict).push (instObj 52 hp.objs.size)).objs.size = hp.objs.size + 2 := by rw [Heap.size_push, hz]
  have F : Fr hp _ h₁ _ := Fr.lower F0 e0 (by rw [hz2]; exact Nat.le_add_right _ _)
  have e1 : ((hp.push emptyDict).push (instObj 52 hp.objs.size)).get? hp.objs.size = some (dictOf [] 0) := Heap.get?_push_of_some _ (Heap.get?_push_size _ rfl)
  have e2 : ((hp.push emptyDict).push (instObj 52 hp.objs.size)).get? (hp.objs.size + 1) = some (instObj 52 hp.objs.size) := by rw [← hz]; exact Heap.get?_push_size _ rfl
  have fresh : ∀ a, hp.objs.size ≤ a → hp.get? a = none := fun a ha => by
    cases e : hp.get? a with
    | none => rfl
    | some o' => exact absurd (Heap.lt_size e) (Nat.not_lt.mpr ha)
  have N : News hp ((hp.push emptyDict).push (instObj 52 hp.objs.size)).objs.size h₁ [(hp.objs.size + 1, instObj 52 hp.objs.size), (hp.objs.size, dictOf [] 0)] := by
    intro q hq
    simp only [List.mem_cons, List.not_mem_nil, or_false] at hq
    rcases hq with rfl | rfl
    · exact ⟨F0.keep _ _ e2, by rw [hz2]; exact Nat.ne_of_lt (Nat.lt_succ_self _), fresh _ (Nat.le_succ _)⟩
    · exact ⟨F0.keep _ _ e1, by rw [hz2]; exact Nat.ne_of_lt (Nat.lt_add_of_pos_right (by decide)), fresh _ (Nat.le_refl _)⟩
  clear F0 X2 e1 e2
  walk_at "go"
  rename Fr _ _ _ _ => F9
  rename News _ _ _ _ => N9
  refine ⟨rfl, ?_⟩
  obtain ⟨R, hRr, hR, u1, u2, u3, u4, u5, u6⟩ := rec_new (us := []) (ls := []) N9 (List.Mem.head _) (List.Mem.tail _ (List.Mem.head _)) (List.Mem.tail _ (List.Mem.tail _ (List.Mem.head _))) (List.Mem.tail _ (List.Mem.tail _ (List.Mem.tail _ (List.Mem.head _)))) (Nat.ne_of_lt (by omega))
  rw [← hRr]
  exact hQ _ _ R (fun b o e => F9.keep b o e) hR u1 u2 u3 u4 u5 u6
end Mine
end secA11n
section secA11m
namespace Mine
noncomputable def keepIn (ss : List Str) : Value → Bool
  | .str x _ => ss.contains x
  | _ => false
noncomputable def Handed (v : Value) : Prop := handedIn v = true
local macro_rules | `(tactic| walk_at "go") => `(tactic| repeat' (first | (k_unfold; (try dsimp only)) | walk1 | (dsimp only; walk1)))
local macro_rules | `(tactic| walk_at $k9:str) => if ["call type:set", "call ref", "call type:filter", "call type:list", "binaryOp Add ref ref", "compareOp Is", "compareOp Is none"].contains k9.getString then `(tactic| refine Stop.of ?_) else Lean.Macro.throwUnsupported
local macro_rules | `(tactic| walk_at "getAttr ref") => `(tactic| ((with_reducible show wpAny _ _ (getAttr _ (Str.ofString "__contains__") _) _ _ _); refine Stop.of ?_))
local macro_rules | `(tactic| k_inst) => `(tactic| (refine instBase (by with_reducible assumption) (by with_reducible assumption) (by with_reducible assumption)))
local macro_rules | `(tactic| k_ne) => `(tactic| first | with_reducible assumption | (refine Ne.symm ?_; with_reducible assumption))
local macro_rules | `(tactic| k_handed) => `(tactic| (with_reducible assumption))
theorem ct_merge {w : World} {A : Around} {s : Shared} {Q E : Value → Shared → Prop} {mean : ExcName → Option Value} {mg mb : Str → Option Value} {R1 R2 : RecD} {ss1 ss2 : List Str}
   (X : (hd11.heap_39 w.params).In s.heap) (T : Top topProg (looseW hd11.view_39 [] ++ (recsOf hd11.view_39).map (·.name) ++ (litsOf hd11.view_39).map (·.1) ++ (clssOf hd11.view_39 (looseW hd11.view_39 [])).map (·.name)) mean mg mb s.heap) (hd : A.depth + 10 < recursionLimit) (hh : A.handled = none)
   (x1 : RecAt w.params 52 s.heap R1) (x2 : RecAt w.params 52 s.heap R2) (hs1 : StrsAre R1.us ss1) (hs2 : StrsAre R2.us ss2) (hn1 : ss1.length ≤ 200) (hn2 : ss2.length ≤ 200) (hm1 : R1.ls.length ≤ 400) (hm2 : R2.ls.length ≤ 400)
   (v1 : Handed R1.dv) (v2 : Handed R2.dv) (v3 : Handed R1.rv) (v4 : Handed R2.rv)
   (hQ : ∀ h' tk R, Ext s.heap h' → RecAt w.params 52 h' R → R.us = R1.us.filter (keepIn ss2) → R.ls = R1.ls ++ R2.ls → R.dv = (if noneV R2.dv then R1.dv else R2.dv) → R.rv = (if noneV R2.rv then R1.rv else R2.rv) →
     RecNew s.heap R → Apart R → Q (.ref R.r) {s with heap := h', toks := tk}) :
   wpAny (model Challenge.rw_dn0256_11.row.prog w) A (call (.ref 63) [.ref R1.r, .ref R2.r]) Q E s := by
  revert X
  k_fill
  intro X
  have x1' := x1
  have x2' := x2
  obtain ⟨r1, d1, u1, l1, us1, ls1, dv1, rv1, a1, a2, a3, a4, cu1, cl1⟩ := R1
  obtain ⟨r2, d2, u2, l2, us2, ls2, dv2, rv2, b1, b2, b3, b4, cu2, cl2⟩ := R2
  obtain ⟨y1, y2, y3, y4⟩ := x1'
  obtain ⟨z1, z2, z3, z4⟩ := x2'
  dsimp only [recDict, Handed] at y1 y2 y3 y4 z1 z2 z3 z4 hs1 hs2 hm1 hm2 hQ v1 v2 v3 v4
  clear x1 x2
  refine wpAny_call ?_
  refine call_pos_ret (by omega) (X _ _ rfl) rfl T.nolimit (codeRec_of X (by k_is)) rfl (locs rfl) (fun h₁ F => ?_)
  replace F : Fr s.heap s.heap.objs.size h₁ (fun y => [(Str.ofString "e1", Value.ref r1), (Str.ofString "e2", Value.ref r2)].reverse.lookup y) := F
  have N : News s.heap s.heap.objs.size h₁ [] := News.nil
  walk_at "go"
  refine Stop.go ?_
  refine ct_new (Frag.In.keeps X F.keep) (Top.keeps T F.keep) (by (simp only [depth_deeper]; omega)) hh (fun h2 tk2 R e2 x3 q1 q2 q3 q4 hnew hap => ?_)
  have F2 := F.keeps e2
  have N2 := rec_led F x3 hnew
  clear F N e2 x3 hnew
  obtain ⟨r, d, u, l, us, ls, dv, rv, k1, k2, k3, k4, cu, cl⟩ := R
  dsimp only [recDict] at q1 q2 q3 q4 N2 hap ⊢
  subst q1 q2 q3 q4
  obtain ⟨c1, c2, c3, c4, c5, c6⟩ := hap
  dsimp only at c1 c2 c3 c4 c5 c6
  walk_at "go"
  refine Stop.go ?_
  have lu1 : s.heap.IsList u1 us1.toArray := ⟨_, y3, rfl, _, rfl⟩
  have lu2 : s.heap.IsList u2 us2.toArray := ⟨_, z3, rfl, _, rfl⟩
  have ll1 : s.heap.IsList l1 ls1.toArray := ⟨_, y4, rfl, _, rfl⟩
  have ll2 : s.heap.IsList l2 ls2.toArray := ⟨_, z4, rfl, _, rfl⟩
  have hul := hs2.length
  have hul1 := hs1.length
  rename Fr _ _ _ _ => F3
  rename News _ _ _ _ => N3
  refine call_setS hh (lu2.at fun o e => F3.keep _ _ e) hs2 (by omega) (fun h4 tk4 n4 hS4 e4 => ?_)
  have F4 := F3.keeps e4
  have N4 := newsExt N3 e4
  clear F3 N3 e4
  dsimp only
  walk_at "go"
  refine Stop.go ?_
  refine attr_in hS4 (fun h5 tk5 hb5 e5 => ?_)
  have F5 := F4.keeps e5
  have N5 := newsExt N4 e5
  have hS5 := SetOf.ext hS4 e5
  clear F4 N4 e5 hS4
  dsimp only at hb5 ⊢
  walk_at "go"
  refine Stop.go ?_
  refine call_filter (lu1.at fun o e => F5.keep _ _ e) (fun h6 hM hIt hz e6 => ?_)
  dsimp only at hM hIt hz e6 ⊢
  walk_at "go"
  refine Stop.go ?_
  refine call_list_filter (keep := keepIn ss2) hh e6 hz hM hIt (lu1.at fun o e => F5.keep _ _ e) (by omega) ?_ ?_
  · intro i x s' Q' E' hi he' hq'
    obtain ⟨tx, rfl⟩ := strsAt hs1 i x hi
    refine call_in (he' _ _ hb5) (SetOf.ext hS5 he') ?_
    exact hq' _ _ (fun _ _ e => e)
  intro h7 tk7 c7 e7 n7 o7
  dsimp only at n7 o7 ⊢
  generalize h6.objs.size = un at n7 o7 ⊢
  have g1 := ne_fresh N5 (List.Mem.head _) n7
  have g2 := ne_fresh N5 (List.Mem.tail _ (List.Mem.head _)) n7
  have g3 := ne_fresh N5 (List.Mem.tail _ (List.Mem.tail _ (List.Mem.head _))) n7
  have g4 := ne_fresh N5 (List.Mem.tail _ (List.Mem.tail _ (List.Mem.tail _ (List.Mem.head _)))) n7
  have F7 := F5.keeps e7
  have N7 := news_fresh F5 (newsExt N5 e7) n7 o7
  clear F5 N5 e7 n7 o7 hS5 hM hIt hz e6 hb5
  walk_at "go"
  refine Stop.go ?_
  rename Fr _ _ _ _ => F8
  rename News _ _ _ _ => N8
  refine add_listsK F8 N8 (ll1.at fun o e => F8.keep _ _ e) (ll2.at fun o e => F8.keep _ _ e) (fun ln h9 F9 N9 n9 => ?_) (by omega)
  have j0 := n9 _ (List.Mem.head _)
  have j1 := n9 _ (List.Mem.tail _ (List.Mem.head _))
  have j2 := n9 _ (List.Mem.tail _ (List.Mem.tail _ (List.Mem.head _)))
  have j3 := n9 _ (List.Mem.tail _ (List.Mem.tail _ (List.Mem.tail _ (List.Mem.head _))))
  have j4 := n9 _ (List.Mem.tail _ (List.Mem.tail _ (List.Mem.tail _ (List.Mem.tail _ (List.Mem.head _)))))
  dsimp only at j0 j1 j2 j3 j4
  clear F8 N8 n9
  walk_at "go"
  refine Stop.go ?_
  refine is_noneV ?_
  cases hb1 : noneV dv2
  all_goals
    walk_at "go"
    refine Stop.go ?_
    refine is_noneV ?_
    cases hb2 : noneV rv2
    all_goals
      walk_at "go"
      rename Fr _ _ _ _ => F9
      rename News _ _ _ _ => N9
      obtain ⟨R, hRr, hR, u1, u2, u3, u4, u5, u6⟩ := rec_new N9 (List.Mem.head _) (List.Mem.tail _ (List.Mem.head _)) (List.Mem.tail _ (List.Mem.tail _ (List.Mem.tail _ (List.Mem.tail _ (List.Mem.head _))))) (List.Mem.tail _ (List.Mem.tail _ (List.Mem.tail _ (List.Mem.tail _ (List.Mem.tail _ (List.Mem.head _)))))) (Ne.symm j0)
      dsimp only
      rw [← hRr]
      refine hQ _ _ R (fun b o e => F9.keep b o e) hR u1 u2 ?_ ?_ u5 u6
      · first | (rw [u3, if_pos hb1]) | (rw [u3, if_neg (by rw [hb1]; decide)])
      · first | (rw [u4, if_pos hb2]) | (rw [u4, if_neg (by rw [hb2]; decide)])
end Mine
end secA11m
section secA11a
namespace Mine
theorem sa_map : ∀ {vs : List Value} {ss : List Str}, StrsAre vs ss → vs.map strOf = ss
  | _, _, .nil => rfl
  | _, _, .cons x t r => by rw [List.map_cons, sa_map r]; rfl
theorem sa_all : ∀ {vs : List Value} {ss : List Str}, StrsAre vs ss → AllStr vs
  | _, _, .nil => fun _ h => nomatch h
  | _, _, .cons x t r => fun v hv => by
    rcases List.mem_cons.mp hv with rfl | hv
    · exact ⟨_, _, rfl⟩
    · exact sa_all r v hv
local macro_rules | `(tactic| walk_at "go") => `(tactic| repeat' (first | (k_unfold; (try dsimp only)) | walk1 | (dsimp only; walk1)))
local macro_rules | `(tactic| walk_at $k9:str) => if ["compareOp In", "exec For"].contains k9.getString then `(tactic| refine Stop.of ?_) else Lean.Macro.throwUnsupported
local macro_rules | `(tactic| k_inst) => `(tactic| (refine instBase (by with_reducible assumption) (by with_reducible assumption) (by with_reducible assumption)))
local macro_rules | `(tactic| k_handed) => `(tactic| (with_reducible assumption))
theorem ct_applies_none {w : World} {A : Around} {s : Shared} {Q E : Value → Shared → Prop} {mean : ExcName → Option Value} {mg mb : Str → Option Value} {R1 : RecD} {ss1 : List Str}
   (X : (hd11.heap_39 w.params).In s.heap) (T : Top topProg (looseW hd11.view_39 [] ++ (recsOf hd11.view_39).map (·.name) ++ (litsOf hd11.view_39).map (·.1) ++ (clssOf hd11.view_39 (looseW hd11.view_39 [])).map (·.name)) mean mg mb s.heap) (hd : A.depth + 10 < recursionLimit) (hh : A.handled = none)
   (x1 : RecAt w.params 52 s.heap R1) (hs1 : StrsAre R1.us ss1) (hn1 : ss1.length ≤ 200)
   (hQ : ∀ h' tk, Ext s.heap h' → Q (.bool (ss1.contains (Str.ofString "*"))) {s with heap := h', toks := tk}) :
   wpAny (model Challenge.rw_dn0256_11.row.prog w) A (call (.ref 42) [.ref R1.r, .none]) Q E s := by
  revert X
  k_fill
  intro X
  have x1' := x1
  obtain ⟨r1, d1, u1, l1, us1, ls1, dv1, rv1, a1, a2, a3, a4, cu1, cl1⟩ := R1
  obtain ⟨y1, y2, y3, y4⟩ := x1'
  dsimp only [recDict] at y1 y2 y3 y4 hs1 hQ
  clear x1
  refine wpAny_call ?_
  refine' call_defK (f := 42) X ?k6 ?k7 T.nolimit (by omega) ?k9 ?kB ?_ ?c2 ?c3 ?c4 ?c5
  case k6 => k_is
  case k7 => k_is
  case k9 => exact BindsTo.of_eq rfl
  case kB => exact locs rfl
  case c2 => exact rfl
  case c3 => exact rfl
  case c4 => exact rfl
  case c5 => decide +kernel
  intro h₁ tk1 F
  replace F : Fr s.heap s.heap.objs.size h₁ (fun y => [(Str.ofString "self", Value.ref r1), (Str.ofString "useragent", Value.none)].reverse.lookup y) := F
  have N : News s.heap s.heap.objs.size h₁ [] := News.nil
  walk_at "go"
  refine Stop.go ?_
  have lu1 : s.heap.IsList u1 us1.toArray := ⟨_, y3, rfl, _, rfl⟩
  refine in_strs (lu1.at fun o e => F.keep _ _ e) (sa_all hs1) ?_
  rw [sa_map hs1]
  exact hQ h₁ _ F.keep
end Mine
end secA11a
section secA11b
namespace Mine
noncomputable def hit5 (nm a : Str) : Bool :=
  (nm == Str.ofString "FIG" && (a == Str.ofString "fig" || a == Str.ofString "Fig")) || (nm == Str.ofString "figs/plum" && (a == Str.ofString "fig" || a == Str.ofString "Fig" || a == Str.ofString "figs")) ||
  (nm == Str.ofString "plum" && a == Str.ofString "plum") || (nm == Str.ofString "a fig plum" && (a == Str.ofString "fig" || a == Str.ofString "Fig" || a == Str.ofString "plum"))
noncomputable def kinds5 : List Str := [Str.ofString "fig", Str.ofString "Fig", Str.ofString "*", Str.ofString "plum", Str.ofString "figs"]
theorem sa_get : ∀ {vs : List Value} {ss : List Str}, StrsAre vs ss → ∀ {i : Nat} {v : Value}, vs[i]? = some v → ∃ x t, v = .str x t ∧ ss[i]? = some x
  | _, _, .nil, i, v, h => by simp at h
  | _, _, .cons x t r, 0, v, h => ⟨x, t, by simpa using h.symm, rfl⟩
  | _, _, .cons x t r, i + 1, v, h => by
    obtain ⟨y, u, e, e2⟩ := sa_get r (i := i) (v := v) (by simpa using h)
    exact ⟨y, u, e, by simpa using e2⟩
noncomputable def J11 (NB : List (Addr × Obj)) (m₀ : Str → Option Value) (nm : Str) (ss : List Str) (i : Nat) (m : Str → Option Value) (nx : List (Addr × Obj)) : Prop :=
  nx = NB ∧ (ss.take i).any (hit5 nm) = false ∧ ∀ y, [Str.ofString "agent"].contains y = false → m y = m₀ y
theorem any_next {ss : List Str} {i : Nat} {x : Str} {p : Str → Bool} (h : (ss.take i).any p = false) (hx : ss[i]? = some x) (hp : p x = false) : (ss.take (i + 1)).any p = false := by
  rw [List.take_add_one, hx, List.any_append, h]; simp [hp]
theorem any_hit {ss : List Str} {i : Nat} {x : Str} {p : Str → Bool} (hx : ss[i]? = some x) (hp : p x = true) : ss.any p = true :=
  List.any_eq_true.mpr ⟨x, List.mem_of_getElem? hx, hp⟩
theorem mapA {m m₁ : Str → Option Value} {v : Value} (h : ∀ y, [Str.ofString "agent"].contains y = false → m₁ y = m y) : (fun y => if y = Str.ofString "agent" then some v else m₁ y) = (fun y => if y = Str.ofString "agent" then some v else m y) := by
  funext y
  by_cases e : y = Str.ofString "agent"
  · rw [if_pos e, if_pos e]
  · rw [if_neg e, if_neg e]
    exact h y (by simp [e])
theorem end11 {g h' : Heap} {L : Addr} {s₁ : Shared} {NB own : List (Addr × Obj)} {m₀ m' : Str → Option Value} {nm x : Str} {ss : List Str} {i tk : Nat} (F : Fr g L h' m') (N : News g L h' (NB ++ own)) (hoff : OwnOff own (NB.map (·.1)))
    (hn : (ss.take i).any (hit5 nm) = false) (hx : ss[i]? = some x) (hp : hit5 nm x = false) (hm : ∀ y, [Str.ofString "agent"].contains y = false → m' y = m₀ y) : InvEndG g L (J11 NB m₀ nm ss (i + 1)) own s₁ { s₁ with heap := h', toks := tk } :=
  InvEndG.intro (nx := NB) F N ⟨rfl, any_next hn hx hp, hm⟩ hoff (fun q hq => List.mem_append_left _ hq) (fun q hq => List.mem_append_right _ hq)
theorem end_hit {Q : Value → Shared → Prop} {s : Shared} {ss : List Str} {nm x : Str} {i : Nat} {h' : Heap} {tk : Nat} {L : Addr} {m : Str → Option Value} (hQ : ∀ h' tk, Ext s.heap h' → Q (.bool (ss.any (hit5 nm))) {s with heap := h', toks := tk}) (F : Fr s.heap L h' m) (hx : ss[i]? = some x) (hp : hit5 nm x = true) : Q (.bool true) {s with heap := h', toks := tk} := by
  have h := hQ h' tk F.keep
  rw [any_hit hx hp] at h
  exact h
local macro_rules | `(tactic| walk_at "go") => `(tactic| repeat' (first | (k_unfold; (try dsimp only)) | walk1 | (dsimp only; walk1)))
local macro_rules | `(tactic| walk_at $k9:str) => if ["exec For"].contains k9.getString then `(tactic| refine Stop.of ?_) else Lean.Macro.throwUnsupported
local macro_rules | `(tactic| k_inst) => `(tactic| (refine instBase (by with_reducible assumption) (by with_reducible assumption) (by with_reducible assumption)))
local macro_rules | `(tactic| k_handed) => `(tactic| (with_reducible assumption))
local macro_rules | `(tactic| walk_at "compareOp In str str") => `(tactic| (k_here; first | refine inL_t (by decide +kernel) ?_ | refine inL_f (by decide +kernel) ?_))
theorem ct_applies_FIG {w : World} {A : Around} {s : Shared} {Q E : Value → Shared → Prop} {mean : ExcName → Option Value} {mg mb : Str → Option Value} {R1 : RecD} {ss1 : List Str} {t : Tok}
   (X : (hd11.heap_39 w.params).In s.heap) (T : Top topProg (looseW hd11.view_39 [] ++ (recsOf hd11.view_39).map (·.name) ++ (litsOf hd11.view_39).map (·.1) ++ (clssOf hd11.view_39 (looseW hd11.view_39 [])).map (·.name)) mean mg mb s.heap) (hd : A.depth + 10 < recursionLimit) (hh : A.handled = none)
   (x1 : RecAt w.params 52 s.heap R1) (hs1 : StrsAre R1.us ss1) (hk1 : ∀ y ∈ ss1, y ∈ kinds5)
   (hQ : ∀ h' tk, Ext s.heap h' → Q (.bool (ss1.any (hit5 (Str.ofString "FIG")))) {s with heap := h', toks := tk}) :
   wpAny (model Challenge.rw_dn0256_11.row.prog w) A (call (.ref 42) [.ref R1.r, .str (Str.ofString "FIG") t]) Q E s := by
  revert X
  k_fill
  intro X
  have x1' := x1
  obtain ⟨r1, d1, u1, l1, us1, ls1, dv1, rv1, a1, a2, a3, a4, cu1, cl1⟩ := R1
  obtain ⟨y1, y2, y3, y4⟩ := x1'
  dsimp only [recDict] at y1 y2 y3 y4 hs1 hQ
  clear x1
  refine wpAny_call ?_
  refine' call_defK (f := 42) X ?k6 ?k7 T.nolimit (by omega) ?k9 ?kB ?_ ?c2 ?c3 ?c4 ?c5
  case k6 => k_is
  case k7 => k_is
  case k9 => exact BindsTo.of_eq rfl
  case kB => exact locs rfl
  case c2 => exact rfl
  case c3 => exact rfl
  case c4 => exact rfl
  case c5 => decide +kernel
  intro h₁ tk1 F
  replace F : Fr s.heap s.heap.objs.size h₁ (fun y => [(Str.ofString "self", Value.ref r1), (Str.ofString "useragent", Value.str (Str.ofString "FIG") t)].reverse.lookup y) := F
  have N : News s.heap s.heap.objs.size h₁ [] := News.nil
  walk_at "go"
  refine Stop.go ?_
  (with_reducible rename Fr _ _ _ _ => F2); (with_reducible rename News _ _ _ _ => N2)
  have lu1 : s.heap.IsList u1 us1.toArray := ⟨_, y3, rfl, _, rfl⟩
  have hlen := hs1.length
  refine iter_anyG (J11 _ _ (Str.ofString "FIG") ss1) hh lu1 F2 N2 ⟨rfl, by rw [List.take_zero]; rfl, fun _ _ => rfl⟩ ?turn1 ?done1
  case turn1 =>
    rintro i v m₁ news₁ h tk own hv hoff ⟨rfl, hno, hm⟩ F3 N3
    clear F2 N2
    obtain ⟨x, tx, rfl, hx⟩ := sa_get hs1 hv
    have hxk := hk1 x (List.mem_of_getElem? hx)
    rw [mapA hm] at F3
    dsimp only [List.cons_append, List.nil_append] at N3
    simp only [kinds5, List.mem_cons, List.not_mem_nil, or_false] at hxk
    rcases hxk with rfl | rfl | rfl | rfl | rfl
    all_goals
      walk_at "go"
      (with_reducible rename Fr _ _ _ _ => F8); (with_reducible rename News _ _ _ _ => N8)
      first
        | (with_reducible exact end_hit hQ F8 hx (by decide +kernel))
        | (try refine Stop.go ?_
           exact end11 F8 N8 hoff hno hx (by decide +kernel) (fun y hy => by
            have hy1 := off_str hy (List.Mem.head _)
            simp only [if_neg hy1, hm y hy]))
  case done1 =>
    rintro m₁ news₁ h tk ⟨rfl, hno, hm⟩ F3 N3
    have e1 : ss1.take us1.length = ss1 := List.take_of_length_le (by omega)
    rw [e1] at hno
    walk_at "go"
    (with_reducible rename Fr _ _ _ _ => F8)
    have hq9 := hQ _ tk F8.keep
    rw [hno] at hq9
    exact hq9
theorem ct_applies_figs {w : World} {A : Around} {s : Shared} {Q E : Value → Shared → Prop} {mean : ExcName → Option Value} {mg mb : Str → Option Value} {R1 : RecD} {ss1 : List Str} {t : Tok}
   (X : (hd11.heap_39 w.params).In s.heap) (T : Top topProg (looseW hd11.view_39 [] ++ (recsOf hd11.view_39).map (·.name) ++ (litsOf hd11.view_39).map (·.1) ++ (clssOf hd11.view_39 (looseW hd11.view_39 [])).map (·.name)) mean mg mb s.heap) (hd : A.depth + 10 < recursionLimit) (hh : A.handled = none)
   (x1 : RecAt w.params 52 s.heap R1) (hs1 : StrsAre R1.us ss1) (hk1 : ∀ y ∈ ss1, y ∈ kinds5)
   (hQ : ∀ h' tk, Ext s.heap h' → Q (.bool (ss1.any (hit5 (Str.ofString "figs/plum")))) {s with heap := h', toks := tk}) :
   wpAny (model Challenge.rw_dn0256_11.row.prog w) A (call (.ref 42) [.ref R1.r, .str (Str.ofString "figs/plum") t]) Q E s := by
  revert X
  k_fill
  intro X
  have x1' := x1
  obtain ⟨r1, d1, u1, l1, us1, ls1, dv1, rv1, a1, a2, a3, a4, cu1, cl1⟩ := R1
  obtain ⟨y1, y2, y3, y4⟩ := x1'
  dsimp only [recDict] at y1 y2 y3 y4 hs1 hQ
  clear x1
  refine wpAny_call ?_
  refine' call_defK (f := 42) X ?k6 ?k7 T.nolimit (by omega) ?k9 ?kB ?_ ?c2 ?c3 ?c4 ?c5
  case k6 => k_is
  case k7 => k_is
  case k9 => exact BindsTo.of_eq rfl
  case kB => exact locs rfl
  case c2 => exact rfl
  case c3 => exact rfl
  case c4 => exact rfl
  case c5 => decide +kernel
  intro h₁ tk1 F
  replace F : Fr s.heap s.heap.objs.size h₁ (fun y => [(Str.ofString "self", Value.ref r1), (Str.ofString "useragent", Value.str (Str.ofString "figs/plum") t)].reverse.lookup y) := F
  have N : News s.heap s.heap.objs.size h₁ [] := News.nil
  walk_at "go"
  refine Stop.go ?_
  (with_reducible rename Fr _ _ _ _ => F2); (with_reducible rename News _ _ _ _ => N2)
  have lu1 : s.heap.IsList u1 us1.toArray := ⟨_, y3, rfl, _, rfl⟩
  have hlen := hs1.length
  refine iter_anyG (J11 _ _ (Str.ofString "figs/plum") ss1) hh lu1 F2 N2 ⟨rfl, by rw [List.take_zero]; rfl, fun _ _ => rfl⟩ ?turn1 ?done1
  case turn1 =>
    rintro i v m₁ news₁ h tk own hv hoff ⟨rfl, hno, hm⟩ F3 N3
    clear F2 N2
    obtain ⟨x, tx, rfl, hx⟩ := sa_get hs1 hv
    have hxk := hk1 x (List.mem_of_getElem? hx)
    rw [mapA hm] at F3
    dsimp only [List.cons_append, List.nil_append] at N3
    simp only [kinds5, List.mem_cons, List.not_mem_nil, or_false] at hxk
    rcases hxk with rfl | rfl | rfl | rfl | rfl
    all_goals
      walk_at "go"
      (with_reducible rename Fr _ _ _ _ => F8); (with_reducible rename News _ _ _ _ => N8)
      first
        | (with_reducible exact end_hit hQ F8 hx (by decide +kernel))
        | (try refine Stop.go ?_
           exact end11 F8 N8 hoff hno hx (by decide +kernel) (fun y hy => by
            have hy1 := off_str hy (List.Mem.head _)
            simp only [if_neg hy1, hm y hy]))
  case done1 =>
    rintro m₁ news₁ h tk ⟨rfl, hno, hm⟩ F3 N3
    have e1 : ss1.take us1.length = ss1 := List.take_of_length_le (by omega)
    rw [e1] at hno
    walk_at "go"
    (with_reducible rename Fr _ _ _ _ => F8)
    have hq9 := hQ _ tk F8.keep
    rw [hno] at hq9
    exact hq9
theorem ct_applies_plum {w : World} {A : Around} {s : Shared} {Q E : Value → Shared → Prop} {mean : ExcName → Option Value} {mg mb : Str → Option Value} {R1 : RecD} {ss1 : List Str} {t : Tok}
   (X : (hd11.heap_39 w.params).In s.heap) (T : Top topProg (looseW hd11.view_39 [] ++ (recsOf hd11.view_39).map (·.name) ++ (litsOf hd11.view_39).map (·.1) ++ (clssOf hd11.view_39 (looseW hd11.view_39 [])).map (·.name)) mean mg mb s.heap) (hd : A.depth + 10 < recursionLimit) (hh : A.handled = none)
   (x1 : RecAt w.params 52 s.heap R1) (hs1 : StrsAre R1.us ss1) (hk1 : ∀ y ∈ ss1, y ∈ kinds5)
   (hQ : ∀ h' tk, Ext s.heap h' → Q (.bool (ss1.any (hit5 (Str.ofString "plum")))) {s with heap := h', toks := tk}) :
   wpAny (model Challenge.rw_dn0256_11.row.prog w) A (call (.ref 42) [.ref R1.r, .str (Str.ofString "plum") t]) Q E s := by
  revert X
  k_fill
  intro X
  have x1' := x1
  obtain ⟨r1, d1, u1, l1, us1, ls1, dv1, rv1, a1, a2, a3, a4, cu1, cl1⟩ := R1
  obtain ⟨y1, y2, y3, y4⟩ := x1'
  dsimp only [recDict] at y1 y2 y3 y4 hs1 hQ
  clear x1
  refine wpAny_call ?_
  refine' call_defK (f := 42) X ?k6 ?k7 T.nolimit (by omega) ?k9 ?kB ?_ ?c2 ?c3 ?c4 ?c5
  case k6 => k_is
  case k7 => k_is
  case k9 => exact BindsTo.of_eq rfl
  case kB => exact locs rfl
  case c2 => exact rfl
  case c3 => exact rfl
  case c4 => exact rfl
  case c5 => decide +kernel
  intro h₁ tk1 F
  replace F : Fr s.heap s.heap.objs.size h₁ (fun y => [(Str.ofString "self", Value.ref r1), (Str.ofString "useragent", Value.str (Str.ofString "plum") t)].reverse.lookup y) := F
  have N : News s.heap s.heap.objs.size h₁ [] := News.nil
  walk_at "go"
  refine Stop.go ?_
  (with_reducible rename Fr _ _ _ _ => F2); (with_reducible rename News _ _ _ _ => N2)
  have lu1 : s.heap.IsList u1 us1.toArray := ⟨_, y3, rfl, _, rfl⟩
  have hlen := hs1.length
  refine iter_anyG (J11 _ _ (Str.ofString "plum") ss1) hh lu1 F2 N2 ⟨rfl, by rw [List.take_zero]; rfl, fun _ _ => rfl⟩ ?turn1 ?done1
  case turn1 =>
    rintro i v m₁ news₁ h tk own hv hoff ⟨rfl, hno, hm⟩ F3 N3
    clear F2 N2
    obtain ⟨x, tx, rfl, hx⟩ := sa_get hs1 hv
    have hxk := hk1 x (List.mem_of_getElem? hx)
    rw [mapA hm] at F3
    dsimp only [List.cons_append, List.nil_append] at N3
    simp only [kinds5, List.mem_cons, List.not_mem_nil, or_false] at hxk
    rcases hxk with rfl | rfl | rfl | rfl | rfl
    all_goals
      walk_at "go"
      (with_reducible rename Fr _ _ _ _ => F8); (with_reducible rename News _ _ _ _ => N8)
      first
        | (with_reducible exact end_hit hQ F8 hx (by decide +kernel))
        | (try refine Stop.go ?_
           exact end11 F8 N8 hoff hno hx (by decide +kernel) (fun y hy => by
            have hy1 := off_str hy (List.Mem.head _)
            simp only [if_neg hy1, hm y hy]))
  case done1 =>
    rintro m₁ news₁ h tk ⟨rfl, hno, hm⟩ F3 N3
    have e1 : ss1.take us1.length = ss1 := List.take_of_length_le (by omega)
    rw [e1] at hno
    walk_at "go"
    (with_reducible rename Fr _ _ _ _ => F8)
    have hq9 := hQ _ tk F8.keep
    rw [hno] at hq9
    exact hq9
theorem ct_applies_star {w : World} {A : Around} {s : Shared} {Q E : Value → Shared → Prop} {mean : ExcName → Option Value} {mg mb : Str → Option Value} {R1 : RecD} {ss1 : List Str} {t : Tok}
   (X : (hd11.heap_39 w.params).In s.heap) (T : Top topProg (looseW hd11.view_39 [] ++ (recsOf hd11.view_39).map (·.name) ++ (litsOf hd11.view_39).map (·.1) ++ (clssOf hd11.view_39 (looseW hd11.view_39 [])).map (·.name)) mean mg mb s.heap) (hd : A.depth + 10 < recursionLimit) (hh : A.handled = none)
   (x1 : RecAt w.params 52 s.heap R1) (hs1 : StrsAre R1.us ss1) (hk1 : ∀ y ∈ ss1, y ∈ kinds5)
   (hQ : ∀ h' tk, Ext s.heap h' → Q (.bool (ss1.any (hit5 (Str.ofString "*")))) {s with heap := h', toks := tk}) :
   wpAny (model Challenge.rw_dn0256_11.row.prog w) A (call (.ref 42) [.ref R1.r, .str (Str.ofString "*") t]) Q E s := by
  revert X
  k_fill
  intro X
  have x1' := x1
  obtain ⟨r1, d1, u1, l1, us1, ls1, dv1, rv1, a1, a2, a3, a4, cu1, cl1⟩ := R1
  obtain ⟨y1, y2, y3, y4⟩ := x1'
  dsimp only [recDict] at y1 y2 y3 y4 hs1 hQ
  clear x1
  refine wpAny_call ?_
  refine' call_defK (f := 42) X ?k6 ?k7 T.nolimit (by omega) ?k9 ?kB ?_ ?c2 ?c3 ?c4 ?c5
  case k6 => k_is
  case k7 => k_is
  case k9 => exact BindsTo.of_eq rfl
  case kB => exact locs rfl
  case c2 => exact rfl
  case c3 => exact rfl
  case c4 => exact rfl
  case c5 => decide +kernel
  intro h₁ tk1 F
  replace F : Fr s.heap s.heap.objs.size h₁ (fun y => [(Str.ofString "self", Value.ref r1), (Str.ofString "useragent", Value.str (Str.ofString "*") t)].reverse.lookup y) := F
  have N : News s.heap s.heap.objs.size h₁ [] := News.nil
  walk_at "go"
  refine Stop.go ?_
  (with_reducible rename Fr _ _ _ _ => F2); (with_reducible rename News _ _ _ _ => N2)
  have lu1 : s.heap.IsList u1 us1.toArray := ⟨_, y3, rfl, _, rfl⟩
  have hlen := hs1.length
  refine iter_anyG (J11 _ _ (Str.ofString "*") ss1) hh lu1 F2 N2 ⟨rfl, by rw [List.take_zero]; rfl, fun _ _ => rfl⟩ ?turn1 ?done1
  case turn1 =>
    rintro i v m₁ news₁ h tk own hv hoff ⟨rfl, hno, hm⟩ F3 N3
    clear F2 N2
    obtain ⟨x, tx, rfl, hx⟩ := sa_get hs1 hv
    have hxk := hk1 x (List.mem_of_getElem? hx)
    rw [mapA hm] at F3
    dsimp only [List.cons_append, List.nil_append] at N3
    simp only [kinds5, List.mem_cons, List.not_mem_nil, or_false] at hxk
    rcases hxk with rfl | rfl | rfl | rfl | rfl
    all_goals
      walk_at "go"
      (with_reducible rename Fr _ _ _ _ => F8); (with_reducible rename News _ _ _ _ => N8)
      first
        | (with_reducible exact end_hit hQ F8 hx (by decide +kernel))
        | (try refine Stop.go ?_
           exact end11 F8 N8 hoff hno hx (by decide +kernel) (fun y hy => by
            have hy1 := off_str hy (List.Mem.head _)
            simp only [if_neg hy1, hm y hy]))
  case done1 =>
    rintro m₁ news₁ h tk ⟨rfl, hno, hm⟩ F3 N3
    have e1 : ss1.take us1.length = ss1 := List.take_of_length_le (by omega)
    rw [e1] at hno
    walk_at "go"
    (with_reducible rename Fr _ _ _ _ => F8)
    have hq9 := hQ _ tk F8.keep
    rw [hno] at hq9
    exact hq9
theorem ct_applies_afig {w : World} {A : Around} {s : Shared} {Q E : Value → Shared → Prop} {mean : ExcName → Option Value} {mg mb : Str → Option Value} {R1 : RecD} {ss1 : List Str} {t : Tok}
   (X : (hd11.heap_39 w.params).In s.heap) (T : Top topProg (looseW hd11.view_39 [] ++ (recsOf hd11.view_39).map (·.name) ++ (litsOf hd11.view_39).map (·.1) ++ (clssOf hd11.view_39 (looseW hd11.view_39 [])).map (·.name)) mean mg mb s.heap) (hd : A.depth + 10 < recursionLimit) (hh : A.handled = none)
   (x1 : RecAt w.params 52 s.heap R1) (hs1 : StrsAre R1.us ss1) (hk1 : ∀ y ∈ ss1, y ∈ kinds5)
   (hQ : ∀ h' tk, Ext s.heap h' → Q (.bool (ss1.any (hit5 (Str.ofString "a fig plum")))) {s with heap := h', toks := tk}) :
   wpAny (model Challenge.rw_dn0256_11.row.prog w) A (call (.ref 42) [.ref R1.r, .str (Str.ofString "a fig plum") t]) Q E s := by
  revert X
  k_fill
  intro X
  have x1' := x1
  obtain ⟨r1, d1, u1, l1, us1, ls1, dv1, rv1, a1, a2, a3, a4, cu1, cl1⟩ := R1
  obtain ⟨y1, y2, y3, y4⟩ := x1'
  dsimp only [recDict] at y1 y2 y3 y4 hs1 hQ
  clear x1
  refine wpAny_call ?_
  refine' call_defK (f := 42) X ?k6 ?k7 T.nolimit (by omega) ?k9 ?kB ?_ ?c2 ?c3 ?c4 ?c5
  case k6 => k_is
  case k7 => k_is
  case k9 => exact BindsTo.of_eq rfl
  case kB => exact locs rfl
  case c2 => exact rfl
  case c3 => exact rfl
  case c4 => exact rfl
  case c5 => decide +kernel
  intro h₁ tk1 F
  replace F : Fr s.heap s.heap.objs.size h₁ (fun y => [(Str.ofString "self", Value.ref r1), (Str.ofString "useragent", Value.str (Str.ofString "a fig plum") t)].reverse.lookup y) := F
  have N : News s.heap s.heap.objs.size h₁ [] := News.nil
  walk_at "go"
  refine Stop.go ?_
  (with_reducible rename Fr _ _ _ _ => F2); (with_reducible rename News _ _ _ _ => N2)
  have lu1 : s.heap.IsList u1 us1.toArray := ⟨_, y3, rfl, _, rfl⟩
  have hlen := hs1.length
  refine iter_anyG (J11 _ _ (Str.ofString "a fig plum") ss1) hh lu1 F2 N2 ⟨rfl, by rw [List.take_zero]; rfl, fun _ _ => rfl⟩ ?turn1 ?done1
  case turn1 =>
    rintro i v m₁ news₁ h tk own hv hoff ⟨rfl, hno, hm⟩ F3 N3
    clear F2 N2
    obtain ⟨x, tx, rfl, hx⟩ := sa_get hs1 hv
    have hxk := hk1 x (List.mem_of_getElem? hx)
    rw [mapA hm] at F3
    dsimp only [List.cons_append, List.nil_append] at N3
    simp only [kinds5, List.mem_cons, List.not_mem_nil, or_false] at hxk
    rcases hxk with rfl | rfl | rfl | rfl | rfl
    all_goals
      walk_at "go"
      (with_reducible rename Fr _ _ _ _ => F8); (with_reducible rename News _ _ _ _ => N8)
      first
        | (with_reducible exact end_hit hQ F8 hx (by decide +kernel))
        | (try refine Stop.go ?_
           exact end11 F8 N8 hoff hno hx (by decide +kernel) (fun y hy => by
            have hy1 := off_str hy (List.Mem.head _)
            simp only [if_neg hy1, hm y hy]))
  case done1 =>
    rintro m₁ news₁ h tk ⟨rfl, hno, hm⟩ F3 N3
    have e1 : ss1.take us1.length = ss1 := List.take_of_length_le (by omega)
    rw [e1] at hno
    walk_at "go"
    (with_reducible rename Fr _ _ _ _ => F8)
    have hq9 := hQ _ tk F8.keep
    rw [hno] at hq9
    exact hq9
end Mine
end secA11b
section secA11r
namespace Mine
local macro_rules | `(tactic| walk_at "go") => `(tactic| repeat' (first | (k_unfold; (try dsimp only)) | walk1 | (dsimp only; walk1)))
local macro_rules | `(tactic| walk_at "call ref") => `(tactic| refine Stop.of ?_)
local macro_rules | `(tactic| k_ne) => `(tactic| first | with_reducible assumption | (refine Ne.symm ?_; with_reducible assumption) | (apply Nat.ne_of_lt; omega) | (apply Nat.ne_of_gt; omega))
local macro_rules | `(tactic| k_handed) => `(tactic| (with_reducible assumption))
noncomputable def lamQual : Str := Str.ofString "_law_rule.<locals>.<lambda>"
noncomputable def lamOf : Option Obj → Arguments × PySem.Expr × Scope
  | some ⟨_, _, .func fd, _⟩ => match fd.body with
    | .stmts [_, _, .Assign _ (.Lambda ps e sc _) _, _] => (ps, e, sc)
    | _ => (default, .Constant .none 0 default, default)
  | _ => (default, .Constant .none 0 default, default)
/-- the lambda that the law makes -/
noncomputable def lamObj (p : Params) (pm : Value) (q c' : Addr) (ctv : Value) : Obj :=
  kla_obj "<lambda>" lamQual (lamOf ((hd11.heap_39 p).lookup 70)).1 (lamOf ((hd11.heap_39 p).lookup 70)).2.1 (lamOf ((hd11.heap_39 p).lookup 70)).2.2 [(Str.ofString "reaches", q)] pm c' ctv
/-- a rule made by the law -/
structure RuleD where
  r : Addr
  d : Addr
  u : Addr
  l : Addr
  f : Addr
  q : Addr
  c : Addr
  lr : Addr
  b : Bool
  k1 : Tok
  k2 : Tok
  k3 : Tok
  k4 : Tok
  k5 : Tok
  k6 : Tok
  fo : Obj
  oq : Obj
  oc : Obj
noncomputable def ruleDict (p : Params) (D : RuleD) : Obj :=
  dictOf [{ hash := PyData.keyHash p (Str.ofString "useragents"), key := Value.str (Str.ofString "useragents") D.k1, val := Value.ref D.u },
     { hash := PyData.keyHash p (Str.ofString "rulelines"), key := Value.str (Str.ofString "rulelines") D.k2, val := Value.ref D.l },
     { hash := PyData.keyHash p (Str.ofString "delay"), key := Value.str (Str.ofString "delay") D.k3, val := Value.none },
     { hash := PyData.keyHash p (Str.ofString "req_rate"), key := Value.str (Str.ofString "req_rate") D.k4, val := Value.none },
     { hash := PyData.keyHash p (Str.ofString "allowance"), key := Value.str (Str.ofString "allowance") D.k5, val := Value.bool D.b },
     { hash := PyData.keyHash p (Str.ofString "applies_to"), key := Value.str (Str.ofString "applies_to") D.k6, val := Value.ref D.f }] 6
/-- the code of the lambda -/
noncomputable def IsLamCode (oc : Obj) : Prop := ∃ vs t, oc.data = .fields vs ∧ vs[1]? = some (.str lamQual t)
noncomputable def ruleLed (p : Params) (D : RuleD) : List (Addr × Obj) := [(D.r, instObj 52 D.d), (D.d, ruleDict p D), (D.f, D.fo), (D.q, D.oq), (D.c, D.oc)]
noncomputable def RuleOk (p : Params) (D : RuleD) : Prop := (∃ pm ctv, D.fo = lamObj p pm D.q D.c ctv) ∧ D.oq.data = .cell (some (.ref D.lr)) ∧ IsLamCode D.oc
/-- the table of the codes -/
noncomputable def tab1 (c : Addr) : Array Value := #[rawInt 61, rawInt 22, .ref c]
noncomputable def TabSt (h : Heap) (ps : Array Value) : Prop := ps = #[] ∨ ∃ c oc, ps = tab1 c ∧ h.get? c = some oc ∧ IsLamCode oc
theorem rule_new {p : Params} {g h : Heap} {L x d u l f q c lr : Addr} {b : Bool} {k1 k2 k3 k4 k5 k6 : Tok} {fo oq oc : Obj} {rest : List (Addr × Obj)} (N : News g L h rest) (n1 : (x, instObj 52 d) ∈ rest) (n2 : (d, ruleDict p ⟨x, d, u, l, f, q, c, lr, b, k1, k2, k3, k4, k5, k6, fo, oq, oc⟩) ∈ rest) (n3 : (f, fo) ∈ rest) (n4 : (q, oq) ∈ rest) (n5 : h.get? c = some oc) :
    ∃ D : RuleD, D.r = x ∧ D.d = d ∧ D.f = f ∧ D.q = q ∧ D.c = c ∧ D.lr = lr ∧ D.b = b ∧ D.fo = fo ∧ D.oq = oq ∧ D.oc = oc ∧ ∀ z ∈ ruleLed p D, h.get? z.1 = some z.2 :=
  ⟨⟨x, d, u, l, f, q, c, lr, b, k1, k2, k3, k4, k5, k6, fo, oq, oc⟩, rfl, rfl, rfl, rfl, rfl, rfl, rfl, rfl, rfl, rfl, fun z hz => by
    simp only [ruleLed, List.mem_cons, List.not_mem_nil, or_false] at hz
    rcases hz with rfl | rfl | rfl | rfl | rfl
    · exact (N _ n1).1
    · exact (N _ n2).1
    · exact (N _ n3).1
    · exact (N _ n4).1
    · exact n5⟩
theorem ct_rule {w : World} {A : Around} {s : Shared} {Q E : Value → Shared → Prop} {mean : ExcName → Option Value} {mg mb : Str → Option Value} {h₀ : Heap} {lr : Addr} {b : Bool} {ps : Array Value}
   (X₀ : (hd11.heap_39 w.params).In h₀) (T₀ : Top topProg (looseW hd11.view_39 [] ++ (recsOf hd11.view_39).map (·.name) ++ (litsOf hd11.view_39).map (·.1) ++ (clssOf hd11.view_39 (looseW hd11.view_39 [])).map (·.name)) mean mg mb h₀) (hkeep : ∀ b o, h₀.get? b = some o → s.heap.get? b = some o) (hP : s.heap.get? 65 = some (tabObj ps)) (hP0 : h₀.get? 65 = none) (hps : TabSt s.heap ps)
   (hd : A.depth + 10 < recursionLimit) (hh : A.handled = none)
   (hQ : ∀ h' tk D c, (∀ b o, b ≠ 65 → s.heap.get? b = some o → h'.get? b = some o) → h'.get? 65 = some (tabObj (tab1 c)) → D.c = c → (∀ q ∈ ruleLed w.params D, h'.get? q.1 = some q.2) → RuleOk w.params D → D.b = b → D.lr = lr →
     (s.heap.get? D.r = none ∧ s.heap.get? D.d = none ∧ s.heap.get? D.f = none ∧ s.heap.get? D.q = none ∧ (s.heap.get? D.c = none ∨ ps = tab1 c)) → Q (.ref D.r) {s with heap := h', toks := tk}) :
   wpAny (model Challenge.rw_dn0256_11.row.prog w) A (call (.ref 70) [.ref lr, .bool b]) Q E s := by
  revert X₀
  k_fill
  intro X₀
  refine wpAny_call ?_
  refine' call_cellsH (f := 70) X₀ hkeep hP hP0 ?k6 ?k7 T₀.nolimit (by omega) ?k9 ?kB ?kD ?_ ?c2 ?c3 ?c4
  case k6 => k_is
  case k7 => k_is
  case k9 => exact BindsTo.of_eq rfl
  case kB => exact rfl
  case kD => decide +kernel
  case c2 => exact rfl
  case c3 => exact rfl
  case c4 => exact rfl
  intro g h₁ tk cells hg1 hg2 hlt F N Y
  have X : (hd11.heap_39 w.params).In g := X₀.keeps hg1
  have T := T₀.keeps hg1
  clear X₀ T₀
  obtain ⟨oc, hE, d1⟩ := CellsAre.one Y
  subst hE
  clear Y
  dsimp only [List.cons_append, List.nil_append] at N
  replace F : Fr g s.heap.objs.size h₁ (fun y => if y = Str.ofString "allowed" then some (Value.bool b) else none) := F
  replace d1 : oc.data = .cell (some (.ref lr)) := d1
  have hfr : ∀ a, g.get? a = none → a ≠ 65 → s.heap.get? a = none := fun a ha hne => by
    cases e : s.heap.get? a with
    | none => rfl
    | some o => rw [hg2 a o hne e] at ha; cases ha
  have nq : @Ne Nat 65 (s.heap.objs.size + 1) := by
    intro e
    have h1 := hlt
    rw [e] at h1
    exact Nat.lt_irrefl _ (Nat.lt_of_succ_lt h1)
  walk_at "go"
  refine Stop.go ?_
  refine ct_new (Frag.In.keeps X F.keep) (Top.keeps T F.keep) (by (simp only [depth_deeper]; omega)) hh (fun h2 tk2 R e2 x3 q1 q2 q3 q4 hnew hap => ?_)
  have gd := new_ne hnew.2.1 (N _ (List.Mem.head _)).1
  have gr := new_ne hnew.1 (N _ (List.Mem.head _)).1
  have gu := new_ne hnew.2.2.1 (N _ (List.Mem.head _)).1
  have gl := new_ne hnew.2.2.2 (N _ (List.Mem.head _)).1
  have pd := new_ne hnew.2.1 (N _ (List.Mem.tail _ (List.Mem.head _))).1
  have pr := new_ne hnew.1 (N _ (List.Mem.tail _ (List.Mem.head _))).1
  have pu := new_ne hnew.2.2.1 (N _ (List.Mem.tail _ (List.Mem.head _))).1
  have pl := new_ne hnew.2.2.2 (N _ (List.Mem.tail _ (List.Mem.head _))).1
  have F2 := F.keeps e2
  have N2 := newsApp (rec_led F x3 hnew) (newsExt N e2)
  obtain ⟨r, d, u, l, us, ls, dv, rv, k1, k2, k3, k4, cu, cl⟩ := R
  dsimp only [recDict, List.cons_append, List.nil_append] at q1 q2 q3 q4 N2 hap ⊢
  subst q1 q2 q3 q4
  obtain ⟨c1, c2, c3, c4, c5, c6⟩ := hap
  dsimp only at c1 c2 c3 c4 c5 c6 gd gr gu gl pd pr pu pl
  clear F N e2 x3 hnew
  walk_at "go"
  (with_reducible rename Fr _ _ _ _ => F3); (with_reducible rename News _ _ _ _ => N3)
  refine kla_eval rfl ?_
  have hC : CodeHd g 69 65 := codeHd_of_K X (by with_unfolding_all rfl)
  rcases hps with rfl | ⟨c0, oc0, rfl, hc0, hlc⟩
  · refine kla_nest (c := 69) (P := 65) (ps := #[]) F3 N3 T hC rfl (by k_updF) (by kn_triples) (by kn_among) rfl (fun f c' oc' vs' t' ctv h9 tk9 F9 N9 g1 g2 g3 g4 => ?_)
    have nd := g3 _ (List.Mem.tail _ (List.Mem.tail _ (List.Mem.tail _ (List.Mem.head _))))
    have nf : @Ne Nat f d := Nat.ne_of_gt (Nat.lt_trans nd g4)
    replace nd : @Ne Nat c' d := Nat.ne_of_gt nd
    have n65 := g3 _ (List.Mem.tail _ (List.Mem.tail _ (List.Mem.tail _ (List.Mem.tail _ (List.Mem.tail _ (List.Mem.head _))))))
    obtain ⟨fo, hfo⟩ : ∃ x, x = lamObj w.params ((mg (Str.ofString "__name__")).getD .none) (s.heap.objs.size + 1) c' ctv := ⟨_, rfl⟩
    have N10 : News g s.heap.objs.size h9 ((f, fo) :: _) := fun q hq => (List.mem_cons.mp hq).elim (fun e => by rw [e, hfo]; exact N9 _ (List.Mem.head _)) (fun e => N9 q (List.Mem.tail _ e))
    clear N9 g3
    walk_at "go"
    (with_reducible rename Fr _ _ _ _ => F11); (with_reducible rename News _ _ _ _ => N11)
    obtain ⟨D, z1, z2, z3, z4, z5, z6, z7, z8, z9, z10, zl⟩ := rule_new (p := w.params) (lr := lr) (b := b) N11 (List.Mem.tail _ (List.Mem.tail _ (List.Mem.tail _ (List.Mem.tail _ (List.Mem.head _))))) (List.Mem.tail _ (List.Mem.tail _ (List.Mem.tail _ (List.Mem.tail _ (List.Mem.tail _ (List.Mem.head _)))))) (List.Mem.head _) (List.Mem.tail _ (List.Mem.tail _ (List.Mem.tail _ (List.Mem.tail _ (List.Mem.tail _ (List.Mem.tail _ (List.Mem.head _))))))) (N11 _ (List.Mem.tail _ (List.Mem.head _))).1
    have w1 := (N11 _ (List.Mem.tail _ (List.Mem.tail _ (List.Mem.tail _ (List.Mem.tail _ (List.Mem.head _)))))).2.2
    have w2 := (N11 _ (List.Mem.tail _ (List.Mem.tail _ (List.Mem.tail _ (List.Mem.tail _ (List.Mem.tail _ (List.Mem.head _))))))).2.2
    have w3 := (N11 _ (List.Mem.head _)).2.2
    have w4 := (N11 _ (List.Mem.tail _ (List.Mem.tail _ (List.Mem.tail _ (List.Mem.tail _ (List.Mem.tail _ (List.Mem.tail _ (List.Mem.head _)))))))).2.2
    have w5 := (N11 _ (List.Mem.tail _ (List.Mem.head _))).2.2
    have w6 := N11 _ (List.Mem.tail _ (List.Mem.tail _ (List.Mem.tail _ (List.Mem.tail _ (List.Mem.tail _ (List.Mem.tail _ (List.Mem.tail _ (List.Mem.head _))))))))
    dsimp only at n65 w1 w2 w3 w4 w5 ⊢
    rw [← z1]
    refine hQ _ _ D c' (fun a o hne e => F11.keep a o (hg2 a o hne e)) w6.1 z5 zl ⟨⟨_, _, by rw [z8, z4, z5]; exact hfo⟩, by rw [z9, z6]; exact d1, by rw [z10]; exact ⟨vs', t', g1, g2⟩⟩ z7 z6 ⟨by rw [z1]; exact hfr _ w1 pr, by rw [z2]; exact hfr _ w2 pd, by rw [z3]; exact hfr _ w3 (Nat.ne_of_gt (Nat.lt_trans n65 g4)), by rw [z4]; exact hfr _ w4 (Ne.symm nq), .inl (by rw [z5]; exact hfr _ w5 (Nat.ne_of_gt n65))⟩
  · refine kla_hit (c := 69) (P := 65) (ps := tab1 c0) (c' := c0) F3 N3 T hC rfl (List.Mem.tail _ (List.Mem.tail _ (List.Mem.tail _ (List.Mem.tail _ (List.Mem.tail _ (List.Mem.head _)))))) (by simp [TriplesOk, tab1, rawInt]) (by simp [codeAmong, tab1, rawInt]) rfl (fun f ctv h9 tk9 F9 N9 g3 => ?_)
    have nd := g3 _ (List.Mem.tail _ (List.Mem.tail _ (List.Mem.tail _ (List.Mem.head _))))
    have nf : @Ne Nat f d := Nat.ne_of_gt nd
    have n65 := g3 _ (List.Mem.tail _ (List.Mem.tail _ (List.Mem.tail _ (List.Mem.tail _ (List.Mem.tail _ (List.Mem.head _))))))
    obtain ⟨fo, hfo⟩ : ∃ x, x = lamObj w.params ((mg (Str.ofString "__name__")).getD .none) (s.heap.objs.size + 1) c0 ctv := ⟨_, rfl⟩
    have N10 : News g s.heap.objs.size h9 ((f, fo) :: _) := fun q hq => (List.mem_cons.mp hq).elim (fun e => by rw [e, hfo]; exact N9 _ (List.Mem.head _)) (fun e => N9 q (List.Mem.tail _ e))
    have hc65 : c0 ≠ 65 := fun e => by
      rw [e, hP] at hc0
      obtain ⟨vs', t', g1, g2⟩ := hlc
      rw [← Option.some.inj hc0] at g1
      cases g1
      simp [tab1, rawInt] at g2
    have hcg := hg2 _ _ hc65 hc0
    clear N9 g3
    walk_at "go"
    (with_reducible rename Fr _ _ _ _ => F11); (with_reducible rename News _ _ _ _ => N11)
    obtain ⟨D, z1, z2, z3, z4, z5, z6, z7, z8, z9, z10, zl⟩ := rule_new (p := w.params) (lr := lr) (b := b) N11 (List.Mem.tail _ (List.Mem.tail _ (List.Mem.tail _ (List.Mem.head _)))) (List.Mem.tail _ (List.Mem.tail _ (List.Mem.tail _ (List.Mem.tail _ (List.Mem.head _))))) (List.Mem.head _) (List.Mem.tail _ (List.Mem.tail _ (List.Mem.tail _ (List.Mem.tail _ (List.Mem.tail _ (List.Mem.head _)))))) (F11.keep _ _ hcg)
    have w1 := (N11 _ (List.Mem.tail _ (List.Mem.tail _ (List.Mem.tail _ (List.Mem.head _))))).2.2
    have w2 := (N11 _ (List.Mem.tail _ (List.Mem.tail _ (List.Mem.tail _ (List.Mem.tail _ (List.Mem.head _)))))).2.2
    have w3 := (N11 _ (List.Mem.head _)).2.2
    have w4 := (N11 _ (List.Mem.tail _ (List.Mem.tail _ (List.Mem.tail _ (List.Mem.tail _ (List.Mem.tail _ (List.Mem.head _))))))).2.2
    have w6 := N11 _ (List.Mem.tail _ (List.Mem.tail _ (List.Mem.tail _ (List.Mem.tail _ (List.Mem.tail _ (List.Mem.tail _ (List.Mem.head _)))))))
    dsimp only at n65 w1 w2 w3 w4 ⊢
    rw [← z1]
    refine hQ _ _ D c0 (fun a o hne e => F11.keep a o (hg2 a o hne e)) w6.1 z5 zl ⟨⟨_, _, by rw [z8, z4, z5]; exact hfo⟩, by rw [z9, z6]; exact d1, by rw [z10]; exact hlc⟩ z7 z6 ⟨by rw [z1]; exact hfr _ w1 pr, by rw [z2]; exact hfr _ w2 pd, by rw [z3]; exact hfr _ w3 (Nat.ne_of_gt n65), by rw [z4]; exact hfr _ w4 (Ne.symm nq), .inr rfl⟩
end Mine
end secA11r
section secA11c
namespace Mine
/-- a lambda of one's own, entered from the caller's own heap -/
theorem call_lam {prog : Program} {w : World} {A : Around} {s : Shared} {R : Result → Shared → Prop} {name qual : Str} {params : Arguments} {body : PySem.Expr} {scope : Scope} {cl : List (Str × Addr)} {pm ctv : Value} {c' f : Addr} {args : Args} {binds : List (Str × Value)}
    (ho : s.heap.get? f = some (kla_obj name qual params body scope cl pm c' ctv)) (hcd : s.heap.CodeRec (.ref c') qual) (hlim : s.heap.NoLimit) (hroom : A.depth < recursionLimit)
    (hbind : bindArgs (kla_fn name qual params body scope cl pm (.ref c') ctv) args = pure binds) (hloc : ∀ y ∈ binds, scope.names.lookup y.1 = some .local)
    (h : ∀ h₁, Fr s.heap s.heap.objs.size h₁ (fun y => binds.reverse.lookup y) →
      wpAny (model prog w) (A.deeper (envX qual scope s.heap.objs.size f (.ref c') cl)) (eval body (envX qual scope s.heap.objs.size f (.ref c') cl))
        (fun v s' => R (.ok (.ret v)) s') (fun _ _ => False) { s with heap := h₁, toks := s.toks + binds.length })
    (hco : scope.isCoroutine = false) (hgen : scope.isGenerator = false) (hk : scope.kind = .function)
    (hcell : ∀ x ∈ scope.names, x.2 ≠ .cell) : codeAny (model prog w) A (.call (.ref f) args) R s := by
  refine kla_callFunE hroom ho rfl hco hgen rfl hcd ?_
  rw [hbind]
  refine wpAny_pure (wpAny_newFunctionEnv hcell hloc (fun h₁ hns hsb => ⟨hlim.fresh _ hsb, ?_⟩) hk)
  show codeAny _ _ (.expr body (envX qual scope s.heap.objs.size f (.ref c') cl)) _ _
  have hk₁ : ∀ b o, s.heap.get? b = some o → h₁.get? b = some o := fun b o e => hsb.extBut b o (Nat.ne_of_lt (Heap.lt_size e)) (Heap.get?_push_of_some _ e)
  exact kla_codeExpr (wpAny_mono (h h₁ ⟨hns, hk₁, Nat.le_refl _⟩) (fun v s' hl => hl) fun _ _ y => y.elim)
local macro_rules | `(tactic| walk_at "go") => `(tactic| repeat' (first | (k_unfold; (try dsimp only)) | walk1 | (dsimp only; walk1)))
local macro_rules | `(tactic| k_handed) => `(tactic| (with_reducible assumption))
local macro_rules | `(tactic| walk_at $k9:str) => if ["call builtin:list.index"].contains k9.getString || (k9.getString.startsWith "subscriptTail" && k9.getString.endsWith "ref int") then `(tactic| refine Stop.of ?_) else Lean.Macro.throwUnsupported
local macro_rules | `(tactic| walk_at "eval Name") => `(tactic| (name_kind "free"; refine Stop.of ?_))
theorem ct_reach {w : World} {A : Around} {s : Shared} {Q E : Value → Shared → Prop} {mean : ExcName → Option Value} {mg mb : Str → Option Value} {D : RuleD} {v0 v1 : Value} {n : Nat} {t : Tok}
   (X : (hd11.heap_39 w.params).In s.heap) (T : Top topProg (looseW hd11.view_39 [] ++ (recsOf hd11.view_39).map (·.name) ++ (litsOf hd11.view_39).map (·.1) ++ (clssOf hd11.view_39 (looseW hd11.view_39 [])).map (·.name)) mean mg mb s.heap) (hd : A.depth + 10 < recursionLimit) (hh : A.handled = none)
   (hD : ∀ q ∈ ruleLed w.params D, s.heap.get? q.1 = some q.2) (hok : RuleOk w.params D) (hl : s.heap.get? D.lr = some (W.listOf [v0, v1].toArray n)) (h0 : handedIn v0 = true) (h1 : handedIn v1 = true)
   (x : Str) (hx : x = Str.ofString "/a" ∨ x = Str.ofString "/b")
   (hQ : ∀ h' tk, Ext s.heap h' → Q (if x = Str.ofString "/a" then v0 else v1) {s with heap := h', toks := tk}) :
   wpAny (model Challenge.rw_dn0256_11.row.prog w) A (call (.ref D.f) [.str x t]) Q E s := by
  obtain ⟨⟨pm, ctv, e1⟩, e2, vs, tq, e3, e4⟩ := hok
  have hf := hD _ (List.Mem.tail _ (List.Mem.tail _ (List.Mem.head _)))
  have hq := hD _ (List.Mem.tail _ (List.Mem.tail _ (List.Mem.tail _ (List.Mem.head _))))
  have hc := hD _ (List.Mem.tail _ (List.Mem.tail _ (List.Mem.tail _ (List.Mem.tail _ (List.Mem.head _)))))
  dsimp only at hf hq hc
  rw [e1] at hf
  unfold lamObj at hf
  generalize hz : lamOf ((hd11.heap_39 w.params).lookup 70) = z at hf
  conv at hz => lhs; whnf
  subst hz
  dsimp only at hf
  refine wpAny_call ?_
  refine call_lam (binds := [(Str.ofString "name", Value.str x t)]) hf ⟨D.c, D.oc, vs, tq, rfl, hc, e3, e4⟩ T.nolimit (by omega) rfl ?_ (fun h₁ F => ?_) rfl rfl rfl (by decide)
  · exact locs rfl
  replace F : Fr s.heap s.heap.objs.size h₁ (fun y => [(Str.ofString "name", Value.str x t)].reverse.lookup y) := F
  have N : News s.heap s.heap.objs.size h₁ [] := News.nil
  walk_at "go"
  refine wpAny_Name (wpAny_loadName_free rfl rfl rfl ⟨D.oq, F.keep _ _ hq, by rw [e2]⟩ ?_) (by decide)
  walk_at "go"
  rename_i l' h' F' N' _
  have hl' := N'.get (List.Mem.head _)
  have hl0 := F'.keep _ _ hl
  have fin : ∀ tk, Q (if x = Str.ofString "/a" then v0 else v1) {s with heap := h', toks := tk} := fun tk => hQ h' tk F'.keep
  rcases hx with rfl | rfl
  · refine call_meets PySem.F.slot_list_index ⟨_, hl', rfl⟩ PySem.F.entry_list_index (PySem.F.args_list_index_2 _ _)
      (PySem.SeqAt.list_indexAt l' _ 0 none #[] _ (fun y => match y with | .str z _ => z == Str.ofString "/a" | _ => false) 0 (by simp) (by decide) (by show (Str.ofString "/a" == Str.ofString "/a") = true; decide +kernel) (fun m _ hm => absurd hm (Nat.not_lt_zero _))) ⟨hl', ?_, ?_⟩
    · intro y hy
      simp only [List.mem_toArray, List.mem_cons, List.not_mem_nil, or_false] at hy
      rcases hy with rfl | rfl
      · exact eqAt_str _ _ _ _
      · exact eqAt_str _ _ _ _
    · exact item_listR (k := 0) ⟨_, hl0, rfl, _, rfl⟩ (by decide) (by decide) (by rfl) (fin _)
  · refine call_meets PySem.F.slot_list_index ⟨_, hl', rfl⟩ PySem.F.entry_list_index (PySem.F.args_list_index_2 _ _)
      (PySem.SeqAt.list_indexAt l' _ 0 none #[] _ (fun y => match y with | .str z _ => z == Str.ofString "/b" | _ => false) 1 (by simp) (by decide) (by show (Str.ofString "/b" == Str.ofString "/b") = true; decide +kernel) (fun m _ hm => by obtain rfl : m = 0 := (by omega); show (Str.ofString "/a" == Str.ofString "/b") = false; decide +kernel)) ⟨hl', ?_, ?_⟩
    · intro y hy
      simp only [List.mem_toArray, List.mem_cons, List.not_mem_nil, or_false] at hy
      rcases hy with rfl | rfl
      · exact eqAt_str _ _ _ _
      · exact eqAt_str _ _ _ _
    · exact item_listR (k := 1) ⟨_, hl0, rfl, _, rfl⟩ (by decide) (by decide) (by rfl) (fin _)
end Mine
end secA11c
section secP11
namespace Mine
/-- a rule of the law's with what it reaches -/
structure RuleS where
  D : RuleD
  x0 : Int
  x1 : Int
  t0 : Tok
  t1 : Tok
  n : Nat
noncomputable def RuleS.lst (Z : RuleS) : Obj := W.listOf [Value.int Z.x0 Z.t0, Value.int Z.x1 Z.t1].toArray Z.n
noncomputable def fullLed (p : Params) (Z : RuleS) : List (Addr × Obj) := (Z.D.lr, Z.lst) :: ruleLed p Z.D
structure RuleAt (p : Params) (h : Heap) (Z : RuleS) : Prop where
  led : ∀ q ∈ fullLed p Z, h.get? q.1 = some q.2
  ok : RuleOk p Z.D
noncomputable def reachOf (x : Str) (Z : RuleS) : Int := if x = Str.ofString "/a" then Z.x0 else Z.x1
noncomputable def stepA (f : RuleS → Int) (st : Int × Bool) (Z : RuleS) : Int × Bool :=
  if f Z = 0 then st else if st.1 < f Z then (f Z, Z.D.b) else if f Z = st.1 ∧ st.2 = false then (st.1, Z.D.b) else st
noncomputable def allowF (f : RuleS → Int) (zs : List RuleS) : Bool := (zs.foldl (stepA f) (-1, true)).2
noncomputable def scoreOf (f : RuleS → Int) (Z : RuleS) : Int := 2 * f Z + (if Z.D.b then 1 else 0)
/-- the scores of the law -/
noncomputable def scores (f : RuleS → Int) (zs : List RuleS) : List Int := (zs.filter fun Z => decide (0 < f Z)).map (scoreOf f)
noncomputable def topOf (f : RuleS → Int) (zs : List RuleS) : Int := (scores f zs).foldl max 1
theorem topOf_snoc (f : RuleS → Int) (zs : List RuleS) (Z : RuleS) : topOf f (zs ++ [Z]) = if 0 < f Z then max (topOf f zs) (scoreOf f Z) else topOf f zs := by
  unfold topOf scores
  by_cases h : 0 < f Z
  · simp [h, List.filter_append, List.foldl_append]
  · simp [h, List.filter_append]
theorem allow_top {f : RuleS → Int} : ∀ (n : Nat) (zs : List RuleS), zs.length = n → (∀ Z ∈ zs, 0 ≤ f Z) →
    (zs.foldl (stepA f) (-1, true) = (-1, true) ∧ topOf f zs = 1) ∨ (0 < (zs.foldl (stepA f) (-1, true)).1 ∧ topOf f zs = 2 * (zs.foldl (stepA f) (-1, true)).1 + (if (zs.foldl (stepA f) (-1, true)).2 then 1 else 0))
  | 0, zs, hn, _ => by
    have e : zs = [] := List.length_eq_zero_iff.mp hn
    subst e
    exact .inl ⟨rfl, rfl⟩
  | n + 1, zs, hn, h0 => by
    obtain ⟨ys, Z, rfl⟩ : ∃ ys Z, zs = ys ++ [Z] := by
      have hne : zs ≠ [] := fun e => by rw [e] at hn; cases hn
      exact ⟨zs.dropLast, zs.getLast hne, (List.dropLast_concat_getLast hne).symm⟩
    have hZ := h0 Z (by simp)
    have ih := allow_top n ys (by simpa using hn) (fun W hW => h0 W (by simp [hW]))
    rw [List.foldl_append, List.foldl_cons, List.foldl_nil, topOf_snoc]
    generalize ys.foldl (stepA f) (-1, true) = st at ih ⊢
    obtain ⟨b, a⟩ := st
    generalize topOf f ys = tp at ih ⊢
    unfold stepA scoreOf
    generalize f Z = m at hZ ⊢
    generalize Z.D.b = zb
    dsimp only at ih ⊢
    rcases ih with ⟨e, rfl⟩ | ⟨hb, rfl⟩
    · cases e
      by_cases hm : m = 0
      · subst hm; left; exact ⟨rfl, rfl⟩
      · right
        rw [if_neg hm, if_pos (by omega), if_pos (by omega)]
        refine ⟨by dsimp only; omega, ?_⟩
        dsimp only
        cases zb <;> simp <;> omega
    · right
      by_cases hm : m = 0
      · subst hm; rw [if_pos rfl, if_neg (by omega)]; exact ⟨hb, rfl⟩
      · rw [if_neg hm, if_pos (show 0 < m by omega)]
        by_cases h1 : b < m
        · rw [if_pos h1]
          refine ⟨by dsimp only; omega, ?_⟩
          dsimp only
          cases zb <;> cases a <;> simp <;> omega
        · rw [if_neg h1]
          by_cases h2 : m = b ∧ a = false
          · obtain ⟨rfl, rfl⟩ := h2
            rw [if_pos ⟨rfl, rfl⟩]
            refine ⟨hb, ?_⟩
            cases zb <;> simp
            omega
          · rw [if_neg h2]
            refine ⟨hb, ?_⟩
            dsimp only
            cases a
            · have h3 : m ≠ b := fun e => h2 ⟨e, rfl⟩
              cases zb <;> simp <;> omega
            · cases zb <;> simp <;> omega
theorem allow_odd {f : RuleS → Int} {zs : List RuleS} (h : ∀ Z ∈ zs, 0 ≤ f Z) : allowF f zs = decide (Int.fmod (topOf f zs) 2 = 1) := by
  unfold allowF
  rcases allow_top zs.length zs rfl h with ⟨e, h1⟩ | ⟨hb, h1⟩
  · rw [e, h1]; rfl
  · rw [h1]
    rw [Int.fmod_eq_emod_of_nonneg _ (by decide)]
    generalize zs.foldl (stepA f) (-1, true) = st
    obtain ⟨b, a⟩ := st
    dsimp only
    cases a
    · symm; rw [decide_eq_false_iff_not, if_neg (by decide)]; omega
    · symm; rw [decide_eq_true_iff, if_pos rfl]; omega
theorem foldl_max (l : List Int) : ∀ (a b : Int), l.foldl max (max a b) = max a (l.foldl max b) := by
  induction l with
  | nil => intro a b; rfl
  | cons c r ih => intro a b; rw [List.foldl_cons, List.foldl_cons, show max (max a b) c = max a (max b c) by omega, ih]
theorem topOf_app {f : RuleS → Int} (as bs : List RuleS) : topOf f (as ++ bs) = max (topOf f as) (topOf f bs) := by
  unfold topOf scores
  rw [List.filter_append, List.map_append, List.foldl_append]
  have h1 : ∀ l : List Int, 1 ≤ l.foldl max 1 := fun l => by
    have := foldl_max l 1 1
    rw [show max (1 : Int) 1 = 1 from rfl] at this
    rw [this]; omega
  generalize hx : List.foldl max 1 (List.map (scoreOf f) (List.filter (fun Z => decide (0 < f Z)) as)) = x
  have hx1 : 1 ≤ x := by rw [← hx]; exact h1 _
  rw [← foldl_max, show max x 1 = x by omega]
/-- the allowance of joined rules -/
theorem allow_join {f : RuleS → Int} {as bs : List RuleS} (ha : ∀ Z ∈ as, 0 ≤ f Z) (hb : ∀ Z ∈ bs, 0 ≤ f Z) : allowF f (as ++ bs) = decide (Int.fmod (max (topOf f as) (topOf f bs)) 2 = 1) := by
  rw [allow_odd (fun Z hZ => (List.mem_append.mp hZ).elim (ha Z) (hb Z)), topOf_app]
end Mine
end secP11
section secA11d
namespace Mine
noncomputable def ruleRefs (zs : List RuleS) : List Value := zs.map fun Z => Value.ref Z.D.r
theorem ruleRefs_get {zs : List RuleS} {i : Nat} {v : Value} (h : (ruleRefs zs)[i]? = some v) : ∃ Z, zs[i]? = some Z ∧ v = .ref Z.D.r := by
  unfold ruleRefs at h
  rw [List.getElem?_map] at h
  cases hR : zs[i]? with
  | none => rw [hR] at h; cases h
  | some R => rw [hR] at h; cases h; exact ⟨R, rfl, rfl⟩
noncomputable def stOf (f : RuleS → Int) (zs : List RuleS) (i : Nat) : Int × Bool := (zs.take i).foldl (stepA f) (-1, true)
theorem stOf_next {f : RuleS → Int} {zs : List RuleS} {i : Nat} {Z : RuleS} (h : zs[i]? = some Z) : stOf f zs (i + 1) = stepA f (stOf f zs i) Z := by
  unfold stOf
  rw [List.take_add_one, h, List.foldl_append]; rfl
noncomputable def JAl (NB : List (Addr × Obj)) (m₀ : Str → Option Value) (f : RuleS → Int) (zs : List RuleS) (i : Nat) (m : Str → Option Value) (nx : List (Addr × Obj)) : Prop :=
  nx = NB ∧ ∃ (t : Tok) (b : Int) (a : Bool), stOf f zs i = (b, a) ∧ m (Str.ofString "best_match") = some (.int b t) ∧ m (Str.ofString "allowance") = some (.bool a) ∧ ∀ y, [Str.ofString "best_match", Str.ofString "allowance", Str.ofString "line", Str.ofString "m"].contains y = false → m y = m₀ y
theorem mapAl {m₀ m₁ : Str → Option Value} {b : Int} {a : Bool} {t : Tok} (h1 : m₁ (Str.ofString "best_match") = some (.int b t)) (h2 : m₁ (Str.ofString "allowance") = some (.bool a)) (h : ∀ y, [Str.ofString "best_match", Str.ofString "allowance", Str.ofString "line", Str.ofString "m"].contains y = false → m₁ y = m₀ y) :
    m₁ = fun y => if y = Str.ofString "best_match" then some (.int b t) else if y = Str.ofString "allowance" then some (.bool a) else if [Str.ofString "best_match", Str.ofString "allowance", Str.ofString "line", Str.ofString "m"].contains y then m₁ y else m₀ y := by
  funext y
  by_cases e1 : y = Str.ofString "best_match"
  · rw [if_pos e1, e1, h1]
  · rw [if_neg e1]
    by_cases e2 : y = Str.ofString "allowance"
    · rw [if_pos e2, e2, h2]
    · rw [if_neg e2]
      cases hc : [Str.ofString "best_match", Str.ofString "allowance", Str.ofString "line", Str.ofString "m"].contains y with
      | true => simp
      | false => simp [h y hc]
theorem endAl {g h' : Heap} {L : Addr} {s₁ : Shared} {NB own : List (Addr × Obj)} {m₀ m' : Str → Option Value} {f : RuleS → Int} {zs : List RuleS} {Z : RuleS} {i tk : Nat} {st : Int × Bool} {t : Tok} {b : Int} {a : Bool} (F : Fr g L h' m') (N : News g L h' (NB ++ own)) (hoff : OwnOff own (NB.map (·.1)))
    (hne : stOf f zs (i + 1) = stepA f st Z) (h1 : m' (Str.ofString "best_match") = some (.int b t)) (h2 : m' (Str.ofString "allowance") = some (.bool a)) (hs : stepA f st Z = (b, a)) (hm : ∀ y, [Str.ofString "best_match", Str.ofString "allowance", Str.ofString "line", Str.ofString "m"].contains y = false → m' y = m₀ y) :
    InvEndG g L (JAl NB m₀ f zs (i + 1)) own s₁ { s₁ with heap := h', toks := tk } :=
  InvEndG.intro (nx := NB) F N ⟨rfl, t, b, a, hne.trans hs, h1, h2, hm⟩ hoff (fun q hq => List.mem_append_left _ hq) (fun q hq => List.mem_append_right _ hq)
theorem allow_done {f : RuleS → Int} {zs : List RuleS} {b : Int} {a : Bool} (h : stOf f zs (ruleRefs zs).length = (b, a)) : allowF f zs = a := by
  unfold stOf at h
  rw [List.take_of_length_le (by simp [ruleRefs])] at h
  unfold allowF; rw [h]
section
variable {prog : Program} {w : World} {A : Around} {E : Value → Shared → Prop} {s : Shared} {t : Tok} {Q : Bool → Shared → Prop} {n : Int}
theorem truthyI_t (h : n ≠ 0) (hq : Q true s) : wpAny (model prog w) A (truthy (.int n t)) Q E s := truthy_int (by rw [show (n != 0) = true from bne_iff_ne.mpr h]; exact hq)
theorem truthyI_f (h : n = 0) (hq : Q false s) : wpAny (model prog w) A (truthy (.int n t)) Q E s := truthy_int (by subst h; exact hq)
end
noncomputable def reachTok (x : Str) (Z : RuleS) : Tok := if x = Str.ofString "/a" then Z.t0 else Z.t1
theorem reach_val (x : Str) (Z : RuleS) : (if x = Str.ofString "/a" then Value.int Z.x0 Z.t0 else Value.int Z.x1 Z.t1) = Value.int (reachOf x Z) (reachTok x Z) := by
  unfold reachOf reachTok; split <;> rfl
theorem fnAt_rule {p : Params} {h₀ h : Heap} {L : Addr} {m : Str → Option Value} {Z : RuleS} (hZ : RuleAt p h₀ Z) (F : Fr h₀ L h m) : FnAt Z.D.f h := by
  obtain ⟨⟨pm, ctv, e1⟩, _⟩ := hZ.ok
  have hf := hZ.led _ (List.Mem.tail _ (List.Mem.tail _ (List.Mem.tail _ (List.Mem.head _))))
  dsimp only at hf
  rw [e1] at hf
  exact ⟨_, _, _, _, F.keep _ _ hf⟩
local macro_rules | `(tactic| walk_at "go") => `(tactic| repeat' (first | (k_unfold; (try dsimp only)) | walk1 | (dsimp only; walk1)))
local macro_rules | `(tactic| walk_at $k9:str) => if ["exec For", "call ref", "callWith ref", "callWith", "InvEndG"].contains k9.getString then `(tactic| refine Stop.of ?_) else Lean.Macro.throwUnsupported
local macro_rules | `(tactic| k_inst) => `(tactic| (refine instBase (by with_reducible assumption) (by with_reducible assumption) (by with_reducible assumption)))
local macro_rules | `(tactic| k_handed) => `(tactic| (with_reducible assumption))
local macro_rules | `(tactic| walk_at "getMethod ref") => `(tactic| (k_here; k_dflt (refine' method_shadow ?k1 ?k2 ?k3 ?k4 ?k5 ?k6 ?k7 ?k8 ?k9 ?k10 ?k11 ?_; (case k1 => with_reducible assumption); (case k2 => with_reducible assumption); (case k3 => k_inst); (case k4 => k_is); (case k5 => k_is); (case k6 => k_is); (case k7 => k_is); (case k8 => k_is); (case k9 => k_is); (case k10 => k_get); (case k11 => first | exact rfl | with_reducible assumption); k_whole)))
local macro_rules | `(tactic| walk_at "getAttr ref") => `(tactic| (k_here; (with_reducible show wpAny _ _ (getAttr (Value.ref _) (PySem.Str.ofString "allowance") _) _ _ _); k_dflt (refine' get_shadow ?k1 ?k2 ?k3 ?k4 ?k5 ?k6 ?k8 ?k9 ?k10 ?k11 ?_; (case k1 => with_reducible assumption); (case k2 => with_reducible assumption); (case k3 => k_inst); (case k4 => k_is); (case k5 => k_is); (case k6 => k_is); (case k8 => k_is); (case k9 => k_is); (case k10 => k_get); (case k11 => first | exact rfl | with_reducible assumption); k_whole)))
local macro_rules | `(tactic| walk_at "compareOp Gt int int") => `(tactic| (k_here; first | refine gtI_t (by omega) ?_ | refine gtI_f (by omega) ?_))
local macro_rules | `(tactic| walk_at "compareOp Eq int int") => `(tactic| (k_here; first | refine eqI_t (by omega) ?_ | refine eqI_f (by omega) ?_))
local macro_rules | `(tactic| walk_at "truthy int") => `(tactic| first | refine truthyI_t (by omega) ?_ | refine truthyI_f (by omega) ?_)
theorem ct_allow {w : World} {A : Around} {s : Shared} {Q E : Value → Shared → Prop} {mean : ExcName → Option Value} {mg mb : Str → Option Value} {R1 : RecD} {zs : List RuleS} {x : Str} {t : Tok}
   (X : (hd11.heap_39 w.params).In s.heap) (T : Top topProg (looseW hd11.view_39 [] ++ (recsOf hd11.view_39).map (·.name) ++ (litsOf hd11.view_39).map (·.1) ++ (clssOf hd11.view_39 (looseW hd11.view_39 [])).map (·.name)) mean mg mb s.heap) (hd : A.depth + 20 < recursionLimit) (hh : A.handled = none)
   (x1 : RecAt w.params 52 s.heap R1) (hs1 : R1.ls = ruleRefs zs) (hz : ∀ Z ∈ zs, RuleAt w.params s.heap Z) (hx : x = Str.ofString "/a" ∨ x = Str.ofString "/b")
   (hQ : ∀ h' tk, Ext s.heap h' → Q (.bool (allowF (reachOf x) zs)) {s with heap := h', toks := tk}) :
   wpAny (model Challenge.rw_dn0256_11.row.prog w) A (call (.ref 49) [.ref R1.r, .str x t]) Q E s := by
  revert X
  k_fill
  intro X
  have x1' := x1
  obtain ⟨r1, d1, u1, l1, us1, ls1, dv1, rv1, a1, a2, a3, a4, cu1, cl1⟩ := R1
  obtain ⟨y1, y2, y3, y4⟩ := x1'
  dsimp only [recDict] at y1 y2 y3 y4 hs1 hQ
  clear x1
  refine wpAny_call ?_
  refine' call_defK (f := 49) X ?k6 ?k7 T.nolimit (by omega) ?k9 ?kB ?_ ?c2 ?c3 ?c4 ?c5
  case k6 => k_is
  case k7 => k_is
  case k9 => exact BindsTo.of_eq rfl
  case kB => exact locs rfl
  case c2 => exact rfl
  case c3 => exact rfl
  case c4 => exact rfl
  case c5 => decide +kernel
  intro h₁ tk1 F
  replace F : Fr s.heap s.heap.objs.size h₁ (fun y => [(Str.ofString "self", Value.ref r1), (Str.ofString "filename", Value.str x t)].reverse.lookup y) := F
  have N : News s.heap s.heap.objs.size h₁ [] := News.nil
  walk_at "go"
  refine Stop.go ?_
  (with_reducible rename Fr _ _ _ _ => F2); (with_reducible rename News _ _ _ _ => N2)
  have ll1 : s.heap.IsList l1 ls1.toArray := ⟨_, y4, rfl, _, rfl⟩
  subst hs1
  refine iter_anyG (JAl _ _ (reachOf x) zs) hh ll1 F2 N2 ⟨rfl, _, _, _, rfl, rfl, rfl, fun _ _ => rfl⟩ ?turn1 ?done1
  case turn1 =>
    rintro i v m₁ news₁ h tk own hv hoff ⟨rfl, tb, b, a, hst, hb, ha, hm⟩ F3 N3
    clear F2 N2
    obtain ⟨Z, hZ, rfl⟩ := ruleRefs_get hv
    have hZa := hz Z (List.mem_of_getElem? hZ)
    have hne := stOf_next (f := reachOf x) hZ
    rw [hst] at hne
    rw [mapAl hb ha hm] at F3
    dsimp only [List.cons_append, List.nil_append] at N3
    have z1 := hZa.led _ (List.Mem.tail _ (List.Mem.head _))
    have z2 := hZa.led _ (List.Mem.tail _ (List.Mem.tail _ (List.Mem.head _)))
    have z3 := hZa.led _ (List.Mem.head _)
    dsimp only [ruleDict] at z1 z2 z3
    unfold RuleS.lst at z3
    walk_at "go"
    refine Stop.go ?_
    (with_reducible rename Fr _ _ _ _ => F4); (with_reducible rename News _ _ _ _ => N4)
    have hfn := fnAt_rule hZa F4
    refine callWith_F hfn ?_
    walk_at "go"
    · exact hfn
    refine Stop.go ?_
    refine ct_reach (D := Z.D) (v0 := Value.int Z.x0 Z.t0) (v1 := Value.int Z.x1 Z.t1) (n := Z.n) (A := A.deeper _) (Frag.In.keeps X F4.keep) (Top.keeps T F4.keep) (by (simp only [depth_deeper]; omega)) hh (fun q hq => F4.keep _ _ (hZa.led q (List.Mem.tail _ hq))) hZa.ok (F4.keep _ _ z3) rfl rfl x hx (fun h5 tk5 e5 => ?_)
    have hrv := reach_val x Z
    rw [hrv]
    have F5 := F4.keeps e5
    have N5 := newsExt N4 e5
    clear F4 N4 e5 hfn hrv
    dsimp only at N5 F5 ⊢
    obtain ⟨mv, hmv⟩ : ∃ y, y = reachOf x Z := ⟨_, rfl⟩
    obtain ⟨mt, hmt⟩ : ∃ y, y = reachTok x Z := ⟨_, rfl⟩
    rw [← hmv, ← hmt]
    have hcase : mv = 0 ∨ (mv ≠ 0 ∧ b < mv) ∨ (mv ≠ 0 ∧ mv = b ∧ a = false) ∨ (mv ≠ 0 ∧ mv = b ∧ a = true) ∨ (mv ≠ 0 ∧ mv < b) := by
      rcases Int.lt_trichotomy mv b with h | h | h
      · by_cases h0 : mv = 0
        · exact .inl h0
        · exact .inr (.inr (.inr (.inr ⟨h0, h⟩)))
      · by_cases h0 : mv = 0
        · exact .inl h0
        · cases a
          · exact .inr (.inr (.inl ⟨h0, h, rfl⟩))
          · exact .inr (.inr (.inr (.inl ⟨h0, h, rfl⟩)))
      · by_cases h0 : mv = 0
        · exact .inl h0
        · exact .inr (.inl ⟨h0, h⟩)
    rcases hcase with h0 | ⟨h0, h1⟩ | ⟨h0, h1, h2⟩ | ⟨h0, h1, h2⟩ | ⟨h0, h1⟩
    · walk_at "go"
      refine Stop.go ?_
      (with_reducible rename Fr _ _ _ _ => F8); (with_reducible rename News _ _ _ _ => N8)
      refine endAl F8 N8 hoff hne rfl rfl (by rw [stepA, ← hmv, if_pos h0]) (fun y hy => ?_)
      have q1 := off_str hy (List.Mem.head _)
      have q2 := off_str hy (List.Mem.tail _ (List.Mem.head _))
      have q3 := off_str hy (List.Mem.tail _ (List.Mem.tail _ (List.Mem.head _)))
      have q4 := off_str hy (List.Mem.tail _ (List.Mem.tail _ (List.Mem.tail _ (List.Mem.head _))))
      simp only [if_neg q1, if_neg q2, if_neg q3, if_neg q4, hy, Bool.false_eq_true, if_false]
    · walk_at "go"
      refine Stop.go ?_
      (with_reducible rename Fr _ _ _ _ => F8); (with_reducible rename News _ _ _ _ => N8)
      refine endAl F8 N8 hoff hne rfl rfl (by rw [stepA, ← hmv, if_neg h0, if_pos h1]) (fun y hy => ?_)
      have q1 := off_str hy (List.Mem.head _)
      have q2 := off_str hy (List.Mem.tail _ (List.Mem.head _))
      have q3 := off_str hy (List.Mem.tail _ (List.Mem.tail _ (List.Mem.head _)))
      have q4 := off_str hy (List.Mem.tail _ (List.Mem.tail _ (List.Mem.tail _ (List.Mem.head _))))
      simp only [if_neg q1, if_neg q2, if_neg q3, if_neg q4, hy, Bool.false_eq_true, if_false]
    · subst h2
      walk_at "go"
      refine Stop.go ?_
      (with_reducible rename Fr _ _ _ _ => F8); (with_reducible rename News _ _ _ _ => N8)
      refine endAl F8 N8 hoff hne rfl rfl (by rw [stepA, ← hmv, if_neg h0, if_neg (show ¬ b < mv by omega), if_pos ⟨h1, rfl⟩]) (fun y hy => ?_)
      have q1 := off_str hy (List.Mem.head _)
      have q2 := off_str hy (List.Mem.tail _ (List.Mem.head _))
      have q3 := off_str hy (List.Mem.tail _ (List.Mem.tail _ (List.Mem.head _)))
      have q4 := off_str hy (List.Mem.tail _ (List.Mem.tail _ (List.Mem.tail _ (List.Mem.head _))))
      simp only [if_neg q1, if_neg q2, if_neg q3, if_neg q4, hy, Bool.false_eq_true, if_false]
    · subst h2
      walk_at "go"
      refine Stop.go ?_
      (with_reducible rename Fr _ _ _ _ => F8); (with_reducible rename News _ _ _ _ => N8)
      refine endAl F8 N8 hoff hne rfl rfl (by rw [stepA, ← hmv, if_neg h0, if_neg (show ¬ b < mv by omega), if_neg (fun e => by cases e.2)]) (fun y hy => ?_)
      have q1 := off_str hy (List.Mem.head _)
      have q2 := off_str hy (List.Mem.tail _ (List.Mem.head _))
      have q3 := off_str hy (List.Mem.tail _ (List.Mem.tail _ (List.Mem.head _)))
      have q4 := off_str hy (List.Mem.tail _ (List.Mem.tail _ (List.Mem.tail _ (List.Mem.head _))))
      simp only [if_neg q1, if_neg q2, if_neg q3, if_neg q4, hy, Bool.false_eq_true, if_false]
    · walk_at "go"
      refine Stop.go ?_
      (with_reducible rename Fr _ _ _ _ => F8); (with_reducible rename News _ _ _ _ => N8)
      refine endAl F8 N8 hoff hne rfl rfl (by rw [stepA, ← hmv, if_neg h0, if_neg (show ¬ b < mv by omega), if_neg (fun e => by have := e.1; dsimp only at this; omega)]) (fun y hy => ?_)
      have q1 := off_str hy (List.Mem.head _)
      have q2 := off_str hy (List.Mem.tail _ (List.Mem.head _))
      have q3 := off_str hy (List.Mem.tail _ (List.Mem.tail _ (List.Mem.head _)))
      have q4 := off_str hy (List.Mem.tail _ (List.Mem.tail _ (List.Mem.tail _ (List.Mem.head _))))
      simp only [if_neg q1, if_neg q2, if_neg q3, if_neg q4, hy, Bool.false_eq_true, if_false]
  case done1 =>
    rintro m₁ news₁ h tk ⟨rfl, tb, b, a, hst, hb, ha, hm⟩ F3 N3
    clear F2 N2
    rw [mapAl hb ha hm] at F3
    walk_at "go"
    (with_reducible rename Fr _ _ _ _ => F8)
    have hq9 := hQ _ tk F8.keep
    rw [allow_done hst] at hq9
    exact hq9
end Mine
end secA11d
section secA11h
open PySem PySem.W PyProof.Rows PyProof.Rows.LCg
namespace Mine
theorem news_take {g h : Heap} {L : Addr} {l : Led} (n : Nat) (N : News g L h l) : ∃ nw, nw = l.take n ∧ News g L h (l.drop n ++ nw) := ⟨_, rfl, fun q hq => N q (by
  rcases List.mem_append.mp hq with h | h
  · exact List.mem_of_mem_drop h
  · exact List.mem_of_mem_take h)⟩
end Mine
namespace Mine
theorem grow_rec {p : Params} {C L : Addr} {g h₁ : Heap} {cells nw : Led} {R : RecD} (N : News g L h₁ (cells ++ nw)) (ho : OwnOff nw (cells.map (·.1))) (hnew : RecNew h₁ R) : OwnOff (recLed p C R ++ nw) (cells.map (·.1)) := by
  intro q hq a ha e
  rcases List.mem_append.mp hq with hq | hq
  · obtain ⟨z, hz, rfl⟩ := List.mem_map.mp ha
    have h1 := rec_fresh (p := p) (C := C) hnew q hq
    rw [e, (N z (List.mem_append.mpr (.inl hz))).1] at h1
    cases h1
  · exact ho q hq a ha e
theorem news_rec2 {p : Params} {C L : Addr} {g h₁ h : Heap} {m : Str → Option Value} {R : RecD} {cells nw : Led} (F : Fr g L h₁ m) (N : News g L h₁ (cells ++ nw)) (e : Ext h₁ h) (x : RecAt p C h R) (hnew : RecNew h₁ R) : News g L h (cells ++ (recLed p C R ++ nw)) := fun q hq => by
  have h1 := newsApp (news_rec F x hnew) (newsExt N e)
  refine h1 q ?_
  simp only [List.mem_append] at hq ⊢
  rcases hq with h | h | h
  · exact .inr (.inl h)
  · exact .inl h
  · exact .inr (.inr h)
end Mine
namespace Mine
theorem new_off {h₀ h₁ : Heap} {L : Addr} {news : List (Addr × Obj)} {R : RecD} (N : News h₀ L h₁ news) (n : RecNew h₁ R) : ∀ q ∈ news, q.1 ∉ adr R := by
  intro q hq hm
  have hg := (N q hq).1
  simp only [adr, List.mem_cons, List.not_mem_nil, or_false] at hm
  rcases hm with e | e | e | e <;> rw [e] at hg
  · rw [n.2.2.1] at hg; cases hg
  · rw [n.2.2.2] at hg; cases hg
  · rw [n.1] at hg; cases hg
  · rw [n.2.1] at hg; cases hg
end Mine
end secA11h
section secA11k
open PySem PySem.W PyProof.Rows PyProof.Rows.LCg
namespace Mine
theorem strs_app2 : ∀ {vs us : List Value} {ss ts : List Str}, StrsAre vs ss → StrsAre us ts → StrsAre (vs ++ us) (ss ++ ts)
  | _, _, _, _, .nil, h => h
  | _, _, _, _, .cons x t r, h => .cons x t (strs_app2 r h)
noncomputable def kindN : Nat → Str
  | 0 => Str.ofString "fig"
  | 1 => Str.ofString "Fig"
  | 2 => Str.ofString "*"
  | 3 => Str.ofString "plum"
  | _ => Str.ofString "figs"
/-- where a record and its lists lie -/
structure AdrD where
  r : Addr
  d : Addr
  u : Addr
  l : Addr
  a : Addr
  p : Addr
  c0 : Addr
  c1 : Addr
  k1 : Tok
  k2 : Tok
  k3 : Tok
  k4 : Tok
/-- what a record and its lists hold -/
structure PerD where
  us : List Value
  cu : Nat
  zs : List RuleS
  cl : Nat
  av : List Value
  ca : Nat
  an : List Nat
  s0 : List Value
  n0 : Nat
  s1 : List Value
  n1 : Nat
noncomputable def toRec (A : AdrD) (P : PerD) : RecD := ⟨A.r, A.d, A.u, A.l, P.us, ruleRefs P.zs, .none, .none, A.k1, A.k2, A.k3, A.k4, P.cu, P.cl⟩
noncomputable def perLed (A : AdrD) (P : PerD) : Led := [(A.u, W.listOf P.us.toArray P.cu), (A.l, W.listOf (ruleRefs P.zs).toArray P.cl), (A.a, W.listOf P.av.toArray P.ca), (A.c0, W.listOf P.s0.toArray P.n0), (A.c1, W.listOf P.s1.toArray P.n1)]
noncomputable def adrs (A : AdrD) : List Addr := [A.u, A.l, A.a, A.c0, A.c1]
theorem perLed_adr (A : AdrD) (P : PerD) : (perLed A P).map (·.1) = adrs A := rfl
noncomputable def fixLed (p : Params) (A : AdrD) : Led := [(A.r, instObj 52 A.d), (A.d, recDict p (toRec A ⟨[], 0, [], 0, [], 0, [], [], 0, [], 0⟩)), (A.p, W.listOf [Value.ref A.c0, Value.ref A.c1].toArray 0)]
structure PerOk (n : Nat) (P : PerD) : Prop where
  us : StrsAre P.us (P.an.map kindN)
  av : IntsAre P.av (P.an.map Int.ofNat)
  an5 : ∀ a ∈ P.an, a < 5
  s0 : IntsAre P.s0 (1 :: scores (·.x0) P.zs)
  s1 : IntsAre P.s1 (1 :: scores (·.x1) P.zs)
  nn : P.an.length + P.zs.length ≤ n
  nr : ∀ Z ∈ P.zs, 0 ≤ Z.x0 ∧ Z.x0 ≤ 3 ∧ 0 ≤ Z.x1 ∧ Z.x1 ≤ 3
theorem PerOk.mono {n m : Nat} {P : PerD} (h : PerOk n P) (hn : n ≤ m) : PerOk m P := ⟨h.us, h.av, h.an5, h.s0, h.s1, Nat.le_trans h.nn hn, h.nr⟩
theorem IntsAre.len2 : ∀ {vs : List Value} {ns : List Int}, IntsAre vs ns → vs.length = ns.length
  | _, _, .nil => rfl
  | _, _, .cons _ _ r => congrArg (· + 1) (IntsAre.len2 r)
theorem scores_len (f : RuleS → Int) (zs : List RuleS) : (scores f zs).length ≤ zs.length := by
  unfold scores; rw [List.length_map]; exact List.length_filter_le _ _
theorem PerOk.lens {n : Nat} {P : PerD} (h : PerOk n P) : P.us.length ≤ n ∧ P.zs.length ≤ n ∧ P.av.length ≤ n ∧ P.s0.length ≤ n + 1 ∧ P.s1.length ≤ n + 1 := by
  have e1 := h.us.length
  have e2 := IntsAre.len2 h.av
  have e3 := IntsAre.len2 h.s0
  have e4 := IntsAre.len2 h.s1
  have l0 := scores_len (·.x0) P.zs
  have l1 := scores_len (·.x1) P.zs
  have := h.nn
  rw [List.length_map] at e1 e2
  rw [List.length_cons] at e3 e4
  refine ⟨by omega, by omega, by omega, by omega, by omega⟩
/-- the cells of the law and the table -/
structure CellsD where
  ck : Addr
  ca : Addr
  ci : Addr
  cf : Addr
  oA : Obj
  oI : Obj
  oF : Obj
noncomputable def fxs (Z : CellsD) : List Addr := [Z.ck, Z.ca, Z.ci, Z.cf, 65]
noncomputable def perLeds (ad : Nat → AdrD) (P : Nat → PerD) : Led := (List.range 4).flatMap fun x => perLed (ad x) (P x)
noncomputable def chAdr (Z : CellsD) (ad : Nat → AdrD) : List Addr := fxs Z ++ (List.range 4).flatMap fun x => adrs (ad x)
noncomputable def Led11 (Z : CellsD) (oK : Obj) (ps : Array Value) (ad : Nat → AdrD) (P : Nat → PerD) (RL : Led) : Led :=
  (Z.ck, oK) :: (Z.ca, Z.oA) :: (Z.ci, Z.oI) :: (Z.cf, Z.oF) :: (65, tabObj ps) :: (perLeds ad P ++ RL)
theorem mem_perLeds {ad : Nat → AdrD} {P : Nat → PerD} {q : Addr × Obj} : q ∈ perLeds ad P ↔ ∃ x, x < 4 ∧ q ∈ perLed (ad x) (P x) := by
  unfold perLeds
  rw [List.mem_flatMap]
  exact ⟨fun ⟨x, hx, h⟩ => ⟨x, List.mem_range.mp hx, h⟩, fun ⟨x, hx, h⟩ => ⟨x, List.mem_range.mpr hx, h⟩⟩
theorem led11_adr {Z : CellsD} {oK : Obj} {ps : Array Value} {ad : Nat → AdrD} {P : Nat → PerD} {RL : Led} : (Led11 Z oK ps ad P RL).map (·.1) = chAdr Z ad ++ RL.map (·.1) := by
  unfold Led11 chAdr perLeds fxs
  simp only [List.map_cons, List.map_append, List.map_flatMap, perLed_adr, List.cons_append, List.nil_append, List.append_assoc]
/-- the addresses that change are apart -/
structure Sep (Z : CellsD) (ad : Nat → AdrD) : Prop where
  fx : (fxs Z).Nodup
  nd : ∀ x, x < 4 → (adrs (ad x)).Nodup
  sep : ∀ x y, x < 4 → y < 4 → x ≠ y → ∀ a ∈ adrs (ad x), ∀ b ∈ adrs (ad y), a ≠ b
  fix : ∀ x, x < 4 → ∀ a ∈ adrs (ad x), ∀ b ∈ fxs Z, a ≠ b
theorem sep_of {Z : CellsD} {ad : Nat → AdrD} (h : (chAdr Z ad).Nodup) : Sep Z ad := by
  unfold chAdr at h
  rw [show List.range 4 = [0, 1, 2, 3] from rfl] at h
  simp only [List.flatMap_cons, List.flatMap_nil, List.append_nil] at h
  rw [List.nodup_append] at h
  obtain ⟨h1, h2, h3⟩ := h
  rw [List.nodup_append] at h2
  obtain ⟨n0, h4, h5⟩ := h2
  rw [List.nodup_append] at h4
  obtain ⟨n1, h6, h7⟩ := h4
  rw [List.nodup_append] at h6
  obtain ⟨n2, n3, h8⟩ := h6
  have four : ∀ x : Nat, x < 4 → x = 0 ∨ x = 1 ∨ x = 2 ∨ x = 3 := fun x hx => by omega
  refine ⟨h1, fun x hx => ?_, fun x y hx hy hxy a ha b hb => ?_, fun x hx a ha b hb => ?_⟩
  · rcases four x hx with rfl | rfl | rfl | rfl
    · exact n0
    · exact n1
    · exact n2
    · exact n3
  · rcases four x hx with rfl | rfl | rfl | rfl <;> rcases four y hy with rfl | rfl | rfl | rfl
    · exact absurd rfl hxy
    · exact h5 a ha b (by simp [hb])
    · exact h5 a ha b (by simp [hb])
    · exact h5 a ha b (by simp [hb])
    · exact (h5 b hb a (by simp [ha])).symm
    · exact absurd rfl hxy
    · exact h7 a ha b (by simp [hb])
    · exact h7 a ha b (by simp [hb])
    · exact (h5 b hb a (by simp [ha])).symm
    · exact (h7 b hb a (by simp [ha])).symm
    · exact absurd rfl hxy
    · exact h8 a ha b hb
    · exact (h5 b hb a (by simp [ha])).symm
    · exact (h7 b hb a (by simp [ha])).symm
    · exact (h8 b hb a ha).symm
    · exact absurd rfl hxy
  · refine (h3 b hb a ?_).symm
    rcases four x hx with rfl | rfl | rfl | rfl <;> simp [ha]
noncomputable def TabL (ps : Array Value) (RL : Led) : Prop := ps = #[] ∨ ∃ c oc, ps = tab1 c ∧ (c, oc) ∈ RL ∧ IsLamCode oc
noncomputable def RulesIn (p : Params) (zs : List RuleS) (RL : Led) : Prop := ∀ R ∈ zs, (∀ q ∈ fullLed p R, q ∈ RL) ∧ RuleOk p R.D
/-- the state of the script loop -/
noncomputable def J11s (p : Params) (Z : CellsD) (ad : Nat → AdrD) (RL0 : Led) (st : List Str) (m₀ : Str → Option Value) (i : Nat) (m : Str → Option Value) (nx : Led) : Prop :=
  ∃ P ps oK RL, nx = Led11 Z oK ps ad P RL ∧ (∃ vo, oK.data = .cell vo) ∧ OwnOff RL (chAdr Z ad) ∧ (∀ q ∈ RL0, q ∈ RL) ∧ TabL ps RL ∧ (∀ x, x < 4 → PerOk i (P x)) ∧ (∀ x, x < 4 → RulesIn p (P x).zs RL) ∧
    ∀ y, st.contains y = false → m y = m₀ y
/-- one record's lists in front -/
noncomputable def Front (Z : CellsD) (oK : Obj) (ps : Array Value) (A : AdrD) (P : PerD) (rest : Led) : Led :=
  (Z.ck, oK) :: (Z.ca, Z.oA) :: (A.u, W.listOf P.us.toArray P.cu) :: (A.l, W.listOf (ruleRefs P.zs).toArray P.cl) :: (A.a, W.listOf P.av.toArray P.ca) :: (A.c0, W.listOf P.s0.toArray P.n0) :: (A.c1, W.listOf P.s1.toArray P.n1) :: (65, tabObj ps) :: rest
noncomputable def frontAdr (Z : CellsD) (A : AdrD) : List Addr := [Z.ck, Z.ca, A.u, A.l, A.a, A.c0, A.c1, 65]
structure RestOf (Z : CellsD) (ad : Nat → AdrD) (P : Nat → PerD) (RL own : Led) (x : Nat) (rest : Led) : Prop where
  rl : ∀ q ∈ RL, q ∈ rest
  ow : ∀ q ∈ own, q ∈ rest
  per : ∀ y, y < 4 → y ≠ x → ∀ q ∈ perLed (ad y) (P y), q ∈ rest
  ci : (Z.ci, Z.oI) ∈ rest
  cf : (Z.cf, Z.oF) ∈ rest
  all : ∀ q ∈ rest, q ∈ RL ∨ q ∈ own ∨ (∃ y, y < 4 ∧ y ≠ x ∧ q ∈ perLed (ad y) (P y)) ∨ q = (Z.ci, Z.oI) ∨ q = (Z.cf, Z.oF)
theorem own_ch {Z : CellsD} {oK : Obj} {ps : Array Value} {ad : Nat → AdrD} {P : Nat → PerD} {RL own : Led} (h : OwnOff own ((Led11 Z oK ps ad P RL).map (·.1))) : OwnOff own (chAdr Z ad) ∧ OwnOff own (RL.map (·.1)) := by
  rw [led11_adr] at h
  exact ⟨fun q hq a ha => h q hq a (List.mem_append.mpr (.inl ha)), fun q hq a ha => h q hq a (List.mem_append.mpr (.inr ha))⟩
theorem mem_ch {Z : CellsD} {ad : Nat → AdrD} {x : Nat} (hx : x < 4) {a : Addr} (ha : a ∈ adrs (ad x)) : a ∈ chAdr Z ad :=
  List.mem_append.mpr (.inr (List.mem_flatMap.mpr ⟨x, List.mem_range.mpr hx, ha⟩))
theorem front_ch {Z : CellsD} {ad : Nat → AdrD} {x : Nat} (hx : x < 4) {a : Addr} (ha : a ∈ frontAdr Z (ad x)) : a ∈ chAdr Z ad := by
  unfold frontAdr at ha
  simp only [List.mem_cons, List.not_mem_nil, or_false] at ha
  have f : ∀ b, b ∈ fxs Z → b ∈ chAdr Z ad := fun b hb => List.mem_append.mpr (.inl hb)
  rcases ha with rfl | rfl | rfl | rfl | rfl | rfl | rfl | rfl
  · exact f _ (by simp [fxs])
  · exact f _ (by simp [fxs])
  · exact mem_ch hx (by simp [adrs])
  · exact mem_ch hx (by simp [adrs])
  · exact mem_ch hx (by simp [adrs])
  · exact mem_ch hx (by simp [adrs])
  · exact mem_ch hx (by simp [adrs])
  · exact f _ (by simp [fxs])
theorem pick11 {g h : Heap} {L : Addr} {Z : CellsD} {oK : Obj} {ps : Array Value} {ad : Nat → AdrD} {P : Nat → PerD} {RL own : Led} {x : Nat} (hx : x < 4) (S : Sep Z ad) (hRL : OwnOff RL (chAdr Z ad)) (hoff : OwnOff own ((Led11 Z oK ps ad P RL).map (·.1))) (N : News g L h (Led11 Z oK ps ad P RL ++ own)) :
    ∃ rest, RestOf Z ad P RL own x rest ∧ News g L h (Front Z oK ps (ad x) (P x) rest) ∧ OwnOff rest (frontAdr Z (ad x)) ∧ (frontAdr Z (ad x)).Nodup := by
  refine ⟨(Z.ci, Z.oI) :: (Z.cf, Z.oF) :: (((List.range 4).filter (fun y => decide (y ≠ x))).flatMap (fun y => perLed (ad y) (P y)) ++ (RL ++ own)), ?_, ?_, ?_, ?_⟩
  · refine ⟨fun q hq => by simp [hq], fun q hq => by simp [hq], fun y hy hyx q hq => ?_, List.Mem.head _, List.Mem.tail _ (List.Mem.head _), fun q hq => ?_⟩
    · refine List.Mem.tail _ (List.Mem.tail _ (List.mem_append.mpr (.inl (List.mem_flatMap.mpr ⟨y, ?_, hq⟩))))
      rw [List.mem_filter]; exact ⟨List.mem_range.mpr hy, by simpa using hyx⟩
    · simp only [List.mem_cons, List.mem_append, List.mem_flatMap, List.mem_filter, List.mem_range, decide_eq_true_eq] at hq
      rcases hq with h | h | ⟨y, ⟨h1, h2⟩, h3⟩ | h | h
      · exact .inr (.inr (.inr (.inl h)))
      · exact .inr (.inr (.inr (.inr h)))
      · exact .inr (.inr (.inl ⟨y, h1, h2, h3⟩))
      · exact .inl h
      · exact .inr (.inl h)
  · intro q hq
    refine N q ?_
    have hp : ∀ q ∈ perLed (ad x) (P x), q ∈ Led11 Z oK ps ad P RL ++ own := fun q hq => by
      refine List.mem_append.mpr (.inl ?_)
      unfold Led11
      refine List.mem_append.mpr (.inr ?_) |> fun (h : q ∈ [(Z.ck, oK), (Z.ca, Z.oA), (Z.ci, Z.oI), (Z.cf, Z.oF), (65, tabObj ps)] ++ (perLeds ad P ++ RL)) => h
      exact List.mem_append.mpr (.inl (mem_perLeds.mpr ⟨x, hx, hq⟩))
    unfold Front at hq
    simp only [List.mem_cons, List.mem_append, List.mem_flatMap, List.mem_filter, List.mem_range, decide_eq_true_eq] at hq
    rcases hq with h | h | h | h | h | h | h | h | h | h | ⟨y, ⟨h1, h2⟩, h3⟩ | h | h
    · simp [Led11, h]
    · simp [Led11, h]
    · exact hp q (by simp [perLed, h])
    · exact hp q (by simp [perLed, h])
    · exact hp q (by simp [perLed, h])
    · exact hp q (by simp [perLed, h])
    · exact hp q (by simp [perLed, h])
    · simp [Led11, h]
    · simp [Led11, h]
    · simp [Led11, h]
    · have := mem_perLeds.mpr ⟨y, h1, h3⟩
      simp [Led11, this]
    · simp [Led11, h]
    · simp [h]
  · intro q hq a ha
    have hc := front_ch hx ha
    have fi : ∀ b ∈ frontAdr Z (ad x), b ≠ Z.ci ∧ b ≠ Z.cf := fun b hb => by
      have f := S.fx
      simp only [fxs, List.nodup_cons, List.mem_cons, List.not_mem_nil, or_false, not_or] at f
      have fix := S.fix x hx
      simp only [frontAdr, List.mem_cons, List.not_mem_nil, or_false] at hb
      rcases hb with rfl | rfl | rfl | rfl | rfl | rfl | rfl | rfl
      · exact ⟨f.1.2.1, f.1.2.2.1⟩
      · exact ⟨f.2.1.1, f.2.1.2.1⟩
      · exact ⟨fix _ (by simp [adrs]) _ (by simp [fxs]), fix _ (by simp [adrs]) _ (by simp [fxs])⟩
      · exact ⟨fix _ (by simp [adrs]) _ (by simp [fxs]), fix _ (by simp [adrs]) _ (by simp [fxs])⟩
      · exact ⟨fix _ (by simp [adrs]) _ (by simp [fxs]), fix _ (by simp [adrs]) _ (by simp [fxs])⟩
      · exact ⟨fix _ (by simp [adrs]) _ (by simp [fxs]), fix _ (by simp [adrs]) _ (by simp [fxs])⟩
      · exact ⟨fix _ (by simp [adrs]) _ (by simp [fxs]), fix _ (by simp [adrs]) _ (by simp [fxs])⟩
      · exact ⟨fun e => f.2.2.1.2 e.symm, fun e => f.2.2.2.1 e.symm⟩
    simp only [List.mem_cons, List.mem_append, List.mem_flatMap, List.mem_filter, List.mem_range, decide_eq_true_eq] at hq
    rcases hq with rfl | rfl | ⟨y, ⟨h1, h2⟩, h3⟩ | h | h
    · exact (fi a ha).1.symm
    · exact (fi a ha).2.symm
    · have hqa : q.1 ∈ adrs (ad y) := by rw [← perLed_adr (ad y) (P y)]; exact List.mem_map_of_mem h3
      have g1 : ∀ b ∈ fxs Z, q.1 ≠ b := S.fix y h1 _ hqa
      have g2 : ∀ b ∈ adrs (ad x), q.1 ≠ b := S.sep y x h1 hx h2 _ hqa
      simp only [frontAdr, List.mem_cons, List.not_mem_nil, or_false] at ha
      rcases ha with rfl | rfl | rfl | rfl | rfl | rfl | rfl | rfl
      · exact g1 _ (by simp [fxs])
      · exact g1 _ (by simp [fxs])
      · exact g2 _ (by simp [adrs])
      · exact g2 _ (by simp [adrs])
      · exact g2 _ (by simp [adrs])
      · exact g2 _ (by simp [adrs])
      · exact g2 _ (by simp [adrs])
      · exact g1 _ (by simp [fxs])
    · exact hRL q h a hc
    · exact (own_ch hoff).1 q h a hc
  · have f := S.fx
    have n := S.nd x hx
    have fix := S.fix x hx
    have ne : ∀ a ∈ adrs (ad x), a ≠ Z.ck ∧ a ≠ Z.ca ∧ a ≠ 65 := fun a ha => ⟨fix a ha _ (by simp [fxs]), fix a ha _ (by simp [fxs]), fix a ha _ (by simp [fxs])⟩
    have n1 := ne (ad x).u (by simp [adrs])
    have n2 := ne (ad x).l (by simp [adrs])
    have n3 := ne (ad x).a (by simp [adrs])
    have n4 := ne (ad x).c0 (by simp [adrs])
    have n5 := ne (ad x).c1 (by simp [adrs])
    simp only [fxs, adrs, frontAdr, List.nodup_cons, List.mem_cons, List.not_mem_nil, or_false, not_or, not_false_eq_true, List.nodup_nil, and_true] at f n ⊢
    refine ⟨⟨f.1.1, Ne.symm n1.1, Ne.symm n2.1, Ne.symm n3.1, Ne.symm n4.1, Ne.symm n5.1, f.1.2.2.2⟩, ⟨Ne.symm n1.2.1, Ne.symm n2.2.1, Ne.symm n3.2.1, Ne.symm n4.2.1, Ne.symm n5.2.1, f.2.1.2.2⟩, ⟨n.1.1, n.1.2.1, n.1.2.2.1, n.1.2.2.2, n1.2.2⟩, ⟨n.2.1.1, n.2.1.2.1, n.2.1.2.2, n2.2.2⟩, ⟨n.2.2.1.1, n.2.2.1.2, n3.2.2⟩, ⟨n.2.2.2, n4.2.2⟩, n5.2.2⟩
/-- the end of a turn -/
theorem put11 {p : Params} {g h' : Heap} {L : Addr} {s₁ : Shared} {Z : CellsD} {oK oK' : Obj} {ps ps' : Array Value} {ad : Nat → AdrD} {P : Nat → PerD} {RL RL0 own rest XR news' : Led} {x i tk : Nat} {P' : PerD} {st : List Str} {m₀ m' : Str → Option Value} (F : Fr g L h' m') (N : News g L h' news')
    (hx : x < 4) (hRL : OwnOff RL (chAdr Z ad)) (hoff : OwnOff own ((Led11 Z oK ps ad P RL).map (·.1))) (h0 : ∀ q ∈ RL0, q ∈ RL) (hr : RestOf Z ad P RL own x rest) (hper : ∀ y, y < 4 → PerOk i (P y)) (hrules : ∀ y, y < 4 → RulesIn p (P y).zs RL)
    (hoK : ∃ vo, oK'.data = .cell vo) (hXR : ∀ q ∈ XR, q ∈ RL ∨ (∀ a ∈ chAdr Z ad, q.1 ≠ a) ∧ ∀ z ∈ own, z.1 ≠ q.1) (hT : TabL ps' (XR ++ RL)) (hP : PerOk (i + 1) P') (hR : RulesIn p P'.zs (XR ++ RL))
    (hin : ∀ q ∈ (Z.ck, oK') :: (Z.ca, Z.oA) :: (65, tabObj ps') :: (perLed (ad x) P' ++ (XR ++ rest)), q ∈ news') (hm : ∀ y, st.contains y = false → m' y = m₀ y) :
    InvEndG g L (J11s p Z ad RL0 st m₀ (i + 1)) own s₁ { s₁ with heap := h', toks := tk } := by
  obtain ⟨o1, o2⟩ := own_ch hoff
  have hin' : ∀ q, q = (Z.ck, oK') ∨ q = (Z.ca, Z.oA) ∨ q = (65, tabObj ps') ∨ q ∈ perLed (ad x) P' ∨ q ∈ XR ∨ q ∈ rest → q ∈ news' := fun q h => hin q (by simpa using h)
  refine InvEndG.intro (nx := Led11 Z oK' ps' ad (fun y => if y = x then P' else P y) (XR ++ RL)) F N ⟨_, ps', oK', XR ++ RL, rfl, hoK, fun q hq a ha => ?_, fun q hq => List.mem_append.mpr (.inr (h0 q hq)), hT, fun y hy => ?_, fun y hy => ?_, hm⟩ ?_ (fun q hq => ?_) (fun q hq => hin' q (.inr (.inr (.inr (.inr (.inr (hr.ow q hq)))))))
  · rcases List.mem_append.mp hq with hq | hq
    · rcases hXR q hq with h | h
      · exact hRL q h a ha
      · exact h.1 a ha
    · exact hRL q hq a ha
  · by_cases e : y = x
    · rw [if_pos e]; exact hP
    · rw [if_neg e]; exact (hper y hy).mono (Nat.le_succ _)
  · by_cases e : y = x
    · rw [if_pos e]; exact hR
    · rw [if_neg e]
      exact fun R hR => ⟨fun q hq => List.mem_append.mpr (.inr ((hrules y hy R hR).1 q hq)), (hrules y hy R hR).2⟩
  · rw [led11_adr]
    intro q hq a ha
    rcases List.mem_append.mp ha with ha | ha
    · exact o1 q hq a ha
    · rw [List.map_append] at ha
      rcases List.mem_append.mp ha with ha | ha
      · obtain ⟨z, hz, rfl⟩ := List.mem_map.mp ha
        rcases hXR z hz with h | h
        · exact o2 q hq _ (List.mem_map_of_mem (f := Prod.fst) h)
        · exact h.2 q hq
      · exact o2 q hq a ha
  · unfold Led11 at hq
    simp only [List.mem_cons, List.mem_append] at hq
    rcases hq with h | h | h | h | h | h | h | h
    · exact hin' q (.inl h)
    · exact hin' q (.inr (.inl h))
    · exact hin' q (.inr (.inr (.inr (.inr (.inr (by rw [h]; exact hr.ci))))))
    · exact hin' q (.inr (.inr (.inr (.inr (.inr (by rw [h]; exact hr.cf))))))
    · exact hin' q (.inr (.inr (.inl h)))
    · obtain ⟨y, hy, h⟩ := mem_perLeds.mp h
      by_cases e : y = x
      · subst e
        rw [if_pos rfl] at h
        exact hin' q (.inr (.inr (.inr (.inl h))))
      · rw [if_neg e] at h
        exact hin' q (.inr (.inr (.inr (.inr (.inr (hr.per y hy e q h))))))
    · exact hin' q (.inr (.inr (.inr (.inr (.inl h)))))
    · exact hin' q (.inr (.inr (.inr (.inr (.inr (hr.rl q h))))))
end Mine
namespace Mine
theorem J11s.mem {p : Params} {Z : CellsD} {ad : Nat → AdrD} {RL0 : Led} {st : List Str} {m₀ m : Str → Option Value} {i : Nat} {nx : Led} (h : J11s p Z ad RL0 st m₀ i m nx) {q : Addr × Obj} (hq : q ∈ RL0) : q ∈ nx := by
  obtain ⟨P, ps, oK, RL, rfl, _, _, h0, _⟩ := h
  unfold Led11
  simp [h0 q hq]
theorem PerOk.addU {n q : Nat} {P : PerD} {t t' : Tok} {cu ca : Nat} (h : PerOk n P) (hq : q < 5) : PerOk (n + 1) ⟨P.us ++ [.str (kindN q) t], cu, P.zs, P.cl, P.av ++ [.int (q : Int) t'], ca, P.an ++ [q], P.s0, P.n0, P.s1, P.n1⟩ := by
  refine ⟨?_, ?_, fun a ha => ?_, h.s0, h.s1, ?_, h.nr⟩
  · rw [List.map_append]; exact strs_app2 h.us (.cons _ _ .nil)
  · rw [List.map_append]; exact IntsAre.append h.av (.cons _ _ .nil)
  · rcases List.mem_append.mp ha with ha | ha
    · exact h.an5 a ha
    · rw [List.mem_singleton.mp ha]; exact hq
  · have := h.nn
    dsimp only
    rw [List.length_append]
    show P.an.length + 1 + P.zs.length ≤ n + 1
    omega
end Mine
end secA11k
section secA11i
open PySem PySem.W PyProof.Rows PyProof.Rows.LCg
namespace Mine
theorem perm_of_sub : ∀ (l₁ l₂ : List Addr), l₁.Nodup → (∀ a ∈ l₁, a ∈ l₂) → l₂.length ≤ l₁.length → l₁.Perm l₂
  | [], l₂, _, _, hl => by
    have : l₂ = [] := List.length_eq_zero_iff.mp (Nat.le_zero.mp hl)
    rw [this]
  | a :: t, l₂, hn, hs, hl => by
    rw [List.nodup_cons] at hn
    have ha : a ∈ l₂ := hs a (List.Mem.head _)
    have hp := List.perm_cons_erase ha
    have hlen := List.length_erase_of_mem ha
    have hl1 : 0 < l₂.length := List.length_pos_of_mem ha
    have ih := perm_of_sub t (l₂.erase a) hn.2 (fun b hb => (List.mem_erase_of_ne (fun (e : b = a) => hn.1 (by rw [← e]; exact hb))).mpr (hs b (List.Mem.tail _ hb))) (by rw [hlen]; simp at hl; omega)
    exact (ih.cons a).trans hp.symm
theorem nodup_of_sub {l₁ l₂ : List Addr} (hn : l₁.Nodup) (hs : ∀ a ∈ l₁, a ∈ l₂) (hl : l₂.length ≤ l₁.length) : l₂.Nodup := (perm_of_sub l₁ l₂ hn hs hl).nodup hn
/-- apart, and none above b -/
noncomputable def Below2 (l : List Addr) (b : Addr) : Prop := l.Nodup ∧ ∀ a ∈ l, @LE.le Nat _ a b
theorem Below2.push {l : List Addr} {b x : Addr} (h : Below2 l b) (hb : @LT.lt Nat _ b x) : Below2 (x :: l) x := by
  have lt : ∀ a ∈ l, @LT.lt Nat _ a x := fun a ha => Nat.lt_of_le_of_lt (h.2 a ha) hb
  refine ⟨List.nodup_cons.mpr ⟨fun hm => Nat.lt_irrefl _ (lt x hm), h.1⟩, fun a ha => ?_⟩
  rcases List.mem_cons.mp ha with rfl | ha
  · exact Nat.le_refl _
  · exact Nat.le_of_lt (lt a ha)
noncomputable def ad4 (A0 A1 A2 A3 : AdrD) (x : Nat) : AdrD := match x with
  | 0 => A0
  | 1 => A1
  | 2 => A2
  | _ => A3
noncomputable def pr4 (P0 P1 P2 P3 : PerD) (x : Nat) : PerD := match x with
  | 0 => P0
  | 1 => P1
  | 2 => P2
  | _ => P3
theorem four {x : Nat} (hx : x < 4) : x = 0 ∨ x = 1 ∨ x = 2 ∨ x = 3 := by omega
structure Init11 (p : Params) (g : Heap) (L : Addr) (h : Heap) (Z : CellsD) (wk : Obj) (lo la lsc : Addr) (nw0 : Led) (ad : Nat → AdrD) (RL0 : Led) (P0 : Nat → PerD) (vo va vs : List Value) : Prop where
  sep : Sep Z ad
  off : OwnOff RL0 (chAdr Z ad)
  N : News g L h (Led11 Z wk #[] ad P0 RL0)
  ok : ∀ x, x < 4 → PerOk 0 (P0 x)
  zs : ∀ x, x < 4 → (P0 x).zs = []
  fix : ∀ x, x < 4 → ∀ q ∈ fixLed p (ad x), q ∈ RL0
  ho : (lo, W.listOf vo.toArray 0) ∈ RL0
  vo4 : ∀ k, k < 4 → vo[k]? = some (.ref (ad k).r)
  ha : (la, W.listOf va.toArray 0) ∈ RL0
  va4 : ∀ k, k < 4 → va[k]? = some (.ref (ad k).a)
  hs : (lsc, W.listOf vs.toArray 0) ∈ RL0
  vs4 : ∀ k, k < 4 → vs[k]? = some (.ref (ad k).p)
  vsl : vs.length = 4
  nw : ∀ q ∈ nw0, q ∈ RL0
theorem init11 {p : Params} {g h : Heap} {L : Addr} {wf wi wk oa : Obj} {x4 x3 x2 x1 : Addr} {R0 R1 R2 R3 : RecD} {lsc p3 c31 c30 p2 c21 c20 p1 c11 c10 p0 c01 c00 la a3 a2 a1 a0 lo : Addr} {t00 t01 t10 t11 t20 t21 t30 t31 : Tok} {nw0 : Led}
    (hE : (lsc :: p3 :: c31 :: c30 :: p2 :: c21 :: c20 :: p1 :: c11 :: c10 :: p0 :: c01 :: c00 :: la :: a3 :: a2 :: a1 :: a0 :: lo :: ([x4, x3, x2, x1, 65] ++ (adr R3 ++ (adr R2 ++ (adr R1 ++ adr R0))))).Nodup) (hn : ∀ q ∈ nw0, q.1 ∉ (lsc :: p3 :: c31 :: c30 :: p2 :: c21 :: c20 :: p1 :: c11 :: c10 :: p0 :: c01 :: c00 :: la :: a3 :: a2 :: a1 :: a0 :: lo :: ([x4, x3, x2, x1, 65] ++ (adr R3 ++ (adr R2 ++ (adr R1 ++ adr R0))))))
    (e0 : R0.us = [] ∧ R0.ls = [] ∧ R0.dv = .none ∧ R0.rv = .none) (e1 : R1.us = [] ∧ R1.ls = [] ∧ R1.dv = .none ∧ R1.rv = .none) (e2 : R2.us = [] ∧ R2.ls = [] ∧ R2.dv = .none ∧ R2.rv = .none) (e3 : R3.us = [] ∧ R3.ls = [] ∧ R3.dv = .none ∧ R3.rv = .none)
    (N : News g L h ((lsc, W.listOf #[Value.ref p0, Value.ref p1, Value.ref p2, Value.ref p3] 0) :: (p3, W.listOf #[Value.ref c30, Value.ref c31] 0) :: (c31, W.listOf #[Value.int 1 t31] 0) :: (c30, W.listOf #[Value.int 1 t30] 0) :: (p2, W.listOf #[Value.ref c20, Value.ref c21] 0) :: (c21, W.listOf #[Value.int 1 t21] 0) :: (c20, W.listOf #[Value.int 1 t20] 0) :: (p1, W.listOf #[Value.ref c10, Value.ref c11] 0) :: (c11, W.listOf #[Value.int 1 t11] 0) :: (c10, W.listOf #[Value.int 1 t10] 0) :: (p0, W.listOf #[Value.ref c00, Value.ref c01] 0) :: (c01, W.listOf #[Value.int 1 t01] 0) :: (c00, W.listOf #[Value.int 1 t00] 0) :: (la, W.listOf #[Value.ref a0, Value.ref a1, Value.ref a2, Value.ref a3] 0) :: (a3, W.listOf #[] 0) :: (a2, W.listOf #[] 0) :: (a1, W.listOf #[] 0) :: (a0, W.listOf #[] 0) ::
      (lo, W.listOf #[Value.ref R0.r, Value.ref R1.r, Value.ref R2.r, Value.ref R3.r] 0) :: (x4, wf) :: (x3, wi) :: (x2, wk) :: (x1, oa) :: (65, tabObj #[]) :: (recLed p 52 R3 ++ (recLed p 52 R2 ++ (recLed p 52 R1 ++ (recLed p 52 R0 ++ nw0)))))) :
    ∃ ad RL0 P0 vo va vs, Init11 p g L h ⟨x2, x1, x3, x4, oa, wi, wf⟩ wk lo la lsc nw0 ad RL0 P0 vo va vs := by
  obtain ⟨e01, e02, e03, e04⟩ := e0
  obtain ⟨e11, e12, e13, e14⟩ := e1
  obtain ⟨e21, e22, e23, e24⟩ := e2
  obtain ⟨e31, e32, e33, e34⟩ := e3
  obtain ⟨r0, d0, u0, l0, us0, ls0, dv0, rv0, k01, k02, k03, k04, cu0, cl0⟩ := R0
  obtain ⟨r1, d1, u1, l1, us1, ls1, dv1, rv1, k11, k12, k13, k14, cu1, cl1⟩ := R1
  obtain ⟨r2, d2, u2, l2, us2, ls2, dv2, rv2, k21, k22, k23, k24, cu2, cl2⟩ := R2
  obtain ⟨r3, d3, u3, l3, us3, ls3, dv3, rv3, k31, k32, k33, k34, cu3, cl3⟩ := R3
  dsimp only at e01 e02 e03 e04 e11 e12 e13 e14 e21 e22 e23 e24 e31 e32 e33 e34
  subst e01 e02 e03 e04 e11 e12 e13 e14 e21 e22 e23 e24 e31 e32 e33 e34
  obtain ⟨A0, hA0⟩ : ∃ A, A = AdrD.mk r0 d0 u0 l0 a0 p0 c00 c01 k01 k02 k03 k04 := ⟨_, rfl⟩
  obtain ⟨A1, hA1⟩ : ∃ A, A = AdrD.mk r1 d1 u1 l1 a1 p1 c10 c11 k11 k12 k13 k14 := ⟨_, rfl⟩
  obtain ⟨A2, hA2⟩ : ∃ A, A = AdrD.mk r2 d2 u2 l2 a2 p2 c20 c21 k21 k22 k23 k24 := ⟨_, rfl⟩
  obtain ⟨A3, hA3⟩ : ∃ A, A = AdrD.mk r3 d3 u3 l3 a3 p3 c30 c31 k31 k32 k33 k34 := ⟨_, rfl⟩
  obtain ⟨RX, hRX⟩ : ∃ x : Led, x = (lsc, W.listOf [Value.ref p0, Value.ref p1, Value.ref p2, Value.ref p3].toArray 0) :: (la, W.listOf [Value.ref a0, Value.ref a1, Value.ref a2, Value.ref a3].toArray 0) :: (lo, W.listOf [Value.ref r0, Value.ref r1, Value.ref r2, Value.ref r3].toArray 0) :: (fixLed p A0 ++ (fixLed p A1 ++ (fixLed p A2 ++ fixLed p A3))) := ⟨_, rfl⟩
  have hch : chAdr ⟨x2, x1, x3, x4, oa, wi, wf⟩ (ad4 A0 A1 A2 A3) = [x2, x1, x3, x4, 65, u0, l0, a0, c00, c01, u1, l1, a1, c10, c11, u2, l2, a2, c20, c21, u3, l3, a3, c30, c31] := by rw [hA0, hA1, hA2, hA3]; rfl
  have hrx : RX.map (·.1) = [lsc, la, lo, r0, d0, p0, r1, d1, p1, r2, d2, p2, r3, d3, p3] := by rw [hRX, hA0, hA1, hA2, hA3]; rfl
  have hnd : (chAdr ⟨x2, x1, x3, x4, oa, wi, wf⟩ (ad4 A0 A1 A2 A3) ++ RX.map (·.1)).Nodup := by
    rw [hch, hrx]
    refine nodup_of_sub hE (fun a ha => ?_) (Nat.le_of_ble_eq_true rfl)
    simp only [adr, List.mem_append, List.mem_cons, List.not_mem_nil, or_false, or_assoc] at ha ⊢
    rcases ha with h9 | h9 | h9 | h9 | h9 | h9 | h9 | h9 | h9 | h9 | h9 | h9 | h9 | h9 | h9 | h9 | h9 | h9 | h9 | h9 | h9 | h9 | h9 | h9 | h9 | h9 | h9 | h9 | h9 | h9 | h9 | h9 | h9 | h9 | h9 | h9 | h9 | h9 | h9 | h9 <;> simp only [h9, true_or, or_true]
  rw [List.nodup_append] at hnd
  obtain ⟨n1, n2, n3⟩ := hnd
  refine ⟨ad4 A0 A1 A2 A3, RX ++ nw0, pr4 ⟨[], cu0, [], cl0, [], 0, [], [.int 1 t00], 0, [.int 1 t01], 0⟩ ⟨[], cu1, [], cl1, [], 0, [], [.int 1 t10], 0, [.int 1 t11], 0⟩ ⟨[], cu2, [], cl2, [], 0, [], [.int 1 t20], 0, [.int 1 t21], 0⟩ ⟨[], cu3, [], cl3, [], 0, [], [.int 1 t30], 0, [.int 1 t31], 0⟩, [Value.ref r0, Value.ref r1, Value.ref r2, Value.ref r3], [Value.ref a0, Value.ref a1, Value.ref a2, Value.ref a3], [Value.ref p0, Value.ref p1, Value.ref p2, Value.ref p3], sep_of n1, ?_, ?_, ?_, ?_, ?_, List.mem_append.mpr (.inl ?_), ?_, List.mem_append.mpr (.inl ?_), ?_, List.mem_append.mpr (.inl ?_), ?_, rfl, fun q hq => List.mem_append.mpr (.inr hq)⟩
  · intro q hq a ha e
    rcases List.mem_append.mp hq with hq | hq
    · exact n3 a ha q.1 (List.mem_map_of_mem (f := Prod.fst) hq) e.symm
    · refine hn q hq ?_
      rw [hch] at ha
      rw [e]
      simp only [adr, List.mem_append, List.mem_cons, List.not_mem_nil, or_false] at ha ⊢
      rcases ha with h9 | h9 | h9 | h9 | h9 | h9 | h9 | h9 | h9 | h9 | h9 | h9 | h9 | h9 | h9 | h9 | h9 | h9 | h9 | h9 | h9 | h9 | h9 | h9 | h9 <;> simp only [h9, true_or, or_true]
  · intro q hq
    refine N q ?_
    unfold Led11 perLeds at hq
    rw [hRX, hA0, hA1, hA2, hA3, show List.range 4 = [0, 1, 2, 3] from rfl] at hq
    simp only [List.flatMap_cons, List.flatMap_nil, ad4, pr4, perLed, fixLed, toRec, ruleRefs, List.map_nil, List.mem_cons, List.mem_append, List.not_mem_nil, or_false, false_or] at hq
    simp only [recLed, recDict, List.mem_cons, List.mem_append, List.not_mem_nil, or_false, false_or]
    simp only [recDict] at hq
    simp only [or_assoc] at hq ⊢
    rcases hq with h9 | h9 | h9 | h9 | h9 | h9 | h9 | h9 | h9 | h9 | h9 | h9 | h9 | h9 | h9 | h9 | h9 | h9 | h9 | h9 | h9 | h9 | h9 | h9 | h9 | h9 | h9 | h9 | h9 | h9 | h9 | h9 | h9 | h9 | h9 | h9 | h9 | h9 | h9 | h9 | h9 <;> simp only [h9, true_or, or_true]
  · intro x hx
    rcases four hx with rfl | rfl | rfl | rfl <;> exact ⟨.nil, .nil, (fun _ h => nomatch h), .cons 1 _ .nil, .cons 1 _ .nil, Nat.le_refl _, (fun _ h => nomatch h)⟩
  · intro x hx
    rcases four hx with rfl | rfl | rfl | rfl <;> rfl
  · intro x hx q hq
    refine List.mem_append.mpr (.inl ?_)
    rw [hRX]
    rcases four hx with rfl | rfl | rfl | rfl <;> simp only [ad4] at hq <;> simp [hq]
  · rw [hRX]; exact List.Mem.tail _ (List.Mem.tail _ (List.Mem.head _))
  · intro k hk
    rw [hA0, hA1, hA2, hA3]
    rcases four hk with rfl | rfl | rfl | rfl <;> rfl
  · rw [hRX]; exact List.Mem.tail _ (List.Mem.head _)
  · intro k hk
    rw [hA0, hA1, hA2, hA3]
    rcases four hk with rfl | rfl | rfl | rfl <;> rfl
  · rw [hRX]; exact List.Mem.head _
  · intro k hk
    rw [hA0, hA1, hA2, hA3]
    rcases four hk with rfl | rfl | rfl | rfl <;> rfl
end Mine
namespace Mine
theorem Below2.start {l : List Addr} {x : Addr} (hn : l.Nodup) (h : ∀ a ∈ l, @LT.lt Nat _ a x) : Below2 (x :: l) x :=
  ⟨List.nodup_cons.mpr ⟨fun hm => Nat.lt_irrefl _ (h x hm), hn⟩, fun a ha => by
    rcases List.mem_cons.mp ha with rfl | ha
    · exact Nat.le_refl _
    · exact Nat.le_of_lt (h a ha)⟩
theorem allLt_mem {d : Nat} : ∀ {l : Led}, AllLt d l → ∀ q ∈ l, @LT.lt Nat _ q.1 d
  | [], _, _, h => nomatch h
  | _ :: _, x, q, h => by
    rcases List.mem_cons.mp h with rfl | h
    · exact x.1
    · exact allLt_mem x.2 q h
/-- the addresses of the cells and of four new records -/
theorem base_nodup {p : Params} {C : Addr} {cells nw0 : Led} {R0 R1 R2 R3 : RecD} (hc : (cells.map (·.1)).Nodup) (a0 : Apart R0) (a1 : Apart R1) (a2 : Apart R2) (a3 : Apart R3) (hx0 : ∀ q ∈ cells ++ nw0, q.1 ∉ adr R0) (hx1 : ∀ q ∈ cells ++ (recLed p C R0 ++ nw0), q.1 ∉ adr R1)
    (hx2 : ∀ q ∈ cells ++ (recLed p C R1 ++ (recLed p C R0 ++ nw0)), q.1 ∉ adr R2) (hx3 : ∀ q ∈ cells ++ (recLed p C R2 ++ (recLed p C R1 ++ (recLed p C R0 ++ nw0))), q.1 ∉ adr R3) :
    (cells.map (·.1) ++ (adr R3 ++ (adr R2 ++ (adr R1 ++ adr R0)))).Nodup := by
  have hr : ∀ (R : RecD) a, a ∈ adr R → ∃ q ∈ recLed p C R, q.1 = a := fun R a ha => by
    have : a ∈ (recLed p C R).map (·.1) := ha
    exact List.mem_map.mp this
  have n0 := adr_nodup a0
  have n1 : (adr R1 ++ adr R0).Nodup := List.nodup_append.mpr ⟨adr_nodup a1, n0, fun a ha b hb e => by
    obtain ⟨q, hq, h⟩ := hr R0 b hb
    exact hx1 q (by simp [hq]) (by rw [h, ← e]; exact ha)⟩
  have n2 : (adr R2 ++ (adr R1 ++ adr R0)).Nodup := List.nodup_append.mpr ⟨adr_nodup a2, n1, fun a ha b hb e => by
    rcases List.mem_append.mp hb with hb | hb
    · obtain ⟨q, hq, h⟩ := hr R1 b hb
      exact hx2 q (by simp [hq]) (by rw [h, ← e]; exact ha)
    · obtain ⟨q, hq, h⟩ := hr R0 b hb
      exact hx2 q (by simp [hq]) (by rw [h, ← e]; exact ha)⟩
  have n3 : (adr R3 ++ (adr R2 ++ (adr R1 ++ adr R0))).Nodup := List.nodup_append.mpr ⟨adr_nodup a3, n2, fun a ha b hb e => by
    rcases List.mem_append.mp hb with hb | hb
    · obtain ⟨q, hq, h⟩ := hr R2 b hb
      exact hx3 q (by simp [hq]) (by rw [h, ← e]; exact ha)
    · rcases List.mem_append.mp hb with hb | hb
      · obtain ⟨q, hq, h⟩ := hr R1 b hb
        exact hx3 q (by simp [hq]) (by rw [h, ← e]; exact ha)
      · obtain ⟨q, hq, h⟩ := hr R0 b hb
        exact hx3 q (by simp [hq]) (by rw [h, ← e]; exact ha)⟩
  refine List.nodup_append.mpr ⟨hc, n3, fun a ha b hb e => ?_⟩
  obtain ⟨z, hz, rfl⟩ := List.mem_map.mp ha
  simp only [List.mem_append] at hb
  rcases hb with hb | hb | hb | hb
  · exact hx3 z (by simp [hz]) (e ▸ hb)
  · exact hx2 z (by simp [hz]) (e ▸ hb)
  · exact hx1 z (by simp [hz]) (e ▸ hb)
  · exact hx0 z (by simp [hz]) (e ▸ hb)
theorem nw_off {p : Params} {C : Addr} {cells nw0 : Led} {R0 R1 R2 R3 : RecD} (ho : OwnOff nw0 (cells.map (·.1))) (hx0 : ∀ q ∈ cells ++ nw0, q.1 ∉ adr R0) (hx1 : ∀ q ∈ cells ++ (recLed p C R0 ++ nw0), q.1 ∉ adr R1)
    (hx2 : ∀ q ∈ cells ++ (recLed p C R1 ++ (recLed p C R0 ++ nw0)), q.1 ∉ adr R2) (hx3 : ∀ q ∈ cells ++ (recLed p C R2 ++ (recLed p C R1 ++ (recLed p C R0 ++ nw0))), q.1 ∉ adr R3) : ∀ q ∈ nw0, q.1 ∉ cells.map (·.1) ++ (adr R3 ++ (adr R2 ++ (adr R1 ++ adr R0))) := by
  intro q hq hm
  simp only [List.mem_append] at hm
  rcases hm with hm | hm | hm | hm | hm
  · exact ho q hq _ hm rfl
  · exact hx3 q (by simp [hq]) hm
  · exact hx2 q (by simp [hq]) hm
  · exact hx1 q (by simp [hq]) hm
  · exact hx0 q (by simp [hq]) hm
theorem off_push {nw0 : Led} {l : List Addr} {x : Addr} (h : ∀ q ∈ nw0, q.1 ∉ l) (hx : ∀ q ∈ nw0, @LT.lt Nat _ q.1 x) : ∀ q ∈ nw0, q.1 ∉ x :: l := fun q hq hm => by
  rcases List.mem_cons.mp hm with e | hm
  · have := hx q hq
    rw [e] at this
    exact Nat.lt_irrefl _ this
  · exact h q hq hm
end Mine
namespace Mine
noncomputable def nameN : Nat → Str
  | 0 => Str.ofString "FIG"
  | 1 => Str.ofString "figs/plum"
  | 2 => Str.ofString "plum"
  | 3 => Str.ofString "*"
  | _ => Str.ofString "a fig plum"
noncomputable def fitsN : Nat → List Int
  | 0 => [0, 1]
  | 1 => [0, 1, 4]
  | 2 => [3]
  | 3 => []
  | _ => [0, 1, 3]
/-- the pairs of names and of what fits them -/
noncomputable def NamesAre (nw : Led) (nv : List Value) : Prop := nv.length = 5 ∧ ∀ q, q < 5 → ∃ (T f : Addr) (t : Tok) (fv : List Value), nv[q]? = some (.ref T) ∧ (T, ({ cls := .type "tuple", data := .seq #[.str (nameN q) t, .ref f] } : Obj)) ∈ nw ∧ (f, W.listOf fv.toArray 0) ∈ nw ∧ IntsAre fv (fitsN q)
end Mine
namespace Mine
theorem instRest {h₀ h : Heap} {L x C dx : Addr} {news : Led} {od : Obj} (N : News h₀ L h news) (h1 : (x, instObj C dx) ∈ news) (h2 : (dx, od) ∈ news) : InstAt h x (instObj C dx) C (some od) :=
  ⟨(N _ h1).1, rfl, rfl, (N _ h2).1⟩
theorem gen_turn2 {M : Model} {A : Around} {f : Sem Flow} {g : Heap} {L : Addr} {J : (Str → Option Value) → List (Addr × Obj) → Prop} {own : List (Addr × Obj)} {s s' : Shared} {Q : Flow → Shared → Prop} {E : Value → Shared → Prop}
    (H : ∀ Q', wpAny M A f (InvPostG g L J own s Q') E s') : wpAny M A f (InvPostG g L J own s Q) E s' := H Q
end Mine
end secA11i
section secA11j
open PySem PySem.W PyProof.Rows PyProof.Rows.LCg
namespace Mine
theorem tabSt_of {g h : Heap} {L : Addr} {news rest : Led} {ps : Array Value} (N : News g L h news) (hs : ∀ q ∈ rest, q ∈ news) (hT : TabL ps rest) : TabSt h ps := by
  rcases hT with h | ⟨c, oc, h1, h2, h3⟩
  · exact .inl h
  · exact .inr ⟨c, oc, h1, (N _ (hs _ h2)).1, h3⟩
theorem tab1_inj {a b : Addr} (h : tab1 a = tab1 b) : a = b := by
  unfold tab1 at h
  simpa using h
/-- a new rule in the ledger -/
theorem rule_step {p : Params} {g h h' : Heap} {L : Addr} {m : Str → Option Value} {pre rest RL : Led} {ps : Array Value} {D : RuleD} {c : Addr} (F : Fr g L h m) (N : News g L h (pre ++ (65, tabObj ps) :: rest)) (hr : ∀ q ∈ pre ++ rest, q.1 ≠ 65) (hsub : ∀ q ∈ RL, q ∈ rest) (hT : TabL ps RL)
    (kp : ∀ b o, b ≠ 65 → h.get? b = some o → h'.get? b = some o) (h65 : h'.get? 65 = some (tabObj (tab1 c))) (hc : D.c = c) (hl : ∀ q ∈ ruleLed p D, h'.get? q.1 = some q.2) (hok : RuleOk p D)
    (hf : h.get? D.r = none ∧ h.get? D.d = none ∧ h.get? D.f = none ∧ h.get? D.q = none ∧ (h.get? D.c = none ∨ ps = tab1 c)) :
    Fr g L h' m ∧ News g L h' (pre ++ (65, tabObj (tab1 c)) :: (ruleLed p D ++ rest)) ∧ (∀ q ∈ ruleLed p D, q ∈ RL ∨ ∀ z ∈ pre ++ (65, tabObj ps) :: rest, z.1 ≠ q.1) ∧ TabL (tab1 c) (ruleLed p D) := by
  have n65 := (N (65, tabObj ps) (by simp))
  have F' : Fr g L h' m := by
    refine ⟨F.ns.at' fun o e => kp _ o (fun e9 => ?_) e, fun b o e => kp b o (fun e9 => ?_) (F.keep b o e), F.above⟩
    · exact n65.2.1 e9.symm
    · rw [e9, n65.2.2] at e; cases e
  have old : ∀ q ∈ pre ++ rest, h'.get? q.1 = some q.2 ∧ q.1 ≠ L ∧ g.get? q.1 = none := fun q hq => by
    have h1 := N q (by
      rcases List.mem_append.mp hq with h | h
      · simp [h]
      · simp [h])
    exact ⟨kp _ _ (hr q hq) h1.1, h1.2⟩
  have fresh : ∀ q : Addr × Obj, h.get? q.1 = none → (q.1 ≠ L ∧ g.get? q.1 = none) ∧ ∀ z ∈ pre ++ (65, tabObj ps) :: rest, z.1 ≠ q.1 := fun q hq => by
    refine ⟨⟨fun e => ?_, ?_⟩, fun z hz e => ?_⟩
    · obtain ⟨oL, _, _, hL, _⟩ := F.ns
      rw [e, hL] at hq; cases hq
    · cases e : g.get? q.1 with
      | none => rfl
      | some o => rw [F.keep _ _ e] at hq; cases hq
    · have := (N z hz).1
      rw [e, hq] at this; cases this
  have rl : ∀ q ∈ ruleLed p D, (h.get? q.1 = none) ∨ (q ∈ RL) := fun q hq => by
    have h9 := hl q hq
    simp only [ruleLed, List.mem_cons, List.not_mem_nil, or_false] at hq
    rcases hq with rfl | rfl | rfl | rfl | rfl
    · exact .inl hf.1
    · exact .inl hf.2.1
    · exact .inl hf.2.2.1
    · exact .inl hf.2.2.2.1
    · rcases hf.2.2.2.2 with h | h
      · exact .inl h
      · right
        rcases hT with e | ⟨c2, oc, e1, e2, e3⟩
        · rw [e] at h; exact absurd (congrArg Array.size h) (by simp [tab1])
        · have e4 : c2 = c := tab1_inj (e1.symm.trans h)
          have e5 := (old _ (List.mem_append.mpr (.inr (hsub _ e2)))).1
          dsimp only at h9 e5
          rw [hc, ← e4, e5] at h9
          rw [hc, ← e4, ← Option.some.inj h9]
          exact e2
  refine ⟨F', fun q hq => ?_, fun q hq => ?_, .inr ⟨c, D.oc, rfl, ?_, hok.2.2⟩⟩
  · simp only [List.mem_append, List.mem_cons] at hq
    rcases hq with h | h | h | h
    · exact old q (List.mem_append.mpr (.inl h))
    · rw [h]; exact ⟨h65, n65.2⟩
    · rcases rl q h with e | e
      · exact ⟨hl q h, (fresh q e).1⟩
      · exact old q (List.mem_append.mpr (.inr (hsub _ e)))
    · exact old q (List.mem_append.mpr (.inr h))
  · rcases rl q hq with e | e
    · exact .inr (fresh q e).2
    · exact .inl e
  · rw [← hc]
    simp [ruleLed]
/-- the scores' loop: two lists of scores -/
noncomputable def JB (ck c0 c1 : Addr) (oK : Obj) (rest : Led) (x0 x1 : Int) (b : Int) (s0 s1 : List Value) (n0 n1 : Nat) (m₀ : Str → Option Value) (i : Nat) (m : Str → Option Value) (nx : Led) : Prop :=
  ∃ a0 k0 a1 k1, nx = (ck, oK) :: (c0, W.listOf a0.toArray k0) :: (c1, W.listOf a1.toArray k1) :: rest ∧
    (if 1 ≤ i ∧ 0 < x0 then ∃ t, a0 = s0 ++ [.int (2 * x0 + b) t] else a0 = s0) ∧
    (if 2 ≤ i ∧ 0 < x1 then ∃ t, a1 = s1 ++ [.int (2 * x1 + b) t] else a1 = s1) ∧
    ∀ y, [Str.ofString "j"].contains y = false → m y = m₀ y
theorem scores_snoc (f : RuleS → Int) (zs : List RuleS) (Z : RuleS) : scores f (zs ++ [Z]) = if 0 < f Z then scores f zs ++ [scoreOf f Z] else scores f zs := by
  unfold scores
  by_cases h : 0 < f Z
  · simp [h, List.filter_append]
  · simp [h, List.filter_append]
theorem scores_add {f : RuleS → Int} {zs : List RuleS} {Z : RuleS} {s a : List Value} {x b : Int} (h : IntsAre s (1 :: scores f zs)) (hx : f Z = x) (hb : b = if Z.D.b then 1 else 0) (ha : if 0 < x then ∃ t, a = s ++ [.int (2 * x + b) t] else a = s) :
    IntsAre a (1 :: scores f (zs ++ [Z])) := by
  subst hx
  rw [scores_snoc]
  by_cases h0 : 0 < f Z
  · rw [if_pos h0] at ha ⊢
    obtain ⟨t, rfl⟩ := ha
    have h2 : IntsAre [Value.int (2 * f Z + b) t] [scoreOf f Z] := by
      have e : scoreOf f Z = 2 * f Z + b := by unfold scoreOf; rw [hb]
      rw [e]; exact .cons _ _ .nil
    exact IntsAre.append h h2
  · rw [if_neg h0] at ha ⊢
    rw [ha]; exact h
theorem PerOk.addR {n : Nat} {P : PerD} {Z : RuleS} {a0 a1 : List Value} {cl n0 n1 : Nat} {x0 x1 b : Int} (h : PerOk n P) (e0 : Z.x0 = x0) (e1 : Z.x1 = x1) (hx0 : 0 ≤ x0) (hx03 : x0 ≤ 3) (hx1 : 0 ≤ x1) (hx13 : x1 ≤ 3) (hb : b = if Z.D.b then 1 else 0)
    (h0 : if 0 < x0 then ∃ t, a0 = P.s0 ++ [.int (2 * x0 + b) t] else a0 = P.s0) (h1 : if 0 < x1 then ∃ t, a1 = P.s1 ++ [.int (2 * x1 + b) t] else a1 = P.s1) :
    PerOk (n + 1) ⟨P.us, P.cu, P.zs ++ [Z], cl, P.av, P.ca, P.an, a0, n0, a1, n1⟩ := by
  refine ⟨h.us, h.av, h.an5, scores_add h.s0 e0 hb h0, scores_add h.s1 e1 hb h1, ?_, fun W hW => ?_⟩
  · have := h.nn
    dsimp only
    rw [List.length_append]
    show P.an.length + (P.zs.length + 1) ≤ n + 1
    omega
  · rcases List.mem_append.mp hW with hW | hW
    · exact h.nr W hW
    · rw [List.mem_singleton.mp hW, e0, e1]; exact ⟨hx0, hx03, hx1, hx13⟩
theorem ruleRefs_snoc (zs : List RuleS) (Z : RuleS) : ruleRefs (zs ++ [Z]) = ruleRefs zs ++ [.ref Z.D.r] := by
  unfold ruleRefs; rw [List.map_append]; rfl
end Mine
namespace Mine
theorem TabL.mono {ps : Array Value} {a b : Led} (h : TabL ps a) (hs : ∀ q ∈ a, q ∈ b) : TabL ps b := by
  rcases h with h | ⟨c, oc, q1, q2, q3⟩
  · exact .inl h
  · exact .inr ⟨c, oc, q1, hs _ q2, q3⟩
theorem if_up {p A B : Prop} [Decidable p] {i j n : Nat} (hi : n ≤ i) (hj : n ≤ j) (w : if n ≤ i ∧ p then A else B) : if n ≤ j ∧ p then A else B := by
  by_cases h : p
  · rw [if_pos ⟨hi, h⟩] at w; rw [if_pos ⟨hj, h⟩]; exact w
  · rw [if_neg (fun e => h e.2)] at w; rw [if_neg (fun e => h e.2)]; exact w
theorem if_out {p A B : Prop} [Decidable p] {i n : Nat} (hi : n ≤ i) (w : if n ≤ i ∧ p then A else B) : if p then A else B := by
  by_cases h : p
  · rw [if_pos ⟨hi, h⟩] at w; rw [if_pos h]; exact w
  · rw [if_neg (fun e => h e.2)] at w; rw [if_neg h]; exact w
theorem endJB {g h' : Heap} {L ck c0 c1 : Addr} {oK : Obj} {rest3 rest4 own : Led} {x0 x1 b : Int} {s0 s1 u0 u1 a0 a1 : List Value} {n0 n1 i k0 k1 k0' k1' tk : Nat} {m₀ m' : Str → Option Value} {s₁ : Shared} (F : Fr g L h' m') (N : News g L h' ((ck, oK) :: (c0, W.listOf a0.toArray k0') :: (c1, W.listOf a1.toArray k1') :: rest4)) (h4 : rest4 = rest3 ++ own)
    (hoff : OwnOff own (((ck, oK) :: (c0, W.listOf u0.toArray k0) :: (c1, W.listOf u1.toArray k1) :: rest3).map (·.1))) (w0 : if 1 ≤ i + 1 ∧ 0 < x0 then ∃ t, a0 = s0 ++ [.int (2 * x0 + b) t] else a0 = s0) (w1 : if 2 ≤ i + 1 ∧ 0 < x1 then ∃ t, a1 = s1 ++ [.int (2 * x1 + b) t] else a1 = s1)
    (hm : ∀ y, [Str.ofString "j"].contains y = false → m' y = m₀ y) : InvEndG g L (JB ck c0 c1 oK rest3 x0 x1 b s0 s1 n0 n1 m₀ (i + 1)) own s₁ { s₁ with heap := h', toks := tk } := by
  subst h4
  exact InvEndG.intro (nx := (ck, oK) :: (c0, W.listOf a0.toArray k0') :: (c1, W.listOf a1.toArray k1') :: rest3) F N ⟨a0, k0', a1, k1', rfl, w0, w1, hm⟩ hoff (fun q hq => by
    simp only [List.mem_cons, List.mem_append] at hq ⊢
    rcases hq with h | h | h | h <;> simp [h]) (fun q hq => by
    simp only [List.mem_cons, List.mem_append]; simp [hq])
theorem ch_in {Z : CellsD} {oK : Obj} {ps : Array Value} {ad : Nat → AdrD} {P : Nat → PerD} {RL own rest : Led} {x : Nat} (hr : RestOf Z ad P RL own x rest) {a : Addr} (ha : a ∈ chAdr Z ad) : ∃ z ∈ Front Z oK ps (ad x) (P x) rest, z.1 = a := by
  unfold chAdr at ha
  rcases List.mem_append.mp ha with ha | ha
  · simp only [fxs, List.mem_cons, List.not_mem_nil, or_false] at ha
    rcases ha with rfl | rfl | rfl | rfl | rfl
    · exact ⟨(Z.ck, oK), by simp [Front], rfl⟩
    · exact ⟨(Z.ca, Z.oA), by simp [Front], rfl⟩
    · exact ⟨(Z.ci, Z.oI), by unfold Front; simp [hr.ci], rfl⟩
    · exact ⟨(Z.cf, Z.oF), by unfold Front; simp [hr.cf], rfl⟩
    · exact ⟨(65, tabObj ps), by simp [Front], rfl⟩
  · obtain ⟨y, hy, ha⟩ := List.mem_flatMap.mp ha
    rw [List.mem_range] at hy
    rw [← perLed_adr (ad y) (P y)] at ha
    obtain ⟨z, hz, rfl⟩ := List.mem_map.mp ha
    by_cases e : y = x
    · subst e
      refine ⟨z, ?_, rfl⟩
      unfold Front
      simp only [perLed, List.mem_cons, List.not_mem_nil, or_false] at hz
      rcases hz with h | h | h | h | h <;> simp [h]
    · refine ⟨z, ?_, rfl⟩
      unfold Front
      simp [hr.per y hy e z hz]
end Mine
namespace Mine
theorem b_of {b2 : Nat} (h : b2 < 2) : (b2 : Int) = if ((b2 : Int) == 1) = true then 1 else 0 := by
  have hb : b2 = 0 ∨ b2 = 1 := by omega
  rcases hb with rfl | rfl <;> rfl
end Mine
namespace Mine
theorem allLt_mem2 {d : Addr} {l : Led} {q : Addr × Obj} (hq : q ∈ l) (h : AllLt d l) : @LT.lt Nat _ q.1 d := allLt_mem h q hq
end Mine
end secA11j
section secA11o
open PySem PySem.W PyProof.Rows PyProof.Rows.LCg
namespace Mine
theorem max_unique {ns : List Int} {M : Int} (hm : M ∈ 1 :: ns) (ha : ∀ a ∈ 1 :: ns, a ≤ M) : M = ns.foldl max 1 := by
  have key : ∀ (l : List Int) (b M : Int), M ∈ b :: l → (∀ a ∈ b :: l, a ≤ M) → M = l.foldl max b := by
    intro l
    induction l with
    | nil => intro b M h _; exact List.mem_singleton.mp h
    | cons c r ih =>
      intro b M h1 h2
      rw [List.foldl_cons]
      refine ih (max b c) M ?_ (fun a ha => ?_)
      · rcases List.mem_cons.mp h1 with rfl | h1
        · have := h2 c (by simp)
          rw [Int.max_eq_left this]; exact List.mem_cons_self
        · rcases List.mem_cons.mp h1 with rfl | h1
          · have := h2 b (by simp)
            rw [Int.max_eq_right this]; exact List.mem_cons_self
          · exact List.mem_cons_of_mem _ h1
      · rcases List.mem_cons.mp ha with rfl | ha
        · exact Int.max_le.mpr ⟨h2 b (by simp), h2 c (by simp)⟩
        · exact h2 a (by simp [ha])
  exact key ns 1 M hm ha
noncomputable def topAt (P : Nat → PerD) (y : Nat) (T : Addr × Tok × Tok) : Addr × Obj := (T.1, W.listOf [Value.int (topOf (·.x0) (P y).zs) T.2.1, Value.int (topOf (·.x1) (P y).zs) T.2.2].toArray 2)
noncomputable def JTops (P : Nat → PerD) (X : Led) (cs : List Addr) (i : Nat) (ys : List Value) (nx : Led) : Prop :=
  ∃ ts : List (Addr × Tok × Tok), ts.length = i ∧ ys = ts.map (fun T => Value.ref T.1) ∧ (∀ q ∈ X, q ∈ nx) ∧ (∀ y T, ts[y]? = some T → topAt P y T ∈ nx) ∧ ∀ T ∈ ts, ∀ a ∈ cs, T.1 ≠ a
theorem JTops.snoc {P : Nat → PerD} {X nx : Led} {cs : List Addr} {i : Nat} {ys : List Value} {T : Addr × Tok × Tok} (h : JTops P X cs i ys nx) (hf : ∀ a ∈ cs, T.1 ≠ a) : JTops P X cs (i + 1) (ys ++ [.ref T.1]) (topAt P i T :: nx) := by
  obtain ⟨ts, hl, rfl, h1, h2, h3⟩ := h
  refine ⟨ts ++ [T], by simp [hl], by simp, fun q hq => List.mem_cons_of_mem _ (h1 q hq), fun y U hU => ?_, fun q hq => ?_⟩
  · by_cases hy : y < ts.length
    · rw [List.getElem?_append_left hy] at hU
      exact List.mem_cons_of_mem _ (h2 y U hU)
    · have hy2 : y = ts.length := by
        have := (List.getElem?_eq_some_iff.mp hU).1
        rw [List.length_append] at this
        have : y < ts.length + 1 := this
        omega
      rw [hy2, List.getElem?_append_right (Nat.le_refl _), Nat.sub_self] at hU
      cases hU
      rw [hy2, hl]; exact List.mem_cons_self
  · rcases List.mem_append.mp hq with hq | hq
    · exact h3 q hq
    · rw [List.mem_singleton.mp hq]; exact hf
/-- what the maximum of a row must be -/
noncomputable def TopG (c0 c1 : Addr) (n0 n1 : Int) (v z : Value) : Prop := (v = .ref c0 → ∃ t, z = .int n0 t) ∧ (v = .ref c1 → ∃ t, z = .int n1 t)
end Mine
namespace Mine
theorem pair_two {G : Value → Value → Prop} {a b : Value} {ys : List Value} (h : Paired G [a, b] ys) : ∃ z0 z1, ys = [z0, z1] ∧ G a z0 ∧ G b z1 := by
  cases h with
  | cons h1 h2 =>
    cases h2 with
    | cons h3 h4 =>
      cases h4
      exact ⟨_, _, rfl, h1, h3⟩
end Mine
namespace Mine
noncomputable def offF (cs : List Addr) (l : Led) : Led := l.filter fun q => decide (q.1 ∉ cs)
theorem offF_off {cs : List Addr} {l : Led} : OwnOff (offF cs l) cs := fun q hq a ha e => by
  have := (List.mem_filter.mp hq).2
  exact (of_decide_eq_true this) (e ▸ ha)
theorem offF_mem {cs : List Addr} {l : Led} {q : Addr × Obj} (h : q ∈ l) (hn : ∀ a ∈ cs, q.1 ≠ a) : q ∈ offF cs l :=
  List.mem_filter.mpr ⟨h, decide_eq_true fun hm => hn _ hm rfl⟩
theorem offF_sub {cs : List Addr} {l : Led} {q : Addr × Obj} (h : q ∈ offF cs l) : q ∈ l := (List.mem_filter.mp h).1
/-- the states of the three nested loops -/
noncomputable def JN1 (ck ci cf : Addr) (rest : Led) (st : List Str) (m₀ : Str → Option Value) (_i : Nat) (m : Str → Option Value) (nx : Led) : Prop :=
  ∃ oK oI oF, nx = (ck, oK) :: (ci, oI) :: (cf, oF) :: rest ∧ (∃ v, oK.data = .cell v) ∧ (∃ v, oI.data = .cell v) ∧ (∃ v, oF.data = .cell v) ∧ ∀ y, st.contains y = false → m y = m₀ y
noncomputable def JN2 (ck ci cf : Addr) (oI : Obj) (rest : Led) (st : List Str) (m₀ : Str → Option Value) (_i : Nat) (m : Str → Option Value) (nx : Led) : Prop :=
  ∃ oK oF, nx = (ck, oK) :: (ci, oI) :: (cf, oF) :: rest ∧ (∃ v, oK.data = .cell v) ∧ (∃ v, oF.data = .cell v) ∧ ∀ y, st.contains y = false → m y = m₀ y
noncomputable def JN3 (ck ci cf : Addr) (oK oI : Obj) (rest : Led) (st : List Str) (m₀ : Str → Option Value) (_i : Nat) (m : Str → Option Value) (nx : Led) : Prop :=
  ∃ oF, nx = (ck, oK) :: (ci, oI) :: (cf, oF) :: rest ∧ (∃ v, oF.data = .cell v) ∧ ∀ y, st.contains y = false → m y = m₀ y
section
variable {g h' : Heap} {L : Addr} {s₁ : Shared} {ck ci cf : Addr} {oK oI oF pK pI pF : Obj} {rest own news' : Led} {st : List Str} {m₀ m' : Str → Option Value} {i tk : Nat}
theorem endN1 (F : Fr g L h' m') (N : News g L h' news') (hoff : OwnOff own (((ck, pK) :: (ci, pI) :: (cf, pF) :: rest).map (·.1))) (h1 : ∃ v, oK.data = .cell v) (h2 : ∃ v, oI.data = .cell v) (h3 : ∃ v, oF.data = .cell v) (hm : ∀ y, st.contains y = false → m' y = m₀ y)
    (hin : ∀ q ∈ (ck, oK) :: (ci, oI) :: (cf, oF) :: (rest ++ own), q ∈ news') : InvEndG g L (JN1 ck ci cf rest st m₀ (i + 1)) own s₁ { s₁ with heap := h', toks := tk } :=
  InvEndG.intro (nx := (ck, oK) :: (ci, oI) :: (cf, oF) :: rest) F N ⟨oK, oI, oF, rfl, h1, h2, h3, hm⟩ hoff (fun q hq => hin q (by
    simp only [List.mem_cons, List.mem_append] at hq ⊢
    rcases hq with h | h | h | h <;> simp [h])) (fun q hq => hin q (by simp [hq]))
theorem endN2 (F : Fr g L h' m') (N : News g L h' news') (hoff : OwnOff own (((ck, pK) :: (ci, pI) :: (cf, pF) :: rest).map (·.1))) (h1 : ∃ v, oK.data = .cell v) (h3 : ∃ v, oF.data = .cell v) (hm : ∀ y, st.contains y = false → m' y = m₀ y)
    (hin : ∀ q ∈ (ck, oK) :: (ci, oI) :: (cf, oF) :: (rest ++ own), q ∈ news') : InvEndG g L (JN2 ck ci cf oI rest st m₀ (i + 1)) own s₁ { s₁ with heap := h', toks := tk } :=
  InvEndG.intro (nx := (ck, oK) :: (ci, oI) :: (cf, oF) :: rest) F N ⟨oK, oF, rfl, h1, h3, hm⟩ hoff (fun q hq => hin q (by
    simp only [List.mem_cons, List.mem_append] at hq ⊢
    rcases hq with h | h | h | h <;> simp [h])) (fun q hq => hin q (by simp [hq]))
theorem endN3 {lv : Addr × Obj} (hlv : lv ∈ rest) (F : Fr g L h' m') (N : News g L h' news') (hoff : OwnOff own (((ck, pK) :: (ci, pI) :: (cf, pF) :: rest).map (·.1))) (h3 : ∃ v, oF.data = .cell v) (hm : ∀ y, st.contains y = false → m' y = m₀ y)
    (hin : ∀ q ∈ (ck, oK) :: (ci, oI) :: (cf, oF) :: (rest ++ own), q ∈ news') : InvEndG g L (fun m' nx => lv ∈ nx ∧ JN3 ck ci cf oK oI rest st m₀ (i + 1) m' nx) own s₁ { s₁ with heap := h', toks := tk } :=
  InvEndG.intro (nx := (ck, oK) :: (ci, oI) :: (cf, oF) :: rest) F N ⟨by simp [hlv], oF, rfl, h3, hm⟩ hoff (fun q hq => hin q (by
    simp only [List.mem_cons, List.mem_append] at hq ⊢
    rcases hq with h | h | h | h <;> simp [h])) (fun q hq => hin q (by simp [hq]))
end
theorem own3 {rest own : Led} {ck ci cf : Addr} {oK oI oF : Obj} (hr : OwnOff rest [ck, ci, cf]) (ho : OwnOff own (((ck, oK) :: (ci, oI) :: (cf, oF) :: rest).map (·.1))) : OwnOff (rest ++ own) [ck, ci, cf] := fun q hq a ha => by
  rcases List.mem_append.mp hq with h | h
  · exact hr q h a ha
  · refine ho q h a ?_
    simp only [List.mem_cons, List.not_mem_nil, or_false] at ha
    rcases ha with rfl | rfl | rfl <;> simp
theorem recAt_per {p : Params} {g h : Heap} {L : Addr} {news : Led} {A : AdrD} {P : PerD} (N : News g L h news) (h1 : ∀ q ∈ fixLed p A, q ∈ news) (h2 : ∀ q ∈ perLed A P, q ∈ news) : RecAt p 52 h (toRec A P) :=
  ⟨(N _ (h1 _ (List.Mem.head _))).1, (N _ (h1 _ (List.Mem.tail _ (List.Mem.head _)))).1, (N _ (h2 _ (List.Mem.head _))).1, (N _ (h2 _ (List.Mem.tail _ (List.Mem.head _)))).1⟩
end Mine
namespace Mine
theorem gen_turn3 {M : Model} {A : Around} {f : Sem Unit} {b : Sem Flow} {g : Heap} {L : Addr} {J : (Str → Option Value) → List (Addr × Obj) → Prop} {own : List (Addr × Obj)} {s s' : Shared} {Q : Flow → Shared → Prop} {E : Value → Shared → Prop}
    (H : ∀ Q', wpAny M A f (fun _ s₃ => wpAny M A b (InvPostG g L J own s Q') E s₃) E s') : wpAny M A f (fun _ s₃ => wpAny M A b (InvPostG g L J own s Q) E s₃) E s' := H Q
theorem grow3 {p : Params} {g h₁ h : Heap} {L : Addr} {m : Str → Option Value} {R : RecD} {a b c : Addr × Obj} {rest : Led} (F : Fr g L h₁ m) (N : News g L h₁ (a :: b :: c :: rest)) (e : Ext h₁ h) (x : RecAt p 52 h R) (hnew : RecNew h₁ R) (ho : OwnOff rest [a.1, b.1, c.1]) :
    News g L h (a :: b :: c :: (recLed p 52 R ++ rest)) ∧ OwnOff (recLed p 52 R ++ rest) [a.1, b.1, c.1] := by
  have h1 := newsApp (news_rec F x hnew) (newsExt N e)
  have h2 := new_off N hnew
  refine ⟨fun q hq => h1 q ?_, fun q hq z hz => ?_⟩
  · simp only [List.mem_cons, List.mem_append] at hq ⊢
    rcases hq with h | h | h | h | h
    · exact .inr (.inl h)
    · exact .inr (.inr (.inl h))
    · exact .inr (.inr (.inr (.inl h)))
    · exact .inl h
    · exact .inr (.inr (.inr (.inr h)))
  · rcases List.mem_append.mp hq with h | h
    · have ha : q.1 ∈ adr R := List.mem_map_of_mem (f := Prod.fst) h
      simp only [List.mem_cons, List.not_mem_nil, or_false] at hz
      rcases hz with rfl | rfl | rfl
      · exact fun e => h2 a (by simp) (e ▸ ha)
      · exact fun e => h2 b (by simp) (e ▸ ha)
      · exact fun e => h2 c (by simp) (e ▸ ha)
    · exact ho q h z hz
end Mine
namespace Mine
theorem news_sub {g h : Heap} {L : Addr} {l l' : Led} (N : News g L h l') (hs : ∀ q ∈ l, q ∈ l') : News g L h l := fun q hq => N q (hs q hq)
theorem rules_at {p : Params} {g h : Heap} {L : Addr} {news RL : Led} {as bs : List RuleS} (N : News g L h news) (hs : ∀ q ∈ RL, q ∈ news) (ha : RulesIn p as RL) (hb : RulesIn p bs RL) : ∀ Z ∈ as ++ bs, RuleAt p h Z := fun Z hZ => by
  rcases List.mem_append.mp hZ with h | h
  · exact ⟨fun q hq => (N _ (hs q ((ha Z h).1 q hq))).1, (ha Z h).2⟩
  · exact ⟨fun q hq => (N _ (hs q ((hb Z h).1 q hq))).1, (hb Z h).2⟩
end Mine
namespace Mine
/-- a marker: the walk shall halt at the end -/
structure Halt : Prop where
  t : True
end Mine
end secA11o
section secA11q
open PySem PySem.W PyProof.Rows PyProof.Rows.LCg
namespace Mine
noncomputable def mergeNames (a b : List Nat) : List Str := (a.map kindN).filter fun x => (b.map kindN).contains x
noncomputable def bothN (a b : List Nat) : List Nat := (List.range 5).filter fun c => (a.map Int.ofNat).any (· == (c : Int)) && (b.map Int.ofNat).any (· == (c : Int))
theorem any_ofNat (a : List Nat) (c : Nat) : (a.map Int.ofNat).any (· == (c : Int)) = true ↔ c ∈ a := by
  rw [List.any_map, List.any_eq_true]
  constructor
  · rintro ⟨x, hx, e⟩
    have : Int.ofNat x = (c : Int) := beq_iff_eq.mp e
    have : x = c := Int.ofNat.inj this
    exact this ▸ hx
  · intro h
    exact ⟨c, h, beq_iff_eq.mpr rfl⟩
theorem mem_both {a b : List Nat} {c : Nat} : c ∈ bothN a b ↔ c < 5 ∧ c ∈ a ∧ c ∈ b := by
  unfold bothN
  rw [List.mem_filter, List.mem_range, Bool.and_eq_true, any_ofNat, any_ofNat]
theorem kindN_inj : ∀ x, x < 5 → ∀ y, y < 5 → kindN x = kindN y → x = y := by decide +kernel
theorem hit_fits : ∀ q, q < 5 → ∀ x, x < 5 → hit5 (nameN q) (kindN x) = (fitsN q).any (· == (x : Int)) := by decide +kernel
theorem star_two : ∀ x, x < 5 → (kindN x = Str.ofString "*" ↔ x = 2) := by decide +kernel
theorem mem_merge {a b : List Nat} (ha : ∀ x ∈ a, x < 5) (hb : ∀ x ∈ b, x < 5) {s : Str} : s ∈ mergeNames a b ↔ ∃ x, x < 5 ∧ x ∈ a ∧ x ∈ b ∧ s = kindN x := by
  unfold mergeNames
  rw [List.mem_filter, List.mem_map, List.contains_iff_mem, List.mem_map]
  constructor
  · rintro ⟨⟨x, hx, rfl⟩, y, hy, e⟩
    have : x = y := kindN_inj x (ha x hx) y (hb y hy) e.symm
    exact ⟨x, ha x hx, hx, this ▸ hy, rfl⟩
  · rintro ⟨x, _, hx, hy, rfl⟩
    exact ⟨⟨x, hx, rfl⟩, x, hy, rfl⟩
theorem law_names {a b : List Nat} (ha : ∀ x ∈ a, x < 5) (hb : ∀ x ∈ b, x < 5) {q : Nat} (hq : q < 5) :
    (mergeNames a b).any (hit5 (nameN q)) = !(((bothN a b).map Int.ofNat).filter fun n => (fitsN q).any (· == n)).isEmpty := by
  rw [Bool.eq_iff_iff, List.any_eq_true]
  constructor
  · rintro ⟨s, hs, hh⟩
    obtain ⟨x, hx5, hxa, hxb, rfl⟩ := (mem_merge ha hb).mp hs
    rw [hit_fits q hq x hx5] at hh
    have hm : (Int.ofNat x) ∈ ((bothN a b).map Int.ofNat).filter fun n => (fitsN q).any (· == n) := List.mem_filter.mpr ⟨List.mem_map.mpr ⟨x, mem_both.mpr ⟨hx5, hxa, hxb⟩, rfl⟩, hh⟩
    cases hl : ((bothN a b).map Int.ofNat).filter fun n => (fitsN q).any (· == n) with
    | nil => rw [hl] at hm; cases hm
    | cons _ _ => rfl
  · intro h
    cases hl : ((bothN a b).map Int.ofNat).filter fun n => (fitsN q).any (· == n) with
    | nil => rw [hl] at h; cases h
    | cons n r =>
      have hm : n ∈ ((bothN a b).map Int.ofNat).filter fun n => (fitsN q).any (· == n) := by rw [hl]; exact List.mem_cons_self
      obtain ⟨h1, h2⟩ := List.mem_filter.mp hm
      obtain ⟨x, hx, rfl⟩ := List.mem_map.mp h1
      obtain ⟨hx5, hxa, hxb⟩ := mem_both.mp hx
      exact ⟨kindN x, (mem_merge ha hb).mpr ⟨x, hx5, hxa, hxb, rfl⟩, by rw [hit_fits q hq x hx5]; exact h2⟩
theorem law_none {a b : List Nat} (ha : ∀ x ∈ a, x < 5) (hb : ∀ x ∈ b, x < 5) : (mergeNames a b).contains (Str.ofString "*") = ((bothN a b).map Int.ofNat).any (· == (2 : Int)) := by
  rw [Bool.eq_iff_iff, List.contains_iff_mem]
  have h2 := any_ofNat (bothN a b) 2
  rw [show ((2 : Nat) : Int) = 2 from rfl] at h2
  rw [h2, mem_both, mem_merge ha hb]
  constructor
  · rintro ⟨x, hx5, hxa, hxb, e⟩
    have := (star_two x hx5).mp e.symm
    subst this
    exact ⟨hx5, hxa, hxb⟩
  · rintro ⟨h5, h1, h2⟩
    exact ⟨2, h5, h1, h2, ((star_two 2 h5).mpr rfl).symm⟩
theorem strs_keep {tt : List Str} : ∀ {vs : List Value} {ss : List Str}, StrsAre vs ss → StrsAre (vs.filter (keepIn tt)) (ss.filter fun x => tt.contains x)
  | _, _, .nil => .nil
  | _, _, .cons x t r => by
    cases hp : tt.contains x with
    | true =>
      rw [List.filter_cons_of_pos (show keepIn tt (Value.str x t) = true from hp), List.filter_cons_of_pos hp]
      exact .cons _ _ (strs_keep r)
    | false =>
      rw [List.filter_cons_of_neg (show ¬ keepIn tt (Value.str x t) = true from by rw [show keepIn tt (Value.str x t) = tt.contains x from rfl, hp]; decide), List.filter_cons_of_neg (by rw [hp]; decide)]
      exact strs_keep r
theorem merge_strs {i k : PerD} {n : Nat} (h : PerOk n i) : StrsAre (i.us.filter (keepIn (k.an.map kindN))) (mergeNames i.an k.an) := strs_keep h.us
theorem kindN_kinds : ∀ x, x < 5 → kindN x ∈ kinds5 := by decide +kernel
theorem merge_kinds {a b : List Nat} (ha : ∀ x ∈ a, x < 5) : ∀ y ∈ mergeNames a b, y ∈ kinds5 := by
  intro y hy
  obtain ⟨h, _⟩ := List.mem_filter.mp hy
  obtain ⟨x, hx, rfl⟩ := List.mem_map.mp h
  exact kindN_kinds x (ha x hx)
theorem merge_len (a b : List Nat) : (mergeNames a b).length ≤ a.length := by
  unfold mergeNames
  exact Nat.le_trans (List.length_filter_le _ _) (by rw [List.length_map]; exact Nat.le_refl _)
theorem reach_a : reachOf (Str.ofString "/a") = (·.x0) := by funext Z; unfold reachOf; rw [if_pos rfl]
theorem reach_b : reachOf (Str.ofString "/b") = (·.x1) := by funext Z; unfold reachOf; rw [if_neg (by decide +kernel)]
end Mine
namespace Mine
theorem allow_val {f : RuleS → Int} {as bs : List RuleS} {r : Int} (ha : ∀ Z ∈ as, 0 ≤ f Z) (hb : ∀ Z ∈ bs, 0 ≤ f Z) (hr : ModIs (if topOf f bs > topOf f as then topOf f bs else topOf f as) 2 r) : allowF f (as ++ bs) = (r == 1) := by
  rw [allow_join ha hb]
  have e : (if topOf f bs > topOf f as then topOf f bs else topOf f as) = max (topOf f as) (topOf f bs) := by
    split <;> omega
  have h := hr.e
  rw [e] at h
  rw [h]
  rw [Bool.eq_iff_iff, decide_eq_true_iff, beq_iff_eq]
section
variable {prog : Program} {w : World} {A : Around} {E : Value → Shared → Prop} {s : Shared} {Q : Value → Shared → Prop}
theorem isnot_same {c d : Bool} (h : c = d) (hq : Q (.bool false) s) : wpAny (model prog w) A (compareOp .IsNot (.bool c) (.bool d)) Q E s := by
  subst h
  refine isnot_bool ?_
  rw [show (c != c) = false from by cases c <;> rfl]; exact hq
end
theorem ruleRefs_app (a b : List RuleS) : ruleRefs a ++ ruleRefs b = ruleRefs (a ++ b) := by unfold ruleRefs; rw [List.map_append]
end Mine
namespace Mine
theorem ct_applies_name {w : World} {A : Around} {s : Shared} {Q E : Value → Shared → Prop} {mean : ExcName → Option Value} {mg mb : Str → Option Value} {R1 : RecD} {ss1 : List Str} {t : Tok} {q : Nat} (hq5 : q < 5)
   (X : (hd11.heap_39 w.params).In s.heap) (T : Top topProg (looseW hd11.view_39 [] ++ (recsOf hd11.view_39).map (·.name) ++ (litsOf hd11.view_39).map (·.1) ++ (clssOf hd11.view_39 (looseW hd11.view_39 [])).map (·.name)) mean mg mb s.heap) (hd : A.depth + 10 < recursionLimit) (hh : A.handled = none)
   (x1 : RecAt w.params 52 s.heap R1) (hs1 : StrsAre R1.us ss1) (hk1 : ∀ y ∈ ss1, y ∈ kinds5)
   (hQ : ∀ h' tk, Ext s.heap h' → Q (.bool (ss1.any (hit5 (nameN q)))) {s with heap := h', toks := tk}) :
   wpAny (model Challenge.rw_dn0256_11.row.prog w) A (call (.ref 42) [.ref R1.r, .str (nameN q) t]) Q E s := by
  have h5 : q = 0 ∨ q = 1 ∨ q = 2 ∨ q = 3 ∨ q = 4 := by omega
  rcases h5 with rfl | rfl | rfl | rfl | rfl
  · exact ct_applies_FIG X T hd hh x1 hs1 hk1 hQ
  · exact ct_applies_figs X T hd hh x1 hs1 hk1 hQ
  · exact ct_applies_plum X T hd hh x1 hs1 hk1 hQ
  · exact ct_applies_star X T hd hh x1 hs1 hk1 hQ
  · exact ct_applies_afig X T hd hh x1 hs1 hk1 hQ
end Mine
namespace Mine
theorem both_len {a b : List Nat} {bv : List Value} (h : IntsAre bv ((bothN a b).map Int.ofNat)) : bv.length ≤ 16777216 := by
  have h1 := IntsAre.len2 h
  rw [List.length_map] at h1
  have h2 : (bothN a b).length ≤ 5 := by
    unfold bothN
    exact Nat.le_trans (List.length_filter_le _ _) (by rw [List.length_range]; exact Nat.le_refl _)
  omega
end Mine
end secA11q
open PySem PySem.W PyProof.Rows PyProof.Rows.LCg
namespace Mine
end Mine
open Mine
local macro_rules | `(tactic| walk_at "go") => `(tactic| repeat' (first | (k_unfold; (try dsimp only)) | walk1 | (dsimp only; walk1)))
local macro_rules | `(tactic| walk_at $k9:str) => if ["call ref", "exec Assign cons ListComp", "eval ListComp", "exec For Name Call cons nil", "exec For Name Name cons nil", "exec For Tuple Name cons nil", "pyIter ref", "InvEndG", "SrcIs", "EltG", "EltJ", "EltIs", "EltV", "RngIs", "TestIs", "call builtin:max", "compareOp In int ref", "compareOp NotEq ref ref", "GrownAll"].contains k9.getString then `(tactic| refine Stop.of ?_) else Lean.Macro.throwUnsupported
local macro_rules | `(tactic| walk_at "newList") => `(tactic| (k_here; k_dflt (refine' newList_K ?k1 ?k2 ?_ ?z; (case k1 => with_reducible assumption); (case k2 => with_reducible assumption); (case z => rw [sizeLine_eq]; exact Nat.le_of_ble_eq_true rfl); k_whole); intro l' h' F' N' l1; (try k_lt l1); (try k_sweep)))
local macro_rules | `(tactic| k_handed) => `(tactic| (with_reducible assumption))
local macro_rules | `(tactic| walk_at "callWith ref") => `(tactic| (k_here; k_dflt (first | (refine' callWith_K ?k1 ?k2 ?_; (case k1 => with_reducible assumption); (case k2 => k_is); k_whole) | (refine' callWith_K0 ?k1 ?k2 ?_; (case k1 => first | with_reducible assumption | exact Frag.In.keeps (by with_reducible assumption) (Fr.keep (by with_reducible assumption))); (case k2 => k_is); k_whole))))
local macro_rules | `(tactic| k_ne) => `(tactic| first | with_reducible assumption | (refine Ne.symm ?_; with_reducible assumption) | (apply Nat.ne_of_lt; omega) | (apply Nat.ne_of_gt; omega))
local macro_rules | `(tactic| k_all) => `(tactic| ((with_reducible rename OwnOff _ _ => hOff9); exact fun q hq => hOff9 q hq _ (by k_mem)))
local macro_rules | `(tactic| k_inst) => `(tactic| (refine instRest (by with_reducible assumption) (by repeat (first | with_reducible assumption | apply List.mem_cons_of_mem)) (by repeat (first | with_reducible assumption | apply List.mem_cons_of_mem))))
local macro_rules | `(tactic| walk_at $k9:str) => if (k9.getString.startsWith "subscriptTail" && k9.getString.endsWith "ref int") then `(tactic| (k_here; (with_reducible rename News _ _ _ _ => N'); first | (refine itemL N' (by repeat (first | with_reducible assumption | with_reducible exact List.mem_cons_self | apply List.mem_cons_of_mem)) (by with_reducible assumption) (by omega) ?_) | (refine itemZ (i := 0) rfl N' (by repeat (first | with_reducible assumption | with_reducible exact List.mem_cons_self | apply List.mem_cons_of_mem)) rfl (by omega) ?_) | (refine itemZ (i := 1) rfl N' (by repeat (first | with_reducible assumption | with_reducible exact List.mem_cons_self | apply List.mem_cons_of_mem)) rfl (by omega) ?_) | refine Stop.of ?_)) else Lean.Macro.throwUnsupported
local macro_rules | `(tactic| walk_at "binaryOp Mod int int") => `(tactic| (k_here; first | (with_reducible refine modE (by with_reducible assumption) (by decide) ?_; intro _ _) | refine Stop.of ?_))
local macro_rules | `(tactic| walk_at "compareOp Eq int int") => `(tactic| (k_here; first | refine eqI_t (by omega) ?_ | refine eqI_f (by omega) ?_ | refine PyProof.Rows.eq_int ?_))
local macro_rules | `(tactic| walk_at "compareOp Gt int int") => `(tactic| (k_here; first | refine gtI_t (by omega) ?_ | refine gtI_f (by omega) ?_))
local macro_rules | `(tactic| walk_at "call builtin:list.append") => `(tactic| (k_here; (try dsimp only [List.cons_append, List.nil_append]); (with_reducible show wpAny _ _ (call (Value.builtin _) [Value.ref _, _]) _ _ _); k_dflt (refine' append_K ?k1 ?k2 ?k3 ?_ ?z; (case k1 => with_reducible assumption); (case k2 => with_reducible assumption); (case k3 => k_upd); (case z => first | exact (show Fits _ from (by with_reducible assumption)) | size_fits); k_whole); intro h' F' N'; (try k_sweep)))
local macro_rules | `(tactic| walk_at "callWith") => `(tactic| ((with_reducible show wpAny _ _ (callWith _ (Value.builtin _) (_ :: _) _ []) _ _ _); refine callWith_method1 ?_))
local macro_rules | `(tactic| walk_at "execs cons Assign cons") => `(tactic| walk_at "execs cons")
local macro_rules | `(tactic| walk_at "call type:range") => `(tactic| (k_here; (with_reducible rename Fr _ _ _ _ => F'); (with_reducible rename News _ _ _ _ => N'); first | (with_unfolding_all refine range1_rows F' N' ?_; intro _ _ _ _ _ _ _ _ _) | (with_unfolding_all refine range2_rows F' N' ?_; intro _ _ _ _ _ _ _ _ _)))
local macro_rules | `(tactic| walk_at "compareOp IsNot bool bool") => `(tactic| (k_here; first | (with_reducible refine isnot_same rfl ?_) | refine Stop.of ?_))
local macro_rules | `(tactic| walk_at "eval Name") => `(tactic| (name_kind "free"; (with_reducible rename NsObj _ _ => hNs9); refine Stop.of ?_))
local macro_rules | `(tactic| walk_at "GoodW cons ok") => `(tactic| ((with_reducible rename Halt => hH9); refine Stop.of ?_))
set_option maxRecDepth 100000 in
set_option maxHeartbeats 8000000 in
theorem PySem.Challenge.cw_dn0256_11_holds : PySem.Challenge.rw_dn0256_11.Holds := by
  refine Mine.hd11 ?_
  k_go0
  (all_goals try k_fold)
  walk_at "go"
  refine Stop.go ?_
  (rename Fr _ _ _ _ => F1); (rename News _ _ _ _ => N1); (rename IntsAre _ _ => hI1)
  rename Frag.In _ _ => KX
  rename Top _ _ _ _ _ _ => T
  rename_i wf wi wk wa hf hi hk ha _ _ l65 D0 ws _ hC0 hL0 lD0 _ lk _ llk _ _ f0 _ lf0 t0 _ lt0 f1 _ lf1 t1 _ lt1 f2 _ lf2 t2 _ lt2 f3 _ lf3 t3 _ lt3 f4 _ lf4 t4 _ lt4 lnm _ llnm h9
  rename World => wd
  rename Shared => s₁
  replace hf : wf.data = .cell none := hf
  replace hi : wi.data = .cell none := hi
  replace hk : wk.data = .cell none := hk
  replace ha : wa.data = .cell none := ha
  obtain ⟨nw0, hnw0, N2⟩ := news_take 13 N1
  simp only [List.take_succ_cons, List.drop_succ_cons, List.take_zero, List.drop_zero, List.cons_append, List.nil_append] at hnw0 N2
  have hb0 : ∀ q ∈ nw0, @LT.lt Nat _ (s₁.heap.objs.size + 1 + 1 + 1 + 1) q.1 := by
    rw [hnw0]
    intro q hq
    simp only [List.mem_cons, List.not_mem_nil, or_false] at hq
    rcases hq with rfl | rfl | rfl | rfl | rfl | rfl | rfl | rfl | rfl | rfl | rfl | rfl | rfl <;> dsimp only <;> omega
  clear lD0 llk lf0 lt0 lf1 lt1 lf2 lt2 lf3 lt3 lf4 lt4 llnm N1
  have hfix0 : ∀ q ∈ nw0, q ∈ nw0 := fun q h => h
  rw [hnw0] at hfix0
  obtain ⟨cells, hcells⟩ : ∃ x : Led, x = [(s₁.heap.objs.size + 1 + 1 + 1 + 1, wf), (s₁.heap.objs.size + 1 + 1 + 1, wi), (s₁.heap.objs.size + 1 + 1, wk), (s₁.heap.objs.size + 1, wa), (65, tabObj #[])] := ⟨_, rfl⟩
  have ho0 : OwnOff nw0 (cells.map (·.1)) := by
    rw [hcells]
    intro q hq a ha e
    have h1 := hb0 q hq
    simp only [List.map_cons, List.map_nil, List.mem_cons, List.not_mem_nil, or_false] at ha
    have l65' : @LT.lt Nat _ 65 s₁.heap.objs.size := l65
    have e' : @Eq Nat q.1 a := e
    rcases ha with rfl | rfl | rfl | rfl | rfl <;> omega
  replace N2 : News (ghostOf s₁.heap [(69, 65)]) s₁.heap.objs.size h9 (cells ++ nw0) := by rw [hcells]; exact N2
  refine ct_new (A := Around.deeper _ _) (Frag.In.keeps KX F1.keep) (Top.keeps T F1.keep) (by (simp only [depth_deeper, depth_caller]; decide)) rfl (fun h3 tk3 R0 e3 x3 p10 p20 p30 p40 hnew hap0 => ?_)
  have ho1 := grow_rec (p := wd.params) (C := 52) N2 ho0 hnew
  have hx0 := new_off N2 hnew
  have N21 := news_rec2 F1 N2 e3 x3 hnew
  have F21 := F1.keeps e3
  clear F1 N2 e3 x3 hnew
  dsimp only at F21 N21 ⊢
  walk_at "go"
  refine Stop.go ?_
  refine ct_new (A := Around.deeper _ _) (Frag.In.keeps KX F21.keep) (Top.keeps T F21.keep) (by (simp only [depth_deeper, depth_caller]; decide)) rfl (fun h3 tk3 R1 e3 x3 p11 p21 p31 p41 hnew hap1 => ?_)
  have ho2 := grow_rec (p := wd.params) (C := 52) N21 ho1 hnew
  have hx1 := new_off N21 hnew
  have N22 := news_rec2 F21 N21 e3 x3 hnew
  have F22 := F21.keeps e3
  clear F21 N21 e3 x3 hnew
  dsimp only at F22 N22 ⊢
  walk_at "go"
  refine Stop.go ?_
  refine ct_new (A := Around.deeper _ _) (Frag.In.keeps KX F22.keep) (Top.keeps T F22.keep) (by (simp only [depth_deeper, depth_caller]; decide)) rfl (fun h3 tk3 R2 e3 x3 p12 p22 p32 p42 hnew hap2 => ?_)
  have ho3 := grow_rec (p := wd.params) (C := 52) N22 ho2 hnew
  have hx2 := new_off N22 hnew
  have N23 := news_rec2 F22 N22 e3 x3 hnew
  have F23 := F22.keeps e3
  clear F22 N22 e3 x3 hnew
  dsimp only at F23 N23 ⊢
  walk_at "go"
  refine Stop.go ?_
  refine ct_new (A := Around.deeper _ _) (Frag.In.keeps KX F23.keep) (Top.keeps T F23.keep) (by (simp only [depth_deeper, depth_caller]; decide)) rfl (fun h3 tk3 R3 e3 x3 p13 p23 p33 p43 hnew hap3 => ?_)
  have ho4 := grow_rec (p := wd.params) (C := 52) N23 ho3 hnew
  have hx3 := new_off N23 hnew
  have N24 := news_rec2 F23 N23 e3 x3 hnew
  have F24 := F23.keeps e3
  clear F23 N23 e3 x3 hnew
  dsimp only at F24 N24 ⊢
  obtain ⟨nw4, hnw4⟩ : ∃ x : Led, x = recLed wd.params 52 R3 ++ (recLed wd.params 52 R2 ++ (recLed wd.params 52 R1 ++ (recLed wd.params 52 R0 ++ nw0))) := ⟨_, rfl⟩
  rw [← hnw4] at N24 ho4
  rw [hcells] at N24 ho4
  dsimp only [List.cons_append, List.nil_append, List.map_cons, List.map_nil] at N24 ho4
  clear ho1 ho2 ho3
  walk_at "go"
  refine Stop.go ?_
  (with_reducible rename Fr _ _ _ _ => F1); (with_reducible rename News _ _ _ _ => N1)
  rename_i lo _ llo _ _ a0 _ la0 a1 _ la1 a2 _ la2 a3 _ la3 la _ lla _ oa hoa _ c00 _ l00 c01 _ l01 p0 _ lp0 c10 _ l10 c11 _ l11 p1 _ lp1 c20 _ l20 c21 _ l21 p2 _ lp2 c30 _ l30 c31 _ l31 p3 _ lp3 lsc _ llsc h9
  have hcm : cells.map (·.1) = [s₁.heap.objs.size + 1 + 1 + 1 + 1, s₁.heap.objs.size + 1 + 1 + 1, s₁.heap.objs.size + 1 + 1, s₁.heap.objs.size + 1, 65] := by rw [hcells]; rfl
  have hcn : (cells.map (·.1)).Nodup := by
    rw [hcm]
    have l65' : @LT.lt Nat _ 65 s₁.heap.objs.size := l65
    simp only [List.nodup_cons, List.mem_cons, List.not_mem_nil, or_false, not_or, not_false_eq_true, List.nodup_nil, and_true]
    refine ⟨⟨?_, ?_, ?_, ?_⟩, ⟨?_, ?_, ?_⟩, ⟨?_, ?_⟩, ?_⟩ <;> apply Nat.ne_of_gt <;> omega
  have hbn := base_nodup (p := wd.params) (C := 52) hcn hap0 hap1 hap2 hap3 hx0 hx1 hx2 hx3
  have hno := nw_off (p := wd.params) (C := 52) ho0 hx0 hx1 hx2 hx3
  rw [hcm] at hbn hno
  have hltc : ∀ q ∈ nw4, @LT.lt Nat _ q.1 lo := allLt_mem llo.2.2.2.2.2
  have hlt0 : ∀ q ∈ nw0, @LT.lt Nat _ q.1 lo := fun q hq => hltc q (by rw [hnw4]; simp [hq])
  have hbl : ∀ a ∈ [s₁.heap.objs.size + 1 + 1 + 1 + 1, s₁.heap.objs.size + 1 + 1 + 1, s₁.heap.objs.size + 1 + 1, s₁.heap.objs.size + 1, 65] ++ (adr R3 ++ (adr R2 ++ (adr R1 ++ adr R0))), @LT.lt Nat _ a lo := by
    intro a ha
    have hr : ∀ (R : RecD), a ∈ adr R → (∀ q ∈ recLed wd.params 52 R, q ∈ nw4) → @LT.lt Nat _ a lo := fun R ha hs => by
      have : a ∈ (recLed wd.params 52 R).map (·.1) := ha
      obtain ⟨q, hq, rfl⟩ := List.mem_map.mp this
      exact hltc q (hs q hq)
    rcases List.mem_append.mp ha with ha | ha
    · simp only [List.mem_cons, List.not_mem_nil, or_false] at ha
      rcases ha with rfl | rfl | rfl | rfl | rfl
      · exact llo.1
      · exact llo.2.1
      · exact llo.2.2.1
      · exact llo.2.2.2.1
      · exact llo.2.2.2.2.1
    · simp only [List.mem_append] at ha
      rcases ha with ha | ha | ha | ha
      · exact hr R3 ha (fun q hq => by rw [hnw4]; simp [hq])
      · exact hr R2 ha (fun q hq => by rw [hnw4]; simp [hq])
      · exact hr R1 ha (fun q hq => by rw [hnw4]; simp [hq])
      · exact hr R0 ha (fun q hq => by rw [hnw4]; simp [hq])
  have hB0 := Below2.start hbn hbl
  have hw0 := off_push hno hlt0
  have hB1 := hB0.push la0.1
  have hlt1 : ∀ q ∈ nw0, @LT.lt Nat _ q.1 a0 := fun q hq => Nat.lt_trans (hlt0 q hq) la0.1
  have hw1 := off_push hw0 hlt1
  have hB2 := hB1.push la1.1
  have hlt2 : ∀ q ∈ nw0, @LT.lt Nat _ q.1 a1 := fun q hq => Nat.lt_trans (hlt1 q hq) la1.1
  have hw2 := off_push hw1 hlt2
  have hB3 := hB2.push la2.1
  have hlt3 : ∀ q ∈ nw0, @LT.lt Nat _ q.1 a2 := fun q hq => Nat.lt_trans (hlt2 q hq) la2.1
  have hw3 := off_push hw2 hlt3
  have hB4 := hB3.push la3.1
  have hlt4 : ∀ q ∈ nw0, @LT.lt Nat _ q.1 a3 := fun q hq => Nat.lt_trans (hlt3 q hq) la3.1
  have hw4 := off_push hw3 hlt4
  have hB5 := hB4.push lla.1
  have hlt5 : ∀ q ∈ nw0, @LT.lt Nat _ q.1 la := fun q hq => Nat.lt_trans (hlt4 q hq) lla.1
  have hw5 := off_push hw4 hlt5
  have hB6 := hB5.push l00.1
  have hlt6 : ∀ q ∈ nw0, @LT.lt Nat _ q.1 c00 := fun q hq => Nat.lt_trans (hlt5 q hq) l00.1
  have hw6 := off_push hw5 hlt6
  have hB7 := hB6.push l01.1
  have hlt7 : ∀ q ∈ nw0, @LT.lt Nat _ q.1 c01 := fun q hq => Nat.lt_trans (hlt6 q hq) l01.1
  have hw7 := off_push hw6 hlt7
  have hB8 := hB7.push lp0.1
  have hlt8 : ∀ q ∈ nw0, @LT.lt Nat _ q.1 p0 := fun q hq => Nat.lt_trans (hlt7 q hq) lp0.1
  have hw8 := off_push hw7 hlt8
  have hB9 := hB8.push l10.1
  have hlt9 : ∀ q ∈ nw0, @LT.lt Nat _ q.1 c10 := fun q hq => Nat.lt_trans (hlt8 q hq) l10.1
  have hw9 := off_push hw8 hlt9
  have hB10 := hB9.push l11.1
  have hlt10 : ∀ q ∈ nw0, @LT.lt Nat _ q.1 c11 := fun q hq => Nat.lt_trans (hlt9 q hq) l11.1
  have hw10 := off_push hw9 hlt10
  have hB11 := hB10.push lp1.1
  have hlt11 : ∀ q ∈ nw0, @LT.lt Nat _ q.1 p1 := fun q hq => Nat.lt_trans (hlt10 q hq) lp1.1
  have hw11 := off_push hw10 hlt11
  have hB12 := hB11.push l20.1
  have hlt12 : ∀ q ∈ nw0, @LT.lt Nat _ q.1 c20 := fun q hq => Nat.lt_trans (hlt11 q hq) l20.1
  have hw12 := off_push hw11 hlt12
  have hB13 := hB12.push l21.1
  have hlt13 : ∀ q ∈ nw0, @LT.lt Nat _ q.1 c21 := fun q hq => Nat.lt_trans (hlt12 q hq) l21.1
  have hw13 := off_push hw12 hlt13
  have hB14 := hB13.push lp2.1
  have hlt14 : ∀ q ∈ nw0, @LT.lt Nat _ q.1 p2 := fun q hq => Nat.lt_trans (hlt13 q hq) lp2.1
  have hw14 := off_push hw13 hlt14
  have hB15 := hB14.push l30.1
  have hlt15 : ∀ q ∈ nw0, @LT.lt Nat _ q.1 c30 := fun q hq => Nat.lt_trans (hlt14 q hq) l30.1
  have hw15 := off_push hw14 hlt15
  have hB16 := hB15.push l31.1
  have hlt16 : ∀ q ∈ nw0, @LT.lt Nat _ q.1 c31 := fun q hq => Nat.lt_trans (hlt15 q hq) l31.1
  have hw16 := off_push hw15 hlt16
  have hB17 := hB16.push lp3.1
  have hlt17 : ∀ q ∈ nw0, @LT.lt Nat _ q.1 p3 := fun q hq => Nat.lt_trans (hlt16 q hq) lp3.1
  have hw17 := off_push hw16 hlt17
  have hB18 := hB17.push llsc.1
  have hlt18 : ∀ q ∈ nw0, @LT.lt Nat _ q.1 lsc := fun q hq => Nat.lt_trans (hlt17 q hq) llsc.1
  have hw18 := off_push hw17 hlt18
  rw [hnw4] at N1
  obtain ⟨ad, RL0, P0, vo, va, vs, I0⟩ := init11 hB18.1 hw18 ⟨p10, p20, p30, p40⟩ ⟨p11, p21, p31, p41⟩ ⟨p12, p22, p32, p42⟩ ⟨p13, p23, p33, p43⟩ N1
  clear hltc hbl llo la0 la1 la2 la3 lla l00 l01 lp0 l10 l11 lp1 l20 l21 lp2 l30 l31 lp3 llsc hbn hno hcn hcm ho4 ho0 hx0 hx1 hx2 hx3 hap0 hap1 hap2 hap3 p10 p20 p30 p40 p11 p21 p31 p41 p12 p22 p32 p42 p13 p23 p33 p43 hnw4 hcells N1
  clear hB0 hlt0 hw0 hB1 hlt1 hw1 hB2 hlt2 hw2 hB3 hlt3 hw3 hB4 hlt4 hw4 hB5 hlt5 hw5 hB6 hlt6 hw6 hB7 hlt7 hw7 hB8 hlt8 hw8 hB9 hlt9 hw9 hB10 hlt10 hw10 hB11 hlt11 hw11 hB12 hlt12 hw12 hB13 hlt13 hw13 hB14 hlt14 hw14 hB15 hlt15 hw15 hB16 hlt16 hw16 hB17 hlt17 hw17 hB18 hlt18 hw18
  obtain ⟨kv, hkv, hkl, hkm⟩ : ∃ kv : List Value, (lk, W.listOf kv.toArray 0) ∈ nw0 ∧ kv.length = 5 ∧ ∀ q, q < 5 → ∃ t, kv[q]? = some (.str (kindN q) t) := by
    refine ⟨[_, _, _, _, _], by rw [hnw0]; exact List.Mem.tail _ (List.Mem.tail _ (List.Mem.tail _ (List.Mem.tail _ (List.Mem.tail _ (List.Mem.tail _ (List.Mem.tail _ (List.Mem.tail _ (List.Mem.tail _ (List.Mem.tail _ (List.Mem.tail _ (List.Mem.head _))))))))))), rfl, fun q hq => ?_⟩
    have hq5 : q = 0 ∨ q = 1 ∨ q = 2 ∨ q = 3 ∨ q = 4 := by omega
    rcases hq5 with rfl | rfl | rfl | rfl | rfl <;> exact ⟨_, rfl⟩
  have hD0 : (D0, W.listOf ws.toArray 0) ∈ nw0 := by rw [hnw0]; exact List.Mem.tail _ (List.Mem.tail _ (List.Mem.tail _ (List.Mem.tail _ (List.Mem.tail _ (List.Mem.tail _ (List.Mem.tail _ (List.Mem.tail _ (List.Mem.tail _ (List.Mem.tail _ (List.Mem.tail _ (List.Mem.tail _ (List.Mem.head _))))))))))))
  obtain ⟨nv, hnv, hnm⟩ : ∃ nv : List Value, (lnm, W.listOf nv.toArray 0) ∈ nw0 ∧ NamesAre nw0 nv := by
    refine ⟨[_, _, _, _, _], by rw [hnw0]; exact List.Mem.head _, rfl, fun q hq => ?_⟩
    have hq5 : q = 0 ∨ q = 1 ∨ q = 2 ∨ q = 3 ∨ q = 4 := by omega
    rw [hnw0]
    rcases hq5 with rfl | rfl | rfl | rfl | rfl
    · exact ⟨t0, f0, _, [_, _], rfl, by repeat (first | exact List.Mem.head _ | apply List.Mem.tail), by repeat (first | exact List.Mem.head _ | apply List.Mem.tail), .cons _ _ (.cons _ _ .nil)⟩
    · exact ⟨t1, f1, _, [_, _, _], rfl, by repeat (first | exact List.Mem.head _ | apply List.Mem.tail), by repeat (first | exact List.Mem.head _ | apply List.Mem.tail), .cons _ _ (.cons _ _ (.cons _ _ .nil))⟩
    · exact ⟨t2, f2, _, [_], rfl, by repeat (first | exact List.Mem.head _ | apply List.Mem.tail), by repeat (first | exact List.Mem.head _ | apply List.Mem.tail), .cons _ _ .nil⟩
    · exact ⟨t3, f3, _, [], rfl, by repeat (first | exact List.Mem.head _ | apply List.Mem.tail), by repeat (first | exact List.Mem.head _ | apply List.Mem.tail), .nil⟩
    · exact ⟨t4, f4, _, [_, _, _], rfl, by repeat (first | exact List.Mem.head _ | apply List.Mem.tail), by repeat (first | exact List.Mem.head _ | apply List.Mem.tail), .cons _ _ (.cons _ _ (.cons _ _ .nil))⟩
  clear hnw0 hfix0 hb0
  have hln := hI1.length
  have hwl : ws.length ≤ 63 := by omega
  refine For_of F1 rfl rfl ?_
  walk_at "go"
  refine Stop.go ?_
  refine iter_anyGL (l := D0) (vs := ws) (nn := 0) (J11s wd.params ⟨s₁.heap.objs.size + 1 + 1, s₁.heap.objs.size + 1, s₁.heap.objs.size + 1 + 1 + 1, s₁.heap.objs.size + 1 + 1 + 1 + 1, oa, wi, wf⟩ ad RL0 [Str.ofString "x", Str.ofString "rest", Str.ofString "reaches", Str.ofString "j"] _) rfl (List.mem_append.mpr (.inr (I0.nw _ hD0)) |> fun h => List.Mem.tail _ (List.Mem.tail _ (List.Mem.tail _ (List.Mem.tail _ (List.Mem.tail _ h))))) F1 I0.N ⟨P0, #[], wk, RL0, rfl, ⟨_, hk⟩, I0.off, (fun _ h => h), .inl rfl, I0.ok, (fun x hx R hR => by rw [I0.zs x hx] at hR; cases hR), fun _ _ => rfl⟩ ?turn1 ?done1
  case turn1 =>
    rintro i v m₁ news₁ h tk own hgi hoff - ⟨P, ps, oK, RL, rfl, ⟨vk, hoK⟩, hRL, h0, hT, hper, hrules, hm⟩ F6 N6
    clear F1
    refine gen_turn2 (fun Q92 => ?_)
    obtain ⟨z, tz, rfl⟩ := ints_at hI1 hgi
    have hi63 : i < 63 := by
      have := (List.getElem?_eq_some_iff.mp hgi).1
      omega
    clear hgi
    rw [mapS hm] at F6
    obtain ⟨k, hkm3, hk3⟩ := fmod_nat z 3 (by decide)
    have hk4 : k < 4 := by omega
    obtain ⟨rest, hrest, N7, hor, hnd⟩ := pick11 hk4 I0.sep hRL hoff N6
    clear N6
    have fx : ∀ q ∈ RL0, q ∈ rest := fun q hq => hrest.rl q (h0 q hq)
    have mo := fx _ I0.ho
    have mv := fx _ I0.ha
    have ms := fx _ I0.hs
    have mk := fx _ (I0.nw _ hkv)
    have f1 := fx _ (I0.fix k hk4 _ (List.Mem.head _))
    have f2 := fx _ (I0.fix k hk4 _ (List.Mem.tail _ (List.Mem.head _)))
    have f3 := fx _ (I0.fix k hk4 _ (List.Mem.tail _ (List.Mem.tail _ (List.Mem.head _))))
    have e1 := I0.vo4 k hk4
    have e2 := I0.va4 k hk4
    have e3 := I0.vs4 k hk4
    have hP := hper k hk4
    have hnd' := hnd
    obtain ⟨P9, hP9⟩ : ∃ y, y = P k := ⟨_, rfl⟩
    obtain ⟨A9, hA9⟩ : ∃ y, y = ad k := ⟨_, rfl⟩
    rw [← hA9] at f1 f2 f3 e1 e2 e3 N7 hor hnd
    rw [← hP9] at N7 hP
    dsimp only [recDict, toRec] at f1 f2 f3
    dsimp only [Front] at N7
    dsimp only [frontAdr] at hor hnd
    simp only [List.nodup_cons, List.mem_cons, List.not_mem_nil, or_false, not_or, not_false_eq_true, List.nodup_nil, and_true] at hnd
    obtain ⟨⟨a1, a2, a3, a4, a5, a6, a7⟩, ⟨b2, b3, b4, b5, b6, b7⟩, ⟨c3, c4, c5, c6, c7⟩, ⟨d4, d5, d6, d7⟩, ⟨g5, g6, g7⟩, ⟨j6, j7⟩, o7⟩ := hnd
    obtain ⟨Z1, Z2, Z3, Z4, Z5⟩ := hP.lens
    have y1 : Fits P9.us.toArray.size := by show _ ≤ sizeLine; rw [List.size_toArray, sizeLine_eq]; omega
    have y2 : Fits (ruleRefs P9.zs).toArray.size := by show _ ≤ sizeLine; unfold ruleRefs; rw [List.size_toArray, List.length_map, sizeLine_eq]; omega
    have y3 : Fits P9.av.toArray.size := by show _ ≤ sizeLine; rw [List.size_toArray, sizeLine_eq]; omega
    have y4 : Fits P9.s0.toArray.size := by show _ ≤ sizeLine; rw [List.size_toArray, sizeLine_eq]; omega
    have y5 : Fits P9.s1.toArray.size := by show _ ≤ sizeLine; rw [List.size_toArray, sizeLine_eq]; omega
    obtain ⟨sd, hsd, hsd2⟩ := fmod_nat (Int.fdiv z 3) 2 (by decide)
    replace hkm3 : ModIs z 3 (k : Int) := ⟨hkm3⟩
    replace hsd : ModIs (Int.fdiv z 3) 2 (sd : Int) := ⟨hsd⟩
    have hsc : sd = 0 ∨ sd = 1 := by omega
    rcases hsc with rfl | rfl
    · obtain ⟨q, hq, hq5⟩ := fmod_nat (Int.fdiv z 6) 5 (by decide)
      replace hq : ModIs (Int.fdiv z 6) 5 (q : Int) := ⟨hq⟩
      obtain ⟨kt, hkt⟩ := hkm q hq5
      walk_at "go"
      refine Stop.go ?_
      (with_reducible rename Fr _ _ _ _ => F8); (with_reducible rename News _ _ _ _ => N8)
      (with_reducible rename Obj => oK2); (with_reducible rename _ = Data.cell (some _) => hoK2)
      rw [List.push_toArray, List.push_toArray] at N8
      rename_i tq _ _
      subst hA9 hP9
      refine InvEndG.mono (put11 (XR := []) (P' := ⟨(P k).us ++ [.str (kindN q) kt], (P k).cu + 1, (P k).zs, (P k).cl, (P k).av ++ [.int (q : Int) tq], (P k).ca + 1, (P k).an ++ [q], (P k).s0, (P k).n0, (P k).s1, (P k).n1⟩) F8 N8 hk4 hRL hoff h0 hrest hper hrules ⟨_, hoK2⟩ (fun _ h => nomatch h) hT (hP.addU hq5) (hrules k hk4) (fun q9 hq9 => ?_) (fun y hy => ?_)) (fun _ _ h9 => ⟨h9.mem (I0.nw _ hD0), h9⟩)
      · simp only [perLed, List.cons_append, List.nil_append, List.mem_cons] at hq9 ⊢
        rcases hq9 with h | h | h | h | h | h | h | h | h <;> simp only [h, true_or, or_true]
      · have q1 := off_str hy (List.Mem.head _)
        have q2 := off_str hy (List.Mem.tail _ (List.Mem.head _))
        (try dsimp only)
        simp only [if_neg q1, if_neg q2, hy, Bool.false_eq_true, if_false]
    · obtain ⟨x0, hx0, hx04⟩ := fmod_nat (Int.fdiv (Int.fdiv z 6) 2) 4 (by decide)
      obtain ⟨x1, hx1, hx14⟩ := fmod_nat (Int.fdiv (Int.fdiv z 6) 8) 4 (by decide)
      obtain ⟨b2, hb2, hb22⟩ := fmod_nat (Int.fdiv z 6) 2 (by decide)
      replace hx0 : ModIs (Int.fdiv (Int.fdiv z 6) 2) 4 (x0 : Int) := ⟨hx0⟩
      replace hx1 : ModIs (Int.fdiv (Int.fdiv z 6) 8) 4 (x1 : Int) := ⟨hx1⟩
      replace hb2 : ModIs (Int.fdiv z 6) 2 (b2 : Int) := ⟨hb2⟩
      walk_at "go"
      refine Stop.go ?_
      (with_reducible rename Fr _ _ _ _ => F8); (with_reducible rename News _ _ _ _ => N8)
      (with_reducible rename Obj => oK2); (with_reducible rename _ = Data.cell (some _) => hoK2)
      rename_i tr0 _ tr1 _ lr _ llr h9 _ _
      have m65 := N8 (65, tabObj ps) (List.Mem.tail _ (List.Mem.tail _ (List.Mem.tail _ (List.Mem.tail _ (List.Mem.tail _ (List.Mem.tail _ (List.Mem.tail _ (List.Mem.tail _ (List.Mem.head _)))))))))
      have n65 : @Ne Nat lr 65 := Nat.ne_of_gt (by omega)
      have hr9 : ∀ q ∈ [(lr, W.listOf #[Value.int (x0 : Int) tr0, Value.int (x1 : Int) tr1] 0), (s₁.heap.objs.size + 1 + 1, oK2), (s₁.heap.objs.size + 1, oa), (A9.u, W.listOf P9.us.toArray P9.cu), (A9.l, W.listOf (ruleRefs P9.zs).toArray P9.cl), (A9.a, W.listOf P9.av.toArray P9.ca), (A9.c0, W.listOf P9.s0.toArray P9.n0), (A9.c1, W.listOf P9.s1.toArray P9.n1)] ++ rest, q.1 ≠ 65 := by
        intro q hq
        rcases List.mem_append.mp hq with h | h
        · simp only [List.mem_cons, List.not_mem_nil, or_false] at h
          rcases h with rfl | rfl | rfl | rfl | rfl | rfl | rfl | rfl
          · exact n65
          · exact a7
          · exact b7
          · exact c7
          · exact d7
          · exact g7
          · exact j7
          · exact o7
        · exact hor q h _ (by simp)
      refine ct_rule (lr := lr) (b := ((b2 : Int) == 1)) (ps := ps) (A := Around.deeper _ _) KX T F8.keep m65.1 m65.2.2 (tabSt_of N8 (fun q hq => List.Mem.tail _ (List.Mem.tail _ (List.Mem.tail _ (List.Mem.tail _ (List.Mem.tail _ (List.Mem.tail _ (List.Mem.tail _ (List.Mem.tail _ (List.Mem.tail _ (hrest.rl q hq)))))))))) hT) (by (simp only [depth_deeper, depth_caller]; decide)) rfl (fun h10 tk10 D c kp h65 hDc hDl hDok hDb hDlr hDf => ?_)
      obtain ⟨F10, N10, hfr, hT10⟩ := rule_step (pre := [(lr, W.listOf #[Value.int (x0 : Int) tr0, Value.int (x1 : Int) tr1] 0), (s₁.heap.objs.size + 1 + 1, oK2), (s₁.heap.objs.size + 1, oa), (A9.u, W.listOf P9.us.toArray P9.cu), (A9.l, W.listOf (ruleRefs P9.zs).toArray P9.cl), (A9.a, W.listOf P9.av.toArray P9.ca), (A9.c0, W.listOf P9.s0.toArray P9.n0), (A9.c1, W.listOf P9.s1.toArray P9.n1)]) F8 N8 hr9 hrest.rl hT kp h65 hDc hDl hDok hDf
      dsimp only [List.cons_append, List.nil_append] at N10 hfr
      obtain ⟨rest2, hrest2⟩ : ∃ y, y = ruleLed wd.params D ++ rest := ⟨_, rfl⟩
      rw [← hrest2] at N10
      have up2 : ∀ q ∈ rest, q ∈ rest2 := fun q hq => by rw [hrest2]; exact List.mem_append.mpr (.inr hq)
      have hor2 : OwnOff rest2 [s₁.heap.objs.size + 1 + 1, s₁.heap.objs.size + 1, A9.u, A9.l, A9.a, A9.c0, A9.c1, 65] := by
        rw [hrest2]
        intro q hq a ha
        rcases List.mem_append.mp hq with hq | hq
        · rcases hfr q hq with e | e
          · exact hor q (hrest.rl q e) a ha
          · simp only [List.mem_cons, List.not_mem_nil, or_false] at ha
            rcases ha with rfl | rfl | rfl | rfl | rfl | rfl | rfl | rfl
            · exact (e (_, oK2) (by simp)).symm
            · exact (e (_, oa) (by simp)).symm
            · exact (e (A9.u, W.listOf P9.us.toArray P9.cu) (by simp)).symm
            · exact (e (A9.l, W.listOf (ruleRefs P9.zs).toArray P9.cl) (by simp)).symm
            · exact (e (A9.a, W.listOf P9.av.toArray P9.ca) (by simp)).symm
            · exact (e (A9.c0, W.listOf P9.s0.toArray P9.n0) (by simp)).symm
            · exact (e (A9.c1, W.listOf P9.s1.toArray P9.n1) (by simp)).symm
            · exact (e (65, tabObj ps) (by simp)).symm
        · exact hor q hq a ha
      replace mo := up2 _ mo
      replace mv := up2 _ mv
      replace ms := up2 _ ms
      replace mk := up2 _ mk
      replace f1 := up2 _ f1
      replace f2 := up2 _ f2
      replace f3 := up2 _ f3
      clear F8 N8 m65 hr9 kp h65 N7 F6
      dsimp only at F10 N10 ⊢
      walk_at "go"
      refine Stop.go ?_
      (with_reducible rename Fr _ _ _ _ => F11)
      refine For_of F11 rfl rfl ?_
      walk_at "go"
      refine Stop.go ?_
      rename IsRange _ _ _ _ _ _ _ _ => R5
      (with_reducible rename Fr _ _ _ _ => F12); (with_reducible rename News _ _ _ _ => N12)
      obtain ⟨ZR, hZR⟩ : ∃ y, y = RuleS.mk D (x0 : Int) (x1 : Int) tr0 tr1 0 := ⟨_, rfl⟩
      rw [List.push_toArray, show ruleRefs P9.zs ++ [Value.ref D.r] = ruleRefs (P9.zs ++ [ZR]) from by rw [ruleRefs_snoc, hZR]] at N12
      obtain ⟨rest3, hrest3⟩ : ∃ y : Led, y = (lr, W.listOf #[Value.int (x0 : Int) tr0, Value.int (x1 : Int) tr1] 0) :: (s₁.heap.objs.size + 1, oa) :: (A9.u, W.listOf P9.us.toArray P9.cu) :: (A9.l, W.listOf (ruleRefs (P9.zs ++ [ZR])).toArray (P9.cl + 1)) :: (A9.a, W.listOf P9.av.toArray P9.ca) :: (65, tabObj (tab1 c)) :: rest2 := ⟨_, rfl⟩
      have N13 : News (ghostOf s₁.heap [(69, 65)]) s₁.heap.objs.size _ ((s₁.heap.objs.size + 1 + 1, oK2) :: (A9.c0, W.listOf P9.s0.toArray P9.n0) :: (A9.c1, W.listOf P9.s1.toArray P9.n1) :: rest3) := fun q hq => N12 q (by
        rw [hrest3] at hq
        simp only [List.mem_cons] at hq ⊢
        rcases hq with h | h | h | h | h | h | h | h | h | h <;> simp only [h, true_or, or_true])
      have hor3 : OwnOff rest3 [s₁.heap.objs.size + 1 + 1, A9.c0, A9.c1] := by
        rw [hrest3]
        have nl : ∀ a ∈ [s₁.heap.objs.size + 1 + 1, A9.c0, A9.c1], lr ≠ a := fun a ha => by
          simp only [List.mem_cons, List.not_mem_nil, or_false] at ha
          rcases ha with rfl | rfl | rfl <;> exact Nat.ne_of_gt (by omega)
        intro q hq a ha
        rcases List.mem_cons.mp hq with rfl | hq
        · exact nl a ha
        · simp only [List.mem_cons, List.not_mem_nil, or_false] at ha
          simp only [List.mem_cons] at hq
          rcases ha with rfl | rfl | rfl
          · rcases hq with rfl | rfl | rfl | rfl | rfl | h
            · exact fun e => a1 e.symm
            · exact fun e => a2 e.symm
            · exact fun e => a3 e.symm
            · exact fun e => a4 e.symm
            · exact fun e => a7 e.symm
            · exact hor2 q h _ (by simp)
          · rcases hq with rfl | rfl | rfl | rfl | rfl | h
            · exact b5
            · exact c5
            · exact d5
            · exact g5
            · exact fun e => j7 e.symm
            · exact hor2 q h _ (by simp)
          · rcases hq with rfl | rfl | rfl | rfl | rfl | h
            · exact b6
            · exact c6
            · exact d6
            · exact g6
            · exact fun e => o7 e.symm
            · exact hor2 q h _ (by simp)
      have mlr : (lr, W.listOf #[Value.int (x0 : Int) tr0, Value.int (x1 : Int) tr1] 0) ∈ rest3 := by rw [hrest3]; exact List.Mem.head _
      have up3 : ∀ q ∈ rest2, q ∈ rest3 := fun q hq => by rw [hrest3]; exact List.Mem.tail _ (List.Mem.tail _ (List.Mem.tail _ (List.Mem.tail _ (List.Mem.tail _ (List.Mem.tail _ hq)))))
      replace ms := up3 _ ms
      replace f3 := up3 _ f3
      refine iter_rangeG (n := 2) (JB (s₁.heap.objs.size + 1 + 1) A9.c0 A9.c1 oK2 rest3 (x0 : Int) (x1 : Int) (b2 : Int) P9.s0 P9.s1 P9.n0 P9.n1 _) rfl R5 rfl (by decide) (by decide) (by decide) F12 N13 ⟨P9.s0, P9.n0, P9.s1, P9.n1, rfl, by rw [if_neg (fun e => absurd e.1 (by decide))], by rw [if_neg (fun e => absurd e.1 (by decide))], fun _ _ => rfl⟩ ?turnj ?donej
      case turnj =>
        rintro i2 t2 m2 news2 h2 tk2 own2 hi2 hoff2 ⟨u0, k0, u1, k1, rfl, w0, w1, hm2⟩ F14 N14
        clear F12 N12 N13
        refine gen_turn2 (fun Q93 => ?_)
        rw [mapS hm2, Int.zero_add] at F14
        obtain ⟨rest4, hrest4⟩ : ∃ y : Led, y = rest3 ++ own2 := ⟨_, rfl⟩
        have N15 : News (ghostOf s₁.heap [(69, 65)]) s₁.heap.objs.size h2 ((s₁.heap.objs.size + 1 + 1, oK2) :: (A9.c0, W.listOf u0.toArray k0) :: (A9.c1, W.listOf u1.toArray k1) :: rest4) := by rw [hrest4]; exact N14
        have hor4 : OwnOff rest4 [s₁.heap.objs.size + 1 + 1, A9.c0, A9.c1] := by
          rw [hrest4]
          intro q hq a ha
          rcases List.mem_append.mp hq with h | h
          · exact hor3 q h a ha
          · refine hoff2 q h a ?_
            simp only [List.mem_cons, List.not_mem_nil, or_false] at ha
            rcases ha with rfl | rfl | rfl <;> simp
        have up4 : ∀ q ∈ rest3, q ∈ rest4 := fun q hq => by rw [hrest4]; exact List.mem_append.mpr (.inl hq)
        replace mlr := up4 _ mlr
        replace ms := up4 _ ms
        replace f3 := up4 _ f3
        have hi2' : i2 = 0 ∨ i2 = 1 := by omega
        clear N14 hrest3 hor3
        rcases hi2' with rfl | rfl
        · rw [if_neg (fun e => absurd e.1 (by decide))] at w0 w1
          subst w0 w1
          by_cases hp : 0 < x0
          · walk_at "go"
            refine Stop.go ?_
            (with_reducible rename Fr _ _ _ _ => F16); (with_reducible rename News _ _ _ _ => N16)
            rw [List.push_toArray] at N16
            refine endJB F16 N16 hrest4 hoff2 (by rw [if_pos ⟨by decide, by omega⟩]; exact ⟨_, rfl⟩) (by rw [if_neg (fun e => absurd e.1 (by decide))]) (fun y hy => ?_)
            have q1 := off_str hy (List.Mem.head _)
            (try dsimp only)
            simp only [if_neg q1, hy, Bool.false_eq_true, if_false]
          · walk_at "go"
            refine Stop.go ?_
            (with_reducible rename Fr _ _ _ _ => F16); (with_reducible rename News _ _ _ _ => N16)
            refine endJB F16 N16 hrest4 hoff2 (by rw [if_neg (fun e => hp (by omega))]) (by rw [if_neg (fun e => absurd e.1 (by decide))]) (fun y hy => ?_)
            have q1 := off_str hy (List.Mem.head _)
            (try dsimp only)
            simp only [if_neg q1, hy, Bool.false_eq_true, if_false]
        · rw [if_neg (fun e => absurd e.1 (by decide))] at w1
          subst w1
          by_cases hp : 0 < x1
          · walk_at "go"
            refine Stop.go ?_
            (with_reducible rename Fr _ _ _ _ => F16); (with_reducible rename News _ _ _ _ => N16)
            rw [List.push_toArray] at N16
            refine endJB F16 N16 hrest4 hoff2 (if_up (by decide) (by decide) w0) (by rw [if_pos ⟨by decide, by omega⟩]; exact ⟨_, rfl⟩) (fun y hy => ?_)
            have q1 := off_str hy (List.Mem.head _)
            (try dsimp only)
            simp only [if_neg q1, hy, Bool.false_eq_true, if_false]
          · walk_at "go"
            refine Stop.go ?_
            (with_reducible rename Fr _ _ _ _ => F16); (with_reducible rename News _ _ _ _ => N16)
            refine endJB F16 N16 hrest4 hoff2 (if_up (by decide) (by decide) w0) (by rw [if_neg (fun e => hp (by omega))]) (fun y hy => ?_)
            have q1 := off_str hy (List.Mem.head _)
            (try dsimp only)
            simp only [if_neg q1, hy, Bool.false_eq_true, if_false]
      case donej =>
        rintro m2 news2 h2 tk2 ⟨u0, k0, u1, k1, rfl, w0, w1, hm2⟩ F14 N14
        clear F12 N12 N13
        rw [mapS hm2] at F14
        walk_at "go"
        refine Stop.go ?_
        (with_reducible rename Fr _ _ _ _ => F16); (with_reducible rename News _ _ _ _ => N16)
        rw [hrest3, hrest2] at N16
        have hnew : ∀ q ∈ fullLed wd.params ZR, q ∈ RL ∨ ∀ z ∈ Front ⟨s₁.heap.objs.size + 1 + 1, s₁.heap.objs.size + 1, s₁.heap.objs.size + 1 + 1 + 1, s₁.heap.objs.size + 1 + 1 + 1 + 1, oa, wi, wf⟩ oK2 ps A9 P9 rest, z.1 ≠ q.1 := by
          intro q hq
          rcases List.mem_cons.mp hq with rfl | hq
          · right
            intro z hz
            rw [hZR]
            show @Ne Nat z.1 D.lr
            rw [hDlr]
            have hz' : z ∈ (s₁.heap.objs.size + 1 + 1, oK2) :: (s₁.heap.objs.size + 1, oa) :: (A9.u, W.listOf P9.us.toArray P9.cu) :: (A9.l, W.listOf (ruleRefs P9.zs).toArray P9.cl) :: (A9.a, W.listOf P9.av.toArray P9.ca) :: (A9.c0, W.listOf P9.s0.toArray P9.n0) :: (A9.c1, W.listOf P9.s1.toArray P9.n1) :: (65, tabObj ps) :: rest := hz
            exact Nat.ne_of_lt (allLt_mem2 hz' llr)
          · have hq' : q ∈ ruleLed wd.params D := by rw [hZR] at hq; exact hq
            rcases hfr q hq' with e | e
            · exact .inl e
            · exact .inr fun z hz => e z (List.Mem.tail _ hz)
        subst hA9 hP9
        refine InvEndG.mono (put11 (XR := fullLed wd.params ZR) (P' := ⟨(P k).us, (P k).cu, (P k).zs ++ [ZR], (P k).cl + 1, (P k).av, (P k).ca, (P k).an, u0, k0, u1, k1⟩) F16 N16 hk4 hRL hoff h0 hrest hper hrules ⟨_, hoK2⟩ (fun q hq => ?_) (hT10.mono fun q hq => ?_) (hP.addR (by rw [hZR]) (by rw [hZR]) (by omega) (by omega) (by omega) (by omega) (by rw [hZR]; dsimp only; rw [hDb]; exact b_of hb22) (if_out (by decide) w0) (if_out (by decide) w1)) (fun R hR => ?_) (fun q9 hq9 => ?_) (fun y hy => ?_)) (fun _ _ h9 => ⟨h9.mem (I0.nw _ hD0), h9⟩)
        · rcases hnew q hq with e | e
          · exact .inl e
          · refine .inr ⟨fun a ha e9 => ?_, fun z hz => e z ?_⟩
            · obtain ⟨z, hz, hza⟩ := ch_in (oK := oK2) (ps := ps) hrest ha
              exact e z hz (hza.trans e9.symm)
            · unfold Front
              simp [hrest.ow z hz]
        · refine List.mem_append.mpr (.inl (List.Mem.tail _ ?_))
          rw [hZR]; exact hq
        · rcases List.mem_append.mp hR with hR | hR
          · exact ⟨fun q hq => List.mem_append.mpr (.inr ((hrules k hk4 R hR).1 q hq)), (hrules k hk4 R hR).2⟩
          · rw [List.mem_singleton.mp hR]
            exact ⟨fun q hq => List.mem_append.mpr (.inl hq), by rw [hZR]; exact hDok⟩
        · have hfl : fullLed wd.params ZR = (lr, W.listOf #[Value.int (x0 : Int) tr0, Value.int (x1 : Int) tr1] 0) :: ruleLed wd.params D := by rw [hZR]; unfold fullLed; dsimp only; rw [hDlr]; rfl
          rw [hfl] at hq9
          simp only [perLed, List.cons_append, List.nil_append, List.mem_cons, List.mem_append] at hq9 ⊢
          rcases hq9 with h | h | h | h | h | h | h | h | h | h | h <;> simp only [h, true_or, or_true]
        · have q1 := off_str hy (List.Mem.head _)
          have q2 := off_str hy (List.Mem.tail _ (List.Mem.head _))
          have q3 := off_str hy (List.Mem.tail _ (List.Mem.tail _ (List.Mem.head _)))
          have q4 := off_str hy (List.Mem.tail _ (List.Mem.tail _ (List.Mem.tail _ (List.Mem.head _))))
          have q5 : [Str.ofString "j"].contains y = false := off_subl hy (fun a ha => by rw [List.mem_singleton.mp ha]; exact List.Mem.tail _ (List.Mem.tail _ (List.Mem.tail _ (List.Mem.head _))))
          (try dsimp only)
          simp only [if_neg q1, if_neg q2, if_neg q3, if_neg q4, q5, hy, Bool.false_eq_true, if_false]
  case done1 =>
    rintro m₁ news₁ h tk - ⟨P, ps, oK, RL, rfl, ⟨vk, hoK⟩, hRL, h0, hT, hper, hrules, hm⟩ F6 N6
    clear F1
    rw [mapS hm] at F6
    obtain ⟨X, hX⟩ : ∃ y, y = Led11 ⟨s₁.heap.objs.size + 1 + 1, s₁.heap.objs.size + 1, s₁.heap.objs.size + 1 + 1 + 1, s₁.heap.objs.size + 1 + 1 + 1 + 1, oa, wi, wf⟩ oK ps ad P RL := ⟨_, rfl⟩
    have inRL : ∀ q ∈ RL, q ∈ X := fun q hq => by rw [hX]; unfold Led11; simp [hq]
    have in0 : ∀ q ∈ RL0, q ∈ X := fun q hq => inRL q (h0 q hq)
    have inP : ∀ y, y < 4 → ∀ q ∈ perLed (ad y) (P y), q ∈ X := fun y hy q hq => by rw [hX]; unfold Led11; simp [mem_perLeds.mpr ⟨y, hy, hq⟩]
    have hsx := in0 _ I0.hs
    rw [← hX] at N6
    walk_at "go"
    refine Stop.go ?_
    refine compGA (ax := lsc) (vs := vs) (JTops P X [s₁.heap.objs.size + 1 + 1, s₁.heap.objs.size + 1 + 1 + 1, s₁.heap.objs.size + 1 + 1 + 1 + 1]) rfl F6 rfl (by rw [I0.vsl]; decide) (by with_unfolding_all rfl) (by with_unfolding_all rfl) (by decide) rfl (by decide) rfl rfl rfl ?iterT ⟨[], rfl, rfl, (fun _ h => h), (fun _ _ h => nomatch h), fun _ h => nomatch h⟩ ?turnT ?finT
    case iterT =>
      walk_at "go"
      refine Stop.go ?_
      (with_reducible rename Fr _ _ _ _ => F9); (with_reducible rename News _ _ _ _ => N9)
      exact ⟨rfl, ⟨_, _, rfl, F9, N9⟩, .inr ⟨_, hsx, rfl, _, rfl⟩⟩
    case turnT =>
      rintro y v ys2 news₁ I oI C oC D m₂ h tk E' hi hv hj hS hC hm5 F2 N2 off ne
      rw [I0.vsl] at hi
      have hvv := I0.vs4 y hi
      rw [hv] at hvv
      obtain rfl := Option.some.inj hvv
      clear F6 N6
      have hPy := hper y hi
      obtain ⟨_, Z2, _, _, _⟩ := hPy.lens
      obtain ⟨ts, _, _, hjX, _, _⟩ := id hj
      have px := hjX _ (in0 _ (I0.fix y hi _ (List.Mem.tail _ (List.Mem.tail _ (List.Mem.head _)))))
      have p0x := hjX _ (inP y hi _ (List.Mem.tail _ (List.Mem.tail _ (List.Mem.tail _ (List.Mem.head _)))))
      have p1x := hjX _ (inP y hi _ (List.Mem.tail _ (List.Mem.tail _ (List.Mem.tail _ (List.Mem.tail _ (List.Mem.head _))))))
      have hd01 := I0.sep.nd y hi
      simp only [adrs, List.nodup_cons, List.mem_cons, List.not_mem_nil, or_false, not_or, not_false_eq_true, List.nodup_nil, and_true] at hd01
      have hc01 := hd01.2.2.2
      walk_at "go"
      refine Stop.go ?_
      refine compU (ax := (ad y).p) (vs := [Value.ref (ad y).c0, Value.ref (ad y).c1]) (TopG (ad y).c0 (ad y).c1 (topOf (·.x0) (P y).zs) (topOf (·.x1) (P y).zs)) rfl F2 N2 (Nat.le_of_ble_eq_true rfl) (by with_unfolding_all rfl) (by decide) rfl (by decide) rfl ?iterI ?turnI ?finI
      case iterI =>
        walk_at "go"
        refine Stop.go ?_
        (with_reducible rename Fr _ _ _ _ => F9); (with_reducible rename News _ _ _ _ => N9)
        exact ⟨rfl, ⟨_, _, rfl, F9, N9⟩, .inr ⟨_, List.Mem.tail _ (List.Mem.tail _ (List.Mem.tail _ px)), rfl, _, rfl⟩⟩
      case turnI =>
        rintro v2 I2 oI2 C2 oC2 D2 oD2 m3 h3 tk3 E3 hv2 hC2 hm3 F3 N3 off3 ne3
        clear F2 N2
        simp only [List.mem_cons, List.not_mem_nil, or_false] at hv2
        rcases hv2 with rfl | rfl
        · walk_at "go"
          refine Stop.go ?_
          (with_reducible rename Fr _ _ _ _ => F9); (with_reducible rename News _ _ _ _ => N9)
          refine kso_max (vs := (P y).s0) F9 N9 (News.isList N9 (n := (P y).n0) (List.Mem.tail _ (List.Mem.tail _ (List.Mem.tail _ (List.Mem.tail _ (List.Mem.tail _ (List.Mem.tail _ p0x))))))) hPy.s0 (by simp) rfl (fun h' M t tk F' N' hM ha => ?_)
          exact ⟨⟨fun _ => ⟨t, by rw [max_unique hM ha]; rfl⟩, fun e => absurd (Value.ref.inj e) hc01⟩, ⟨_, _, rfl, F', N'⟩⟩
        · walk_at "go"
          refine Stop.go ?_
          (with_reducible rename Fr _ _ _ _ => F9); (with_reducible rename News _ _ _ _ => N9)
          refine kso_max (vs := (P y).s1) F9 N9 (News.isList N9 (n := (P y).n1) (List.Mem.tail _ (List.Mem.tail _ (List.Mem.tail _ (List.Mem.tail _ (List.Mem.tail _ (List.Mem.tail _ p1x))))))) hPy.s1 (by simp) rfl (fun h' M t tk F' N' hM ha => ?_)
          exact ⟨⟨fun e => absurd (Value.ref.inj e).symm hc01, fun _ => ⟨t, by rw [max_unique hM ha]; rfl⟩⟩, ⟨_, _, rfl, F', N'⟩⟩
      case finI =>
        rintro D2 ys3 h3 tk3 hpair F3 N3 off3
        obtain ⟨z0, z1, rfl, g0, g1⟩ := pair_two hpair
        obtain ⟨u0, rfl⟩ := g0.1 rfl
        obtain ⟨u1, rfl⟩ := g1.2 rfl
        have cX : ∀ a ∈ [s₁.heap.objs.size + 1 + 1, s₁.heap.objs.size + 1 + 1 + 1, s₁.heap.objs.size + 1 + 1 + 1 + 1], D2 ≠ a := by
          intro a ha
          simp only [List.mem_cons, List.not_mem_nil, or_false] at ha
          rcases ha with rfl | rfl | rfl
          · exact (off3 (_, oK) (List.Mem.tail _ (List.Mem.tail _ (List.Mem.tail _ (hjX _ (by rw [hX]; simp [Led11])))))).symm
          · exact (off3 (_, wi) (List.Mem.tail _ (List.Mem.tail _ (List.Mem.tail _ (hjX _ (by rw [hX]; simp [Led11])))))).symm
          · exact (off3 (_, wf) (List.Mem.tail _ (List.Mem.tail _ (List.Mem.tail _ (hjX _ (by rw [hX]; simp [Led11])))))).symm
        refine ⟨_, _, topAt P y (D2, u0, u1) :: news₁, rfl, F3, fun q hq => ?_, fun q hq => ?_, srcAt_mono hS (fun q hq => List.Mem.tail _ hq), hj.snoc (T := (D2, u0, u1)) cX⟩
        · simp only [List.mem_cons] at hq
          rcases hq with h | h | h | h | h
          · exact N3 q (by simp [h])
          · exact N3 q (by simp [h])
          · exact N3 q (by simp [h])
          · rw [h]; exact N3 _ (List.Mem.head _)
          · exact N3 q (by simp [h])
        · rcases List.mem_cons.mp hq with rfl | hq
          · exact ⟨(off3 (I, oI) (by simp)).symm, (off3 (C, oC) (by simp)).symm, (off3 (D, lst ys2) (by simp)).symm⟩
          · exact off q hq
    case finT =>
      rintro lt ys2 news' h tk ⟨ts, htl, rfl, hjX, htop, hjc⟩ F7 N7 off7
      rw [I0.vsl] at htl
      clear F6 N6
      dsimp only
      obtain ⟨rest5, hrest5⟩ : ∃ y : Led, y = (lt, lst (ts.map fun T => Value.ref T.1)) :: offF [s₁.heap.objs.size + 1 + 1, s₁.heap.objs.size + 1 + 1 + 1, s₁.heap.objs.size + 1 + 1 + 1 + 1] news' := ⟨_, rfl⟩
      have hcell : ∀ q, q = (s₁.heap.objs.size + 1 + 1, oK) ∨ q = (s₁.heap.objs.size + 1 + 1 + 1, wi) ∨ q = (s₁.heap.objs.size + 1 + 1 + 1 + 1, wf) → q ∈ news' := fun q hq => hjX q (by
        rw [hX]; unfold Led11; simp only [List.mem_cons]
        rcases hq with h | h | h <;> simp [h])
      have N8 : News (ghostOf s₁.heap [(69, 65)]) s₁.heap.objs.size h ((s₁.heap.objs.size + 1 + 1, oK) :: (s₁.heap.objs.size + 1 + 1 + 1, wi) :: (s₁.heap.objs.size + 1 + 1 + 1 + 1, wf) :: rest5) := fun q hq => N7 q (by
        rw [hrest5] at hq
        simp only [List.mem_cons] at hq ⊢
        rcases hq with h | h | h | h | h
        · exact .inr (hcell q (.inl h))
        · exact .inr (hcell q (.inr (.inl h)))
        · exact .inr (hcell q (.inr (.inr h)))
        · exact .inl h
        · exact .inr (offF_sub h))
      have hor5 : OwnOff rest5 [s₁.heap.objs.size + 1 + 1, s₁.heap.objs.size + 1 + 1 + 1, s₁.heap.objs.size + 1 + 1 + 1 + 1] := by
        rw [hrest5]
        intro q hq a ha
        rcases List.mem_cons.mp hq with rfl | hq
        · simp only [List.mem_cons, List.not_mem_nil, or_false] at ha
          rcases ha with rfl | rfl | rfl
          · exact (off7 _ (hcell _ (.inl rfl))).symm
          · exact (off7 _ (hcell _ (.inr (.inl rfl)))).symm
          · exact (off7 _ (hcell _ (.inr (.inr rfl)))).symm
        · exact offF_off q hq a ha
      have to5 : ∀ q ∈ news', (∀ a ∈ [s₁.heap.objs.size + 1 + 1, s₁.heap.objs.size + 1 + 1 + 1, s₁.heap.objs.size + 1 + 1 + 1 + 1], q.1 ≠ a) → q ∈ rest5 := fun q hq hn => by rw [hrest5]; exact List.mem_cons_of_mem _ (offF_mem hq hn)
      have cfx : ∀ a ∈ [s₁.heap.objs.size + 1 + 1, s₁.heap.objs.size + 1 + 1 + 1, s₁.heap.objs.size + 1 + 1 + 1 + 1], a ∈ fxs ⟨s₁.heap.objs.size + 1 + 1, s₁.heap.objs.size + 1, s₁.heap.objs.size + 1 + 1 + 1, s₁.heap.objs.size + 1 + 1 + 1 + 1, oa, wi, wf⟩ := fun a ha => by
        simp only [List.mem_cons, List.not_mem_nil, or_false] at ha
        rcases ha with rfl | rfl | rfl <;> simp [fxs]
      have r5 : ∀ q ∈ RL, q ∈ rest5 := fun q hq => to5 q (hjX q (inRL q hq)) fun a ha => hRL q hq a (List.mem_append.mpr (.inl (cfx a ha)))
      have f5 : ∀ q ∈ RL0, q ∈ rest5 := fun q hq => r5 q (h0 q hq)
      have p5 : ∀ y, y < 4 → ∀ q ∈ perLed (ad y) (P y), q ∈ rest5 := fun y hy q hq => to5 q (hjX q (inP y hy q hq)) fun a ha => I0.sep.fix y hy _ (by rw [← perLed_adr (ad y) (P y)]; exact List.mem_map_of_mem (f := Prod.fst) hq) a (cfx a ha)
      have t5 : ∀ y T, ts[y]? = some T → topAt P y T ∈ rest5 := fun y T hT => to5 _ (htop y T hT) (hjc T (List.mem_of_getElem? hT))
      have hfx := I0.sep.fx
      simp only [fxs, List.nodup_cons, List.mem_cons, List.not_mem_nil, or_false, not_or, not_false_eq_true, List.nodup_nil, and_true] at hfx
      obtain ⟨⟨x1, x2, x3, x4⟩, ⟨x5, x6, x7⟩, ⟨x8, x9⟩, x10⟩ := hfx
      have ca5 : (s₁.heap.objs.size + 1, oa) ∈ rest5 := to5 _ (hjX _ (by rw [hX]; simp [Led11])) fun a ha => by
        simp only [List.mem_cons, List.not_mem_nil, or_false] at ha
        rcases ha with rfl | rfl | rfl
        · exact fun e => x1 e.symm
        · exact x5
        · exact x6
      have tb5 : (65, tabObj ps) ∈ rest5 := to5 _ (hjX _ (by rw [hX]; simp [Led11])) fun a ha => by
        simp only [List.mem_cons, List.not_mem_nil, or_false] at ha
        rcases ha with rfl | rfl | rfl
        · exact fun e => x4 e.symm
        · exact fun e => x9 e.symm
        · exact fun e => x10 e.symm
      have lt5 : (lt, lst (ts.map fun T => Value.ref T.1)) ∈ rest5 := by rw [hrest5]; exact List.Mem.head _
      clear N7 hrest5 hcell to5 hjX htop hjc off7 hX inRL in0 inP hsx
      walk_at "go"
      refine Stop.go ?_
      (with_reducible rename Fr _ _ _ _ => F8)
      with_unfolding_all refine For_turns F8 ?_
      walk_at "go"
      refine Stop.go ?_
      rename IsRange _ _ _ _ _ _ _ _ => R5
      (with_reducible rename Fr _ _ _ _ => F9); (with_reducible rename News _ _ _ _ => N9)
      refine range_turns (n := 4) (JN1 (s₁.heap.objs.size + 1 + 1) (s₁.heap.objs.size + 1 + 1 + 1) (s₁.heap.objs.size + 1 + 1 + 1 + 1) rest5 [Str.ofString "merge", Str.ofString "j", Str.ofString "both", Str.ofString "name"] _) rfl R5 (by decide) F9 N9 ⟨oK, wi, wf, rfl, ⟨_, hoK⟩, ⟨_, hi⟩, ⟨_, hf⟩, fun _ _ => rfl⟩ ?turnI ?doneI
      case turnI =>
        rintro ii ti m₁ news₁ h tk own1 hii hoff1 ⟨oK1, oI1, oF1, rfl, ⟨vK1, hoK1⟩, ⟨vI1, hoI1⟩, ⟨vF1, hoF1⟩, hm1⟩ F10 N10
        clear F9 N9
        rw [mapS hm1] at F10
        have hor6 := own3 hor5 hoff1
        obtain ⟨rest6, hrest6⟩ : ∃ y, y = rest5 ++ own1 := ⟨_, rfl⟩
        have N11 : News (ghostOf s₁.heap [(69, 65)]) s₁.heap.objs.size h ((s₁.heap.objs.size + 1 + 1, oK1) :: (s₁.heap.objs.size + 1 + 1 + 1, oI1) :: (s₁.heap.objs.size + 1 + 1 + 1 + 1, oF1) :: rest6) := by rw [hrest6]; exact N10
        rw [← hrest6] at hor6
        have up6 : ∀ q ∈ rest5, q ∈ rest6 := fun q hq => by rw [hrest6]; exact List.mem_append.mpr (.inl hq)
        clear N10
        refine gen_turn3 (fun Q81 => ?_)
        walk_at "go"
        refine Stop.go ?_
        (with_reducible rename Fr _ _ _ _ => F12)
        (with_reducible rename Obj => oI2); (with_reducible rename _ = Data.cell (some _) => hoI2)
        with_unfolding_all refine For_turns F12 ?_
        walk_at "go"
        refine Stop.go ?_
        rename IsRange _ _ _ _ _ _ _ _ => R6
        (with_reducible rename Fr _ _ _ _ => F13); (with_reducible rename News _ _ _ _ => N13)
        refine range_turns (n := 4) (JN2 (s₁.heap.objs.size + 1 + 1) (s₁.heap.objs.size + 1 + 1 + 1) (s₁.heap.objs.size + 1 + 1 + 1 + 1) oI2 rest6 [Str.ofString "merge", Str.ofString "j", Str.ofString "both", Str.ofString "name"] _) rfl R6 (by decide) F13 N13 ⟨oK1, oF1, rfl, ⟨_, hoK1⟩, ⟨_, hoF1⟩, fun _ _ => rfl⟩ ?turnK ?doneK
        case turnK =>
          rintro kk tkk m₂ news₂ h tk own2 hkk hoff2 ⟨oK2, oF2, rfl, ⟨vK2, hoK2⟩, ⟨vF2, hoF2⟩, hm2⟩ F14 N14
          clear F13 N13
          rw [mapS hm2] at F14
          have hor7 := own3 hor6 hoff2
          obtain ⟨rest7, hrest7⟩ : ∃ y, y = rest6 ++ own2 := ⟨_, rfl⟩
          have N15 : News (ghostOf s₁.heap [(69, 65)]) s₁.heap.objs.size h ((s₁.heap.objs.size + 1 + 1, oK2) :: (s₁.heap.objs.size + 1 + 1 + 1, oI2) :: (s₁.heap.objs.size + 1 + 1 + 1 + 1, oF2) :: rest7) := by rw [hrest7]; exact N14
          rw [← hrest7] at hor7
          have up7 : ∀ q ∈ rest5, q ∈ rest7 := fun q hq => by rw [hrest7]; exact List.mem_append.mpr (.inl (up6 q hq))
          clear N14 hor6
          have mo := up7 _ (f5 _ I0.ho)
          have e1 := I0.vo4 ii hii
          have e2 := I0.vo4 kk hkk
          have hPi := hper ii hii
          have hPk := hper kk hkk
          refine gen_turn3 (fun Q82 => ?_)
          walk_at "go"
          refine Stop.go ?_
          (with_reducible rename Fr _ _ _ _ => F16); (with_reducible rename News _ _ _ _ => N16)
          (with_reducible rename Obj => oK3); (with_reducible rename _ = Data.cell (some _) => hoK3)
          have hni := hPi.nn
          have hnk := hPk.nn
          refine ct_merge (A := Around.deeper _ _) (R1 := toRec (ad ii) (P ii)) (R2 := toRec (ad kk) (P kk)) (ss1 := (P ii).an.map kindN) (ss2 := (P kk).an.map kindN) (Frag.In.keeps KX F16.keep) (Top.keeps T F16.keep) (by (simp only [depth_deeper, depth_caller]; decide)) rfl
            (recAt_per N16 (fun q hq => List.Mem.tail _ (List.Mem.tail _ (List.Mem.tail _ (up7 q (f5 q (I0.fix ii hii q hq)))))) (fun q hq => List.Mem.tail _ (List.Mem.tail _ (List.Mem.tail _ (up7 q (p5 ii hii q hq))))))
            (recAt_per N16 (fun q hq => List.Mem.tail _ (List.Mem.tail _ (List.Mem.tail _ (up7 q (f5 q (I0.fix kk hkk q hq)))))) (fun q hq => List.Mem.tail _ (List.Mem.tail _ (List.Mem.tail _ (up7 q (p5 kk hkk q hq))))))
            hPi.us hPk.us (by rw [List.length_map]; omega) (by rw [List.length_map]; omega) (by show (ruleRefs (P ii).zs).length ≤ 400; unfold ruleRefs; rw [List.length_map]; omega) (by show (ruleRefs (P kk).zs).length ≤ 400; unfold ruleRefs; rw [List.length_map]; omega) rfl rfl rfl rfl (fun h5 tk5 R e5 xR u1 u2 _ _ hnew _ => ?_)
          obtain ⟨N17, hor8⟩ := grow3 F16 N16 e5 xR hnew hor7
          have F17 := F16.keeps e5
          obtain ⟨rest8, hrest8⟩ : ∃ y, y = recLed wd.params 52 R ++ rest7 := ⟨_, rfl⟩
          have up8 : ∀ q ∈ rest5, q ∈ rest8 := fun q hq => by rw [hrest8]; exact List.mem_append.mpr (.inr (up7 q hq))
          have rR : ∀ q ∈ recLed wd.params 52 R, q ∈ rest8 := fun q hq => by rw [hrest8]; exact List.mem_append.mpr (.inl hq)
          have ow8 : ∀ q ∈ rest6 ++ own2, q ∈ rest8 := fun q hq => by rw [hrest8, hrest7]; exact List.mem_append.mpr (.inr hq)
          rw [← hrest8] at N17 hor8
          clear F16 N16 e5 xR hnew mo
          dsimp only at F17 N17 hor8 ⊢
          walk_at "go"
          refine Stop.go ?_
          (with_reducible rename Fr _ _ _ _ => F18)
          refine For_of F18 rfl rfl ?_
          walk_at "go"
          refine Stop.go ?_
          rename IsRange _ _ _ _ _ _ _ _ => R7
          (with_reducible rename Fr _ _ _ _ => F19); (with_reducible rename News _ _ _ _ => N19)
          refine iter_rangeG (n := 2) (JQ ((s₁.heap.objs.size + 1 + 1, oK3) :: (s₁.heap.objs.size + 1 + 1 + 1, oI2) :: (s₁.heap.objs.size + 1 + 1 + 1 + 1, oF2) :: rest8) [Str.ofString "j"] _) rfl R7 rfl (by decide) (by decide) (by decide) F19 N19 ⟨rfl, fun _ _ => rfl⟩ ?turnj ?donej
          case turnj =>
            rintro jj tj m₃ news₃ h tk own3' hjj hoff3 ⟨rfl, hm3⟩ F20 N20
            clear F19 N19
            refine gen_turn2 (fun Q83 => ?_)
            rw [mapS hm3, Int.zero_add] at F20
            have hor9 := own3 hor8 hoff3
            obtain ⟨rest9, hrest9⟩ : ∃ y, y = rest8 ++ own3' := ⟨_, rfl⟩
            have N21 : News (ghostOf s₁.heap [(69, 65)]) s₁.heap.objs.size h ((s₁.heap.objs.size + 1 + 1, oK3) :: (s₁.heap.objs.size + 1 + 1 + 1, oI2) :: (s₁.heap.objs.size + 1 + 1 + 1 + 1, oF2) :: rest9) := by rw [hrest9]; exact N20
            rw [← hrest9] at hor9
            have up9 : ∀ q ∈ rest8, q ∈ rest9 := fun q hq => by rw [hrest9]; exact List.mem_append.mpr (.inl hq)
            clear N20
            have mr1 := up9 _ (rR _ (List.Mem.tail _ (List.Mem.tail _ (List.Mem.head _))))
            have mr2 := up9 _ (rR _ (List.Mem.tail _ (List.Mem.tail _ (List.Mem.tail _ (List.Mem.head _)))))
            dsimp only [recDict] at mr1 mr2
            obtain ⟨Ti, hTi⟩ : ∃ T, ts[ii]? = some T := ⟨_, List.getElem?_eq_getElem (by omega)⟩
            obtain ⟨Tk, hTk⟩ : ∃ T, ts[kk]? = some T := ⟨_, List.getElem?_eq_getElem (by omega)⟩
            have mt : (lt, W.listOf (ts.map fun T => Value.ref T.1).toArray (ts.map fun T => Value.ref T.1).length) ∈ rest9 := up9 _ (up8 _ lt5)
            have ei : (ts.map fun T => Value.ref T.1)[ii]? = some (Value.ref Ti.1) := by rw [List.getElem?_map, hTi]; rfl
            have ek : (ts.map fun T => Value.ref T.1)[kk]? = some (Value.ref Tk.1) := by rw [List.getElem?_map, hTk]; rfl
            have mi := up9 _ (up8 _ (t5 ii Ti hTi))
            have mk := up9 _ (up8 _ (t5 kk Tk hTk))
            unfold topAt at mi mk
            have hrl : R.ls = ruleRefs ((P ii).zs ++ (P kk).zs) := by rw [u2, ← ruleRefs_app]; rfl
            have hj01 : jj = 0 ∨ jj = 1 := by omega
            rcases hj01 with rfl | rfl
            · walk_at "go"
              refine Stop.go ?_
              (with_reducible rename Fr _ _ _ _ => F22); (with_reducible rename News _ _ _ _ => N22)
              have N23 := news_sub (l := rest9) N22 (fun q hq => by repeat (first | exact hq | apply List.mem_cons_of_mem))
              refine ct_allow (A := Around.deeper _ _) (R1 := R) (zs := (P ii).zs ++ (P kk).zs) (x := Str.ofString "/a") (Frag.In.keeps KX F22.keep) (Top.keeps T F22.keep) (by (simp only [depth_deeper, depth_caller]; decide)) rfl (recLed_at N23 (fun q hq => up9 q (rR q hq))) hrl (rules_at N23 (fun q hq => up9 q (up8 q (r5 q hq))) (hrules ii hii) (hrules kk hkk)) (.inl rfl) (fun h6 tk6 e6 => ?_)
              obtain ⟨r, hr, hr2⟩ := fmod_nat (if topOf (·.x0) (P kk).zs > topOf (·.x0) (P ii).zs then topOf (·.x0) (P kk).zs else topOf (·.x0) (P ii).zs) 2 (by decide)
              replace hr : ModIs (if topOf (·.x0) (P kk).zs > topOf (·.x0) (P ii).zs then topOf (·.x0) (P kk).zs else topOf (·.x0) (P ii).zs) 2 (r : Int) := ⟨hr⟩
              rw [reach_a, allow_val (fun Z hZ => (hPi.nr Z hZ).1) (fun Z hZ => (hPk.nr Z hZ).1) hr]
              have F24 := F22.keeps e6
              have N24 := newsExt N22 e6
              clear F22 N22 N23 e6
              dsimp only at F24 N24 ⊢
              walk_at "go"
              refine Stop.go ?_
              (with_reducible rename Fr _ _ _ _ => F25); (with_reducible rename News _ _ _ _ => N25)
              refine max_two_N rfl F25 N25 (fun h7 tk7 F26 N26 => ?_)
              clear F25 N25
              walk_at "go"
              refine Stop.go ?_
              (with_reducible rename Fr _ _ _ _ => F27); (with_reducible rename News _ _ _ _ => N27)
              refine JQ.finish hoff3 F27 N27 (fun q hq => ?_) (fun y hy => ?_)
              · rw [hrest9] at N27 ⊢
                simp only [List.cons_append, List.mem_cons] at hq ⊢
                rcases hq with h | h | h | h <;> simp only [h, true_or, or_true]
              · have q1 := off_str hy (List.Mem.head _)
                (try dsimp only)
                simp only [if_neg q1, hy, Bool.false_eq_true, if_false]
            · walk_at "go"
              refine Stop.go ?_
              (with_reducible rename Fr _ _ _ _ => F22); (with_reducible rename News _ _ _ _ => N22)
              have N23 := news_sub (l := rest9) N22 (fun q hq => by repeat (first | exact hq | apply List.mem_cons_of_mem))
              refine ct_allow (A := Around.deeper _ _) (R1 := R) (zs := (P ii).zs ++ (P kk).zs) (x := Str.ofString "/b") (Frag.In.keeps KX F22.keep) (Top.keeps T F22.keep) (by (simp only [depth_deeper, depth_caller]; decide)) rfl (recLed_at N23 (fun q hq => up9 q (rR q hq))) hrl (rules_at N23 (fun q hq => up9 q (up8 q (r5 q hq))) (hrules ii hii) (hrules kk hkk)) (.inr rfl) (fun h6 tk6 e6 => ?_)
              obtain ⟨r, hr, hr2⟩ := fmod_nat (if topOf (·.x1) (P kk).zs > topOf (·.x1) (P ii).zs then topOf (·.x1) (P kk).zs else topOf (·.x1) (P ii).zs) 2 (by decide)
              replace hr : ModIs (if topOf (·.x1) (P kk).zs > topOf (·.x1) (P ii).zs then topOf (·.x1) (P kk).zs else topOf (·.x1) (P ii).zs) 2 (r : Int) := ⟨hr⟩
              rw [reach_b, allow_val (fun Z hZ => (hPi.nr Z hZ).2.2.1) (fun Z hZ => (hPk.nr Z hZ).2.2.1) hr]
              have F24 := F22.keeps e6
              have N24 := newsExt N22 e6
              clear F22 N22 N23 e6
              dsimp only at F24 N24 ⊢
              walk_at "go"
              refine Stop.go ?_
              (with_reducible rename Fr _ _ _ _ => F25); (with_reducible rename News _ _ _ _ => N25)
              refine max_two_N rfl F25 N25 (fun h7 tk7 F26 N26 => ?_)
              clear F25 N25
              walk_at "go"
              refine Stop.go ?_
              (with_reducible rename Fr _ _ _ _ => F27); (with_reducible rename News _ _ _ _ => N27)
              refine JQ.finish hoff3 F27 N27 (fun q hq => ?_) (fun y hy => ?_)
              · rw [hrest9] at N27 ⊢
                simp only [List.cons_append, List.mem_cons] at hq ⊢
                rcases hq with h | h | h | h <;> simp only [h, true_or, or_true]
              · have q1 := off_str hy (List.Mem.head _)
                (try dsimp only)
                simp only [if_neg q1, hy, Bool.false_eq_true, if_false]
          case donej =>
            rintro m₃ news₃ h tk ⟨rfl, hm3⟩ F20 N20
            clear F19 N19
            rw [mapS hm3] at F20
            walk_at "go"
            refine Stop.go ?_
            (with_reducible rename Fr _ _ _ _ => F21); (with_reducible rename News _ _ _ _ => N21)
            have mca := up8 _ ca5
            have mla := up8 _ (f5 _ I0.ha)
            have eai := I0.va4 ii hii
            have eak := I0.va4 kk hkk
            have mai := up8 _ (p5 ii hii _ (List.Mem.tail _ (List.Mem.tail _ (List.Mem.head _))))
            have mak := up8 _ (p5 kk hkk _ (List.Mem.tail _ (List.Mem.tail _ (List.Mem.head _))))
            refine compRI (n := 5) (news := (s₁.heap.objs.size + 1 + 1, oK3) :: (s₁.heap.objs.size + 1 + 1 + 1, oI2) :: (s₁.heap.objs.size + 1 + 1 + 1 + 1, oF2) :: rest8) (fun c => ((P ii).an.map Int.ofNat).any (· == (c : Int)) && ((P kk).an.map Int.ofNat).any (· == (c : Int))) rfl F21 rfl (by decide) (by with_unfolding_all rfl) (by with_unfolding_all rfl) (by decide) rfl (by decide) rfl rfl rfl ?iterB ?turnB ?finB
            case iterB =>
              walk_at "go"
              refine Stop.go ?_
              rename IsRange _ _ _ _ _ _ _ _ => R9
              (with_reducible rename Fr _ _ _ _ => F9); (with_reducible rename News _ _ _ _ => N9)
              exact ⟨_, _, _, _, rfl, ⟨_, _, rfl, F9, N9⟩, R9⟩
            case turnB =>
              rintro c tc I oI C oC D oD m₄ h tk E4 hc hC hm4 F22 N22 off ne
              clear F21 N21
              have gA := (N22 _ (List.Mem.tail _ (List.Mem.tail _ (List.Mem.tail _ (List.Mem.tail _ (List.Mem.tail _ (List.Mem.tail _ mca))))))).1
              have gK := (N22 (s₁.heap.objs.size + 1 + 1, oK3) (by simp)).1
              have gI := (N22 (s₁.heap.objs.size + 1 + 1 + 1, oI2) (by simp)).1
              walk_at "go"
              refine Stop.go ?_
              (with_reducible rename News _ _ _ _ => N23)
              refine wpAny_Name (wpAny_loadName_cell rfl rfl rfl ⟨oa, (N23 _ (by repeat (first | with_reducible exact mca | apply List.mem_cons_of_mem))).1, by rw [hoa]⟩ ?_) (by decide)
              walk_at "go"
              refine Stop.go ?_
              (with_reducible rename News _ _ _ _ => N24)
              refine wpAny_Name (wpAny_loadName_cell rfl rfl rfl ⟨oI2, (N24 _ (List.Mem.tail _ (List.Mem.tail _ (List.Mem.tail _ (List.Mem.tail _ (List.Mem.head _)))))).1, by rw [hoI2]⟩ ?_) (by decide)
              walk_at "go"
              refine Stop.go ?_
              (with_reducible rename News _ _ _ _ => N25)
              refine in_list_ints (vs := (P ii).av) (News.isList N25 (n := (P ii).ca) (by repeat (first | with_reducible exact mai | apply List.mem_cons_of_mem))) hPi.av ?_
              cases hb1 : ((P ii).an.map Int.ofNat).any (· == (c : Int)) with
              | false =>
                walk_at "go"
                refine Stop.go ?_
                (with_reducible rename Fr _ _ _ _ => F26); (with_reducible rename News _ _ _ _ => N26)
                exact testIs (by simp [hb1]) (fun h => nomatch h) (fun _ => ⟨_, _, rfl, F26, N26⟩)
              | true =>
                walk_at "go"
                refine Stop.go ?_
                (with_reducible rename News _ _ _ _ => N26)
                refine wpAny_Name (wpAny_loadName_cell rfl rfl rfl ⟨oa, (N26 _ (by repeat (first | with_reducible exact mca | apply List.mem_cons_of_mem))).1, by rw [hoa]⟩ ?_) (by decide)
                walk_at "go"
                refine Stop.go ?_
                (with_reducible rename News _ _ _ _ => N27)
                refine wpAny_Name (wpAny_loadName_cell rfl rfl rfl ⟨oK3, (N27 _ (List.Mem.tail _ (List.Mem.tail _ (List.Mem.tail _ (List.Mem.head _))))).1, by rw [hoK3]⟩ ?_) (by decide)
                walk_at "go"
                refine Stop.go ?_
                (with_reducible rename News _ _ _ _ => N28)
                refine in_list_ints (vs := (P kk).av) (News.isList N28 (n := (P kk).ca) (by repeat (first | with_reducible exact mak | apply List.mem_cons_of_mem))) hPk.av ?_
                cases hb2 : ((P kk).an.map Int.ofNat).any (· == (c : Int)) with
                | false =>
                  walk_at "go"
                  refine Stop.go ?_
                  (with_reducible rename Fr _ _ _ _ => F29); (with_reducible rename News _ _ _ _ => N29)
                  exact testIs (by simp [hb1, hb2]) (fun h => nomatch h) (fun _ => ⟨_, _, rfl, F29, N29⟩)
                | true =>
                  walk_at "go"
                  refine Stop.go ?_
                  (with_reducible rename Fr _ _ _ _ => F29); (with_reducible rename News _ _ _ _ => N29)
                  refine testIs (by simp [hb1, hb2]) (fun _ => ?_) (fun h => nomatch h)
                  walk_at "go"
                  refine Stop.go ?_
                  (with_reducible rename Fr _ _ _ _ => F30); (with_reducible rename News _ _ _ _ => N30)
                  exact ⟨⟨_, rfl⟩, ⟨_, _, rfl, F30, N30⟩⟩
            case finB =>
              rintro lb bv h tk hbI F22 N22 off
              replace hbI : IntsAre bv ((bothN (P ii).an (P kk).an).map Int.ofNat) := hbI
              clear F21 N21
              dsimp only
              obtain ⟨rest10, hrest10⟩ : ∃ y : Led, y = (lb, lst bv) :: rest8 := ⟨_, rfl⟩
              have N31 : News (ghostOf s₁.heap [(69, 65)]) s₁.heap.objs.size h ((s₁.heap.objs.size + 1 + 1, oK3) :: (s₁.heap.objs.size + 1 + 1 + 1, oI2) :: (s₁.heap.objs.size + 1 + 1 + 1 + 1, oF2) :: rest10) := fun q hq => N22 q (by
                rw [hrest10] at hq
                simp only [List.mem_cons] at hq ⊢
                rcases hq with h | h | h | h | h <;> simp only [h, true_or, or_true])
              have hor10 : OwnOff rest10 [s₁.heap.objs.size + 1 + 1, s₁.heap.objs.size + 1 + 1 + 1, s₁.heap.objs.size + 1 + 1 + 1 + 1] := by
                rw [hrest10]
                intro q hq a ha
                rcases List.mem_cons.mp hq with rfl | hq
                · simp only [List.mem_cons, List.not_mem_nil, or_false] at ha
                  rcases ha with rfl | rfl | rfl
                  · exact (off (_, oK3) (by simp)).symm
                  · exact (off (_, oI2) (by simp)).symm
                  · exact (off (_, oF2) (by simp)).symm
                · exact hor8 q hq a ha
              have up10 : ∀ q ∈ rest8, q ∈ rest10 := fun q hq => by rw [hrest10]; exact List.mem_cons_of_mem _ hq
              have mlb : (lb, lst bv) ∈ rest10 := by rw [hrest10]; exact List.mem_cons_self
              clear N22 off
              walk_at "go"
              refine Stop.go ?_
              (with_reducible rename Fr _ _ _ _ => F32)
              with_unfolding_all refine For_turns F32 ?_
              walk_at "go"
              refine Stop.go ?_
              (with_reducible rename Fr _ _ _ _ => F33); (with_reducible rename News _ _ _ _ => N33)
              have mnm := up10 _ (up8 _ (f5 _ (I0.nw _ hnv)))
              refine listL_turns (l := lnm) (vs := nv) (nn := 0) (JN3 (s₁.heap.objs.size + 1 + 1) (s₁.heap.objs.size + 1 + 1 + 1) (s₁.heap.objs.size + 1 + 1 + 1 + 1) oK3 oI2 rest10 [Str.ofString "name"] _) (fun i I v s Q E h q => go_tuple i I v s Q E h q) rfl (List.Mem.tail _ (List.Mem.tail _ (List.Mem.tail _ mnm))) F33 N33 ⟨oF2, rfl, ⟨_, hoF2⟩, fun _ _ => rfl⟩ ?turnN ?doneN
              case turnN =>
                rintro q v m₄ news₄ h tk own4 hv hoff4 hlv ⟨oF3, rfl, ⟨vF3, hoF3⟩, hm4⟩ F34 N34
                clear F33 N33
                refine gen_turn3 (fun Q84 => ?_)
                have hq5 : q < 5 := by
                  have := (List.getElem?_eq_some_iff.mp hv).1
                  rw [hnm.1] at this; exact this
                obtain ⟨TT, ff, tn, fv, hvq, mT, mf, hfi⟩ := hnm.2 q hq5
                rw [hv] at hvq
                obtain rfl := Option.some.inj hvq
                rw [mapS hm4] at F34
                have hor11 := own3 hor10 hoff4
                obtain ⟨rest11, hrest11⟩ : ∃ y, y = rest10 ++ own4 := ⟨_, rfl⟩
                have N35 : News (ghostOf s₁.heap [(69, 65)]) s₁.heap.objs.size h ((s₁.heap.objs.size + 1 + 1, oK3) :: (s₁.heap.objs.size + 1 + 1 + 1, oI2) :: (s₁.heap.objs.size + 1 + 1 + 1 + 1, oF3) :: rest11) := by rw [hrest11]; exact N34
                rw [← hrest11] at hor11
                have up11 : ∀ q ∈ rest10, q ∈ rest11 := fun q hq => by rw [hrest11]; exact List.mem_append.mpr (.inl hq)
                have mT' := up11 _ (up10 _ (up8 _ (f5 _ (I0.nw _ mT))))
                have mf' := up11 _ (up10 _ (up8 _ (f5 _ (I0.nw _ mf))))
                have mr1 := up11 _ (up10 _ (rR _ (List.Mem.tail _ (List.Mem.tail _ (List.Mem.head _)))))
                have mr2 := up11 _ (up10 _ (rR _ (List.Mem.tail _ (List.Mem.tail _ (List.Mem.tail _ (List.Mem.head _))))))
                dsimp only [recDict] at mr1 mr2
                have mlb' := up11 _ mlb
                clear N34
                refine unpackN_ F34 N35 (News.isTup N35 (List.Mem.tail _ (List.Mem.tail _ (List.Mem.tail _ mT')))) rfl rfl rfl (fun h8 F36 N36 => ?_)
                clear F34 N35
                walk_at "go"
                refine Stop.go ?_
                (with_reducible rename Fr _ _ _ _ => F37); (with_reducible rename News _ _ _ _ => N37)
                (with_reducible rename Obj => oF4); (with_reducible rename _ = Data.cell (some _) => hoF4)
                have N38 := news_sub (l := rest11) N37 (fun q hq => by repeat (first | exact hq | apply List.mem_cons_of_mem))
                refine ct_applies_name hq5 (A := Around.deeper _ _) (R1 := R) (ss1 := mergeNames (P ii).an (P kk).an) (Frag.In.keeps KX F37.keep) (Top.keeps T F37.keep) (by (simp only [depth_deeper, depth_caller]; decide)) rfl (recLed_at N38 (fun q hq => up11 q (up10 q (rR q hq)))) (by rw [u1]; exact merge_strs hPi) (merge_kinds hPi.an5) (fun h6 tk6 e6 => ?_)
                rw [law_names hPi.an5 hPk.an5 hq5]
                have F39 := F37.keeps e6
                have N39 := newsExt N37 e6
                clear F37 N37 N38 e6
                dsimp only at F39 N39 ⊢
                walk_at "go"
                refine Stop.go ?_
                (with_reducible rename Fr _ _ _ _ => F40); (with_reducible rename News _ _ _ _ => N40)
                refine compF (ax := lb) (vs := bv) (news := (s₁.heap.objs.size + 1 + 1, oK3) :: (s₁.heap.objs.size + 1 + 1 + 1, oI2) :: (s₁.heap.objs.size + 1 + 1 + 1 + 1, oF4) :: rest11) (onI (fun n => (fitsN q).any (· == n))) rfl F40 (both_len hbI) (by with_unfolding_all rfl) (by decide) rfl (by decide) rfl ?iterF ?turnF ?finF
                case iterF =>
                  walk_at "go"
                  refine Stop.go ?_
                  (with_reducible rename Fr _ _ _ _ => F9); (with_reducible rename News _ _ _ _ => N9)
                  exact ⟨rfl, ⟨_, _, rfl, F9, N9⟩, .inr ⟨_, List.Mem.tail _ (List.Mem.tail _ (List.Mem.tail _ mlb')), rfl, _, rfl⟩⟩
                case turnF =>
                  rintro i9 v9 I oI C oC D oD m5 h tk E5 hv9 hC hm5 F41 N41 off ne
                  clear F40 N40
                  obtain ⟨n9, t9, rfl⟩ := ints_at hbI hv9
                  walk_at "go"
                  refine Stop.go ?_
                  (with_reducible rename News _ _ _ _ => N42)
                  refine wpAny_Name (wpAny_loadName_cell rfl rfl rfl ⟨oF4, (N42 _ (List.Mem.tail _ (List.Mem.tail _ (List.Mem.tail _ (List.Mem.tail _ (List.Mem.tail _ (List.Mem.head _))))))).1, by rw [hoF4]⟩ ?_) (by decide)
                  walk_at "go"
                  refine Stop.go ?_
                  (with_reducible rename News _ _ _ _ => N43)
                  refine in_list_ints (vs := fv) (News.isList N43 (n := 0) (by repeat (first | with_reducible exact mf' | apply List.mem_cons_of_mem))) hfi ?_
                  cases hb1 : (fitsN q).any (· == n9) with
                  | false =>
                    walk_at "go"
                    refine Stop.go ?_
                    (with_reducible rename Fr _ _ _ _ => F44); (with_reducible rename News _ _ _ _ => N44)
                    exact testIs hb1.symm (fun h => nomatch h) (fun _ => ⟨_, _, rfl, F44, N44⟩)
                  | true =>
                    walk_at "go"
                    refine Stop.go ?_
                    (with_reducible rename Fr _ _ _ _ => F44); (with_reducible rename News _ _ _ _ => N44)
                    refine testIs hb1.symm (fun _ => ?_) (fun h => nomatch h)
                    walk_at "go"
                    refine Stop.go ?_
                    (with_reducible rename Fr _ _ _ _ => F45); (with_reducible rename News _ _ _ _ => N45)
                    exact ⟨rfl, ⟨_, _, rfl, F45, N45⟩⟩
                case finF =>
                  rintro D h tk F46 N46 offD
                  clear F40 N40
                  dsimp only
                  walk_at "go"
                  refine Stop.go ?_
                  (with_reducible rename Fr _ _ _ _ => F47); (with_reducible rename News _ _ _ _ => N47)
                  refine ne_nilI (ns := ((bothN (P ii).an (P kk).an).map Int.ofNat).filter (fun n => (fitsN q).any (· == n))) N47 (vs := bv.filter (onI (fun n => (fitsN q).any (· == n)))) (n := (bv.filter (onI (fun n => (fitsN q).any (· == n)))).length) (m := 0) (List.Mem.tail _ (List.Mem.head _)) (List.Mem.head _) (ints_filter hbI) (fun _ _ => rfl) (by ke_room) ?_
                  walk_at "go"
                  refine Stop.go ?_
                  (with_reducible rename Fr _ _ _ _ => F48); (with_reducible rename News _ _ _ _ => N48)
                  refine endN3 mnm F48 N48 hoff4 ⟨_, hoF4⟩ (fun y hy => ?_) (fun q9 hq9 => ?_)
                  · have q1 := off_str hy (List.Mem.head _)
                    (try dsimp only)
                    simp only [if_neg q1, hy, Bool.false_eq_true, if_false]
                  · rw [← hrest11] at hq9
                    repeat (first | with_reducible exact hq9 | apply List.mem_cons_of_mem)
              case doneN =>
                rintro m₄ news₄ h tk hlv ⟨oF3, rfl, ⟨vF3, hoF3⟩, hm4⟩ F34 N34
                clear F33 N33
                rw [mapS hm4] at F34
                have mr1 := up10 _ (rR _ (List.Mem.tail _ (List.Mem.tail _ (List.Mem.head _))))
                have mr2 := up10 _ (rR _ (List.Mem.tail _ (List.Mem.tail _ (List.Mem.tail _ (List.Mem.head _)))))
                dsimp only [recDict] at mr1 mr2
                walk_at "go"
                refine Stop.go ?_
                (with_reducible rename Fr _ _ _ _ => F37); (with_reducible rename News _ _ _ _ => N37)
                have N38 := news_sub (l := rest10) N37 (fun q hq => by repeat (first | exact hq | apply List.mem_cons_of_mem))
                refine ct_applies_none (A := Around.deeper _ _) (R1 := R) (ss1 := mergeNames (P ii).an (P kk).an) (Frag.In.keeps KX F37.keep) (Top.keeps T F37.keep) (by (simp only [depth_deeper, depth_caller]; decide)) rfl (recLed_at N38 (fun q hq => up10 q (rR q hq))) (by rw [u1]; exact merge_strs hPi) (by have := merge_len (P ii).an (P kk).an; omega) (fun h6 tk6 e6 => ?_)
                rw [law_none hPi.an5 hPk.an5]
                have F39 := F37.keeps e6
                have N39 := newsExt N37 e6
                clear F37 N37 N38 e6
                dsimp only at F39 N39 ⊢
                walk_at "go"
                refine Stop.go ?_
                (with_reducible rename News _ _ _ _ => N40)
                refine in_list_ints (vs := bv) (News.isList N40 (n := bv.length) (by repeat (first | with_reducible exact mlb | apply List.mem_cons_of_mem))) hbI ?_
                walk_at "go"
                refine Stop.go ?_
                (with_reducible rename Fr _ _ _ _ => F41); (with_reducible rename News _ _ _ _ => N41)
                refine endN2 F41 N41 hoff2 ⟨_, hoK3⟩ ⟨_, hoF3⟩ (fun y hy => ?_) (fun q9 hq9 => ?_)
                · have q1 := off_str hy (List.Mem.head _)
                  have q2 := off_str hy (List.Mem.tail _ (List.Mem.head _))
                  have q3 := off_str hy (List.Mem.tail _ (List.Mem.tail _ (List.Mem.head _)))
                  have q4 := off_str hy (List.Mem.tail _ (List.Mem.tail _ (List.Mem.tail _ (List.Mem.head _))))
                  have q5 : [Str.ofString "j"].contains y = false := off_subl hy (fun a ha => by rw [List.mem_singleton.mp ha]; exact List.Mem.tail _ (List.Mem.head _))
                  have q6 : [Str.ofString "name"].contains y = false := off_subl hy (fun a ha => by rw [List.mem_singleton.mp ha]; exact List.Mem.tail _ (List.Mem.tail _ (List.Mem.tail _ (List.Mem.head _))))
                  (try dsimp only)
                  simp only [if_neg q1, if_neg q2, if_neg q3, if_neg q4, q5, q6, hy, Bool.false_eq_true, if_false]
                · have hq9' : q9 ∈ (s₁.heap.objs.size + 1 + 1, oK3) :: (s₁.heap.objs.size + 1 + 1 + 1, oI2) :: (s₁.heap.objs.size + 1 + 1 + 1 + 1, oF3) :: rest10 := by
                    simp only [List.mem_cons] at hq9 ⊢
                    rcases hq9 with h | h | h | h
                    · simp only [h, true_or]
                    · simp only [h, true_or, or_true]
                    · simp only [h, true_or, or_true]
                    · simp only [up10 q9 (ow8 q9 h), or_true]
                  repeat (first | with_reducible exact hq9' | apply List.mem_cons_of_mem)
        case doneK =>
          rintro m₂ news₂ h tk ⟨oK2, oF2, rfl, ⟨vK2, hoK2⟩, ⟨vF2, hoF2⟩, hm2⟩ F14 N14
          clear F13 N13
          rw [mapS hm2] at F14
          walk_at "go"
          refine Stop.go ?_
          (with_reducible rename Fr _ _ _ _ => F15); (with_reducible rename News _ _ _ _ => N15)
          refine endN1 F15 N15 hoff1 ⟨_, hoK2⟩ ⟨_, hoI2⟩ ⟨_, hoF2⟩ (fun y hy => ?_) (fun q9 hq9 => ?_)
          · (try dsimp only)
            simp only [hy, Bool.false_eq_true, if_false]
          · rw [← hrest6] at hq9
            exact hq9
      case doneI =>
        rintro m₁ news₁ h tk ⟨oK1, oI1, oF1, rfl, ⟨vK1, hoK1⟩, ⟨vI1, hoI1⟩, ⟨vF1, hoF1⟩, hm1⟩ F10 N10
        clear F9 N9
        rw [mapS hm1] at F10
        obtain ⟨wt, hwt⟩ : ∃ x, x = ps := ⟨_, rfl⟩
        have N11 : News (ghostOf s₁.heap [(69, 65)]) s₁.heap.objs.size h [(65, tabObj ps)] := fun q hq => N10 q (by
          rw [List.mem_singleton.mp hq]
          exact List.mem_cons_of_mem _ (List.mem_cons_of_mem _ (List.mem_cons_of_mem _ tb5)))
        clear N10
        have hH : Halt := ⟨trivial⟩
        walk_at "go"
        · refine Stop.go ?_
          (with_reducible rename Halt => hH)
          clear hH
          (try dsimp only)
          k_steps
        · refine Stop.go ?_
          exact ⟨⟨ps, (N11 _ (List.Mem.head _)).1⟩, trivial⟩

import PyProof.Rows.All
import Wide.All
import OpenK.AllK
import Wide.FinOn
import PySem.Challenge.RW_br0036_01
section
open PySem PySem.W PyProof.Rows
set_option Elab.async false
set_option maxRecDepth 100000
set_option maxHeartbeats 8000000
namespace Mine
open_top hd for PySem.Challenge.rw_br0036_01
end Mine
end
theorem Mine.walk_quiet : True := by
  w_top off
  trivial
section
open PySem PySem.W PyProof.Rows PySem.Calls
set_option Elab.async false
set_option maxRecDepth 100000
set_option maxHeartbeats 8000000
namespace Mine

abbrev cA (env : Env) (outer : List Env) : Around := { handled := none, depth := 400, frames := some (env :: outer), guards := none, units := 1000 }

/-- a mark at which the walk stands still -/
def stopT : Sem Unit := pure ()
abbrev Stop (M : Model) (A : Around) (P : Shared → Prop) (s : Shared) : Prop := wpAny M A stopT (fun _ s' => P s') (fun _ _ => False) s
theorem Stop.intro {M : Model} {A : Around} {P : Shared → Prop} {s : Shared} (h : P s) : Stop M A P s := wpAny_pure h
theorem wpAny_stop {α : Type} {M : Model} {A : Around} {E : Value → Shared → Prop} {s : Shared} {t : Sem α} {Q : α → Shared → Prop} (h : wpAny M A t (fun a s' => Stop M A (Q a) s') E s) : wpAny M A t Q E s :=
  fun Γ p hΓ => Sem.wp_mono M Γ t (fun _ p' _ h' => h' Γ p' hΓ) (fun _ _ _ h' => h') p s (h Γ p hΓ)

theorem wpAny_held {α : Type} {M : Model} {A : Around} {E : Value → Shared → Prop} {s : Shared} {t : Sem α} {Q : α → Shared → Prop} (h : Stop M A (fun s' => wpAny M A t Q E s') s) : wpAny M A t Q E s :=
  fun Γ p hΓ => (h Γ p hΓ) Γ p hΓ

/-- the end of a pure call: it gives a value, and all that stood stands -/
def RetW (s : Shared) (P : Heap → Value → Prop) (r : Result) (s' : Shared) : Prop :=
  ∃ v h' tk', r = .ok (.ret v) ∧ s' = { s with heap := h', toks := tk' } ∧ s.heap.StaysIn h' ∧ P h' v

theorem RetW.intro {s : Shared} {P : Heap → Value → Prop} {v : Value} {h' : Heap} {tk' : Nat} {L : Addr} {m : Str → Option Value} (F : Fr s.heap L h' m) (h : P h' v) :
    RetW s P (.ok (.ret v)) { s with heap := h', toks := tk' } := ⟨v, h', tk', rfl, rfl, F.keep, h⟩

section
variable {prog : Program} {w : World} {A A₀ : Around} {E : Value → Shared → Prop} {s : Shared} {K : Frag} {C L : Addr} {h₀ base : Heap} {m mg mb : Str → Option Value} {news : List (Addr × Obj)} {p : Program} {loose : List Str} {mean : ExcName → Option Value} {Q : Value → Shared → Prop}
theorem code_pure {env : Env} {outer : List Env} {P : Heap → Value → Prop} {name qual : Str} {params : Arguments} {body : List Stmt} {scope : Scope} {dV kV doc pm cdv ct oc : Value} {an od : Option Addr} {osl : Array (Option Value)} {f : Addr} {args : Args} {binds : List (Str × Value)}
    (B : Below A₀ base outer h₀) (F : Fr h₀ L s.heap m) (X₀ : K.In h₀) (T : Top p loose mean mg mb h₀) (hA : A.frames = some (env :: outer)) (hf : env.frame = some L) (hke : env.scope.kind = .function)
    (ho : K.lookup f = some ⟨oc, od, .func (fnOf name qual params body scope dV kV doc pm an cdv ct), osl⟩) (hcd : codeIn K cdv qual = true) (hroom : A.depth < recursionLimit)
    (hbind : BindsTo s (fnOf name qual params body scope dV kV doc pm an cdv ct) args binds) (hloc : ∀ y ∈ binds, scope.names.lookup y.1 = some .local)
    (h : ∀ L' h₁, Fr s.heap L' h₁ (fun y => binds.reverse.lookup y) → News s.heap L' h₁ [] → Below A base (env :: outer) s.heap → K.In s.heap → Top p loose mean mg mb s.heap →
      wpAny (model prog w) (A.deeper (envOf qual scope L' f cdv)) (execs body (envOf qual scope L' f cdv))
        (fun fl s' => Stop (model prog w) (A.deeper (envOf qual scope L' f cdv)) (RetW s P (.ok (.ret (match fl with | .ret v => v | _ => .none)))) s')
        (fun _ _ => False)
        { s with heap := h₁, toks := s.toks + binds.length })
    (hco : scope.isCoroutine = false) (hgen : scope.isGenerator = false) (hk : scope.kind = .function)
    (hcell : ∀ x ∈ scope.names, x.2 ≠ .cell) : codeAny (model prog w) A (.call (.ref f) args) (RetW s P) s := by
  refine codeAny_call_def (fd := fnOf name qual params body scope dV kV doc pm an cdv ct) (body := body) (binds := binds) hroom ((X₀.keeps F.keep) _ _ ho) rfl (T.nolimit.keeps F.keep) (codeRec_of (X₀.keeps F.keep) hcd) rfl hbind hcell hloc (fun h₁ hns hk₁ => ?_) hco hgen hk
  have B₁ := pushX B F hf hke
  refine wpAny_mono (wpAny_stop <| h s.heap.objs.size h₁ ⟨hns, hk₁, Nat.le_refl _⟩ News.nil ⟨hA, B₁.stays, B₁.frames⟩ (X₀.keeps F.keep) (T.keeps F.keep)) (fun _ _ x => x) fun _ _ x => x.elim
end

theorem codeAny_around {M : Model} {A A' : Around} {c : Code} {R : Result → Shared → Prop} {s : Shared} (hg : A.guards = none) (hh : A'.handled = A.handled) (hf : A'.frames = A.frames) (hd : A'.depth ≤ A.depth) (hu : A'.units ≤ A.units)
    (h : codeAny M A c R s) : codeAny M A' c R s :=
  fun Γ p hc hΓ => h Γ p hc ⟨hΓ.1.trans hh, Nat.le_trans hΓ.2.1 hd, fun l hl => hΓ.2.2.1 l (hf.trans hl), (fun g hg' => by rw [hg] at hg'; cases hg'), Nat.le_trans hΓ.2.2.2.2 hu⟩

theorem InstAt.keepsIn {h h' : Heap} {x C : Addr} {ox : Obj} {od : Option Obj} (I : InstAt h x ox C od) (k : ∀ b o, h.get? b = some o → h'.get? b = some o) : InstAt h' x ox C od := by
  obtain ⟨a, b, c, d⟩ := I
  refine ⟨k _ _ a, b, c, ?_⟩
  split at d <;> first | exact k _ _ d | trivial | exact d.elim

section
variable {prog : Program} {w : World} {A A₀ : Around} {s : Shared} {K : Frag} {L : Addr} {h₀ base : Heap} {m mg mb : Str → Option Value} {news : List (Addr × Obj)} {p : Program} {loose : List Str} {mean : ExcName → Option Value}

theorem code_restC {env : Env} {outer : List Env} {R : Result → Shared → Prop} {name qual : Str} {params : Arguments} {body : List Stmt} {scope : Scope} {dV kV doc pm cdv ct oc : Value} {an od : Option Addr} {osl : Array (Option Value)} {f : Addr} {args : Args} {vs : List Value} {g₁ : Addr → Option (List (Str × Value))} {binds : Addr → List (Str × Value)}
    (B : Below A₀ base outer h₀) (F : Fr h₀ L s.heap m) (X₀ : K.In h₀) (N : News h₀ L s.heap news) (T : Top p loose mean mg mb h₀) (hA : A.frames = some (env :: outer)) (hf : env.frame = some L) (hke : env.scope.kind = .function)
    (ho : K.lookup f = some ⟨oc, od, .func (fnOf name qual params body scope dV kV doc pm an cdv ct), osl⟩) (hcd : codeIn K cdv qual = true) (hroom : A.depth < recursionLimit)
    (hv : args.pos.drop (params.posonlyargs.length + params.args.length) = vs)
    (hp : peek1 K ⟨prog, w.params⟩ (bindArgs (fnOf name qual params body scope dV kV doc pm an cdv ct) args) = some (({ cls := .type "tuple", data := .seq vs.toArray } : Obj), g₁))
    (hg : ∀ D, g₁ D = some (binds D)) (hkind : ∀ D, ((binds D).all fun y => scope.names.lookup y.1 == some .local || scope.names.lookup y.1 == some .cell) = true)
    (hnd : ((cellsFrom 0 scope.names []).map (·.1)).Nodup)
    (h : ∀ D g L' h₁ tk cells, (∀ p ∈ news, p.1 < D) → Fr h₀ L g m → Fr g L' h₁ (bindL (envOfC qual scope L' f cdv).kindOf (binds D) fun _ => none) → News g L' h₁ (cells ++ (D, ({ cls := .type "tuple", data := .seq vs.toArray } : Obj)) :: news) →
      CellsAre (bindC (envOfC qual scope L' f cdv).kindOf (binds D) fun _ => none) (cellsFrom (L' + 1) scope.names []) cells → Below A base (env :: outer) g → K.In g → Top p loose mean mg mb g → (∀ p ∈ (D, ({ cls := .type "tuple", data := .seq vs.toArray } : Obj)) :: news, p.1 < L') →
      wpAny (model prog w) (A.deeper (envOfC qual scope L' f cdv)) (execs body (envOfC qual scope L' f cdv))
        (fun fl s' => LeaveK h₀ L m g R (match fl with | .ret v => v | _ => .none) s')
        (fun e s' => wpAny (model prog w) (A.deeper (envOfC qual scope L' f cdv)) (leaving (envOfC qual scope L' f cdv) e) (fun _ s'' => R (.error e) s'') (fun e' s'' => R (.error e') s'') s')
        { s with heap := h₁, toks := tk })
    (hco : scope.isCoroutine = false) (hgen : scope.isGenerator = false) (hk : scope.kind = .function) : codeAny (model prog w) A (.call (.ref f) args) R s := by
  have _ := hv
  refine codeAny_call_function (fd := fnOf name qual params body scope dV kV doc pm an cdv ct) (body := body) hroom ((X₀.keeps F.keep) _ _ ho) rfl hco hgen rfl (codeRec_of (X₀.keeps F.keep) hcd) ?_
  refine wp_of_peek1 (o := ({ cls := .type "tuple", data := .seq vs.toArray } : Obj)) F N (X₀.keeps F.keep) rfl (r := binds) (fun D h' F' N' l => ?_) _ g₁ hp hg
  obtain ⟨FG, BG, st, lv⟩ := groundX (s := { s with heap := h' }) (R := R) B F' N' hA hf hke
  refine wpAny_newFunctionEnv_cells hk (kindsX (hkind D) _) fun env' he s' x => ?_
  subst he
  refine ⟨(T.nolimit.keeps F'.keep).keeps x.toInCall.keep, codeAny_func ?_⟩
  obtain ⟨h₁, tk, rfl, _⟩ := x.done
  have hk₁ := x.toInCall.keep
  obtain ⟨cells, NC, Y⟩ := Cl.news (h₀ := h') (Nat.le_refl _) fun n c hm => ⟨x.cell n c (lookup_of_mem_nodup (cellsFrom_names scope.names 0 (h'.objs.size + 1) [] [] rfl ▸ hnd) hm), x.above n c hm⟩
  refine wpAny_mono (h D _ h'.objs.size h₁ tk cells l FG ⟨x.toInCall.ns, fun b o e => hk₁ b o (of_hideAll _ e), Nat.le_of_eq (hideAll_size _ _)⟩ (fun p hp => ?_) Y BG (X₀.keeps st) (T.keeps st) (fun p hp => Heap.lt_size (N' p hp).1)) (fun fl s' hl => lv _ _ hl) fun _ _ y => y
  rcases List.mem_append.mp hp with hp | hp
  · refine ⟨(NC p hp).1, (NC p hp).2.1, ?_⟩
    cases q : (hideAll h' (((D, ({ cls := .type "tuple", data := .seq vs.toArray } : Obj)) :: news).map (·.1))).get? p.1 with
    | none => rfl
    | some o => have := of_hideAll _ q; rw [(NC p hp).2.2] at this; cases this
  · exact ⟨hk₁ _ _ (N' p hp).1, Nat.ne_of_lt (Heap.lt_size (N' p hp).1), hideAll_none _ (List.mem_map_of_mem hp)⟩
end

section
variable {prog : Program} {w : World} {A A₀ : Around} {s : Shared} {K : Frag} {L : Addr} {h₀ base : Heap} {m mg mb : Str → Option Value} {news : List (Addr × Obj)} {p : Program} {loose : List Str} {mean : ExcName → Option Value}

theorem code_pureC {env : Env} {outer : List Env} {P : Heap → Value → Prop} {name qual : Str} {params : Arguments} {body : List Stmt} {scope : Scope} {dV kV doc pm cdv ct oc : Value} {an od : Option Addr} {osl : Array (Option Value)} {f : Addr} {args : Args} {binds : List (Str × Value)}
    (B : Below A₀ base outer h₀) (F : Fr h₀ L s.heap m) (X₀ : K.In h₀) (T : Top p loose mean mg mb h₀) (hA : A.frames = some (env :: outer)) (hf : env.frame = some L) (hke : env.scope.kind = .function)
    (ho : K.lookup f = some ⟨oc, od, .func (fnOf name qual params body scope dV kV doc pm an cdv ct), osl⟩) (hcd : codeIn K cdv qual = true) (hroom : A.depth < recursionLimit)
    (hbind : BindsTo s (fnOf name qual params body scope dV kV doc pm an cdv ct) args binds) (hkind : (binds.all fun y => scope.names.lookup y.1 == some .local || scope.names.lookup y.1 == some .cell) = true)
    (hnd : ((cellsFrom 0 scope.names []).map (·.1)).Nodup)
    (h : ∀ L' h₁ tk cells, Fr s.heap L' h₁ (bindL (envOfC qual scope L' f cdv).kindOf binds fun _ => none) → News s.heap L' h₁ cells →
      CellsAre (bindC (envOfC qual scope L' f cdv).kindOf binds fun _ => none) (cellsFrom (L' + 1) scope.names []) cells → Below A base (env :: outer) s.heap → K.In s.heap → Top p loose mean mg mb s.heap →
      wpAny (model prog w) (A.deeper (envOfC qual scope L' f cdv)) (execs body (envOfC qual scope L' f cdv))
        (fun fl s' => Stop (model prog w) (A.deeper (envOfC qual scope L' f cdv)) (RetW s P (.ok (.ret (match fl with | .ret v => v | _ => .none)))) s')
        (fun _ _ => False)
        { s with heap := h₁, toks := tk })
    (hco : scope.isCoroutine = false) (hgen : scope.isGenerator = false) (hk : scope.kind = .function) : codeAny (model prog w) A (.call (.ref f) args) (RetW s P) s := by
  refine codeAny_call_function (fd := fnOf name qual params body scope dV kV doc pm an cdv ct) (body := body) hroom ((X₀.keeps F.keep) _ _ ho) rfl hco hgen rfl (codeRec_of (X₀.keeps F.keep) hcd) (hbind _ _ _ _ ?_)
  have B₁ := pushX B F hf hke
  refine wpAny_newFunctionEnv_cells hk (kindsX hkind _) fun env' he s' x => ?_
  subst he
  refine ⟨(T.nolimit.keeps F.keep).keeps x.toInCall.keep, codeAny_func ?_⟩
  obtain ⟨h₁, tk, rfl, _⟩ := x.done
  have hk₁ := x.toInCall.keep
  obtain ⟨cells, NC, Y⟩ := Cl.news (h₀ := s.heap) (Nat.le_refl _) fun n c hm => ⟨x.cell n c (lookup_of_mem_nodup (cellsFrom_names scope.names 0 (s.heap.objs.size + 1) [] [] rfl ▸ hnd) hm), x.above n c hm⟩
  exact wpAny_mono (wpAny_stop <| h s.heap.objs.size h₁ tk cells ⟨x.toInCall.ns, hk₁, Nat.le_refl _⟩ (fun p hp => ⟨(NC p hp).1, (NC p hp).2.1, (NC p hp).2.2⟩) Y ⟨hA, B₁.stays, B₁.frames⟩ (X₀.keeps F.keep) (T.keeps F.keep)) (fun _ _ x => x) fun _ _ x => x.elim
end
end Mine
end
section
open PySem PySem.W PyProof.Rows PySem.Calls
set_option Elab.async false
set_option maxRecDepth 100000
set_option maxHeartbeats 8000000
namespace Mine
section
variable {prog : Program} {w : World} {A : Around} {E : Value → Shared → Prop} {s : Shared}

theorem nextOf_tuple_item {it t : Addr} {i : Nat} {items : Array Value} {x : Value} {Q : Value → Shared → Prop} (hit : s.heap.IsTupleIter it t i)
    (ht : s.heap.IsTuple t items) (hx : items[i]? = some x)
    (hQ : ∀ h', h'.IsTupleIter it t (i + 1) → Heap.SameBut it s.heap h' → Q x { s with heap := h' }) :
    wpAny (model prog w) A (Builtin.SmallTypes.nextOf (.ref it)) Q E s := by
  obtain ⟨o, ho, hc, hd⟩ := id hit
  obtain ⟨ol, hol, _, nl, hdl⟩ := ht
  unfold Builtin.SmallTypes.nextOf
  refine wpAny_bind (wpAny_callSpecial?_slot (name := Str.ofString "__next__") hit.typeIs F.slot_tuple_iterator_next
    (wpAny_call_entry F.slot_tuple_iterator_next hit.typeIs F.entry_tuple_iterator_next ?_ (F.args_tuple_iterator_next_1 _)))
  show wpAny _ _ (field (.ref it) 0 >>= _) _ _ s
  refine wpAny_bind (wpAny_field ho hd (x := .ref t) rfl ?_)
  show wpAny _ _ (if (Value.ref t == Value.none) = true then _ else _) _ _ s
  rw [if_neg (show ¬ ((Value.ref t == Value.none) = true) from Bool.false_ne_true)]
  show wpAny _ _ (field (.ref it) 1 >>= _) _ _ s
  refine wpAny_bind (wpAny_field ho hd (x := .int i 0) rfl ?_)
  show wpAny _ _ (seqItems? (.ref t) >>= _) _ _ s
  refine wpAny_bind (wpAny_seqItems hol hdl ?_)
  simp only [Int.toNat_natCast, hx]
  refine wpAny_bind (wpAny_setField ho hd (by simp) (wpAny_pure ⟨x, rfl, wpAny_pure (hQ _ ?_ (Heap.SameBut.update ..))⟩))
  exact ⟨_, Heap.get?_update_self _ ho (Obj.isFreed_of_fields (Obj.data_mapFields hd _)), (Obj.cls_mapFields ..).trans hc, by
    rw [Obj.data_mapFields hd]; simp [rawInt]⟩

theorem nextOf_tuple_end {it t : Addr} {i : Nat} {items : Array Value} {Q : Value → Shared → Prop} (hh : A.handled = none)
    (hit : s.heap.IsTupleIter it t i) (ht : s.heap.IsTuple t items) (hx : items[i]? = none)
    (hE : ∀ h' e, Heap.ExtBut it s.heap h' → (∃ o, h'.get? e = some o ∧ o.cls = .type "StopIteration") → E (.ref e) { s with heap := h' }) :
    wpAny (model prog w) A (Builtin.SmallTypes.nextOf (.ref it)) Q E s := by
  obtain ⟨o, ho, hc, hd⟩ := id hit
  obtain ⟨ol, hol, _, nl, hdl⟩ := ht
  unfold Builtin.SmallTypes.nextOf
  refine wpAny_bind (wpAny_callSpecial?_slot (name := Str.ofString "__next__") hit.typeIs F.slot_tuple_iterator_next
    (wpAny_call_entry F.slot_tuple_iterator_next hit.typeIs F.entry_tuple_iterator_next ?_ (F.args_tuple_iterator_next_1 _)))
  show wpAny _ _ (field (.ref it) 0 >>= _) _ _ s
  refine wpAny_bind (wpAny_field ho hd (x := .ref t) rfl ?_)
  show wpAny _ _ (if (Value.ref t == Value.none) = true then _ else _) _ _ s
  rw [if_neg (show ¬ ((Value.ref t == Value.none) = true) from Bool.false_ne_true)]
  show wpAny _ _ (field (.ref it) 1 >>= _) _ _ s
  refine wpAny_bind (wpAny_field ho hd (x := .int i 0) rfl ?_)
  show wpAny _ _ (seqItems? (.ref t) >>= _) _ _ s
  refine wpAny_bind (wpAny_seqItems hol hdl ?_)
  simp only [Int.toNat_natCast, hx]
  refine wpAny_bind (wpAny_rule (wpAny_bind (wpAny_setField ho hd (by simp) ?_)))
  show wpAny _ _ (newExc (.type "StopIteration") [] >>= _) _ _ _
  refine wpAny_bind ?_
  simp only [newExc, newTuple]
  refine wpAny_bind (wpAny_newObj_type ?_ (by size_fits))
  refine wpAny_bind (m := firstArgMember _ _) (wpAny_of_eq (a := Value.none) (by first | rfl | (simp only [firstArgMember]; rfl)) ?_)
  refine wpAny_newObj_type ?_ (by size_fits)
  simp only [raiseNew]
  refine wpAny_bind (wpAny_handled ?_)
  first | rw [show A.in1.handled = none from hh] | rw [hh]
  refine wpAny_bind (wpAny_pure (wpAny_throw ?_))
  exact hE _ _ (((Heap.SameBut.update ..).extBut.push _).push _) ⟨_, Heap.get?_push_size _ rfl, rfl⟩
end

theorem drawsTuple {prog : Program} {w : World} {A : Around} (hh : A.handled = none) (it l : Addr) (hne : l ≠ it) (items : Array Value) :
    Draws prog w A it [it, l] items.size (fun i v => items[i]? = some v) (fun i h => h.IsTupleIter it l i ∧ h.IsTuple l items) where
  live := fun _ _ st => let ⟨o, ho, _⟩ := st.1; ⟨o, ho⟩
  frame := fun _ _ _ st hk => ⟨st.1.at fun o e => hk it (by simp) o e, st.2.at fun o e => hk l (by simp) o e⟩
  item := fun i s Q E hi st hQ => by
    refine nextOf_tuple_item st.1 st.2 (x := items[i]) (by simp [hi]) fun h' hit' hs' => ?_
    exact hQ _ h' s.toks (by simp [hi]) ⟨hit', st.2.extBut hs'.extBut hne⟩ hs'
  done := fun s Q E st hE => nextOf_tuple_end hh st.1 st.2 (by simp) hE

theorem meets_enum_newT (l : Addr) (items : Array Value) (n : Nat) (dct : Option Addr) (sl : Array (Option Value)) :
    Meets (Builtin.«enumerate.__new__» ⟨[.type "enumerate", .ref l], []⟩) (fun _ R s => s.heap.get? l = some { cls := .type "tuple", dict := dct, data := .seq items n, slots := sl } ∧
      R (.ok (.ret (.ref (s.heap.push { cls := .type "tuple_iterator", data := .fields #[.ref l, .int 0 0] }).objs.size)))
        { s with heap := (s.heap.push { cls := .type "tuple_iterator", data := .fields #[.ref l, .int 0 0] }).push { cls := .type "enumerate", data := .fields #[.none, .bool false, .ref s.heap.objs.size, rawInt 0, .none, .none] } }) :=
  .of_wp fun prog w A R s h => by
    obtain ⟨hp, g, d, tk, os⟩ := s; obtain ⟨hl, h⟩ := h
    have hsub := sub_enumerate
    have hL : Heap.IsTuple (Shared.heap ⟨hp, g, d, tk, os⟩) l items := ⟨_, hl, rfl, n, rfl⟩
    wp_walk using PySem.AutoSeq1.wpAny_loadPart' hl
    refine wpAny_stack_any fun st => wpAny_pure ?_
    split
    · rename_i c _ _ _ _ _
      cases (c == Value.type "enumerate")
      · wp_walk using PySem.AutoSeq1.wpAny_loadPart' hl, wpAny_pyIter_tuple hL
        exact ⟨_, rfl, h⟩
      · wp_walk using PySem.AutoSeq1.wpAny_loadPart' hl, wpAny_pyIter_tuple hL
        exact ⟨_, rfl, h⟩
    · wp_walk using PySem.AutoSeq1.wpAny_loadPart' hl, wpAny_pyIter_tuple hL
      exact ⟨_, rfl, h⟩

abbrev enumObj (it : Addr) (i : Int) (old : Value) : Obj := { cls := .type "enumerate", data := .fields #[.none, .bool false, .ref it, rawInt i, .none, old] }
abbrev tupIterObj (l : Addr) (i : Int) : Obj := { cls := .type "tuple_iterator", data := .fields #[.ref l, .int i 0] }
abbrev listIterObj (l : Addr) (i : Int) : Obj := { cls := .type "list_iterator", data := .fields #[.ref l, .int i 0] }

section
variable {prog : Program} {w : World} {A : Around} {E : Value → Shared → Prop} {s : Shared} {h₀ : Heap} {L : Addr} {m : Str → Option Value} {news : List (Addr × Obj)}

/-- enumerate of a tuple: two new objects -/
theorem call_enumT {l : Addr} {items : Array Value} {Q : Value → Shared → Prop} (FR : Fr h₀ L s.heap m) (N : News h₀ L s.heap news) (hL : IsTup s.heap l items)
    (h : ∀ it h', Fr h₀ L h' m → News h₀ L h' ((it + 1, enumObj it 0 .none) :: (it, tupIterObj l 0) :: news) → (∀ p ∈ news, p.1 < it) → l < it → Q (.ref (it + 1)) { s with heap := h' }) :
    wpAny (model prog w) A (call (.type "enumerate") [.ref l]) Q E s := by
  obtain ⟨⟨c, dct, dt, sl⟩, hl, hc, n, hd⟩ := hL
  replace hc : c = .type "tuple" := hc
  replace hd : dt = .seq items n := hd
  subst hc hd
  refine callType_new F.called_enumerate (by decide) (F.typeCall_enumerate_1 _) (F.newCall_enumerate_1 _) (fun obj => F.args_object_init_2 obj _) F.entry_enumerate_new
    (meets_enum_newT l items n dct sl) ⟨hl, ?_⟩
  have hz : (s.heap.push (tupIterObj l 0)).objs.size = s.heap.objs.size + 1 := Heap.size_push ..
  show _ ∧ _
  rw [hz]
  have N2 := News.push (FR.push (tupIterObj l 0)) (News.push FR N (tupIterObj l 0)) (enumObj s.heap.objs.size 0 .none)
  rw [hz] at N2
  have he := (N2 _ (List.mem_cons_self ..)).1
  exact ⟨⟨_, he, rfl⟩, h s.heap.objs.size _ ((FR.push _).push _) N2 (fun p hp => Heap.lt_size (N p hp).1) (Heap.lt_size hl)⟩
end

section
variable {prog : Program} {w : World} {A : Around} {s : Shared} {env : Env} {h₀ : Heap}

/-- the end of a turn of a loop whose iterator's objects are own -/
def TurnT (h₀ : Heap) (L : Addr) (s : Shared) (own : List (Addr × Obj)) (J : (Str → Option Value) → List (Addr × Obj) → Prop) (R : Result → Shared → Prop) (f : Flow) (s₃ : Shared) : Prop :=
  match f with
  | .ret v => R (.ok (.ret v)) s₃
  | .brk => R (.ok .next) s₃
  | _ => ∃ h' tk m' news' nx, s₃ = { s with heap := h', toks := tk } ∧ Fr h₀ L h' m' ∧ News h₀ L h' news' ∧ (∀ p ∈ own, p ∈ news') ∧ (∀ p ∈ nx, p ∈ news') ∧ (∀ p ∈ nx, ∀ q ∈ own, p.1 ≠ q.1) ∧ J m' nx

theorem TurnT.next {L : Addr} {own : List (Addr × Obj)} {J : (Str → Option Value) → List (Addr × Obj) → Prop} {R : Result → Shared → Prop} {h' : Heap} {tk : Nat} {m' : Str → Option Value} {news' : List (Addr × Obj)} (nx : List (Addr × Obj))
    (F : Fr h₀ L h' m') (N : News h₀ L h' news') (ho : ∀ p ∈ own, p ∈ news') (hx : ∀ p ∈ nx, p ∈ news') (hd : ∀ p ∈ nx, ∀ q ∈ own, p.1 ≠ q.1) (hJ : J m' nx) :
    TurnT h₀ L s own J R .next { s with heap := h', toks := tk } := ⟨h', tk, m', news', nx, rfl, F, N, ho, hx, hd, hJ⟩

theorem loop_T {R : Result → Shared → Prop} {elts : List Expr} {k : Nat} {pt : Pos} {body : List Stmt} {I : Addr} {fp wr fo : List Addr} {n : Nat} {Pt : Nat → Array Value → Prop} {St : Nat → Heap → Prop} {Mid : Nat → Addr → Heap → Prop}
    {m : Str → Option Value} {news : List (Addr × Obj)} (W : WalksT prog w A I fp wr n Pt St Mid)
    (hfo : ∀ b ∈ fp, b ∈ fo ∨ ∃ o, h₀.get? b = some o) (hwo : ∀ b ∈ wr, b ∈ fo) (hon : ∀ b ∈ fo, h₀.get? b = none) (hLo : env.locals ∉ fo)
    (hfs : ∀ h i, St i h → ∀ b ∈ fo, ∃ o, h.get? b = some o)
    (hst : St 0 s.heap) (F : Fr h₀ env.locals s.heap m) (N : News h₀ env.locals s.heap news) (hnw : ∀ p ∈ news, p.1 ∉ fo)
    (J : Nat → (Str → Option Value) → List (Addr × Obj) → Prop) (h0 : J 0 m news)
    (step : ∀ i vals m₁ news₁ own h tk T oT, i < n → Pt i vals → J i m₁ news₁ → own.map (·.1) = fo → (∀ p ∈ news₁, p.1 ∉ fo) → (∀ p ∈ own ++ news₁, p.1 < T) → oT.cls = .type "tuple" → (∃ e, oT.data = .seq vals e) →
      Fr h₀ env.locals h m₁ → News h₀ env.locals h ((T, oT) :: (own ++ news₁)) →
      wpAny (model prog w) A (assign (.Tuple elts k pt) env (.ref T)) (fun _ s₂ => wpAny (model prog w) A (execs body env) (fun f s₃ => Stop (model prog w) A (TurnT h₀ env.locals s own (J (i + 1)) R f) s₃) (fun _ _ => False) s₂) (fun _ _ => False) { s with heap := h, toks := tk })
    (hR : ∀ h' tk m' news', Fr h₀ env.locals h' m' → News h₀ env.locals h' news' → J n m' news' → R (.ok .next) { s with heap := h', toks := tk }) :
    codeAny (model prog w) A (.forLoop (.Tuple elts k pt) (.ref I) body [] env) R s := by
  have hLw : env.locals ∉ wr := fun h => hLo (hwo _ h)
  have hwr : ∀ b ∈ wr, h₀.get? b = none := fun b hb => hon b (hwo b hb)
  have old : ∀ b o, h₀.get? b = some o → b ∉ wr := fun b o e hb => by rw [hwr b hb] at e; cases e
  refine codeAny_forLoop_any
    (fun k s' => ∃ h' tk m' news' i, s' = { s with heap := h', toks := tk } ∧ St i h' ∧ Fr h₀ env.locals h' m' ∧ News h₀ env.locals h' news' ∧ (∀ p ∈ news', p.1 ∉ fo) ∧ J i m' news' ∧ i ≤ n ∧ k = n + 1 - i) ?_ (n + 1)
    ⟨s.heap, s.toks, m, news, 0, rfl, hst, F, N, hnw, h0, Nat.zero_le _, rfl⟩
  rintro kk s' ⟨H, tk, m', news', i, rfl, hst', F', N', hnw', hJ, hi, rfl⟩
  have next : ∀ h₁ : Heap, (∀ b o, b ∉ wr → H.get? b = some o → h₁.get? b = some o) → Fr h₀ env.locals h₁ m' ∧ News h₀ env.locals h₁ news' := fun h₁ hk₁ =>
    ⟨⟨F'.ns.at' fun o e => hk₁ _ o hLw e, fun b o e => hk₁ b o (old b o e) (F'.keep b o e), F'.above⟩, fun p hp => ⟨hk₁ _ _ (fun q => hnw' p hp (hwo _ q)) (N' p hp).1, (N' p hp).2⟩⟩
  by_cases hlt : i < n
  · refine W.item i _ _ _ hlt hst' fun T vals h₁ tk₁ hPt hsz hT hMid hk₁ => ?_
    refine W.go elts k pt i T _ _ _ hMid fun h₂ hst₂ hk₂ => ?_
    have ht₂ : h₂.IsTuple T vals := hT.at fun o e => hk₂ T o (W.apart i T h₁ hMid) e
    obtain ⟨F₂, N₂⟩ := next h₂ fun b o hb x => hk₂ b o hb (hk₁ b o hb x)
    obtain ⟨oT, hoT, hcT, eT, hdT⟩ := ht₂
    have hFl := hfs h₂ _ hst₂
    let own : List (Addr × Obj) := fo.map fun b => (b, (h₂.get? b).getD default)
    have hown : ∀ p ∈ own, h₂.get? p.1 = some p.2 ∧ p.1 ∈ fo := by
      intro p hp
      obtain ⟨b, hb, rfl⟩ := List.mem_map.mp hp
      obtain ⟨o, ho⟩ := hFl b hb
      exact ⟨by simp [ho], hb⟩
    have hof : ∀ b ∈ fo, ∀ o, h₂.get? b = some o → (b, o) ∈ own := by
      intro b hb o ho
      exact List.mem_map.mpr ⟨b, hb, by simp [ho]⟩
    have Nown : News h₀ env.locals h₂ own := fun p hp => ⟨(hown p hp).1, fun q => hLo (q ▸ (hown p hp).2), hon _ (hown p hp).2⟩
    have hTn : h₀.get? T = none := by
      cases hq : h₀.get? T with
      | none => rfl
      | some o => exact absurd (Heap.lt_size (F'.keep _ _ hq)) (Nat.not_lt.mpr hsz)
    have hTL : T ≠ env.locals := by
      intro q
      exact absurd F'.ns.lt (Nat.not_lt.mpr (q ▸ hsz))
    have hlow : ∀ p ∈ own ++ news', p.1 < T := by
      intro p hp
      rcases List.mem_append.mp hp with hp | hp
      · have hb := (hown p hp).2
        obtain ⟨o, ho⟩ := hfs H _ hst' p.1 hb
        exact Nat.lt_of_lt_of_le (Heap.lt_size ho) hsz
      · exact Nat.lt_of_lt_of_le (Heap.lt_size (N' p hp).1) hsz
    have N₃ : News h₀ env.locals h₂ ((T, oT) :: (own ++ news')) := by
      intro p hp
      rcases List.mem_cons.mp hp with rfl | hp
      · exact ⟨hoT, hTL, hTn⟩
      · exact (Nown.append N₂) p hp
    refine wpAny_mono (step i vals m' news' own h₂ tk₁ T oT hlt hPt hJ (by simp [own, Function.comp_def]) hnw' hlow hcT ⟨eT, hdT⟩ F₂ N₃) (fun _ s₂ h₅ => ?_) fun _ _ e => e.elim
    refine wpAny_mono (wpAny_stop h₅) (fun f s₃ h₆ => ?_) fun _ _ e => e.elim
    have fin : TurnT h₀ env.locals s own (J (i + 1)) R .next s₃ → ∃ m_1, m_1 < n + 1 - i ∧ ∃ h' tk m' news' i, s₃ = { s with heap := h', toks := tk } ∧ St i h' ∧ Fr h₀ env.locals h' m' ∧ News h₀ env.locals h' news' ∧ (∀ p ∈ news', p.1 ∉ fo) ∧ J i m' news' ∧ i ≤ n ∧ m_1 = n + 1 - i := by
      rintro ⟨h', tk₆, m₂, news₂, nx, rfl, F₆, N₆, ho₆, hx₆, hd₆, hJ₆⟩
      refine ⟨n + 1 - (i + 1), by omega, h', tk₆, m₂, nx, i + 1, rfl, ?_, F₆, fun p hp => N₆ p (hx₆ p hp), ?_, hJ₆, hlt, rfl⟩
      · refine W.frame _ _ _ hst₂ fun b hb o e => ?_
        rcases hfo b hb with hb' | ⟨o₀, hn⟩
        · exact (N₆ _ (ho₆ _ (hof b hb' o e))).1
        · have : o₀ = o := by have q := F₂.keep b o₀ hn; rw [e] at q; exact (Option.some.inj q).symm
          exact this ▸ F₆.keep b o₀ hn
      · intro p hp hq
        obtain ⟨o, ho⟩ := hFl p.1 hq
        exact hd₆ p hp _ (hof p.1 hq o ho) rfl
    cases f with
    | ret v => exact h₆
    | brk => exact h₆
    | cont => exact fin h₆
    | next => exact fin h₆
  · have hin : i = n := by omega
    subst hin
    refine W.done _ _ _ hst' fun h₁ tk₁ hk₁ => wpAny_execs_nil ?_
    obtain ⟨F₁, N₁⟩ := next h₁ hk₁
    exact hR h₁ tk₁ m' news' F₁ N₁ hJ
end

end Mine
end
section
open PySem PySem.W PyProof.Rows PySem.Calls
set_option Elab.async false
set_option maxRecDepth 100000
set_option maxHeartbeats 400000
namespace Mine
section
variable {prog : Program} {w : World} {A : Around} {s : Shared} {env : Env} {h₀ : Heap}
theorem loop_enumT {R : Result → Shared → Prop} {elts : List Expr} {k : Nat} {pt : Pos} {body : List Stmt} {it l : Addr} {items : Array Value} {m : Str → Option Value} {news : List (Addr × Obj)} (hh : A.handled = none)
    (hl : IsTup h₀ l items) (F : Fr h₀ env.locals s.heap m) (N : News h₀ env.locals s.heap ((it + 1, enumObj it 0 .none) :: (it, tupIterObj l 0) :: news)) (hnw : ∀ p ∈ news, p.1 < it)
    (J : Nat → (Str → Option Value) → List (Addr × Obj) → Prop) (h0 : J 0 m news)
    (step : ∀ i v t m₁ news₁ oe oi h tk T d e sl, items[i]? = some v → J i m₁ news₁ → (∀ p ∈ news₁, p.1 ≠ it ∧ p.1 ≠ it + 1) → it + 1 < T → (∀ p ∈ news₁, p.1 < T) →
      Fr h₀ env.locals h m₁ → News h₀ env.locals h ((T, { cls := .type "tuple", dict := d, data := .seq #[.int i t, v] e, slots := sl }) :: (it + 1, oe) :: (it, oi) :: news₁) →
      wpAny (model prog w) A (assign (.Tuple elts k pt) env (.ref T)) (fun _ s₂ => wpAny (model prog w) A (execs body env) (fun f s₃ => Stop (model prog w) A (TurnT h₀ env.locals s [(it + 1, oe), (it, oi)] (J (i + 1)) R f) s₃) (fun _ _ => False) s₂) (fun _ _ => False) { s with heap := h, toks := tk })
    (hR : ∀ h' tk m' news', Fr h₀ env.locals h' m' → News h₀ env.locals h' news' → J items.size m' news' → R (.ok .next) { s with heap := h', toks := tk }) :
    codeAny (model prog w) A (.forLoop (.Tuple elts k pt) (.ref (it + 1)) body [] env) R s := by
  have hlt : l < h₀.objs.size := hl.lt
  have hit0 : h₀.get? it = none := (N _ (List.mem_cons_of_mem _ (List.mem_cons_self ..))).2.2
  have hit1 : h₀.get? (it + 1) = none := (N _ (List.mem_cons_self ..)).2.2
  have hLi : it ≠ env.locals := (N _ (List.mem_cons_of_mem _ (List.mem_cons_self ..))).2.1
  have hLe : it + 1 ≠ env.locals := (N _ (List.mem_cons_self ..)).2.1
  have hne : l ≠ it := fun q => by obtain ⟨o, ho, _⟩ := hl; rw [q, hit0] at ho; cases ho
  have hne1 : l ≠ it + 1 := fun q => by obtain ⟨o, ho, _⟩ := hl; rw [q, hit1] at ho; cases ho
  have D := drawsTuple (prog := prog) (w := w) (A := A.in1) (by simpa using hh) it l hne items
  have W := WalksT.enumerateD (A := A) D (it + 1) (Nat.succ_ne_self it) (by simp only [List.mem_cons, List.not_mem_nil, or_false, not_or]; exact ⟨Nat.succ_ne_self it, Ne.symm hne1⟩) (by simp)
  have hn0 : ∀ p ∈ news, p.1 ∉ [it + 1, it] := fun p hp hq => by
    have h9 : @LT.lt Nat _ p.1 it := hnw p hp
    simp only [List.mem_cons, List.not_mem_nil, or_false] at hq
    rcases hq with q | q <;> (rw [q] at h9; exact absurd h9 (by first | exact Nat.lt_irrefl _ | exact Nat.not_lt.mpr (Nat.le_succ _)))
  refine loop_T (fo := [it + 1, it]) W ?_ ?_ ?_ ?_ ?_ ⟨⟨.none, (N _ (List.mem_cons_self ..)).1⟩, ⟨_, (N _ (List.mem_cons_of_mem _ (List.mem_cons_self ..))).1, rfl, rfl⟩, hl.keeps F.keep⟩ F (fun p hp => N p (List.mem_cons_of_mem _ (List.mem_cons_of_mem _ hp))) hn0 J h0 ?_ hR
  · intro b hb
    simp only [List.mem_cons, List.not_mem_nil, or_false] at hb
    rcases hb with rfl | rfl | rfl
    · exact .inl (by simp)
    · exact .inl (by simp)
    · obtain ⟨o, ho, _⟩ := hl; exact .inr ⟨o, ho⟩
  · intro b hb; exact hb
  · intro b hb
    simp only [List.mem_cons, List.not_mem_nil, or_false] at hb
    rcases hb with rfl | rfl <;> assumption
  · intro hb
    simp only [List.mem_cons, List.not_mem_nil, or_false] at hb
    rcases hb with q | q
    · exact hLe q.symm
    · exact hLi q.symm
  · rintro h i ⟨⟨old, he⟩, hi⟩ b hb
    simp only [List.mem_cons, List.not_mem_nil, or_false] at hb
    rcases hb with rfl | rfl
    · exact ⟨_, he⟩
    · obtain ⟨⟨o, ho, _⟩, _⟩ := hi; exact ⟨o, ho⟩
  · rintro i vals m₁ news₁ own h tk T oT hi ⟨t, v, hv, rfl⟩ hJ hown hn1 hT hc ⟨e, hd⟩ F₁ N₁
    have hv' : items[i]? = some v := hv
    obtain _ | ⟨⟨a, oe⟩, _ | ⟨⟨b, oi⟩, _ | ⟨x3, r3⟩⟩⟩ := own
    · simp at hown
    · simp at hown
    · simp only [List.map_cons, List.map_nil, List.cons.injEq, and_true] at hown
      obtain ⟨e1, e2⟩ := hown
      subst e1 e2
      obtain ⟨c, d, dt, sl⟩ := oT
      replace hc : c = .type "tuple" := hc
      replace hd : dt = .seq #[.int i t, v] e := hd
      subst hc hd
      refine step i v t m₁ news₁ oe oi h tk T d e sl hv' hJ (fun p hp => ?_) (hT _ (List.mem_append_left _ (List.mem_cons_self ..))) (fun p hp => hT p (List.mem_append_right _ hp)) F₁ N₁
      have := hn1 p hp
      simp only [List.mem_cons, List.not_mem_nil, or_false, not_or] at this
      exact ⟨this.2, this.1⟩
    · simp at hown
end
end Mine
end
section
open PySem PySem.W PyProof.Rows PySem.Calls
set_option Elab.async false
set_option maxRecDepth 100000
set_option maxHeartbeats 1000000
namespace Mine

/-- a tuple of ints, in a heap -/
def TupI (h : Heap) (a : Addr) (ns : List Int) : Prop := ∃ vs, IsTup h a (List.toArray vs) ∧ IntsAre vs ns

theorem TupI.keeps {h h' : Heap} {a : Addr} {ns : List Int} (x : TupI h a ns) (k : ∀ b o, h.get? b = some o → h'.get? b = some o) : TupI h' a ns :=
  let ⟨vs, t, i⟩ := x; ⟨vs, t.keeps k, i⟩
theorem TupI.typeIs {s : Shared} {a : Addr} {ns : List Int} (x : TupI s.heap a ns) : s.TypeIs (.ref a) "tuple" := let ⟨_, t, _⟩ := x; t.typeIs

theorem adjust_upto (a n : Nat) (ha : a ≤ n) : Builtin.Slice.sliceAdjust none (some (a : Int)) 1 (n : Int) = (0, (a : Int)) := by
  unfold Builtin.Slice.sliceAdjust
  have h1 : ¬ ((1 : Int) < 0) := by omega
  have h2 : ¬ ((a : Int) < 0) := by omega
  simp only [h1, h2, if_false]
  congr 1
  omega
theorem places_upto (a : Nat) : Builtin.Slice.slicePlaces 0 (a : Int) 1 = a := by
  unfold Builtin.Slice.slicePlaces
  have h1 : (1 : Int) > 0 := by omega
  simp only [h1, if_true, Int.ediv_one]
  split <;> omega

section
variable {prog : Program} {w : World} {A : Around} {E : Value → Shared → Prop} {s : Shared}

theorem applied_upto {sl : Addr} {a n : Nat} {u : Tok} {Q : Int × Int × Nat → Shared → Prop} (hs : s.heap.IsSliceOf sl .none (.int a u) .none) (ha : a ≤ n) (h : Q (0, 1, a) s) :
    wpAny (model prog w) A (Builtin.Slice.sliceApplied (.ref sl) (pure (n : Int))) Q E s := by
  obtain ⟨os, hos, hcs, hds⟩ := id hs
  unfold Builtin.Slice.sliceApplied Builtin.Slice.sliceFields
  refine wpAny_bind (wpAny_bind (wpAny_field hos hds (x := .none) rfl (wpAny_bind (wpAny_field hos hds (x := .int a u) rfl (wpAny_bind (wpAny_field hos hds (x := .none) rfl (wpAny_pure ?_)))))))
  refine wpAny_bind (slicePart_none ?_)
  show wpAny _ _ (if ((1 : Int) == 0) = true then _ else _) _ _ s
  rw [if_neg (by decide)]
  refine wpAny_bind (slicePart_none (wpAny_bind (slicePart_int (wpAny_bind (wpAny_pure ?_)))))
  show wpAny _ _ (match Builtin.Slice.sliceAdjust none (some (a : Int)) 1 (n : Int) with | (lo, hi) => pure (lo, (1 : Int), Builtin.Slice.slicePlaces lo hi 1)) _ _ s
  rw [adjust_upto a n ha]
  show wpAny _ _ (pure ((0 : Int), (1 : Int), Builtin.Slice.slicePlaces 0 (a : Int) 1)) _ _ s
  rw [places_upto a]
  exact wpAny_pure h

theorem pick_upto (xs : Array Value) (a : Nat) (ha : a ≤ xs.size) : ((List.range a).filterMap fun (k : Nat) => xs[((0 : Int) + (k : Int) * 1).toNat]?).toArray = (xs.toList.take a).toArray := by
  have e : (fun (k : Nat) => xs[((0 : Int) + (k : Int) * 1).toNat]?) = fun k => xs[k]? := by
    funext k
    have : ((0 : Int) + (k : Int) * 1).toNat = k := by omega
    rw [this]
  rw [e]
  have := pick_run xs 0 a
  rw [List.filterMap_map] at this
  have e2 : ((fun x => xs[x]?) ∘ fun x => 0 + x) = fun k => xs[k]? := by funext k; simp
  rw [e2, List.drop_zero] at this
  rw [this]

theorem item_upto {t sl : Addr} {items : Array Value} {a : Nat} {u : Tok} {Q : Value → Shared → Prop} (ht : IsTup s.heap t items) (hs : s.heap.IsSliceOf sl .none (.int a u) .none) (ha : a < items.size)
    (h : Q (.ref s.heap.objs.size) { s with heap := s.heap.push { cls := .type "tuple", data := .seq (items.toList.take a).toArray } })
    (hsz : items.size ≤ sizeLine) : wpAny (model prog w) A (getItem (.ref t) (.ref sl)) Q E s := by
  have htake : sizeOk (.seq (items.toList.take a).toArray) := by
    show (items.toList.take a).toArray.size ≤ sizeLine
    rw [List.size_toArray, List.length_take, Array.length_toList]
    omega
  obtain ⟨os, hos, hcs, hds⟩ := id hs
  have hTs : s.TypeIs (.ref sl) "slice" := ⟨os, hos, hcs⟩
  unfold getItem
  try with_reducible refine wpAny_holding ?_
  first | refine wpAny_bind (wpAny_pure ?_) | skip
  refine wpAny_bind (wpAny_sequenceKey ht.typeIs (by decide) ?_)
  refine wpAny_bind (wpAny_callSpecial?_slot (name := Str.ofString "__getitem__") ht.typeIs slot_tuple_getitem
    (wpAny_call_entry slot_tuple_getitem ht.typeIs entry_tuple_getitem ?_ (args_tuple_getitem _ _)))
  show wpAny _ _ (Builtin.Tuple.tupleItemsOf (.ref t) >>= _) _ _ s
  refine wpAny_bind (tupleItemsOf_ ht ?_)
  refine wpAny_bind (wpAny_typeOf hTs ?_)
  rw [if_pos (by decide)]
  refine wpAny_bind (applied_upto hs (Nat.le_of_lt ha) ?_)
  have hno : ¬ (((0 : Int) == 0 && (1 : Int) == 1 && a == items.size) = true) := by
    have : (a == items.size) = false := by rw [beq_eq_false_iff_ne]; omega
    rw [this]; simp
  show wpAny _ _ (if ((0 : Int) == 0 && (1 : Int) == 1 && a == items.size) = true then _ else _) _ _ s
  rw [if_neg hno, pick_upto items a (Nat.le_of_lt ha)]
  first
    | exact wpAny_bind (m := Builtin.Tuple.tupleExact _) (wpAny_newObj_type (wpAny_pure ⟨_, rfl, wpAny_pure h⟩) htake)
    | exact wpAny_bind (m := Builtin.Tuple.tupleExact _) (wpAny_newObj_type (wpAny_bind (wpAny_pure (wpAny_pure ⟨_, rfl, wpAny_pure h⟩))) htake)
    | exact wpAny_bind (wpAny_bind (m := Builtin.Tuple.tupleExact _) (wpAny_newObj_type (wpAny_pure (wpAny_pure ⟨_, rfl, wpAny_pure h⟩)) htake))
    | exact wpAny_bind (wpAny_bind (m := Builtin.Tuple.tupleExact _) (wpAny_newObj_type (wpAny_pure ⟨_, rfl, wpAny_pure h⟩) htake))
end

theorem ints_take : ∀ {vs : List Value} {ns : List Int} (a : Nat), IntsAre vs ns → IntsAre (vs.take a) (ns.take a)
  | _, _, 0, _ => .nil
  | _, _, _ + 1, .nil => .nil
  | _, _, a + 1, .cons n t r => .cons n t (ints_take a r)

section
variable {prog : Program} {w : World} {A : Around} {E : Value → Shared → Prop} {s : Shared} {h₀ : Heap} {L : Addr} {m : Str → Option Value} {news : List (Addr × Obj)} {a b : Addr} {ns ms : List Int} {Q : Value → Shared → Prop}

theorem size18 {n : Nat} (h : n ≤ 1000) : (n : Int) < 2 ^ 63 := Int.lt_of_le_of_lt (Int.ofNat_le.mpr h) (by decide)

theorem ti_len (ht : TupI s.heap a ns) (hb : ns.length ≤ 1000) (h : Q (.int ns.length (s.toks + 1)) { s with toks := s.toks + 1 + 1 }) :
    wpAny (model prog w) A (call (.builtin "len") [.ref a]) Q E s := by
  obtain ⟨vs, t, i⟩ := ht
  refine len_tuple t (by rw [List.size_toArray, i.length]; exact size18 hb) ?_
  rw [List.size_toArray, i.length]; exact h

theorem ti_item {value slice : PySem.Expr} {k : Int} {u : Tok} (ht : TupI s.heap a ns) (h0 : 0 ≤ k) (h1 : k < ns.length) (hb : ns.length ≤ 1000) (h : ∀ t, Q (.int (ns.getD k.toNat 0) t) s)
    (hs : subscripted slice false (.ref a) (.int k u) = operate [.ref a, .int k u] (getItem (.ref a) (.int k u)) := by with_unfolding_all rfl) (hg : ∀ r, letTemporaryGo value (.ref a) r = pure () := by intro _; with_unfolding_all rfl) :
    wpAny (model prog w) A (subscriptTail value slice (.ref a) (.int k u)) Q E s := by
  obtain ⟨vs, t, i⟩ := ht
  exact item_tuple_ints t i h0 h1 (Int.lt_trans h1 (size18 hb)) h hs hg

theorem ti_upto {H : Heap} {gg : Array GenState} {dd : Drawn} {tt : Nat} {oo : OsState} {value slice : PySem.Expr} {k : Nat} {u : Tok} (F : Fr h₀ L H m) (N : News h₀ L H news) (ht : TupI H a ns) (h1 : k < ns.length) (hb : ns.length ≤ 1000)
    (h : ∀ D vs h', Fr h₀ L h' m → News h₀ L h' ((D, { cls := .type "tuple", data := .seq (List.toArray vs) }) :: news) → (∀ p ∈ news, p.1 < D) → IntsAre vs (ns.take k) → Q (.ref D) ⟨h', gg, dd, tt, oo⟩)
    (hs : subscripted slice false (.ref a) (.ref H.objs.size) = operate [.ref H.objs.size, .ref a] (getItem (.ref a) (.ref H.objs.size)) := by with_unfolding_all rfl)
    (hg : ∀ r, letTemporaryGo value (.ref a) r = pure () := by intro _; with_unfolding_all rfl) :
    wpAny (model prog w) A (subscriptTail value slice (.ref a) (.ref H.objs.size)) Q E ⟨H.push { cls := .type "slice", data := .fields #[.none, .int k u, .none] }, gg, dd, tt, oo⟩ := by
  obtain ⟨vs, t, i⟩ := ht
  have hz : (List.toArray vs).size = ns.length := by rw [List.size_toArray, i.length]
  have ht' : IsTup (H.push { cls := .type "slice", data := .fields #[.none, .int k u, .none] }) a (List.toArray vs) := t.keeps fun _ _ e => Heap.get?_push_of_some _ e
  have hsz : (List.toArray vs).size ≤ sizeLine := by rw [hz]; exact Nat.le_trans hb (by decide)
  refine subscriptTail_ops (s := ⟨H.push { cls := .type "slice", data := .fields #[.none, .int k u, .none] }, gg, dd, tt, oo⟩) ht'.typeIs slot_tuple_getitem.lookup
    (item_upto ht' (Heap.IsSliceOf.new ..) (by rw [hz]; exact h1) ?_ hsz) hs hg
  have N1 := News.push (F.push { cls := .type "slice", data := .fields #[.none, .int k u, .none] }) (N.grown fun _ _ e => Heap.get?_push_of_some _ e) { cls := .type "tuple", data := .seq (vs.take k).toArray }
  exact h _ (vs.take k) _ ((F.push _).push _) N1 (fun p hp => Nat.lt_of_lt_of_le (Heap.lt_size (N p hp).1) (by rw [Heap.size_push]; exact Nat.le_succ _)) (ints_take k i)

theorem ti_notin {x : Int} {u : Tok} {vs : List Value} (ht : IsTup s.heap a (List.toArray vs)) (hi : IntsAre vs ns) (h : Q (.bool (!decide (x ∈ ns))) s) :
    wpAny (model prog w) A (compareOp .NotIn (.int x u) (.ref a)) Q E s := by
  refine notin_tuple_ints ht hi ?_
  have e : ns.any (· == x) = decide (x ∈ ns) := by
    rw [Bool.eq_iff_iff]; simp
  rw [e]; exact h

theorem tuple_canLay (ns : List Int) : SeqAt.shaped (.tuple (ns.map PyData.int)) = true := by
  simp [SeqAt.shaped, PyData.canLay0, PyData.depth, ke_canLayAll0, ke_depthAll]
theorem tuple_same (ns ms : List Int) : PySem.Spec.same (.tuple (ns.map PyData.int)) (.tuple (ms.map PyData.int)) = decide (ns = ms) := by
  simp only [PySem.Spec.same]; exact ke_sameAll ns ms
theorem TupI.reads {h : Heap} {a : Addr} {ns : List Int} (x : TupI h a ns) : PySem.Reads h (.ref a) (.tuple (ns.map .int)) [] := by
  obtain ⟨vs, t, i⟩ := x
  exact reads_newDataT t (ke_carried i)
theorem ti_noMix (ns ms : List Int) : SeqAt.noMix (.tuple (ns.map PyData.int)) (.tuple (ms.map PyData.int)) = true :=
  SeqAt.noMix_of_shape (.tuples .int) rfl _ _ (tuples_map_has fun _ => rfl) (tuples_map_has fun _ => rfl)

theorem ti_eq (ha : TupI s.heap a ns) (hb : TupI s.heap b ms) (hu : A.units + 64 < cLine) (h : Q (.bool (decide (ns = ms))) s) :
    wpAny (model prog w) A (compareOp .Eq (.ref a) (.ref b)) Q E s :=
  eq_dataH_same ha.reads hb.reads (tuple_canLay _) (tuple_canLay _) hu (ti_noMix _ _) (by rw [tuple_same]; exact h)

theorem ti_truthy {Q : Bool → Shared → Prop} (ht : TupI s.heap a ns) (hb : ns.length ≤ 1000) (h : Q (!ns.isEmpty) { s with toks := s.toks + 1 + 1 }) :
    wpAny (model prog w) A (truthy (.ref a)) Q E s := by
  obtain ⟨vs, t, i⟩ := ht
  refine truthy_tuple t (by rw [List.size_toArray, i.length]; exact size18 hb) ?_
  have e : (List.toArray vs).isEmpty = ns.isEmpty := by cases i <;> rfl
  rw [e]; exact h
end

theorem fr_knows {h₀ h : Heap} {L : Addr} {m : Str → Option Value} (ps : List (Str × Value)) (hk : ∀ p ∈ ps, m p.1 = some p.2) (F : Fr h₀ L h m) : Fr h₀ L h (kstB m ps) := by
  have : kstB m ps = m := funext fun y => kstB_eq hk fun _ => rfl
  rw [this]; exact F
theorem allNe_of_gt {tl : List (Addr × Obj)} {x c : Addr} (h : ∀ p ∈ tl, x < p.1) (hc : c ≤ x) : ∀ p ∈ tl, p.1 ≠ c := fun p hp e => by
  have h1 : @LT.lt Nat _ x p.1 := h p hp
  have h2 : @LE.le Nat _ c x := hc
  rw [e] at h1
  exact absurd h1 (Nat.not_lt.mpr h2)
theorem allNe_of_lt {tl : List (Addr × Obj)} {c : Addr} (h : ∀ p ∈ tl, p.1 < c) : ∀ p ∈ tl, p.1 ≠ c := fun p hp e => by
  have h1 : @LT.lt Nat _ p.1 c := h p hp
  rw [e] at h1
  exact absurd h1 (Nat.lt_irrefl _)

theorem ints_at {vs : List Value} {ns : List Int} {i : Nat} {v : Value} (hi : IntsAre vs ns) (h : (List.toArray vs)[i]? = some v) : i < ns.length ∧ ∃ t, v = .int (ns.getD i 0) t := by
  have h' : vs[i]? = some v := by simpa using h
  refine ⟨?_, hi.int_at i v h'⟩
  have := (List.getElem?_eq_some_iff.mp h').1
  rw [hi.length] at this; exact this

theorem loop_enumI {prog : Program} {w : World} {A : Around} {s : Shared} {env : Env} {h₀ : Heap} {R : Result → Shared → Prop} {elts : List Expr} {k : Nat} {pt : Pos} {body : List Stmt} {it l : Addr} {ns : List Int} {m : Str → Option Value} {news : List (Addr × Obj)} (hh : A.handled = none)
    (hl : TupI h₀ l ns) (F : Fr h₀ env.locals s.heap m) (N : News h₀ env.locals s.heap ((it + 1, enumObj it 0 .none) :: (it, tupIterObj l 0) :: news)) (hnw : ∀ p ∈ news, p.1 < it)
    (J : Nat → (Str → Option Value) → List (Addr × Obj) → Prop) (h0 : J 0 m news)
    (step : ∀ i t tv m₁ news₁ oe oi h tk T d e sl, i < ns.length → J i m₁ news₁ → (∀ p ∈ news₁, p.1 ≠ it ∧ p.1 ≠ it + 1) → it + 1 < T → (∀ p ∈ news₁, p.1 < T) →
      Fr h₀ env.locals h m₁ → News h₀ env.locals h ((T, { cls := .type "tuple", dict := d, data := .seq #[.int i t, .int (ns.getD i 0) tv] e, slots := sl }) :: (it + 1, oe) :: (it, oi) :: news₁) →
      wpAny (model prog w) A (assign (.Tuple elts k pt) env (.ref T)) (fun _ s₂ => wpAny (model prog w) A (execs body env) (fun f s₃ => Stop (model prog w) A (TurnT h₀ env.locals s [(it + 1, oe), (it, oi)] (J (i + 1)) R f) s₃) (fun _ _ => False) s₂) (fun _ _ => False) { s with heap := h, toks := tk })
    (hR : ∀ h' tk m' news', Fr h₀ env.locals h' m' → News h₀ env.locals h' news' → J ns.length m' news' → R (.ok .next) { s with heap := h', toks := tk }) :
    codeAny (model prog w) A (.forLoop (.Tuple elts k pt) (.ref (it + 1)) body [] env) R s := by
  obtain ⟨vs, ht, hi⟩ := hl
  have hz : (List.toArray vs).size = ns.length := by rw [List.size_toArray, hi.length]
  refine loop_enumT hh ht F N hnw J h0 ?_ (by rw [hz]; exact hR)
  intro i v t m₁ news₁ oe oi h tk T d e sl hv hJ hn hT hT' F₁ N₁
  obtain ⟨hil, tv, rfl⟩ := ints_at hi hv
  exact step i t tv m₁ news₁ oe oi h tk T d e sl hil hJ hn hT hT' F₁ N₁
theorem call_enumI {prog : Program} {w : World} {A : Around} {E : Value → Shared → Prop} {s : Shared} {h₀ : Heap} {L : Addr} {m : Str → Option Value} {news : List (Addr × Obj)} {l : Addr} {ns : List Int} {Q : Value → Shared → Prop} (FR : Fr h₀ L s.heap m) (N : News h₀ L s.heap news) (hL : TupI s.heap l ns)
    (h : ∀ it h', Fr h₀ L h' m → News h₀ L h' ((it + 1, enumObj it 0 .none) :: (it, tupIterObj l 0) :: news) → (∀ p ∈ news, p.1 < it) → l < it → Q (.ref (it + 1)) { s with heap := h' }) :
    wpAny (model prog w) A (call (.type "enumerate") [.ref l]) Q E s := by
  obtain ⟨vs, ht, hi⟩ := hL
  exact call_enumT FR N ht h

section
variable {prog : Program} {w : World} {A : Around} {E : Value → Shared → Prop} {s : Shared} {h₀ : Heap} {L : Addr} {m : Str → Option Value} {news : List (Addr × Obj)} {a b : Addr} {ns ms : List Int} {us ws : List Value} {n k : Nat} {Q : Value → Shared → Prop}
theorem li_ne_nil (N : News h₀ L s.heap news) (ha : (a, W.listOf (List.toArray us) n) ∈ news) (hb : (b, ({ cls := .type "list", data := .seq (List.toArray []) k } : Obj)) ∈ news) (hi : IntsAre us ns) (hu : A.units + 64 < cLine) (h : Q (.bool (decide (0 < ns.length))) s) :
    wpAny (model prog w) A (compareOp .NotEq (.ref a) (.ref b)) Q E s := by
  refine ke_ne_ints (ms := []) (News.isList N ha) (News.isList N hb) hi .nil hu ?_
  have e : (!decide (ns = [])) = decide (0 < ns.length) := by cases ns <;> simp
  rw [e]; exact h
theorem li_item {value slice : PySem.Expr} {j : Int} {u : Tok} (N : News h₀ L s.heap news) (ha : (a, W.listOf (List.toArray us) n) ∈ news) (hi : IntsAre us ns) (h0 : 0 ≤ j) (h1 : j < ns.length) (hb : ns.length ≤ 1000) (h : ∀ t, Q (.int (ns.getD j.toNat 0) t) s)
    (hs : subscripted slice false (.ref a) (.int j u) = operate [.ref a, .int j u] (getItem (.ref a) (.int j u)) := by with_unfolding_all rfl) (hg : ∀ r, letTemporaryGo value (.ref a) r = pure () := by intro _; with_unfolding_all rfl) :
    wpAny (model prog w) A (subscriptTail value slice (.ref a) (.int j u)) Q E s :=
  item_list_ints (News.isList N ha) hi h0 h1 (Int.lt_trans h1 (size18 hb)) h hs hg
end

section
variable {prog : Program} {w : World} {A : Around} {E : Value → Shared → Prop} {Q : Flow → Shared → Prop} {s : Shared} {env : Env} {h₀ : Heap} {L : Addr}
theorem while_T {test : Expr} {body : List Stmt} {pos : Pos} {m : Str → Option Value} {news : List (Addr × Obj)} (J : Nat → (Str → Option Value) → List (Addr × Obj) → Prop) {n₀ : Nat}
    (F : Fr h₀ L s.heap m) (N : News h₀ L s.heap news) (hJ : J n₀ m news)
    (turn : ∀ n m₁ news₁ h₁ tk₁, Fr h₀ L h₁ m₁ → News h₀ L h₁ news₁ → J n m₁ news₁ →
      wpAny (model prog w) A (isTrue test env (eval test env)) (fun b s₂ =>
        if b = true then wpAny (model prog w) A (execs body env) (fun f s₃ => Stop (model prog w) A (WhileStep2 h₀ L s J Q n f) s₃) (fun _ _ => False) s₂ else Stop (model prog w) A (Q .next) s₂) (fun _ _ => False) { s with heap := h₁, toks := tk₁ }) :
    wpAny (model prog w) A (exec (.While test body [] pos) env) Q E s := by
  refine wpAny_noRaise (While_inv2 J F N hJ (fun n m₁ news₁ h₁ tk₁ F₁ N₁ J₁ => ?_) PassesOwn.never)
  intro Γ p hΓ
  refine Sem.wp_mono _ Γ _ (fun b p' s₂ h₂ => ?_) (fun _ _ _ x => x) p _ (turn n m₁ news₁ h₁ tk₁ F₁ N₁ J₁ Γ p hΓ)
  cases b with
  | true =>
    simp only [if_true] at h₂ ⊢
    exact wpAny_stop h₂
  | false =>
    simp only [Bool.false_eq_true, if_false] at h₂ ⊢
    exact h₂ Γ p' hΓ
theorem WhileStep2.next {J : Nat → (Str → Option Value) → List (Addr × Obj) → Prop} {n n' : Nat} {h' : Heap} {tk : Nat} {m' : Str → Option Value} {news' : List (Addr × Obj)} (nx : List (Addr × Obj))
    (F : Fr h₀ L h' m') (N : News h₀ L h' news') (hx : ∀ p ∈ nx, p ∈ news') (hn : n' < n) (hJ : J n' m' nx) : WhileStep2 h₀ L s J Q n .next { s with heap := h', toks := tk } :=
  ⟨h', tk, m', nx, n', rfl, F, fun p hp => N p (hx p hp), hn, hJ⟩
end
end Mine
end
section
open PySem PySem.W PyProof.Rows PySem.Calls
set_option Elab.async false
set_option maxRecDepth 100000
set_option maxHeartbeats 1000000
namespace Mine

/-- the two heads are paired off from the left -/
def twoPtr (reach : Int) : List Int → List Int → List (Int × Int)
  | [], _ => []
  | _ :: _, [] => []
  | h :: hs, t :: ts => if (if h - t < 0 then -(h - t) else h - t) ≤ reach then (h, t) :: twoPtr reach hs ts else if h < t then twoPtr reach hs (t :: ts) else twoPtr reach (h :: hs) ts
termination_by hs ts => hs.length + ts.length

theorem twoPtr_nilL {R : Int} {hs ts : List Int} (h : ¬ 0 < hs.length) : twoPtr R hs ts = [] := by
  cases hs with
  | nil => rw [twoPtr]
  | cons => simp at h
theorem twoPtr_nilR {R : Int} {hs ts : List Int} (h : ¬ 0 < ts.length) : twoPtr R hs ts = [] := by
  cases ts with
  | nil => cases hs <;> rw [twoPtr]
  | cons => simp at h
theorem twoPtr_both {R : Int} {hs ts : List Int} (h0 : 0 < hs.length) (t0 : 0 < ts.length)
    (c : (if hs.getD (Int.toNat 0) 0 - ts.getD (Int.toNat 0) 0 < 0 then -(hs.getD (Int.toNat 0) 0 - ts.getD (Int.toNat 0) 0) else hs.getD (Int.toNat 0) 0 - ts.getD (Int.toNat 0) 0) ≤ R) :
    twoPtr R hs ts = (hs.getD (Int.toNat 0) 0, ts.getD (Int.toNat 0) 0) :: twoPtr R (hs.drop 1) (ts.drop 1) := by
  cases hs with
  | nil => simp at h0
  | cons h hs => cases ts with
    | nil => simp at t0
    | cons t ts =>
      have c' : (if h - t < 0 then -(h - t) else h - t) ≤ R := c
      rw [twoPtr, if_pos c']; rfl
theorem twoPtr_left {R : Int} {hs ts : List Int} (h0 : 0 < hs.length) (t0 : 0 < ts.length)
    (c : ¬ (if hs.getD (Int.toNat 0) 0 - ts.getD (Int.toNat 0) 0 < 0 then -(hs.getD (Int.toNat 0) 0 - ts.getD (Int.toNat 0) 0) else hs.getD (Int.toNat 0) 0 - ts.getD (Int.toNat 0) 0) ≤ R) (l : hs.getD (Int.toNat 0) 0 < ts.getD (Int.toNat 0) 0) :
    twoPtr R hs ts = twoPtr R (hs.drop 1) ts := by
  cases hs with
  | nil => simp at h0
  | cons h hs => cases ts with
    | nil => simp at t0
    | cons t ts =>
      have c' : ¬ (if h - t < 0 then -(h - t) else h - t) ≤ R := c
      have l' : h < t := l
      rw [twoPtr, if_neg c', if_pos l']; rfl
theorem twoPtr_right {R : Int} {hs ts : List Int} (h0 : 0 < hs.length) (t0 : 0 < ts.length)
    (c : ¬ (if hs.getD (Int.toNat 0) 0 - ts.getD (Int.toNat 0) 0 < 0 then -(hs.getD (Int.toNat 0) 0 - ts.getD (Int.toNat 0) 0) else hs.getD (Int.toNat 0) 0 - ts.getD (Int.toNat 0) 0) ≤ R) (l : ¬ hs.getD (Int.toNat 0) 0 < ts.getD (Int.toNat 0) 0) :
    twoPtr R hs ts = twoPtr R hs (ts.drop 1) := by
  cases hs with
  | nil => simp at h0
  | cons h hs => cases ts with
    | nil => simp at t0
    | cons t ts =>
      have c' : ¬ (if h - t < 0 then -(h - t) else h - t) ≤ R := c
      have l' : ¬ h < t := l
      rw [twoPtr, if_neg c', if_neg l']; rfl

/-- the places of a letter -/
def places (c : Int) (xs : List Int) : List Int := ((List.range xs.length).map fun (k : Nat) => (k : Int)).filter fun (k : Int) => xs.getD k.toNat 0 == c

def lawPairs (reach : Int) (one two : List Int) : Nat → List (Int × Int)
  | 0 => []
  | i + 1 => lawPairs reach one two i ++ (if one.getD i 0 ∈ one.take i then [] else twoPtr reach (places (one.getD i 0) one) (places (one.getD i 0) two))

/-- the ledger bears the list's pairs -/
inductive PairsIn (tl : List (Addr × Obj)) : List Value → List (Int × Int) → Prop
  | nil : PairsIn tl [] []
  | cons {t : Addr} {x y : Int} {u u' : Tok} {d : Option Addr} {e : Nat} {sl : Array (Option Value)} {vs : List Value} {ps : List (Int × Int)} :
      (t, ({ cls := .type "tuple", dict := d, data := .seq #[.int x u, .int y u'] e, slots := sl } : Obj)) ∈ tl → PairsIn tl vs ps → PairsIn tl (.ref t :: vs) ((x, y) :: ps)

theorem PairsIn.mono {tl tl' : List (Addr × Obj)} {vs : List Value} {ps : List (Int × Int)} (h : PairsIn tl vs ps) (k : ∀ p ∈ tl, p ∈ tl') : PairsIn tl' vs ps := by
  induction h with
  | nil => exact .nil
  | cons hm _ ih => exact .cons (k _ hm) ih
theorem PairsIn.append {tl : List (Addr × Obj)} {vs ws : List Value} {ps qs : List (Int × Int)} (h : PairsIn tl vs ps) (h' : PairsIn tl ws qs) : PairsIn tl (vs ++ ws) (ps ++ qs) := by
  induction h with
  | nil => exact h'
  | cons hm _ ih => exact .cons hm ih
theorem PairsIn.length {tl : List (Addr × Obj)} {vs : List Value} {ps : List (Int × Int)} (h : PairsIn tl vs ps) : vs.length = ps.length := by
  induction h with
  | nil => rfl
  | cons _ _ ih => simp [ih]
end Mine
end
section
open PySem PySem.W PyProof.Rows PySem.Calls
set_option Elab.async false
set_option maxRecDepth 100000
set_option maxHeartbeats 1000000
namespace Mine

/-- the state is as it was, but for what the ledger does not say -/
def SameAs (h₀ : Heap) (L : Addr) (m : Str → Option Value) (s : Shared) (led : List (Addr × Obj)) (s' : Shared) : Prop :=
  ∃ h' tk', s' = { s with heap := h', toks := tk' } ∧ Fr h₀ L h' m ∧ News h₀ L h' led
theorem SameAs.intro {h₀ : Heap} {L : Addr} {m : Str → Option Value} {s : Shared} {led : List (Addr × Obj)} {h' : Heap} {tk' : Nat} (F : Fr h₀ L h' m) (N : News h₀ L h' led) : SameAs h₀ L m s led { s with heap := h', toks := tk' } := ⟨h', tk', rfl, F, N⟩

section
variable {prog : Program} {w : World} {A : Around} {h₀ : Heap} {L : Addr} {m : Str → Option Value} {env : Env} {ct elt : Expr} {x : Str} {scope : Scope} {cl : List (Str × Addr)} {s : Shared} {S : List (Addr × Obj) → Prop} {P : Nat → Value → Prop} {Fin : List Value → List (Addr × Obj) → Prop} {news : List (Addr × Obj)}
theorem comp_filter {n : Nat} {ks : List Int} (p : Int → Bool) (hks : ks.length = n) (hP : ∀ i v, i < n → P i v → ∃ k t, ks[i]? = some k ∧ v = .int k t) (hS : S news)
    (test : ∀ k t I oI C oC D m₂ ys h tk (E' : Value → Shared → Prop), k ∈ ks → LCg.NsObj oC m₂ → m₂ x = some (.int k t) → Fr h₀ L h m → News h₀ L h ((I, oI) :: (C, oC) :: (D, LCg.lst ys) :: news) → LCg.Off3 I C D news →
      wpAny (model prog w) A (isTrue ct (compEnvC scope cl C env) (eval ct (compEnvC scope cl C env))) (fun b s' => Stop (model prog w) A (fun s'' => b = p k ∧ SameAs h₀ L m s ((I, oI) :: (C, oC) :: (D, LCg.lst ys) :: news) s'') s') E' { s with heap := h, toks := tk })
    (elem : ∀ k t I oI C oC D m₂ ys h tk (E' : Value → Shared → Prop), k ∈ ks → LCg.NsObj oC m₂ → m₂ x = some (.int k t) → Fr h₀ L h m → News h₀ L h ((I, oI) :: (C, oC) :: (D, LCg.lst ys) :: news) → LCg.Off3 I C D news →
      wpAny (model prog w) A (eval elt (compEnvC scope cl C env)) (fun y s' => Stop (model prog w) A (fun s'' => (∃ t', y = .int k t') ∧ SameAs h₀ L m s ((I, oI) :: (C, oC) :: (D, LCg.lst ys) :: news) s'') s') E' { s with heap := h, toks := tk })
    (fin : ∀ ys, IntsAre ys (ks.filter p) → Fin ys news) : LCt.CompRestT prog w A h₀ L m env ct elt x scope cl s S P Fin n 0 [] news := by
  have key : ∀ (j i : Nat) (ys : List Value), i + j = n → IntsAre ys ((ks.take i).filter p) → LCt.CompRestT prog w A h₀ L m env ct elt x scope cl s S P Fin j i ys news := by
    intro j
    induction j with
    | zero =>
      intro i ys hi hy
      have e : i = ks.length := by omega
      subst e
      rw [List.take_length] at hy
      exact LCt.CompRestT.zero (fin ys hy)
    | succ j ih =>
      intro i ys hi hy
      refine LCt.CompRestT.succ ?_
      intro v I oI C oC D m₂ h tk E' hv hC hx F N off _
      obtain ⟨k, t, hk, hv'⟩ := hP i v (by omega) hv
      rw [hv'] at hx
      have hs : (ks.take (i + 1)).filter p = (ks.take i).filter p ++ (if p k then [k] else []) := by
        rw [List.take_add_one, hk, List.filter_append]
        congr 1
        cases hp : p k <;> simp [hp]
      refine wpAny_mono (wpAny_stop (test k t I oI C oC D m₂ ys h tk E' (List.mem_of_getElem? hk) hC hx F N off)) (fun b s₂ hq => ?_) fun _ _ e => e
      obtain ⟨rfl, h', tk', rfl, F', N'⟩ := hq
      cases hp : p k with
      | true =>
        rw [if_pos rfl]
        refine wpAny_mono (wpAny_stop (elem k t I oI C oC D m₂ ys h' tk' E' (List.mem_of_getElem? hk) hC hx F' N' off)) (fun y s₃ hr => ?_) fun _ _ e => e
        obtain ⟨⟨t', rfl⟩, h'', tk'', rfl, F'', N''⟩ := hr
        refine ⟨h'', tk'', news, rfl, F'', N'', off, hS, ih (i + 1) _ (by omega) ?_⟩
        rw [hs, hp, if_pos rfl]
        exact IntsAre.append hy (.cons k t' .nil)
      | false =>
        rw [if_neg Bool.false_ne_true]
        refine ⟨h', tk', news, rfl, F', N', off, hS, ih (i + 1) _ (by omega) ?_⟩
        rw [hs, hp, if_neg Bool.false_ne_true, List.append_nil]
        exact hy
  exact key n 0 [] (by omega) (by simp only [List.take_zero, List.filter_nil]; exact .nil)

theorem comp_range {n : Nat} (p : Int → Bool)
    (test : ∀ k t I oI C oC D m₂ ys h tk (E' : Value → Shared → Prop), 0 ≤ k → k < (n : Int) → LCg.NsObj oC m₂ → m₂ x = some (.int k t) → Fr h₀ L h m → News h₀ L h ((I, oI) :: (C, oC) :: (D, LCg.lst ys) :: news) → LCg.Off3 I C D news →
      wpAny (model prog w) A (isTrue ct (compEnvC scope cl C env) (eval ct (compEnvC scope cl C env))) (fun b s' => Stop (model prog w) A (fun s'' => b = p k ∧ SameAs h₀ L m s ((I, oI) :: (C, oC) :: (D, LCg.lst ys) :: news) s'') s') E' { s with heap := h, toks := tk })
    (elem : ∀ k t I oI C oC D m₂ ys h tk (E' : Value → Shared → Prop), 0 ≤ k → k < (n : Int) → LCg.NsObj oC m₂ → m₂ x = some (.int k t) → Fr h₀ L h m → News h₀ L h ((I, oI) :: (C, oC) :: (D, LCg.lst ys) :: news) → LCg.Off3 I C D news →
      wpAny (model prog w) A (eval elt (compEnvC scope cl C env)) (fun y s' => Stop (model prog w) A (fun s'' => (∃ t', y = .int k t') ∧ SameAs h₀ L m s ((I, oI) :: (C, oC) :: (D, LCg.lst ys) :: news) s'') s') E' { s with heap := h, toks := tk })
    (fin : ∀ ys, IntsAre ys (((List.range n).map fun (k : Nat) => (k : Int)).filter p) → Fin ys news) :
    LCt.CompRestT prog w A h₀ L m env ct elt x scope cl s (fun _ => True) (fun i v => ∃ t, v = .int (0 + (i : Int)) t) Fin n 0 [] news := by
  have hm : ∀ {k : Int}, k ∈ ((List.range n).map fun (k : Nat) => (k : Int)) → 0 ≤ k ∧ k < (n : Int) := by
    intro k hk
    obtain ⟨i, hi, rfl⟩ := List.mem_map.mp hk
    have := List.mem_range.mp hi
    omega
  refine comp_filter (ks := (List.range n).map fun (k : Nat) => (k : Int)) p (by simp) (fun i v hi hv => ?_) trivial
    (fun k t I oI C oC D m₂ ys h tk E' hk => test k t I oI C oC D m₂ ys h tk E' (hm hk).1 (hm hk).2)
    (fun k t I oI C oC D m₂ ys h tk E' hk => elem k t I oI C oC D m₂ ys h tk E' (hm hk).1 (hm hk).2) fin
  obtain ⟨t, rfl⟩ := hv
  exact ⟨(i : Int), t, by simp [hi], by simp⟩
end

theorem rs_len (n : Nat) : Builtin.Range.rangeSize 0 (n : Int) 1 = (n : Int) := by
  have h := rangeSize_nat 0 (n : Int)
  rw [h]; simp
theorem rsm_len {n : Nat} (hn : n ≤ 1000) : Builtin.Range.small 0 (n : Int) 1 = true := small_one (by omega) (by omega) (by omega) (by omega)
theorem rsz_len {n : Nat} (hn : n ≤ 1000) : n ≤ sizeLine := Nat.le_trans hn (by decide)

/-- a list of pairs of ints, in a heap -/
inductive PairsH (h : Heap) : List Value → List (Int × Int) → Prop
  | nil : PairsH h [] []
  | cons {t : Addr} {x y : Int} {u u' : Tok} {vs : List Value} {ps : List (Int × Int)} : IsTup h t #[.int x u, .int y u'] → PairsH h vs ps → PairsH h (.ref t :: vs) ((x, y) :: ps)
theorem PairsH.length {h : Heap} {vs : List Value} {ps : List (Int × Int)} (x : PairsH h vs ps) : vs.length = ps.length := by
  induction x with
  | nil => rfl
  | cons _ _ ih => simp [ih]
theorem PairsH.keeps {h h' : Heap} {vs : List Value} {ps : List (Int × Int)} (x : PairsH h vs ps) (k : ∀ b o, h.get? b = some o → h'.get? b = some o) : PairsH h' vs ps := by
  induction x with
  | nil => exact .nil
  | cons ht _ ih => exact .cons (ht.keeps k) ih
theorem PairsH.at {h : Heap} {vs : List Value} {ps : List (Int × Int)} (x : PairsH h vs ps) : ∀ (i : Nat) (v : Value), vs[i]? = some v → ∃ t x y u u', ps[i]? = some (x, y) ∧ v = .ref t ∧ IsTup h t #[.int x u, .int y u'] := by
  induction x with
  | nil => intro i v hv; simp at hv
  | cons ht _ ih =>
    intro i v hv
    cases i with
    | zero => simp at hv; exact ⟨_, _, _, _, _, by simp, hv.symm, ht⟩
    | succ i => simp only [List.getElem?_cons_succ] at hv ⊢; exact ih i v hv
def PairsB (h : Heap) (a : Addr) (ps : List (Int × Int)) : Prop := ∃ vs, h.IsList a (List.toArray vs) ∧ PairsH h vs ps
theorem PairsB.keeps {h h' : Heap} {a : Addr} {ps : List (Int × Int)} (x : PairsB h a ps) (k : ∀ b o, h.get? b = some o → h'.get? b = some o) : PairsB h' a ps :=
  let ⟨vs, ⟨o, ho, r⟩, p⟩ := x; ⟨vs, ⟨o, k _ _ ho, r⟩, p.keeps k⟩
theorem PairsIn.toH {tl : List (Addr × Obj)} {h : Heap} {vs : List Value} {ps : List (Int × Int)} (x : PairsIn tl vs ps) (k : ∀ p ∈ tl, h.get? p.1 = some p.2) : PairsH h vs ps := by
  induction x with
  | nil => exact .nil
  | cons hm _ ih => exact .cons ⟨_, k _ hm, rfl, _, rfl⟩ ih

def sortI (ns : List Int) : List Int := ns.mergeSort (fun a b => decide (a ≤ b))
theorem sortI_perm (ns : List Int) : (sortI ns).Perm ns := List.mergeSort_perm _ _
theorem sortI_sorted (ns : List Int) : (sortI ns).Pairwise (· ≤ ·) := by
  have h := List.pairwise_mergeSort (le := fun a b : Int => decide (a ≤ b)) (by intro a b c h1 h2; simp only [decide_eq_true_eq] at *; omega) (by intro a b; simp only [Bool.or_eq_true, decide_eq_true_eq]; omega) ns
  exact h.imp (by simp)
theorem sortI_eq {a b : List Int} (p : a.Perm b) (o : a.Pairwise (· ≤ ·)) : a = sortI b :=
  List.Perm.eq_of_pairwise (le := (· ≤ ·)) (fun a b _ _ h1 h2 => Int.le_antisymm h1 h2) o (sortI_sorted b) (p.trans (sortI_perm b).symm)
theorem sortI_length (ns : List Int) : (sortI ns).length = ns.length := (sortI_perm ns).length_eq

/-- every item is a place of a row of n -/
def AllIn (xs : List Int) (n : Nat) : Prop := ∀ x ∈ xs, 0 ≤ x ∧ x < (n : Int)
theorem AllIn.sort {xs : List Int} {n : Nat} (h : AllIn xs n) : AllIn (sortI xs) n := fun x hx => h x ((sortI_perm xs).mem_iff.mp hx)
theorem AllIn.lo {xs : List Int} {n : Nat} {j : Int} (h : AllIn xs n) (h0 : 0 ≤ j) (h1 : j < xs.length) : 0 ≤ xs.getD j.toNat 0 := (h _ (kso_getD (by omega))).1
theorem AllIn.hi {xs : List Int} {n : Nat} {j : Int} (h : AllIn xs n) (h0 : 0 ≤ j) (h1 : j < xs.length) : xs.getD j.toNat 0 < (n : Int) := (h _ (kso_getD (by omega))).2

section
variable {prog : Program} {w : World} {A : Around} {h₀ : Heap} {L : Addr} {m : Str → Option Value} {env : Env} {elt : Expr} {x : Str} {scope : Scope} {cl : List (Str × Addr)} {s : Shared} {Fin : List Value → List (Addr × Obj) → Prop} {news : List (Addr × Obj)}
theorem comp_pairs {ax : Addr} {vs : List Value} {ps : List (Int × Int)} (sel : Int → Int → Int) (hl : h₀.IsList ax (List.toArray vs)) (hp : PairsH h₀ vs ps)
    (elem : ∀ tt a b u u' I oI C oC D m₂ ys h tk (E' : Value → Shared → Prop), IsTup h₀ tt #[.int a u, .int b u'] → LCg.NsObj oC m₂ → m₂ x = some (.ref tt) → Fr h₀ L h m → News h₀ L h ((I, oI) :: (C, oC) :: (D, LCg.lst ys) :: news) → LCg.Off3 I C D news →
      wpAny (model prog w) A (eval elt (compEnvC scope cl C env)) (fun y s' => Stop (model prog w) A (fun s'' => (∃ t', y = .int (sel a b) t') ∧ SameAs h₀ L m s ((I, oI) :: (C, oC) :: (D, LCg.lst ys) :: news) s'') s') E' { s with heap := h, toks := tk })
    (fin : ∀ ys, IntsAre ys (ps.map fun p => sel p.1 p.2) → Fin ys news) : LCg.CompRest prog w A h₀ L m env elt x scope cl s (LCg.SrcAt h₀ ax (List.toArray vs)) (fun i v => (List.toArray vs)[i]? = some v) Fin (List.toArray vs).size 0 [] news := by
  have hlen : (List.toArray vs).size = ps.length := by rw [List.size_toArray, hp.length]
  have key : ∀ (j i : Nat) (ys : List Value), i + j = ps.length → IntsAre ys ((ps.take i).map fun p => sel p.1 p.2) → LCg.CompRest prog w A h₀ L m env elt x scope cl s (LCg.SrcAt h₀ ax (List.toArray vs)) (fun i v => (List.toArray vs)[i]? = some v) Fin j i ys news := by
    intro j
    induction j with
    | zero =>
      intro i ys hi hy
      have e : i = ps.length := by omega
      subst e
      rw [List.take_length] at hy
      exact LCg.CompRest.zero (fin ys hy)
    | succ j ih =>
      intro i ys hi hy
      refine LCg.CompRest.succ ?_
      intro v I oI C oC D m₂ h tk E' hv hC hx F N off _
      obtain ⟨tt, a, b, u, u', hk, rfl, ht⟩ := hp.at i v (by simpa using hv)
      have hs : (ps.take (i + 1)).map (fun p => sel p.1 p.2) = (ps.take i).map (fun p => sel p.1 p.2) ++ [sel a b] := by
        rw [List.take_add_one, hk, List.map_append]; rfl
      refine wpAny_mono (wpAny_stop (elem tt a b u u' I oI C oC D m₂ ys h tk E' ht hC hx F N off)) (fun y s₃ hr => ?_) fun _ _ e => e
      obtain ⟨⟨t', rfl⟩, h'', tk'', rfl, F'', N''⟩ := hr
      refine ⟨h'', tk'', news, rfl, F'', N'', off, .inl hl, ih (i + 1) _ (by omega) ?_⟩
      rw [hs]
      exact IntsAre.append hy (.cons _ t' .nil)
  rw [hlen]
  exact key _ 0 [] (by omega) (by simp only [List.take_zero, List.map_nil]; exact .nil)
end
section
variable {prog : Program} {w : World} {A : Around} {E : Value → Shared → Prop} {s : Shared} {h₀ : Heap} {L : Addr} {m : Str → Option Value} {news : List (Addr × Obj)} {Q : Value → Shared → Prop}
theorem pb_len {a : Addr} {ps : List (Int × Int)} (ht : PairsB s.heap a ps) (hb : ps.length ≤ 1000) (h : Q (.int ps.length (s.toks + 1)) { s with toks := s.toks + 1 + 1 }) :
    wpAny (model prog w) A (call (.builtin "len") [.ref a]) Q E s := by
  obtain ⟨vs, t, i⟩ := ht
  refine len_list t (by rw [List.size_toArray, i.length]; exact size18 hb) ?_
  rw [List.size_toArray, i.length]; exact h
theorem li_sorted {l : Addr} {us : List Value} {ns : List Int} {n : Nat} (F : Fr h₀ L s.heap m) (N : News h₀ L s.heap news) (ha : (l, W.listOf (List.toArray us) n) ∈ news) (hi : IntsAre us ns) (h64 : ns.length < 64)
    (h : ∀ D vs' c h', Fr h₀ L h' m → News h₀ L h' ((D, W.listOf (List.toArray vs') c) :: news) → (∀ q ∈ news, q.1 < D) → IntsAre vs' (sortI ns) → Q (.ref D) { s with heap := h' }) :
    wpAny (model prog w) A (call (.builtin "sorted") [.ref l]) Q E s :=
  kso_sorted F N (News.isList N ha) hi h64 fun D vs' ns' c h' F' N' l1 i' _ p' o' _ => h D vs' c h' F' N' l1 (sortI_eq p' o' ▸ i')
theorem li_len {l : Addr} {us : List Value} {ns : List Int} {n : Nat} (N : News h₀ L s.heap news) (ha : (l, W.listOf (List.toArray us) n) ∈ news) (hi : IntsAre us ns) (hb : ns.length ≤ 1000) (h : Q (.int ns.length (s.toks + 1)) { s with toks := s.toks + 1 + 1 }) :
    wpAny (model prog w) A (call (.builtin "len") [.ref l]) Q E s := by
  refine len_list (News.isList N ha) (by rw [List.size_toArray, hi.length]; exact size18 hb) ?_
  rw [List.size_toArray, hi.length]; exact h
theorem pt_item {value slice : PySem.Expr} {t : Addr} {a b : Value} {k : Int} {u : Tok} {j : Nat} {y : Value} (ht : IsTup s.heap t #[a, b]) (hlo : -(2 ^ 63) ≤ k) (hhi : k < 2 ^ 63) (hj : seqIndex? k 2 = some j) (hx : [a, b][j]? = some y) (h : Q y s)
    (hs : subscripted slice false (.ref t) (.int k u) = operate [.ref t, .int k u] (getItem (.ref t) (.int k u)) := by with_unfolding_all rfl) :
    wpAny (model prog w) A (subscriptTail value slice (.ref t) (.int k u)) Q E s := item_tupleT (l := [a, b]) ht hlo hhi hj hx h hs
end

theorem comp_le {ys : List Value} {n : Nat} {p : Int → Bool} (_ : IntsAre ys (((List.range n).map fun (k : Nat) => (k : Int)).filter p)) : (((List.range n).map fun (k : Nat) => (k : Int)).filter p).length ≤ n :=
  Nat.le_trans (List.length_filter_le _ _) (by simp)
theorem fdiv2_le {x : Nat} {n : Int} (h : (x : Int) ≤ n) : 0 ≤ (x : Int).fdiv 2 ∧ (x : Int).fdiv 2 ≤ n := by
  rw [Int.fdiv_eq_ediv_of_nonneg _ (by decide)]
  omega
def qI (a b : Int) : UInt64 := Float64.ofFrac (decide (a < 0) != decide (b < 0)) a.natAbs b.natAbs
def jaroF (p m n t : Int) : UInt64 := Float64.div (Float64.add (Float64.add (qI p m) (qI p n)) (qI (p - t) p)) (Float64.ofInt 3)
def crossedOf (na nb : List Int) (ps : List (Int × Int)) : Nat :=
  (((List.range ps.length).map fun (k : Nat) => (k : Int)).filter fun k' => na.getD ((sortI (ps.map fun p => p.1)).getD k'.toNat 0).toNat 0 != nb.getD ((sortI (ps.map fun p => p.2)).getD k'.toNat 0).toNat 0).length
/-- the value of _law_jaro -/
def JaroIs (na nb : List Int) (ps : List (Int × Int)) (v : Value) : Prop :=
  (na = nb ∧ ∃ t, v = .int 1 t) ∨ (na ≠ nb ∧ ps.length = 0 ∧ ∃ t, v = .int 0 t) ∨ (na ≠ nb ∧ ps.length ≠ 0 ∧ ∃ t, v = .float (jaroF ps.length na.length nb.length ((crossedOf na nb ps : Int).fdiv 2)) t)
end Mine
end
section
open PySem PySem.W PyProof.Rows PySem.Calls
set_option Elab.async false
set_option maxRecDepth 100000
set_option maxHeartbeats 8000000
set_option pp.deepTerms false
namespace Mine
local macro_rules | `(tactic| k_asm) => `(tactic| (with_reducible refine' TupI.keeps ?ti1 ?ti2; (case ti1 => assumption); (case ti2 => first | exact Fr.keep (by assumption) | exact fun b o e => Fr.keep (by assumption) b o (Fr.keep (by assumption) b o e))))
local macro_rules | `(tactic| walk_at "call builtin:len") => `(tactic| (k_here; (with_reducible show wpAny _ _ (call (Value.builtin "len") [Value.ref _]) _ _ _); k_dflt (refine' ti_len ?k1 ?k2 ?_; (case k1 => k_asm); (case k2 => omega); k_whole)))
local macro_rules | `(tactic| walk_at "exec For Tuple Call") => `(tactic| (k_here; refine wpAny_For ?_))
local macro_rules | `(tactic| walk_at "call type:enumerate") => `(tactic| (k_here; (with_reducible show wpAny _ _ (call (Value.type "enumerate") [Value.ref _]) _ _ _); k_dflt (refine' call_enumI ?k1 ?k2 ?k3 ?_; (case k1 => assumption); (case k2 => assumption); (case k3 => k_asm); k_whole; intro it' h' F' N' l1 l2; (try k_lt l1); (try k_lt2 l2); (try k_sweep))))
local macro_rules | `(tactic| walk_at "pyIter ref") => `(tactic| (k_here; k_dflt (refine' wpAny_pyIter_enum ?k1 ?_; (case k1 => exact News.get (by assumption) (by k_mem)); k_whole)))
local macro_rules | `(tactic| walk_at "subscriptTail Name Slice ref ref") => `(tactic| (k_here; (with_reducible show wpAny _ _ (subscriptTail _ (PySem.Expr.Slice none (some _) none _) (Value.ref _) (Value.ref _)) _ _ _); k_dflt (refine' ti_upto ?k1 ?k2 ?k3 ?k4 ?k5 ?_; (case k1 => assumption); (case k2 => assumption); (case k3 => k_asm); (case k4 => omega); (case k5 => omega); k_whole; intro D' vs' h' F' N' l1 i'; (try k_lt l1); (try k_sweep))))
local macro_rules | `(tactic| walk_at "compareOp NotIn int ref") => `(tactic| (k_here; k_dflt (refine' ti_notin ?k1 ?k2 ?_; (case k1 => exact News.isTup (by assumption) (by k_mem)); (case k2 => assumption); k_whole)))
local macro_rules | `(tactic| k_all) => `(tactic| (refine allNe_of_gt (by assumption) ?_; (show @LE.le Nat _ _ _); omega))
local macro_rules | `(tactic| walk_at "subscriptTail") => `(tactic| (k_here; (with_reducible show wpAny _ _ (subscriptTail _ _ (Value.ref _) (Value.int _ _)) _ _ _); k_dflt (refine' ti_item ?k1 ?k2 ?k3 ?k4 ?_; (case k1 => k_asm); (case k2 => omega); (case k3 => omega); (case k4 => omega); k_whole; intro t')))
local macro_rules | `(tactic| walk_at "subscriptTail") => `(tactic| (k_here; (with_reducible show wpAny _ _ (subscriptTail _ _ (Value.ref _) (Value.int _ _)) _ _ _); k_dflt (refine' li_item ?k1 ?k2 ?k3 ?k4 ?k5 ?k6 ?_; (case k1 => assumption); (case k2 => k_mem); (case k3 => assumption); (case k4 => omega); (case k5 => omega); (case k6 => omega); k_whole; intro t')))
local macro_rules | `(tactic| walk_at "compareOp NotEq ref ref") => `(tactic| (k_here; k_dflt (refine' li_ne_nil ?k1 ?k2 ?k3 ?k4 ?k5 ?_; (case k1 => assumption); (case k2 => k_mem); (case k3 => k_mem); (case k4 => assumption); (case k5 => ke_room); k_whole)))
local macro_rules | `(tactic| walk_at "call builtin:list.append") => `(tactic| (k_here; (with_reducible show wpAny _ _ (call (Value.builtin _) [Value.ref _, _]) _ _ _); k_dflt (refine' append_K ?k1 ?k2 ?k3 ?_ ?z; (case k1 => assumption); (case k2 => assumption); (case k3 => k_upd); (case z => (rw [PySem.sizeLine_eq]; simp only [List.size_toArray]; omega)); k_whole); intro h' F' N'; (try k_sweep)))
local macro_rules | `(tactic| walk_at "CompSrcT") => `(tactic| (k_here; k_dflt (refine LCt.CompSrcT.range (by rfl) (by k_asm) (by k_asm) (by assumption) (rsm_len (by omega)) (rs_len _) (rsz_len (by omega)) ?_); intro g'; (apply comp_range); (focus (intro k' t' I' oI' C' oC' D' m' ys' h' tk' E' hlo' hhi' hC' hx' F' N' off'; (try simp only [LCg.Off3, and_true] at off'); (try k_fold); k_steps; exact Stop.intro ⟨rfl, SameAs.intro (by assumption) (by assumption)⟩)); (focus (intro k' t' I' oI' C' oC' D' m' ys' h' tk' E' hlo' hhi' hC' hx' F' N' off'; (try simp only [LCg.Off3, and_true] at off'); (try k_fold); k_steps; exact Stop.intro ⟨⟨_, rfl⟩, SameAs.intro (by assumption) (by assumption)⟩)); (intro ys' hys')))
local macro_rules | `(tactic| walk_at "exec While") => `(tactic| (k_here; refine wpAny_held ?_))

def reachI (m n : Nat) : Int := if 0 > (if (n : Int) > m then (n : Int) else m).fdiv 2 - 1 then 0 else (if (n : Int) > m then (n : Int) else m).fdiv 2 - 1
/-- what the outer loop keeps -/
def JP (L' a b pA : Addr) (R : Int) (one two : List Int) (i : Nat) (m : Str → Option Value) (news : List (Addr × Obj)) : Prop :=
  ∃ tR o1 o2 o3 v1 vs n tl, m (Str.ofString "reach") = some (.int R tR) ∧ m (Str.ofString "pairs") = some (.ref pA) ∧
    news = (pA, W.listOf (List.toArray vs) n) :: (L' + 1 + 1 + 1, o1) :: (L' + 1 + 1, o2) :: (L' + 1, o3) :: tl ∧ o1.data = .cell v1 ∧ o2.data = .cell (some (.ref b)) ∧ o3.data = .cell (some (.ref a)) ∧
    PairsIn tl vs (lawPairs R one two i) ∧ vs.length ≤ 18 * i ∧ ∀ p ∈ tl, pA < p.1
/-- what the inner loop keeps -/
def JW (bb : Nat) (L' a b pA it : Addr) (oe oi : Obj) (R : Int) (all : List (Int × Int)) (k : Nat) (m : Str → Option Value) (news : List (Addr × Obj)) : Prop :=
  ∃ tR hA tA hs ts us ws k1 k2 o1 o2 o3 v1 vs n tl ps, k = hs.length + ts.length ∧ hs.length ≤ 18 ∧ ts.length ≤ 18 ∧
    m (Str.ofString "reach") = some (.int R tR) ∧ m (Str.ofString "pairs") = some (.ref pA) ∧ m (Str.ofString "here") = some (.ref hA) ∧ m (Str.ofString "there") = some (.ref tA) ∧
    news = (tA, W.listOf (List.toArray ws) k2) :: (hA, W.listOf (List.toArray us) k1) :: (it + 1, oe) :: (it, oi) :: (pA, W.listOf (List.toArray vs) n) :: (L' + 1 + 1 + 1, o1) :: (L' + 1 + 1, o2) :: (L' + 1, o3) :: tl ∧
    IntsAre us hs ∧ IntsAre ws ts ∧ o1.data = .cell v1 ∧ o2.data = .cell (some (.ref b)) ∧ o3.data = .cell (some (.ref a)) ∧
    PairsIn tl vs ps ∧ vs.length + hs.length ≤ bb ∧ (∀ p ∈ tl, pA < p.1) ∧ (∀ p ∈ tl, p.1 ≠ it ∧ p.1 ≠ it + 1) ∧ (@Ne Nat hA pA) ∧ (@Ne Nat tA pA) ∧ ps ++ twoPtr R hs ts = all
theorem own_apart {it : Addr} {oe oi : Obj} {nx : List (Addr × Obj)} (h : ∀ p ∈ nx, p.1 ≠ it ∧ p.1 ≠ it + 1) : ∀ p ∈ nx, ∀ q ∈ [(it + 1, oe), (it, oi)], p.1 ≠ q.1 := by
  intro p hp q hq
  simp only [List.mem_cons, List.not_mem_nil, or_false] at hq
  rcases hq with rfl | rfl
  · exact (h p hp).2
  · exact (h p hp).1
theorem places_le (c : Int) (xs : List Int) : (places c xs).length ≤ xs.length := by
  unfold places
  refine Nat.le_trans (List.length_filter_le _ _) ?_
  simp
/-- what _law_pairs gives: a new list of new pairs -/
def PairsPost (g : Heap) (ps : List (Int × Int)) (h : Heap) (v : Value) : Prop :=
  ∃ a vs n tl, v = .ref a ∧ PairsIn tl vs ps ∧ (∀ p ∈ (a, W.listOf (List.toArray vs) n) :: tl, h.get? p.1 = some p.2 ∧ g.get? p.1 = none) ∧ vs.length ≤ 400
set_option maxHeartbeats 8000000 in
theorem c245 {w : World} {A₀ : Around} {base h₀ : Heap} {outer : List Env} {L : Addr} {m mg mb : Str → Option Value} {mean : ExcName → Option Value} {p : Program} {loose : List Str} {s : Shared} {env : Env}
    {a b : Addr} {na nb : List Int}
    (B : Below A₀ base outer h₀) (F : Fr h₀ L s.heap m) (X : (hd.heap_39 w.params).In h₀) (T : Top p loose mean mg mb h₀) (hf : env.frame = some L) (hk : env.scope.kind = .function)
    (hta : TupI s.heap a na) (htb : TupI s.heap b nb) (la : na.length ≤ 18) (lb : nb.length ≤ 18) :
    codeAny (model PySem.Challenge.rw_br0036_01.row.prog w) (cA env outer) (.call (.ref 245) ⟨[.ref a, .ref b], []⟩) (RetW s (PairsPost s.heap (lawPairs (reachI na.length nb.length) na nb na.length))) s := by
  revert X; k_fill; intro X
  k_dflt (refine' code_pureC ?k1 ?k2 ?k3 ?k5 ?kA ?kF ?kK ?k6 ?k7 ?k8 ?k9 ?kB ?kD ?_ ?c2 ?c3 ?c4; (case kA => exact rfl); (case kF => exact hf); (case kK => exact hk); (case k1 => k_asm); (case k2 => k_asm); (case k3 => k_asm); (case k5 => k_asm); (case k6 => k_is); (case k7 => k_is); (case k8 => k_room); (case k9 => first | exact BindsTo.of_eq rfl | exact binds_K (by k_in) rfl (by k_is) rfl rfl rfl | fail "k_enter: no rule for these arguments"); (case kB => exact rfl); (case kD => decide +kernel); (case c2 => exact rfl); (case c3 => exact rfl); (case c4 => exact rfl); k_whole; clear B F X T; intro L' h' tk' cells' F' N' Y' B' X' T'; k_cells Y'; (try simp only [List.cons_append, List.nil_append] at N'); (try dsimp only); (try k_fold))
  (w_strict k_steps)
  (rename Fr _ _ _ _ => F1); (rename News _ _ _ _ => N1)
  rename_i pA hA lA hB it' hC lB lC
  refine loop_enumI (h₀ := s.heap) (l := a) (ns := na) rfl hta F1 N1 ?hlow (JP L' a b pA (reachI na.length nb.length) na nb) ?h0 ?step ?done
  case step =>
    clear F1 N1
    rintro i t tv m₁ news₁ oe oi h tk T d e sl hil ⟨tR, o1, o2, o3, v1, vs, n, tl, hm1, hm2, rfl, ho1, ho2, ho3, hP, hvl, htl⟩ hn1 hT1 hT2 F1 N1
    replace F1 := fr_knows [(Str.ofString "reach", _), (Str.ofString "pairs", _)] (by simp only [List.forall_mem_cons, List.not_mem_nil, false_implies, implies_true, and_true]; exact ⟨hm1, hm2⟩) F1
    change Fr s.heap L' h _ at F1
    change News s.heap L' h _ at N1
    k_lt hT2
    (try dsimp only)
    (w_strict k_steps)
    · refine Stop.intro ?_
      (rename Fr _ _ _ _ => F2); (rename News _ _ _ _ => N2); (rename (_ ∈ List.take _ _) => hin); (rename Obj => oL); (rename (oL.data = _) => hoL)
      refine TurnT.next ((pA, W.listOf (List.toArray vs) n) :: (L' + 1 + 1 + 1, oL) :: (L' + 1 + 1, o2) :: (L' + 1, o3) :: tl) F2 N2 ?_ ?_ ?_ ?_
      · intro p hp
        simp only [List.mem_cons, List.not_mem_nil, or_false] at hp
        rcases hp with rfl | rfl <;> simp
      · intro p hp
        simp only [List.mem_cons] at hp
        rcases hp with rfl | rfl | rfl | rfl | hp
        · simp
        · simp
        · simp
        · simp
        · simp [hp]
      · refine own_apart ?_
        simp only [List.forall_mem_cons] at hn1 ⊢
        exact hn1
      · refine ⟨tR, oL, o2, o3, _, vs, n, tl, by rfl, by rfl, rfl, hoL, ho2, ho3, ?_, Nat.le_trans hvl (by omega), htl⟩
        rw [lawPairs, if_pos hin, List.append_nil]; exact hP
    · refine Stop.intro ?_
      (rename Fr _ _ _ _ => F2); (rename News _ _ _ _ => N2)
      (rename Obj => oL); (rename (oL.data = _) => hoL)
      rename_i usL iH hA x1 x2 x3 x4 xo1 x5 x6 x7 x8 x9 x10 x11 x12 x13 x14 wsL iT tA x15 x16 xo2
      clear x3 x4 x10 x11 x12 x13
      refine while_T (JW (18 * (i + 1)) L' a b pA it' oe oi (reachI na.length nb.length) (lawPairs (reachI na.length nb.length) na nb i ++ twoPtr (reachI na.length nb.length) (places (na.getD i 0) na) (places (na.getD i 0) nb))) (n₀ := (places (na.getD i 0) na).length + (places (na.getD i 0) nb).length)
        (news := (tA, LCg.lst wsL) :: (hA, LCg.lst usL) :: (it' + 1, oe) :: (it', oi) :: (pA, W.listOf (List.toArray vs) n) :: (L' + 1 + 1 + 1, oL) :: (L' + 1 + 1, o2) :: (L' + 1, o3) :: tl) F2 (fun p hp => N2 p ?hN) ?hJ ?turn
      case turn =>
        clear F2 N2
        rintro n2 m2 news2 h2 tk2 F2 N2 ⟨tR2, hA2, tA2, hs, ts, us, ws, k1, k2, o12, o22, o32, v12, vs2, nn, tl2, ps, rfl, lh, lt, e1, e2, e3, e4, rfl, iu, iw, c1, c2, c3, hP2, hvl2, ht1, ht2, n1, n2, hall⟩
        replace F2 := fr_knows [(Str.ofString "reach", _), (Str.ofString "pairs", _), (Str.ofString "here", _), (Str.ofString "there", _)] (by simp only [List.forall_mem_cons, List.not_mem_nil, false_implies, implies_true, and_true]; exact ⟨e1, e2, e3, e4⟩) F2
        (try dsimp only)
        (try k_fold)
        (w_strict k_steps)
        · refine Stop.intro ?_
          (rename Fr _ _ _ _ => F3); (rename News _ _ _ _ => N3)
          rename_i hc tx ty D3 y1 y2 y3 y4 hA3 us3 y5 iu3 y6 y7 y8 tA3 ws3 y9 iw3 y10 y11 y12 D4 y13 y14 y15 y16 y17
          simp only [List.push_toArray] at N3
          refine WhileStep2.next ((tA3, W.listOf (List.toArray ws3) 0) :: (hA3, W.listOf (List.toArray us3) 0) :: (it' + 1, oe) :: (it', oi) :: (pA, W.listOf (List.toArray (vs2 ++ [.ref D3])) (nn + 1)) :: (L' + 1 + 1 + 1, o12) :: (L' + 1 + 1, o22) :: (L' + 1, o32) ::
            (D3, { cls := .type "tuple", data := .seq #[.int (hs.getD (Int.toNat 0) 0) tx, .int (ts.getD (Int.toNat 0) 0) ty] }) :: tl2) F3 N3 ?_ ?_
            ⟨tR2, hA3, tA3, hs.drop 1, ts.drop 1, us3, ws3, 0, 0, o12, o22, o32, v12, vs2 ++ [.ref D3], nn + 1, _ :: tl2, ps ++ [(hs.getD (Int.toNat 0) 0, ts.getD (Int.toNat 0) 0)], rfl, by omega, by omega, by rfl, by rfl, by rfl, by rfl, rfl, iu3, iw3, c1, c2, c3, ?_, ?_, ?_, ?_, ?_, ?_, ?_⟩
          · intro p hp
            simp only [List.mem_cons] at hp ⊢
            rcases hp with hp | hp | hp | hp | hp | hp | hp | hp | hp | hp <;> simp [hp]
          · omega
          · exact (hP2.mono fun p hp => List.mem_cons_of_mem _ hp).append (.cons (List.mem_cons_self ..) .nil)
          · simp only [List.length_append, List.length_cons, List.length_nil]; omega
          · refine List.forall_mem_cons.mpr ⟨?_, ht1⟩
            exact y2.2.2.2.2.2.2.1
          · refine List.forall_mem_cons.mpr ⟨⟨?_, ?_⟩, ht2⟩ <;> (refine neN ?_; omega)
          · refine neN ?_; omega
          · refine neN ?_; omega
          · rw [← hall, twoPtr_both (by assumption) (by assumption) hc]; simp
        · refine Stop.intro ?_
          (rename Fr _ _ _ _ => F3); (rename News _ _ _ _ => N3)
          rename_i hc tx ty hlt hA3 us3 y1 iu3 y2 y3 y4 y5
          refine WhileStep2.next ((tA2, W.listOf (List.toArray ws) k2) :: (hA3, W.listOf (List.toArray us3) 0) :: (it' + 1, oe) :: (it', oi) :: (pA, W.listOf (List.toArray vs2) nn) :: (L' + 1 + 1 + 1, o12) :: (L' + 1 + 1, o22) :: (L' + 1, o32) :: tl2) F3 N3 ?_ ?_
            ⟨tR2, hA3, tA2, hs.drop 1, ts, us3, ws, 0, k2, o12, o22, o32, v12, vs2, nn, tl2, ps, rfl, by omega, lt, by rfl, by rfl, by rfl, by rfl, rfl, iu3, iw, c1, c2, c3, hP2, by omega, ht1, ht2, by refine neN ?_; omega, n2, ?_⟩
          · intro p hp
            simp only [List.mem_cons] at hp ⊢
            rcases hp with hp | hp | hp | hp | hp | hp | hp | hp | hp <;> simp [hp]
          · omega
          · rw [← hall, twoPtr_left (by assumption) (by assumption) hc hlt]
        · refine Stop.intro ?_
          (rename Fr _ _ _ _ => F3); (rename News _ _ _ _ => N3)
          rename_i hc tx ty hlt tA3 ws3 y1 iw3 y2 y3 y4 y5
          refine WhileStep2.next ((tA3, W.listOf (List.toArray ws3) 0) :: (hA2, W.listOf (List.toArray us) k1) :: (it' + 1, oe) :: (it', oi) :: (pA, W.listOf (List.toArray vs2) nn) :: (L' + 1 + 1 + 1, o12) :: (L' + 1 + 1, o22) :: (L' + 1, o32) :: tl2) F3 N3 ?_ ?_
            ⟨tR2, hA2, tA3, hs, ts.drop 1, us, ws3, k1, 0, o12, o22, o32, v12, vs2, nn, tl2, ps, rfl, lh, by omega, by rfl, by rfl, by rfl, by rfl, rfl, iu, iw3, c1, c2, c3, hP2, hvl2, ht1, ht2, n1, by refine neN ?_; omega, ?_⟩
          · intro p hp
            simp only [List.mem_cons] at hp ⊢
            rcases hp with hp | hp | hp | hp | hp | hp | hp | hp | hp <;> simp [hp]
          · omega
          · rw [← hall, twoPtr_right (by assumption) (by assumption) hc hlt]
        all_goals
          refine Stop.intro ?_
          (w_strict k_steps)
          refine Stop.intro ?_
          (rename Fr _ _ _ _ => F3); (rename News _ _ _ _ => N3)
          refine TurnT.next ((pA, W.listOf (List.toArray vs2) nn) :: (L' + 1 + 1 + 1, o12) :: (L' + 1 + 1, o22) :: (L' + 1, o32) :: tl2) F3 N3 ?_ ?_ ?_ ?_
          · intro p hp
            simp only [List.mem_cons, List.not_mem_nil, or_false] at hp
            rcases hp with rfl | rfl <;> simp
          · intro p hp
            simp only [List.mem_cons] at hp ⊢
            rcases hp with hp | hp | hp | hp | hp <;> simp [hp]
          · refine own_apart ?_
            simp only [List.forall_mem_cons] at hn1 ⊢
            exact ⟨hn1.1, hn1.2.1, hn1.2.2.1, hn1.2.2.2.1, ht2⟩
          · refine ⟨tR2, o12, o22, o32, _, vs2, nn, tl2, by rfl, by rfl, rfl, c1, c2, c3, ?_, by omega, ht1⟩
            (rename (¬ _ ∈ List.take _ _) => hin)
            rw [lawPairs, if_neg hin, ← hall]
            first | rw [twoPtr_nilL (by assumption), List.append_nil]; exact hP2 | rw [twoPtr_nilR (by assumption), List.append_nil]; exact hP2
      case hN =>
        simp only [List.mem_cons] at hp ⊢
        rcases hp with hp | hp | hp | hp | hp | hp | hp | hp | hp <;> simp [hp]
      case hJ =>
        have q1 := Nat.le_trans (places_le (na.getD i 0) na) la
        have q2 := Nat.le_trans (places_le (na.getD i 0) nb) lb
        refine ⟨tR, hA, tA, places (na.getD i 0) na, places (na.getD i 0) nb, usL, wsL, usL.length, wsL.length, oL, o2, o3, _, vs, n, tl, lawPairs (reachI na.length nb.length) na nb i, rfl, q1, q2, by rfl, by rfl, by rfl, by rfl, rfl, iH, iT, hoL, ho2, ho3, hP, by omega, htl, ?_, ?_, ?_, rfl⟩
        · simp only [List.forall_mem_cons] at hn1
          exact hn1.2.2.2.2
        · refine neN ?_; omega
        · refine neN ?_; omega
  case hlow =>
    simp only [List.forall_mem_cons, List.not_mem_nil, false_implies, implies_true, and_true]
    exact lB
  case h0 =>
    refine ⟨_, _, _, _, _, [], 0, [], by rfl, by rfl, rfl, by assumption, by assumption, by assumption, .nil, by simp, fun _ h => nomatch h⟩
  case done =>
    clear F1 N1
    rintro h' tk m' news' F1 N1 ⟨tR, o1, o2, o3, v1, vs, n, tl, hm1, hm2, rfl, ho1, ho2, ho3, hP, hvl, htl⟩
    change Fr s.heap L' h' _ at F1
    change News s.heap L' h' _ at N1
    replace F1 := fr_knows [(Str.ofString "reach", _), (Str.ofString "pairs", _)] (by simp only [List.forall_mem_cons, List.not_mem_nil, false_implies, implies_true, and_true]; exact ⟨hm1, hm2⟩) F1
    (try dsimp only)
    (w_strict k_steps)
    refine Stop.intro ?_
    (rename Fr _ _ _ _ => F3); (rename News _ _ _ _ => N3)
    refine RetW.intro F3 ⟨pA, vs, n, tl, rfl, hP, fun p hp => ?_, Nat.le_trans hvl (by omega)⟩
    have z := N3 p (by
      simp only [List.mem_cons] at hp ⊢
      rcases hp with hp | hp <;> simp [hp])
    exact ⟨z.1, z.2.2⟩
end Mine
end
section
open PySem PySem.W PyProof.Rows PySem.Calls
set_option Elab.async false
set_option maxRecDepth 100000
set_option maxHeartbeats 8000000
set_option pp.deepTerms false
namespace Mine
local macro_rules | `(tactic| k_asm) => `(tactic| (with_reducible refine' TupI.keeps ?ti1 ?ti2; (case ti1 => assumption); (case ti2 => first | exact Fr.keep (by assumption) | exact fun b o e => Fr.keep (by assumption) b o (Fr.keep (by assumption) b o e))))
local macro_rules | `(tactic| walk_at "call builtin:len") => `(tactic| (k_here; (with_reducible show wpAny _ _ (call (Value.builtin "len") [Value.ref _]) _ _ _); k_dflt (refine' ti_len ?k1 ?k2 ?_; (case k1 => k_asm); (case k2 => omega); k_whole)))
local macro_rules | `(tactic| walk_at "exec For Tuple Call") => `(tactic| (k_here; refine wpAny_For ?_))
local macro_rules | `(tactic| walk_at "exec While") => `(tactic| (k_here; refine wpAny_held ?_))
local macro_rules | `(tactic| k_asm) => `(tactic| (with_reducible refine' PairsB.keeps ?ti1 ?ti2; (case ti1 => assumption); (case ti2 => first | exact Fr.keep (by assumption) | exact fun b o e => Fr.keep (by assumption) b o (Fr.keep (by assumption) b o e))))
local macro_rules | `(tactic| walk_at "call builtin:len") => `(tactic| (k_here; (with_reducible show wpAny _ _ (call (Value.builtin "len") [Value.ref _]) _ _ _); k_dflt (refine' pb_len ?k1 ?k2 ?_; (case k1 => k_asm); (case k2 => omega); k_whole)))
local macro_rules | `(tactic| walk_at "call builtin:len") => `(tactic| (k_here; (with_reducible show wpAny _ _ (call (Value.builtin "len") [Value.ref _]) _ _ _); k_dflt (refine' li_len ?k1 ?k2 ?k3 ?k4 ?_; (case k1 => assumption); (case k2 => k_mem); (case k3 => assumption); (case k4 => first | omega | (simp only [sortI_length, List.length_map]; omega) | (exact Nat.le_trans (List.length_filter_le _ _) (by simp only [List.length_map, List.length_range]; omega))); k_whole)))
local macro_rules | `(tactic| walk_at "call builtin:sorted") => `(tactic| (k_here; (with_reducible show wpAny _ _ (call (Value.builtin _) [Value.ref _]) _ _ _); k_dflt (refine' li_sorted ?k1 ?k2 ?k3 ?k4 ?k5 ?_; (case k1 => assumption); (case k2 => assumption); (case k3 => k_mem); (case k4 => assumption); (case k5 => (simp only [sortI_length, List.length_map]; omega)); k_whole; intro D' vs' c' h' F' N' l1 i'; (try k_lt l1); (try k_sweep))))
local macro_rules | `(tactic| walk_at "compareOp Eq ref ref") => `(tactic| (k_here; k_dflt (refine' ti_eq ?k1 ?k2 ?k3 ?_; (case k1 => k_asm); (case k2 => k_asm); (case k3 => ke_room); k_whole)))
local macro_rules | `(tactic| walk_at "subscriptTail") => `(tactic| (k_here; (with_reducible show wpAny _ _ (subscriptTail _ _ (Value.ref _) (Value.int _ _)) _ _ _); k_dflt (refine' ti_item ?k1 ?k2 ?k3 ?k4 ?_; (case k1 => k_asm); (case k2 => first | omega | exact AllIn.lo (by assumption) (by omega) (by omega)); (case k3 => first | omega | exact AllIn.hi (by assumption) (by omega) (by omega)); (case k4 => omega); k_whole; intro t')))
local macro_rules | `(tactic| walk_at "subscriptTail") => `(tactic| (k_here; (with_reducible show wpAny _ _ (subscriptTail _ _ (Value.ref _) (Value.int _ _)) _ _ _); k_dflt (refine' li_item ?k1 ?k2 ?k3 ?k4 ?k5 ?k6 ?_; (case k1 => assumption); (case k2 => k_mem); (case k3 => assumption); (case k4 => omega); (case k5 => (simp only [sortI_length, List.length_map]; omega)); (case k6 => (simp only [sortI_length, List.length_map]; omega)); k_whole; intro t')))
local macro_rules | `(tactic| walk_at "subscriptTail") => `(tactic| (k_here; (with_reducible show wpAny _ _ (subscriptTail _ _ (Value.ref _) (Value.int _ _)) _ _ _); k_dflt (refine' pt_item ?k1 ?k2 ?k3 ?k4 ?k5 ?_; (case k1 => exact IsTup.keeps (by assumption) (Fr.keep (by assumption))); (case k2 => decide); (case k3 => decide); (case k4 => rfl); (case k5 => rfl); k_whole)))
local macro_rules | `(tactic| walk_at "eval ListComp") => `(tactic| (k_here; first | ((with_reducible show wpAny _ _ (eval (PySem.Expr.ListComp _ [PySem.Comprehension.mk _ _ [] _] _ _) _) _ _ _); k_dflt (refine LCg.ListComp_U (F₀ := by k_asm) (by with_unfolding_all rfl) (by decide) (by rfl) (by decide) (by rfl) ?_); k_dflt lcg_toSrc) | ((with_reducible show wpAny _ _ (eval (PySem.Expr.ListComp _ [PySem.Comprehension.mk _ _ [_] _] _ _) _) _ _ _); k_dflt (refine LCt.ListComp_T (F₀ := by k_asm) (by with_unfolding_all rfl) (by decide) (by rfl) (by decide) (by rfl) ?_); k_dflt lct_toSrc)))
local macro_rules | `(tactic| walk_at "CompSrcT") => `(tactic| (k_here; k_dflt (refine LCt.CompSrcT.range (by rfl) (by k_asm) (by k_asm) (by assumption) (rsm_len (by omega)) (rs_len _) (rsz_len (by omega)) ?_); intro g'; (apply comp_range); (focus (intro k' t' I' oI' C' oC' D' m' ys' h' tk' E' hlo' hhi' hC' hx' F' N' off'; (try simp only [LCg.Off3, and_true] at off'); (try k_fold); k_steps; exact Stop.intro ⟨rfl, SameAs.intro (by assumption) (by assumption)⟩)); (focus (intro k' t' I' oI' C' oC' D' m' ys' h' tk' E' hlo' hhi' hC' hx' F' N' off'; (try simp only [LCg.Off3, and_true] at off'); (try k_fold); k_steps; exact Stop.intro ⟨⟨_, rfl⟩, SameAs.intro (by assumption) (by assumption)⟩)); (intro ys' hys'; (have hfl' := comp_le hys'); (have hfd' := fdiv2_le (Int.ofNat_le.mpr hfl')))))
local macro_rules | `(tactic| walk_at "CompSrc") => `(tactic| (k_here; k_dflt (refine LCg.CompSrc.base (by rfl) (by k_asm) (by k_asm) (by assumption) ?_ ?_); (focus ((rw [List.size_toArray, PairsH.length (by assumption)]); exact rsz_len (by omega))); intro g'; (apply comp_pairs); (focus assumption); (focus assumption); (focus (intro tt' a' b' u' w' I' oI' C' oC' D' m' ys' h' tk' E' ht' hC' hx' F' N' off'; (try simp only [LCg.Off3, and_true] at off'); (try k_fold); k_steps; exact Stop.intro ⟨⟨_, rfl⟩, SameAs.intro (by assumption) (by assumption)⟩)); (intro ys' hys')))
set_option maxHeartbeats 8000000 in
theorem c250 {w : World} {A₀ : Around} {base h₀ : Heap} {outer : List Env} {L : Addr} {m mg mb : Str → Option Value} {mean : ExcName → Option Value} {p : Program} {loose : List Str} {s : Shared} {env : Env}
    {a b c : Addr} {na nb : List Int} {ps : List (Int × Int)}
    (B : Below A₀ base outer h₀) (F : Fr h₀ L s.heap m) (X : (hd.heap_39 w.params).In h₀) (T : Top p loose mean mg mb h₀) (hf : env.frame = some L) (hk : env.scope.kind = .function)
    (hta : TupI s.heap a na) (htb : TupI s.heap b nb) (la : na.length ≤ 18) (lb : nb.length ≤ 18) (hc : PairsB s.heap c ps) (lp : ps.length ≤ 18) (lpa : ps.length ≤ na.length) (lpb : ps.length ≤ nb.length) (hl : AllIn (ps.map fun p => p.1) na.length) (hr : AllIn (ps.map fun p => p.2) nb.length) :
    codeAny (model PySem.Challenge.rw_br0036_01.row.prog w) (cA env outer) (.call (.ref 250) ⟨[.ref a, .ref b, .ref c], []⟩) (RetW s (fun _ v => JaroIs na nb ps v)) s := by
  revert X; k_fill; intro X
  k_dflt (refine' code_pureC ?k1 ?k2 ?k3 ?k5 ?kA ?kF ?kK ?k6 ?k7 ?k8 ?k9 ?kB ?kD ?_ ?c2 ?c3 ?c4; (case kA => exact rfl); (case kF => exact hf); (case kK => exact hk); (case k1 => k_asm); (case k2 => k_asm); (case k3 => k_asm); (case k5 => k_asm); (case k6 => k_is); (case k7 => k_is); (case k8 => k_room); (case k9 => first | exact BindsTo.of_eq rfl | exact binds_K (by k_in) rfl (by k_is) rfl rfl rfl | fail "k_enter: no rule for these arguments"); (case kB => exact rfl); (case kD => decide +kernel); (case c2 => exact rfl); (case c3 => exact rfl); (case c4 => exact rfl); k_whole; clear B F X T; intro L' h' tk' cells' F' N' Y' B' X' T'; k_cells Y'; (try simp only [List.cons_append, List.nil_append] at N'); (try dsimp only); (try k_fold))
  obtain ⟨vp, hvl, hvp⟩ := id hc
  have hsl := hl.sort
  have hsr := hr.sort
  have hsl1 := sortI_length (ps.map fun p => p.1)
  have hsr1 := sortI_length (ps.map fun p => p.2)
  simp only [List.length_map] at hsl1 hsr1
  (w_strict k_steps)
  all_goals (try dsimp only)
  · refine Stop.intro ?_
    rename Fr _ _ _ _ => F3
    refine RetW.intro F3 ?_
    exact Or.inl ⟨by assumption, _, rfl⟩
  · refine Stop.intro ?_
    rename Fr _ _ _ _ => F3
    refine RetW.intro F3 ?_
    exact Or.inr (Or.inl ⟨by assumption, by omega, _, rfl⟩)
  · refine Stop.intro ?_
    rename Fr _ _ _ _ => F3
    refine RetW.intro F3 ?_
    exact Or.inr (Or.inr ⟨by assumption, by omega, _, rfl⟩)
end Mine
end
section
open PySem PySem.W PyProof.Rows PySem.Calls
set_option Elab.async false
set_option maxRecDepth 100000
set_option maxHeartbeats 8000000
namespace Mine
theorem cells_none {cm : Str → Option Value} {cells : List (Addr × Obj)} (x : CellsAre cm [] cells) : cells = [] := by cases x; rfl
abbrev cB (env : Env) (outer : List Env) : Around := { handled := none, depth := 390, frames := some (env :: outer), guards := none, units := 500 }
abbrev cC (env : Env) (outer : List Env) : Around := { handled := none, depth := 380, frames := some (env :: outer), guards := none, units := 250 }

theorem call_pure {M : Model} {A : Around} {d u : Nat} {f : Value} {args : List Value} {fs : List Env} {P : Heap → Value → Prop} {s : Shared} {h₀ : Heap} {L : Addr} {m : Str → Option Value} {news : List (Addr × Obj)} {Q : Value → Shared → Prop} {E : Value → Shared → Prop}
    (hc : codeAny M { handled := none, depth := d, frames := some fs, guards := none, units := u } (.call f ⟨args, []⟩) (RetW s P) s) (hh : A.handled = none) (hfr : A.frames = some fs) (hd : A.depth ≤ d) (hu : A.units ≤ u)
    (F : Fr h₀ L s.heap m) (N : News h₀ L s.heap news)
    (k : ∀ v h' tk', Fr h₀ L h' m → News h₀ L h' news → (∀ b o, s.heap.get? b = some o → h'.get? b = some o) → P h' v → Q v { s with heap := h', toks := tk' }) :
    wpAny M A (call f args []) Q E s := by
  refine wpAny_call (codeAny_mono (codeAny_around rfl hh hfr hd hu hc) ?_)
  rintro r s2 ⟨v, h2, tk2, rfl, rfl, st, hJ⟩
  exact k v h2 tk2 (F.kept st) (fun p hp => ⟨st _ _ (N p hp).1, (N p hp).2⟩) st hJ

theorem wp_of_peekP {α : Type} {K : Frag} {M : Model} {A : Around} {E : Value → Shared → Prop} {Q : α → Shared → Prop} {s : Shared} {o : Obj} {r : Addr → α}
    (X : K.In s.heap) (q : Q (r s.heap.objs.size) { s with heap := s.heap.push o }) :
    ∀ (t : Sem α) (g : Addr → Option α), peek1 K ⟨M.prog, M.w.params⟩ t = some (o, g) → (∀ D, g D = some (r D)) → wpAny M A t Q E s := by
  intro t
  induction t with
  | rule _ k ih => intro g e hg Γ p hΓ; exact ih () g e hg Γ p hΓ
  | point _ k ih => intro g e hg Γ p hΓ; exact ih () g e hg Γ p hΓ
  | ask k ih => intro g e hg Γ p hΓ; exact ih _ g e hg Γ p hΓ
  | load a _ k ih =>
    intro g e hg Γ p hΓ
    simp only [peek1] at e
    split at e
    · rename_i ob ho; exact ⟨ob, X _ _ ho, ih ob g e hg Γ p hΓ⟩
    · cases e
  | alloc ob k _ =>
    intro g e hg
    have e : some (ob, fun D => peek K ⟨M.prog, M.w.params⟩ (k D)) = some (o, g) := e
    obtain ⟨e1, e2⟩ := Prod.mk.inj (Option.some.inj e)
    subst e1
    subst e2
    have X' : K.In (s.heap.push ob) := X.keeps fun b x hb => Heap.get?_push_of_some _ hb
    show wpAny M A (alloc ob >>= k) Q E s
    refine wpAny_bind (wpAny_alloc ?_)
    exact (Looks.of_peek (M := M) (h := s.heap.push ob) X' (hg s.heap.objs.size)).here (s := { s with heap := s.heap.push ob }) q
  | _ => intro g e; cases e

section
variable {prog : Program} {w : World} {A A₀ : Around} {s : Shared} {K : Frag} {L : Addr} {h₀ base : Heap} {m mg mb : Str → Option Value} {news : List (Addr × Obj)} {p : Program} {loose : List Str} {mean : ExcName → Option Value}
/-- a def with a star parameter: the rest tuple stands in the ledger, all that stood is the base -/
theorem code_restP {env : Env} {outer : List Env} {P : Heap → Value → Prop} {name qual : Str} {params : Arguments} {body : List Stmt} {scope : Scope} {dV kV doc pm cdv ct oc : Value} {an od : Option Addr} {osl : Array (Option Value)} {f : Addr} {args : Args} {vs : List Value} {g₁ : Addr → Option (List (Str × Value))} {binds : Addr → List (Str × Value)}
    (B : Below A₀ base outer h₀) (F : Fr h₀ L s.heap m) (X₀ : K.In h₀) (T : Top p loose mean mg mb h₀) (hA : A.frames = some (env :: outer)) (hf : env.frame = some L) (hke : env.scope.kind = .function)
    (ho : K.lookup f = some ⟨oc, od, .func (fnOf name qual params body scope dV kV doc pm an cdv ct), osl⟩) (hcd : codeIn K cdv qual = true) (hroom : A.depth < recursionLimit)
    (hv : args.pos.drop (params.posonlyargs.length + params.args.length) = vs)
    (hp : peek1 K ⟨prog, w.params⟩ (bindArgs (fnOf name qual params body scope dV kV doc pm an cdv ct) args) = some (({ cls := .type "tuple", data := .seq vs.toArray } : Obj), g₁))
    (hg : ∀ D, g₁ D = some (binds D)) (hkind : ∀ D, ((binds D).all fun y => scope.names.lookup y.1 == some .local || scope.names.lookup y.1 == some .cell) = true)
    (hnd : ((cellsFrom 0 scope.names []).map (·.1)).Nodup)
    (h : ∀ D L' h₁ tk cells, D < L' → Fr s.heap L' h₁ (bindL (envOfC qual scope L' f cdv).kindOf (binds D) fun _ => none) → News s.heap L' h₁ (cells ++ [(D, ({ cls := .type "tuple", data := .seq vs.toArray } : Obj))]) →
      CellsAre (bindC (envOfC qual scope L' f cdv).kindOf (binds D) fun _ => none) (cellsFrom (L' + 1) scope.names []) cells → Below A base (env :: outer) s.heap → K.In s.heap → Top p loose mean mg mb s.heap →
      wpAny (model prog w) (A.deeper (envOfC qual scope L' f cdv)) (execs body (envOfC qual scope L' f cdv))
        (fun fl s' => Stop (model prog w) (A.deeper (envOfC qual scope L' f cdv)) (RetW s P (.ok (.ret (match fl with | .ret v => v | _ => .none)))) s')
        (fun _ _ => False)
        { s with heap := h₁, toks := tk })
    (hco : scope.isCoroutine = false) (hgen : scope.isGenerator = false) (hk : scope.kind = .function) : codeAny (model prog w) A (.call (.ref f) args) (RetW s P) s := by
  have _ := hv
  refine codeAny_call_function (fd := fnOf name qual params body scope dV kV doc pm an cdv ct) (body := body) hroom ((X₀.keeps F.keep) _ _ ho) rfl hco hgen rfl (codeRec_of (X₀.keeps F.keep) hcd) ?_
  refine wp_of_peekP (o := ({ cls := .type "tuple", data := .seq vs.toArray } : Obj)) (X₀.keeps F.keep) (r := binds) ?_ _ g₁ hp hg
  have B₁ := pushX B F hf hke
  have kp : ∀ b o, s.heap.get? b = some o → (s.heap.push ({ cls := .type "tuple", data := .seq vs.toArray } : Obj)).get? b = some o := fun b o e => Heap.get?_push_of_some _ e
  have hsz : s.heap.objs.size < (s.heap.push ({ cls := .type "tuple", data := .seq vs.toArray } : Obj)).objs.size := Heap.lt_size (Heap.get?_push_size _ rfl)
  refine wpAny_newFunctionEnv_cells hk (kindsX (hkind _) _) fun env' he s' x => ?_
  subst he
  refine ⟨((T.nolimit.keeps F.keep).keeps kp).keeps x.toInCall.keep, codeAny_func ?_⟩
  obtain ⟨h₁, tk, rfl, _⟩ := x.done
  have hk₁ := x.toInCall.keep
  obtain ⟨cells, NC, Y⟩ := Cl.news (h₀ := s.heap) (Nat.le_of_lt hsz) fun n c hm => ⟨x.cell n c (lookup_of_mem_nodup (cellsFrom_names scope.names 0 _ [] [] rfl ▸ hnd) hm), x.above n c hm⟩
  refine wpAny_mono (wpAny_stop <| h s.heap.objs.size _ h₁ tk cells hsz ⟨x.toInCall.ns, fun b o e => hk₁ b o (kp b o e), Nat.le_of_lt hsz⟩ (fun p hp => ?_) Y ⟨hA, B₁.stays, B₁.frames⟩ (X₀.keeps F.keep) (T.keeps F.keep)) (fun _ _ x => x) fun _ _ x => x.elim
  rcases List.mem_append.mp hp with hp | hp
  · exact NC p hp
  · rw [List.mem_singleton] at hp
    subst hp
    refine ⟨hk₁ _ _ (Heap.get?_push_size _ rfl), Nat.ne_of_lt hsz, ?_⟩
    cases q : s.heap.get? s.heap.objs.size with
    | none => rfl
    | some o => exact absurd (Heap.lt_size q) (Nat.lt_irrefl _)
end

theorem methodCall_star {M : Model} {A : Around} {E : Value → Shared → Prop} {s : Shared} {env : Env} {o : Expr} {name : Str} {apos pos : Pos} {args : List Expr} {Q : Value → Shared → Prop}
    (h : wpAny M A (eval o env) (fun ov s₁ => wpAny M A (getAttr ov name true) (fun f s₂ => wpAny M A (callWith pos f [] (backTo pos (starEach args env)) []) Q E s₂) E s₁) E s)
    (he : eval (.Call (.Attribute o name apos) args [] pos) env = (do
      let ov ← eval o env
      standAt apos.atName
      let (f, first) ← holding [ov] (do pure (← getAttr ov name true, []))
      callWith pos f first (backTo pos (starEach args env)) []) := by rfl) :
    wpAny M A (eval (.Call (.Attribute o name apos) args [] pos) env) Q E s := by
  rw [he]
  refine wpAny_bind (wpAny_mono h (fun ov s₁ h₁ => wpAny_bind (wpAny_standAt (wpAny_bind (wpAny_holding (wpAny_bind (wpAny_mono h₁ (fun f s₂ h₂ => wpAny_pure ?_) fun _ _ x => x)))))) fun _ _ x => x)
  exact h₂

theorem getattr_sm {prog : Program} {w : World} {A : Around} {E : Value → Shared → Prop} {s : Shared} {K : Frag} {x C p L : Addr} {ox : Obj} {name : Str} {h₀ : Heap} {m : Str → Option Value} {es : List DictEntry} {n : Nat} {Q : Value → Shared → Prop} {fv : Value} {rest : List Value}
    (F : Fr h₀ L s.heap m) (X₀ : K.In h₀) (I : InstAt s.heap x ox C (some (dictOf es n))) (hg : plainGet K C name = true) (hh : hasDictIn K C = true) (ha : findIn K (.ref C) name = some (some (.ref p)))
    (hgf : specialIn K (.ref p) "__get__" = some (some (.builtin "staticmethod.__get__"))) (hts : takesIn K (.ref p) = some false) (hc : copiedNames.contains name = false) (hl : getL name es = some none) (hp : recIn K p "staticmethod" = some (fv :: rest)) (hv : handedIn fv = true)
    (h : Q fv { s with toks := s.toks + 1 }) : wpAny (model prog w) A (getAttr (.ref x) name true) Q E s :=
  get_bind (X₀.keeps F.keep) I (plainGet_of hg).1 (findObj_fn hh ha hgf hts hc (by show lookIn name (dictOf es n) = _; rw [lookIn_dict, hl])) (plainGet_of hg).2
      (wpAny_call (sm_get (s := { s with toks := s.toks + 1 }) (X₀.keeps F.keep) hp (handed_on hv h)))

theorem callWith_SM {M : Model} {A : Around} {E : Value → Shared → Prop} {s : Shared} {K : Frag} {env : Env} {pos p : Pos} {first : List Value} {Q : Value → Shared → Prop} {h₀ : Heap} {L q g : Addr} {self : Value} {e : Expr} {news : List (Addr × Obj)}
    (_X : K.In h₀) (_N : News h₀ L s.heap news) (_q : (q, methodObj (.ref g) self) ∈ news) (hf : fnIn K g = true)
    (h : wpAny M A (eval e env) (fun v s₁ => StarOf M A E v (fun vs s₂ => MethP K q g self s₂.heap ∧ wpAny M A (call (.ref q) (first ++ vs)) Q E s₂) s₁) E s)
    (he : starEach [.Starred e p] env = [(true, eval e env)] := by rfl) :
    wpAny M A (callWith pos (.ref q) first (backTo pos (starEach [.Starred e p] env)) []) Q E s := by
  rw [he]
  exact ks_call rfl (keeps_M hf) (ks_lone h)

section
variable {prog : Program} {w : World} {A : Around} {R : Result → Shared → Prop} {I : Addr} {fp wr : List Addr} {n : Nat} {P : Nat → Value → Prop} {St : Nat → Heap → Prop}
theorem all_loopG (W : Walks prog w A.in1 I fp wr n P St) (tr : Nat → Bool) (G : Heap → Prop) (hG : ∀ h h', G h → (∀ b o, b ∉ wr → h.get? b = some o → h'.get? b = some o) → G h')
    (htr : ∀ i v (s : Shared) (Q : Bool → Shared → Prop) (E : Value → Shared → Prop), P i v → G s.heap → (∀ tk, Q (tr i) { s with toks := tk }) → wpAny (model prog w) A.in1 (truthy v) Q E s) : ∀ (k i : Nat) (s : Shared), n - i = k → i ≤ n → St i s.heap → G s.heap →
    (∀ h' tk, (∀ b o, b ∉ wr → s.heap.get? b = some o → h'.get? b = some o) → R (.ok (.ret (.bool (((List.range n).drop i).all tr)))) { s with heap := h', toks := tk }) →
    codeAny (model prog w) A (.builtin "all.loop" ⟨[.ref I], []⟩) R s := by
  intro k
  induction k with
  | zero =>
    intro i s hk hi hst hg hR
    have hin : i = n := by omega
    subst hin
    refine codeAny_builtin F.entry_all_loop ?_
    rw [Around.under_plainId F.plain_all_loop _]
    show wpAny _ A.in1 (pyNext (.ref I) >>= _) _ _ s
    refine wpAny_bind (W.done s _ _ hst fun h' tk hk' => ?_)
    refine wpAny_bind (wpAny_rule (wpAny_pure ?_))
    have := hR h' tk hk'
    rw [List.drop_of_length_le (by simp)] at this
    exact this
  | succ k ih =>
    intro i s hk hi hst hg hR
    have hlt : i < n := by omega
    have hd : (List.range n).drop i = i :: (List.range n).drop (i + 1) := by
      rw [List.drop_eq_getElem_cons (by simpa using hlt)]; simp
    refine codeAny_builtin F.entry_all_loop ?_
    rw [Around.under_plainId F.plain_all_loop _]
    show wpAny _ A.in1 (pyNext (.ref I) >>= _) _ _ s
    refine wpAny_bind (W.item i s _ _ hlt hst fun v h' tk hP hst' hk' => ?_)
    refine wpAny_bind (wpAny_holding (htr i v _ _ _ hP (hG _ _ hg hk') fun tk' => ?_))
    refine wpAny_bind (wpAny_letGo ?_)
    cases hb : tr i with
    | true =>
      simp only [if_true]
      refine wpAny_pure ⟨plainId_quiet F.plain_all_loop _, ih (i + 1) _ (by omega) hlt hst' (hG _ _ hg hk') fun h'' tk'' hk'' => ?_⟩
      have := hR h'' tk'' fun b o hbw e => hk'' b o hbw (hk' b o hbw e)
      rw [hd, List.all_cons, hb, Bool.true_and] at this
      exact this
    | false =>
      simp only [Bool.false_eq_true, if_false]
      refine wpAny_bind (wpAny_rule (wpAny_pure ?_))
      have := hR h' tk' hk'
      rw [hd, List.all_cons, hb, Bool.false_and] at this
      exact this

theorem all_two {s : Shared} {E : Value → Shared → Prop} {Q : Value → Shared → Prop} {h₀ : Heap} {L l a b : Addr} {m : Str → Option Value} {news : List (Addr × Obj)} {na nb : List Int} (Fm : Fr h₀ L s.heap m) (N : News h₀ L s.heap news) (hh : A.handled = none) (hl : IsTup s.heap l #[.ref a, .ref b])
    (ha : TupI s.heap a na) (hb : TupI s.heap b nb) (la : na.length ≤ 1000) (lb : nb.length ≤ 1000)
    (h : ∀ h' tk, Fr h₀ L h' m → News h₀ L h' news → Q (.bool (!na.isEmpty && !nb.isEmpty)) { s with heap := h', toks := tk }) : wpAny (model prog w) A (call (.builtin "all") [.ref l]) Q E s := by
  have hlt : l < s.heap.objs.size := by obtain ⟨_, e, _⟩ := hl; exact Heap.lt_size e
  refine call_function_tree PySem.F.kind_all PySem.F.plain_all PySem.F.entry_all (PySem.F.args_all1 _) ?_
  unfold Builtin.«all»
  refine wpAny_bind (m := PySem.oneArg "all" _) (wpAny_pure ?_)
  refine wpAny_bind (wpAny_pyIter_tuple hl ?_)
  have kp : ∀ o b' o', s.heap.get? b' = some o' → (s.heap.push o).get? b' = some o' := fun o b' o' e => Heap.get?_push_of_some _ e
  refine wpAny_pure ⟨plainId_quiet PySem.F.plain_all_loop _, all_loopG (Walks.tuple (A := A.in1) hh _ l (Nat.ne_of_lt hlt) #[.ref a, .ref b]) (fun i => if i = 0 then !na.isEmpty else !nb.isEmpty)
    (fun h => ∀ b o, s.heap.get? b = some o → h.get? b = some o) ?_ ?_ _ 0 _ rfl (Nat.zero_le _) ⟨⟨_, Heap.get?_push_size _ rfl, rfl, rfl⟩, IsTup.keeps hl (kp _)⟩ (kp _) ?_⟩
  · intro h1 h2 g k b' o' e
    refine k b' o' (fun hm => ?_) (g b' o' e)
    rw [List.mem_singleton.mp hm] at e
    exact Nat.lt_irrefl _ (Heap.lt_size e)
  · intro i v s' Q' E' hP g hQ
    have hv : (i = 0 ∧ v = .ref a) ∨ (i = 1 ∧ v = .ref b) := by
      match i, hP with
      | 0, hP => exact Or.inl ⟨rfl, by simpa using hP.symm⟩
      | 1, hP => exact Or.inr ⟨rfl, by simpa using hP.symm⟩
      | (j + 2), hP => simp at hP
    rcases hv with ⟨rfl, rfl⟩ | ⟨rfl, rfl⟩
    · exact ti_truthy (ha.keeps g) la (hQ _)
    · exact ti_truthy (hb.keeps g) lb (hQ _)
  · intro h' tk hk
    have hk2 := LSm.kept_iter hk
    have := h h' tk (Fm.kept hk2) (N.grown hk2)
    simpa [List.range_succ] using this
end
end Mine
end
section
open PySem PySem.W PyProof.Rows PySem.Calls
set_option Elab.async false
set_option maxRecDepth 100000
set_option maxHeartbeats 8000000
set_option pp.deepTerms false
namespace Mine
local macro_rules | `(tactic| k_asm) => `(tactic| (with_reducible refine' TupI.keeps ?ti1 ?ti2; (case ti1 => assumption); (case ti2 => first | exact Fr.keep (by assumption) | exact fun b o e => Fr.keep (by assumption) b o (Fr.keep (by assumption) b o e))))
local macro_rules | `(tactic| walk_at "call builtin:len") => `(tactic| (k_here; (with_reducible show wpAny _ _ (call (Value.builtin "len") [Value.ref _]) _ _ _); k_dflt (refine' ti_len ?k1 ?k2 ?_; (case k1 => k_asm); (case k2 => omega); k_whole)))
local macro_rules | `(tactic| walk_at "exec For Tuple Call") => `(tactic| (k_here; refine wpAny_For ?_))
local macro_rules | `(tactic| walk_at "exec While") => `(tactic| (k_here; refine wpAny_held ?_))
local macro_rules | `(tactic| k_asm) => `(tactic| (with_reducible refine' PairsB.keeps ?ti1 ?ti2; (case ti1 => assumption); (case ti2 => first | exact Fr.keep (by assumption) | exact fun b o e => Fr.keep (by assumption) b o (Fr.keep (by assumption) b o e))))
local macro_rules | `(tactic| walk_at "call builtin:len") => `(tactic| (k_here; (with_reducible show wpAny _ _ (call (Value.builtin "len") [Value.ref _]) _ _ _); k_dflt (refine' pb_len ?k1 ?k2 ?_; (case k1 => k_asm); (case k2 => omega); k_whole)))
local macro_rules | `(tactic| walk_at "call builtin:len") => `(tactic| (k_here; (with_reducible show wpAny _ _ (call (Value.builtin "len") [Value.ref _]) _ _ _); k_dflt (refine' li_len ?k1 ?k2 ?k3 ?k4 ?_; (case k1 => assumption); (case k2 => k_mem); (case k3 => assumption); (case k4 => first | omega | (simp only [sortI_length, List.length_map]; omega) | (exact Nat.le_trans (List.length_filter_le _ _) (by simp only [List.length_map, List.length_range]; omega))); k_whole)))
local macro_rules | `(tactic| walk_at "compareOp Eq ref ref") => `(tactic| (k_here; k_dflt (refine' ti_eq ?k1 ?k2 ?k3 ?_; (case k1 => k_asm); (case k2 => k_asm); (case k3 => ke_room); k_whole)))
local macro_rules | `(tactic| walk_at "subscriptTail") => `(tactic| (k_here; (with_reducible show wpAny _ _ (subscriptTail _ _ (Value.ref _) (Value.int _ _)) _ _ _); k_dflt (refine' ti_item ?k1 ?k2 ?k3 ?k4 ?_; (case k1 => k_asm); (case k2 => first | omega | exact AllIn.lo (by assumption) (by omega) (by omega)); (case k3 => first | omega | exact AllIn.hi (by assumption) (by omega) (by omega)); (case k4 => omega); k_whole; intro t')))
local macro_rules | `(tactic| walk_at "subscriptTail") => `(tactic| (k_here; (with_reducible show wpAny _ _ (subscriptTail _ _ (Value.ref _) (Value.int _ _)) _ _ _); k_dflt (refine' li_item ?k1 ?k2 ?k3 ?k4 ?k5 ?k6 ?_; (case k1 => assumption); (case k2 => k_mem); (case k3 => assumption); (case k4 => omega); (case k5 => (simp only [sortI_length, List.length_map]; omega)); (case k6 => (simp only [sortI_length, List.length_map]; omega)); k_whole; intro t')))
local macro_rules | `(tactic| walk_at "subscriptTail") => `(tactic| (k_here; (with_reducible show wpAny _ _ (subscriptTail _ _ (Value.ref _) (Value.int _ _)) _ _ _); k_dflt (refine' pt_item ?k1 ?k2 ?k3 ?k4 ?k5 ?_; (case k1 => exact IsTup.keeps (by assumption) (Fr.keep (by assumption))); (case k2 => decide); (case k3 => decide); (case k4 => rfl); (case k5 => rfl); k_whole)))
local macro_rules | `(tactic| walk_at "call ref") => `(tactic| (k_here; refine wpAny_held ?_))
def IsPre (na nb : List Int) (k : Nat) : Prop :=
  k ≤ na.length ∧ k ≤ nb.length ∧ k ≤ 4 ∧ (∀ i, i < k → na.getD i 0 = nb.getD i 0) ∧ (k = na.length ∨ k = nb.length ∨ k = 4 ∨ na.getD k 0 ≠ nb.getD k 0)
def leastI (m n : Nat) : Int := if (n : Int) < m then (n : Int) else m
def leF (W : UInt64) : Bool := (Float64.cmp W (qI 7 10) == some Ordering.lt || Float64.cmp W (qI 7 10) == some Ordering.eq)
def w1F (k : Int) (W : UInt64) : UInt64 := Float64.add W (Float64.mul (Float64.mul (Float64.ofInt k) (qI 1 10)) (Float64.sub (Float64.ofInt 1) W))
def ShortW (fav : Bool) (p m n k : Nat) : Prop := fav = false ∨ leastI m n ≤ 4 ∨ (p : Int) ≤ k + 1 ∨ 2 * (p : Int) < leastI m n + k
def jF (na nb : List Int) (ps : List (Int × Int)) : UInt64 := jaroF ps.length na.length nb.length ((crossedOf na nb ps : Int).fdiv 2)
def w2F (p m n k : Int) (W : UInt64) : UInt64 := Float64.add W (Float64.mul (Float64.sub (Float64.ofInt 1) W) (qI (p - k - 1) (m + n - 2 * k + 2)))
def WinkIs (na nb : List Int) (ps : List (Int × Int)) (fav : Bool) (v : Value) : Prop :=
  (na = nb ∧ ∃ t, v = .int 1 t) ∨ (na ≠ nb ∧ ps.length = 0 ∧ ∃ t, v = .int 0 t) ∨ (na ≠ nb ∧ ps.length ≠ 0 ∧ leF (jF na nb ps) = true ∧ ∃ t, v = .float (jF na nb ps) t) ∨
  (na ≠ nb ∧ ps.length ≠ 0 ∧ leF (jF na nb ps) = false ∧ ∃ k, IsPre na nb k ∧ ((ShortW fav ps.length na.length nb.length k ∧ ∃ t, v = .float (w1F k (jF na nb ps)) t) ∨ (¬ ShortW fav ps.length na.length nb.length k ∧ ∃ t, v = .float (w2F ps.length na.length nb.length k (w1F k (jF na nb ps))) t)))
def JA (a b c : Addr) (fav : Bool) (W : UInt64) (na nb : List Int) (n : Nat) (m : Str → Option Value) (news : List (Addr × Obj)) : Prop :=
  ∃ k t1 t2 t3, n + k = 4 ∧ k ≤ na.length ∧ k ≤ nb.length ∧ (∀ i, i < k → na.getD i 0 = nb.getD i 0) ∧ news = [] ∧ m (Str.ofString "one") = some (.ref a) ∧ m (Str.ofString "two") = some (.ref b) ∧ m (Str.ofString "pairs") = some (.ref c) ∧ m (Str.ofString "favoured") = some (.bool fav) ∧
    m (Str.ofString "weight") = some (.float W t1) ∧ m (Str.ofString "least") = some (.int (leastI na.length nb.length) t2) ∧ m (Str.ofString "ahead") = some (.int (k : Int) t3)
theorem c257 {w : World} {A₀ : Around} {base h₀ : Heap} {outer : List Env} {L : Addr} {m mg mb : Str → Option Value} {mean : ExcName → Option Value} {p : Program} {loose : List Str} {s : Shared} {env : Env}
    {a b c : Addr} {na nb : List Int} {ps : List (Int × Int)} {fav : Bool}
    (B : Below A₀ base outer h₀) (F : Fr h₀ L s.heap m) (X : (hd.heap_39 w.params).In h₀) (T : Top p loose mean mg mb h₀) (hf : env.frame = some L) (hk : env.scope.kind = .function)
    (hta : TupI s.heap a na) (htb : TupI s.heap b nb) (la : na.length ≤ 18) (lb : nb.length ≤ 18) (hc : PairsB s.heap c ps) (lp : ps.length ≤ 18) (lpa : ps.length ≤ na.length) (lpb : ps.length ≤ nb.length) (hl : AllIn (ps.map fun p => p.1) na.length) (hr : AllIn (ps.map fun p => p.2) nb.length) :
    codeAny (model PySem.Challenge.rw_br0036_01.row.prog w) (cB env outer) (.call (.ref 257) ⟨[.ref a, .ref b, .ref c, .bool fav], []⟩) (RetW s (fun _ v => WinkIs na nb ps fav v)) s := by
  revert X; k_fill; intro X
  k_dflt (refine' code_pureC ?k1 ?k2 ?k3 ?k5 ?kA ?kF ?kK ?k6 ?k7 ?k8 ?k9 ?kB ?kD ?_ ?c2 ?c3 ?c4; (case kA => exact rfl); (case kF => exact hf); (case kK => exact hk); (case k1 => k_asm); (case k2 => k_asm); (case k3 => k_asm); (case k5 => k_asm); (case k6 => k_is); (case k7 => k_is); (case k8 => k_room); (case k9 => first | exact BindsTo.of_eq rfl | exact binds_K (by k_in) rfl (by k_is) rfl rfl rfl | fail "k_enter: no rule for these arguments"); (case kB => exact rfl); (case kD => decide +kernel); (case c2 => exact rfl); (case c3 => exact rfl); (case c4 => exact rfl); k_whole; clear B F X T; intro L' h' tk' cells' F' N' Y' B' X' T'; (have hY := cells_none Y'; subst hY; clear Y'); (try simp only [List.cons_append, List.nil_append] at N'); (try dsimp only); (try k_fold))
  (w_strict k_steps)
  refine Stop.intro ?_
  (rename Fr _ _ _ _ => F1); (rename News _ _ _ _ => N1)
  refine call_pure (c250 B' F1 X' T' rfl rfl (by k_asm) (by k_asm) la lb (by k_asm) lp lpa lpb hl hr) rfl rfl (by exact (by decide : 390 + 1 ≤ 400)) (by exact (by decide : 500 + 3 ≤ 1000)) F1 N1 ?_
  clear F1 N1
  intro v h1 tk1 F1 N1 _ hJ
  rcases hJ with ⟨hab, t, rfl⟩ | ⟨hab, hp0, t, rfl⟩ | ⟨hab, hp0, t, rfl⟩
  · (w_strict k_steps)
    all_goals (try dsimp only)
    refine Stop.intro ?_
    rename Fr _ _ _ _ => F3
    exact RetW.intro F3 (Or.inl ⟨by assumption, _, rfl⟩)
  · (w_strict k_steps)
    all_goals (try dsimp only)
    · refine Stop.intro ?_
      rename Fr _ _ _ _ => F3
      exact RetW.intro F3 (Or.inr (Or.inl ⟨by assumption, by assumption, _, rfl⟩))
    · rename (_ = false) => hz
      exact absurd hz (by decide +kernel)
  · (w_strict k_steps)
    all_goals (try dsimp only)
    · refine Stop.intro ?_
      rename Fr _ _ _ _ => F3
      exact RetW.intro F3 (Or.inr (Or.inr (Or.inl ⟨by assumption, by assumption, by assumption, _, rfl⟩)))
    · refine Stop.intro ?_
      (rename Fr _ _ _ _ => F2); (rename News _ _ _ _ => N2); (rename (_ = false) => hle)
      refine while_T (JA a b c fav (jF na nb ps) na nb) (n₀ := 4) F2 N2 ?hJ ?turn
      case hJ =>
        exact ⟨0, _, _, _, rfl, by omega, by omega, fun i hi => absurd hi (by omega), rfl, by rfl, by rfl, by rfl, by rfl, by rfl, by rfl, by rfl⟩
      case turn =>
        clear F2 N2
        rintro n2 m2 news2 h2 tk2 F2 N2 ⟨k, t1, t2, t3, hn, hka, hkb, heq, rfl, e1, e2, e3, e4, e5, e6, e7⟩
        replace F2 := fr_knows [(Str.ofString "one", _), (Str.ofString "two", _), (Str.ofString "pairs", _), (Str.ofString "favoured", _), (Str.ofString "weight", _), (Str.ofString "least", _), (Str.ofString "ahead", _)] (by simp only [List.forall_mem_cons, List.not_mem_nil, false_implies, implies_true, and_true]; exact ⟨e1, e2, e3, e4, e5, e6, e7⟩) F2
        have hL1 : leastI na.length nb.length ≤ na.length := by unfold leastI; split <;> omega
        have hL2 : leastI na.length nb.length ≤ nb.length := by unfold leastI; split <;> omega
        have hL3 : 0 ≤ leastI na.length nb.length := by unfold leastI; split <;> omega
        (try dsimp only)
        (try k_fold)
        (w_strict k_steps)
        all_goals (try dsimp only)
        · refine Stop.intro ?_
          (rename Fr _ _ _ _ => F3); (rename News _ _ _ _ => N3); (rename (_ < ite _ _ _) => hlt); (rename (List.getD _ _ _ = _) => hke)
          have hk4 : k < na.length ∧ k < nb.length ∧ k < 4 := by split at hlt <;> omega
          rw [Int.toNat_natCast] at hke
          refine WhileStep2.next (n' := n2 - 1) [] F3 N3 (fun p hp => nomatch hp) (by omega) ⟨k + 1, _, _, _, by omega, by omega, by omega, ?_, rfl, by rfl, by rfl, by rfl, by rfl, by rfl, by rfl, by rfl⟩
          intro i hi
          rcases Nat.lt_or_ge i k with h | h
          · exact heq i h
          · obtain rfl : i = k := by omega
            exact hke
        · refine Stop.intro ?_
          (rename (¬ List.getD _ _ _ = _) => hke)
          rw [Int.toNat_natCast] at hke
          have hpre : IsPre na nb k := ⟨hka, hkb, by omega, heq, Or.inr (Or.inr (Or.inr hke))⟩
          (w_strict k_steps)
          all_goals (try dsimp only)
          all_goals (refine Stop.intro ?_; (rename Fr _ _ _ _ => F3); refine RetW.intro F3 (Or.inr (Or.inr (Or.inr ⟨hab, hp0, hle, k, hpre, ?_⟩))))
          · exact Or.inl ⟨by unfold ShortW; exact Or.inr (Or.inl (by assumption)), _, rfl⟩
          · exact Or.inl ⟨by unfold ShortW; exact Or.inr (Or.inr (Or.inl (by assumption))), _, rfl⟩
          · exact Or.inl ⟨by unfold ShortW; exact Or.inr (Or.inr (Or.inr (by assumption))), _, rfl⟩
          · refine Or.inr ⟨?_, _, rfl⟩
            unfold ShortW
            rename (fav = true) => hfv
            rintro (h | h | h | h)
            · rw [h] at hfv; cases hfv
            · contradiction
            · contradiction
            · contradiction
          · exact Or.inl ⟨by unfold ShortW; exact Or.inl (by assumption), _, rfl⟩
        · refine Stop.intro ?_
          (rename (¬ (_ < ite _ _ _)) => hlt)
          have hpre : IsPre na nb k := ⟨hka, hkb, by omega, heq, by unfold leastI at hlt; (repeat' split at hlt) <;> omega⟩
          (w_strict k_steps)
          all_goals (try dsimp only)
          all_goals (refine Stop.intro ?_; (rename Fr _ _ _ _ => F3); refine RetW.intro F3 (Or.inr (Or.inr (Or.inr ⟨hab, hp0, hle, k, hpre, ?_⟩))))
          · exact Or.inl ⟨by unfold ShortW; exact Or.inr (Or.inl (by assumption)), _, rfl⟩
          · exact Or.inl ⟨by unfold ShortW; exact Or.inr (Or.inr (Or.inl (by assumption))), _, rfl⟩
          · exact Or.inl ⟨by unfold ShortW; exact Or.inr (Or.inr (Or.inr (by assumption))), _, rfl⟩
          · refine Or.inr ⟨?_, _, rfl⟩
            unfold ShortW
            rename (fav = true) => hfv
            rintro (h | h | h | h)
            · rw [h] at hfv; cases hfv
            · contradiction
            · contradiction
            · contradiction
          · exact Or.inl ⟨by unfold ShortW; exact Or.inl (by assumption), _, rfl⟩
end Mine
end
section
open PySem PySem.W PyProof.Rows PySem.Calls
set_option Elab.async false
set_option maxRecDepth 100000
set_option maxHeartbeats 8000000
set_option pp.deepTerms false
namespace Mine
local macro_rules | `(tactic| k_asm) => `(tactic| (with_reducible refine' TupI.keeps ?ti1 ?ti2; (case ti1 => assumption); (case ti2 => first | exact Fr.keep (by assumption) | exact fun b o e => Fr.keep (by assumption) b o (Fr.keep (by assumption) b o e))))
local macro_rules | `(tactic| k_inst) => `(tactic| first | (refine InstAt.keepsIn (by assumption) (Fr.keep (by k_asm))) | (refine InstAt.keepsIn (by assumption) (fun b o e => Fr.keep (by k_asm) b o (Fr.keep (by k_asm) b o e))))
def SelfI (h : Heap) (x C : Addr) (fav wz : Bool) : Prop :=
  ∃ dx h1 h2 h3 h4 t1 t2 t3 t4 tq nd, InstAt h x (instObj C dx) C (some (dictOf [⟨h1, .str (Str.ofString "qval") t1, .int 1 tq⟩, ⟨h2, .str (Str.ofString "long_tolerance") t2, .bool fav⟩, ⟨h3, .str (Str.ofString "winklerize") t3, .bool wz⟩, ⟨h4, .str (Str.ofString "external") t4, .bool true⟩] nd))
theorem SelfI.keeps {h h' : Heap} {x C : Addr} {fav wz : Bool} (I : SelfI h x C fav wz) (k : ∀ b o, h.get? b = some o → h'.get? b = some o) : SelfI h' x C fav wz := by
  obtain ⟨dx, h1, h2, h3, h4, t1, t2, t3, t4, tq, nd, I⟩ := I
  exact ⟨dx, h1, h2, h3, h4, t1, t2, t3, t4, tq, nd, InstAt.keepsIn I k⟩
def ListPost (g : Heap) (a b : Addr) (h : Heap) (v : Value) : Prop := ∃ l n, v = .ref l ∧ h.get? l = some (W.listOf #[.ref a, .ref b] n) ∧ g.get? l = none
theorem c108 {w : World} {A₀ : Around} {base h₀ : Heap} {outer : List Env} {L : Addr} {m mg mb : Str → Option Value} {mean : ExcName → Option Value} {p : Program} {loose : List Str} {s : Shared} {env : Env}
    {x C a b : Addr} {fav wz : Bool} (hC : C = 238 ∨ C = 216) (hI : SelfI s.heap x C fav wz)
    (B : Below A₀ base outer h₀) (F : Fr h₀ L s.heap m) (X : (hd.heap_39 w.params).In h₀) (T : Top p loose mean mg mb h₀) (hf : env.frame = some L) (hk : env.scope.kind = .function)
    : codeAny (model PySem.Challenge.rw_br0036_01.row.prog w) (cA env outer) (.call (.ref 108) ⟨[.ref x, .ref a, .ref b], []⟩) (RetW s (ListPost s.heap a b)) s := by
  obtain ⟨dx, h1, h2, h3, h4, t1, t2, t3, t4, tq, nd, I⟩ := hI
  revert X; k_fill; intro X
  k_dflt (refine' code_restP ?k1 ?k2 ?k3 ?k5 ?kA ?kF ?kK ?k6 ?k7 ?k8 ?kV ?kP ?kG ?kB ?kD ?_ ?c2 ?c3 ?c4; (case kA => exact rfl); (case kF => exact hf); (case kK => exact hk); (case k1 => k_asm); (case k2 => k_asm); (case k3 => k_asm); (case k5 => k_asm); (case k6 => k_is); (case k7 => k_is); (case k8 => k_room); (case kV => kl_lit); (case kP => exact rfl); (case kG => exact fun _ => rfl); (case kB => exact fun _ => rfl); (case kD => decide +kernel); (case c2 => exact rfl); (case c3 => exact rfl); (case c4 => exact rfl); k_whole; clear B F X T; intro D' L' h' tk' cells' l1' F' N' Y' B' X' T'; (first | k_cells Y' | (have hY := cells_none Y'; subst hY; clear Y')); (try simp only [List.cons_append, List.nil_append] at N'); (try dsimp only); (try k_fold))
  rcases hC with rfl | rfl
  all_goals
    (w_strict k_steps)
    refine Stop.intro ?_
    (rename Fr _ _ _ _ => F3); (rename News _ _ _ _ => N3)
    have z := N3 _ (List.mem_cons_self ..)
    exact RetW.intro F3 ⟨_, _, rfl, z.1, z.2.2⟩
end Mine
end
section
open PySem PySem.W PyProof.Rows PySem.Calls
set_option Elab.async false
set_option maxRecDepth 100000
set_option maxHeartbeats 1000000
namespace Mine
def tab1 (j1 : Nat) (led pl : Bool) : SetTable := { mask := 7, place := #[j1], dummies := #[], finger := 0, led := led, moves := 0, plain := pl }
theorem slot1 (j1 : Nat) (led pl : Bool) (j : Nat) : (tab1 j1 led pl).slot j = if j1 = j then .live 0 else .empty := by
  unfold SetTable.slot SetTable.has
  have e2 : SetTable.below (#[] : Array Nat) j = 0 := rfl
  have e1 : SetTable.below #[j1] j = if j1 < j then 1 else 0 := by
    show SetTable.below.go #[j1] j 1 0 1 = _
    simp only [SetTable.below.go]
    have : (0 + 1) / 2 = 0 := rfl
    simp only [this, Nat.zero_lt_one, if_true]
    show (if j1 < j then _ else _) = _
    split <;> rfl
  show (if (#[j1])[SetTable.below #[j1] j]? == some j then _ else _) = _
  rw [e1]
  by_cases h : j1 < j
  · rw [if_pos h, if_neg (show ¬ j1 = j by omega), if_neg (by simp)]
    rfl
  · rw [if_neg h]
    by_cases h2 : j1 = j
    · rw [if_pos h2, if_pos (by simp [h2])]
      show SetTable.Slot.live (SetTable.below #[j1] j) = _
      rw [e1, if_neg h]
    · rw [if_neg h2, if_neg (by simp [h2])]
      rfl
/-- a probe of a table of eight -/
def GP (p : SetTable.Probe) (k : Nat) : Prop := p.more = 0 ∧ p.i = p.j ∧ p.j < 8 ∧ p.dummy = none ∧ p.perturb < 32 ^ k
section
variable {j1 : Nat} {led pl : Bool} {p : SetTable.Probe} {k : Nat} {hashAt : Nat → Int} {h : Int} {n : Nat}
theorem runEnd7 (i : Nat) : SetTable.runEnd 7 i = i := by unfold SetTable.runEnd; rw [if_neg (by omega)]
theorem adv_eq (h : p.more = 0) : (tab1 j1 led pl).advance p = { p with j := (p.i * 5 + 1 + p.perturb / 32) % 8, more := 0, i := (p.i * 5 + 1 + p.perturb / 32) % 8, perturb := p.perturb / 32 } := by
  unfold SetTable.advance
  rw [if_neg (by omega)]
  show (_ : SetTable.Probe) = _
  simp only [SetTable.leap, tab1, runEnd7, Nat.sub_self]
theorem GP.next (g : GP p (k + 1)) : GP ((tab1 j1 led pl).advance p) k := by
  obtain ⟨a, b, c, d, e⟩ := g
  rw [adv_eq a]
  refine ⟨rfl, rfl, Nat.mod_lt _ (by decide), d, ?_⟩
  show p.perturb / 32 < 32 ^ k
  rw [Nat.div_lt_iff_lt_mul (by decide)]
  rw [Nat.pow_succ] at e; exact e
theorem GP.last (g : GP p 0) : GP ((tab1 j1 led pl).advance p) 0 ∧ ((tab1 j1 led pl).advance p).j ≠ p.j := by
  obtain ⟨a, b, c, d, e⟩ := g
  have e0 : p.perturb = 0 := by simpa using e
  rw [adv_eq a]
  refine ⟨⟨rfl, rfl, Nat.mod_lt _ (by decide), d, ?_⟩, ?_⟩
  · show p.perturb / 32 < 32 ^ 0
    rw [e0]; decide
  · show (p.i * 5 + 1 + p.perturb / 32) % 8 ≠ p.j
    rw [e0, b]; omega
theorem go_empty (hj : p.j ≠ j1) : SetTable.probe.go (tab1 j1 led pl) hashAt h (n + 1) p = some (.empty p.j p.dummy) := by
  rw [SetTable.probe.go, slot1, if_neg (fun e => hj e.symm)]
theorem go_cand (hj : p.j = j1) (hh : hashAt 0 = h) : SetTable.probe.go (tab1 j1 led pl) hashAt h (n + 1) p = some (.candidate p.j 0 ((tab1 j1 led pl).advance p)) := by
  rw [SetTable.probe.go, slot1, if_pos hj.symm]
  show (if (hashAt 0 == h) = true then _ else _) = _
  rw [if_pos (by simp [hh])]
theorem go_next (hj : p.j = j1) (hh : hashAt 0 ≠ h) : SetTable.probe.go (tab1 j1 led pl) hashAt h (n + 1) p = SetTable.probe.go (tab1 j1 led pl) hashAt h n ((tab1 j1 led pl).advance p) := by
  rw [SetTable.probe.go, slot1, if_pos hj.symm]
  show (if (hashAt 0 == h) = true then _ else _) = _
  rw [if_neg (by simp [hh])]
end
theorem go_free {j1 : Nat} {led pl : Bool} {hashAt : Nat → Int} {h : Int} (hh : hashAt 0 ≠ h) : ∀ (k n : Nat) (p : SetTable.Probe), GP p k → k + 2 ≤ n → ∃ j, SetTable.probe.go (tab1 j1 led pl) hashAt h n p = some (.empty j none) ∧ j < 8 ∧ j ≠ j1 := by
  intro k
  induction k with
  | zero =>
    intro n p g hn
    obtain ⟨n', rfl⟩ : ∃ n', n = n' + 1 + 1 := ⟨n - 2, by omega⟩
    by_cases hj : p.j = j1
    · rw [go_next hj hh]
      have := GP.last (j1 := j1) (led := led) (pl := pl) g
      refine ⟨_, ?_, this.1.2.2.1, by rw [← hj]; exact this.2⟩
      rw [go_empty (by rw [← hj]; exact this.2), this.1.2.2.2.1]
    · refine ⟨p.j, ?_, g.2.2.1, hj⟩
      rw [go_empty hj, g.2.2.2.1]
  | succ k ih =>
    intro n p g hn
    obtain ⟨n', rfl⟩ : ∃ n', n = n' + 1 := ⟨n - 1, by omega⟩
    by_cases hj : p.j = j1
    · rw [go_next hj hh]
      exact ih n' _ g.next (by omega)
    · refine ⟨p.j, ?_, g.2.2.1, hj⟩
      rw [go_empty hj, g.2.2.2.1]
theorem go_free' {j1 : Nat} {led pl : Bool} {f : Nat → Int} {h : Int} {p : SetTable.Probe} {r : Option SetTable.Met} {k : Nat} (hm : SetTable.probe.go (tab1 j1 led pl) f h 220 p = r) (h0 : f 0 ≠ h) (g : GP p k) (hk : k ≤ 100) : ∃ j, r = some (.empty j none) ∧ j < 8 ∧ j ≠ j1 := by
  obtain ⟨j, e, q⟩ := go_free h0 k 220 p g (by omega)
  exact ⟨j, hm ▸ e, q⟩
theorem bits_lt (h : Int) : SetTable.bits h < 32 ^ 13 := by
  unfold SetTable.bits
  have h1 : (h % (2 ^ 64 : Int)).toNat < 2 ^ 64 := by omega
  exact Nat.lt_trans h1 (by decide)
theorem GP.start (t : SetTable) (ht : t.mask = 7) (h : Int) : GP (t.probeStart h) 13 := by
  unfold SetTable.probeStart
  rw [ht]
  refine ⟨?_, rfl, Nat.mod_lt _ (by decide), rfl, bits_lt h⟩
  show SetTable.runEnd 7 _ - _ = 0
  rw [runEnd7]; exact Nat.sub_self _

theorem TupI.key {prog : Program} {w : World} {h : Heap} {a : Addr} {ns : List Int} (x : TupI h a ns) : IsTupleKey (intKind prog w) h ns a := by
  obtain ⟨vs, ⟨o, ho, hc, n, hd⟩, hi⟩ := x
  refine ⟨o, _, n, ho, hc, hd, ?_⟩
  show ItemsAre _ ns vs
  clear hd
  induction hi with
  | nil => exact .nil
  | cons k t _ ih => exact .cons (intKind_is _ _ _ _) ih

section
variable {prog : Program} {w : World} {A : Around} {E : Value → Shared → Prop} {s : Shared} {a : Addr} {ns : List Int}
theorem hashByValue_tup {Q : Bool → Shared → Prop} (x : TupI s.heap a ns) (h : Q true s) : wpAny (model prog w) A (hashByValue 8 (.ref a)) Q E s := by
  have hT := x.typeIs
  obtain ⟨vs, ⟨o, ho, hc, n, hd⟩, hi⟩ := x
  unfold hashByValue
  refine wpAny_bind (wpAny_specialOf hT F.slot_tuple_hash.lookup ?_)
  refine wpAny_bind (wpAny_seqItems ho hd ?_)
  refine wpAny_bind ?_
  show wpAny _ _ (forIn (List.toArray vs) _ _) _ _ s
  rw [← Array.forIn_toList]
  refine wpAny_forIn_list _ (fun rest r s' => r.1 = none ∧ s' = s ∧ ∃ ms, IntsAre rest ms) _ ?_ ?_ _ _ ⟨rfl, rfl, ns, hi⟩
  · rintro v rest r s' ⟨hr, rfl, ms, hm⟩
    cases hm with
    | cons k t hm =>
      refine wpAny_bind (wpAny_pure ?_)
      simp only [Bool.not_true, Bool.false_eq_true, if_false]
      exact wpAny_pure ⟨rfl, rfl, _, hm⟩
  · rintro ⟨r1, r2⟩ s' ⟨hr, rfl, _⟩
    simp only at hr
    subst hr
    exact wpAny_pure h
theorem ofClass_tup {Q : Bool → Shared → Prop} (x : TupI s.heap a ns) (h : Q false s) : wpAny (model prog w) A (ofAClassStatement 8 (.ref a)) Q E s := by
  have hT := x.typeIs
  obtain ⟨vs, ⟨o, ho, hc, n, hd⟩, hi⟩ := x
  unfold ofAClassStatement
  refine wpAny_bind (wpAny_typeOf hT ?_)
  refine wpAny_bind (wpAny_pure ?_)
  simp only [Bool.not_true, Bool.false_eq_true, if_false]
  refine wpAny_bind (wpAny_seqItems ho hd ?_)
  refine wpAny_bind ?_
  show wpAny _ _ (forIn (List.toArray vs) _ _) _ _ s
  rw [← Array.forIn_toList]
  refine wpAny_forIn_list _ (fun rest r s' => r.1 = none ∧ s' = s ∧ ∃ ms, IntsAre rest ms) _ ?_ ?_ _ _ ⟨rfl, rfl, ns, hi⟩
  · rintro v rest r s' ⟨hr, rfl, ms, hm⟩
    cases hm with
    | cons k t hm =>
      refine wpAny_bind (wpAny_pure ?_)
      simp only [Bool.not_true, Bool.false_eq_true, if_false]
      exact wpAny_pure ⟨rfl, rfl, _, hm⟩
  · rintro ⟨r1, r2⟩ s' ⟨hr, rfl, _⟩
    simp only at hr
    subst hr
    exact wpAny_pure h
theorem seen_tup {b : Addr} {ms : List Int} {Q : Bool → Shared → Prop} (x : TupI s.heap a ns) (y : TupI s.heap b ms) (h : Q false s) : wpAny (model prog w) A (searchCouldBeSeen (.ref b) [.ref a]) Q E s := by
  unfold searchCouldBeSeen
  refine wpAny_bind ?_
  refine wpAny_forIn_list _ (fun rest r s' => r.1 = none ∧ s' = s ∧ ∀ v ∈ rest, v = .ref a) _ ?_ ?_ _ _ ⟨rfl, rfl, by simp⟩
  · rintro v rest r s' ⟨hr, rfl, hv⟩
    obtain rfl := hv v (by simp)
    have hv' : ∀ v ∈ rest, v = .ref a := fun v hm => hv v (List.mem_cons_of_mem _ hm)
    dsimp only
    by_cases hba : (b == a) = true
    · rw [if_pos (by simp [hba])]
      exact wpAny_pure ⟨rfl, rfl, hv'⟩
    · rw [if_neg (by simp [carriedByValue] at hba ⊢; exact hba)]
      refine wpAny_bind (wpAny_eqIsQuiet_tuple (y.key (prog := prog) (w := w)) ?_)
      simp only [Bool.not_true, Bool.false_eq_true, if_false]
      refine wpAny_bind (wpAny_eqIsQuiet_tuple (x.key (prog := prog) (w := w)) ?_)
      simp only [Bool.not_true, Bool.false_eq_true, if_false]
      refine wpAny_bind (ofClass_tup y ?_)
      simp only [Bool.false_eq_true, if_false]
      refine wpAny_bind (ofClass_tup x ?_)
      simp only [Bool.false_eq_true, if_false]
      exact wpAny_pure ⟨rfl, rfl, hv'⟩
  · rintro ⟨r1, r2⟩ s' ⟨hr, rfl, _⟩
    simp only at hr
    subst hr
    exact wpAny_pure h
theorem same_self {c : Addr} {Q : Bool → Shared → Prop} (h : Q true s) : wpAny (model prog w) A (isSame (.ref c) (.ref c)) Q E s := by
  show wpAny _ _ (if (c == c) = true then pure true else _) _ _ _
  rw [if_pos (by simp)]
  exact wpAny_pure h
theorem way1 (j1 : Nat) (led pl : Bool) : (tab1 j1 led pl).gaveWay = false := by simp [SetTable.gaveWay, tab1]
section
variable {S b : Addr} {ms : List Int} {o : Obj} {ep j1 : Nat} {led pl : Bool} {h1 h : Int} (hu : A.units < cLine) (ho : s.heap.get? S = some o) (hd : o.data = .set #[(h1, .ref a)] ep (tab1 j1 led pl)) (x : TupI s.heap a ns) (y : TupI s.heap b ms)
include ho hd
theorem search_miss {n : Nat} {stand : Option SetTable.Probe} {Q : SetFound → Shared → Prop} (hj : (stand.getD ((tab1 j1 led pl).probeStart h)).j ≠ j1) (hdm : (stand.getD ((tab1 j1 led pl).probeStart h)).dummy = none)
    (hq : Q (.free (stand.getD ((tab1 j1 led pl).probeStart h)).j false) s) : wpAny (model prog w) A (setSearchFrom S (.ref b) h true (n + 1) stand) Q E s := by
  have hfit : (tab1 j1 led pl).fits (#[(h1, Value.ref a)]).size = true := rfl
  unfold setSearchFrom
  refine wpAny_bind (wpAny_setState_of ho hd hfit ?_)
  dsimp only
  rw [way1]
  simp only [Bool.false_eq_true, if_false]
  unfold SetTable.probe
  rw [show 10 * SetTable.turns (tab1 j1 led pl).mask = 219 + 1 from rfl, go_empty hj, hdm]
  exact wpAny_pure hq
theorem search_diff {n k : Nat} {stand : Option SetTable.Probe} {Q : SetFound → Shared → Prop} (hne : h1 ≠ h) (g : GP (stand.getD ((tab1 j1 led pl).probeStart h)) k) (hk : k ≤ 100)
    (hq : ∀ j, j < 8 → j ≠ j1 → Q (.free j false) s) : wpAny (model prog w) A (setSearchFrom S (.ref b) h true (n + 1) stand) Q E s := by
  have hfit : (tab1 j1 led pl).fits (#[(h1, Value.ref a)]).size = true := rfl
  unfold setSearchFrom
  refine wpAny_bind (wpAny_setState_of ho hd hfit ?_)
  dsimp only
  rw [way1]
  simp only [Bool.false_eq_true, if_false]
  unfold SetTable.probe
  rw [show 10 * SetTable.turns (tab1 j1 led pl).mask = 220 from rfl]
  generalize hr : SetTable.probe.go (tab1 j1 led pl) _ h 220 _ = r
  obtain ⟨j, e, q1, q2⟩ := go_free' hr hne g hk
  subst e
  exact wpAny_pure (hq j q1 q2)
include hu x y
theorem search_cand {n : Nat} {stand : Option SetTable.Probe} {Q : SetFound → Shared → Prop} (hh : h1 = h) (hj : (stand.getD ((tab1 j1 led pl).probeStart h)).j = j1)
    (hq1 : ns = ms → Q (.there none) s) (hq2 : ns ≠ ms → wpAny (model prog w) A (setSearchFrom S (.ref b) h true n (some ((tab1 j1 led pl).advance (stand.getD ((tab1 j1 led pl).probeStart h))))) Q E s) :
    wpAny (model prog w) A (setSearchFrom S (.ref b) h true (n + 1) stand) Q E s := by
  have hfit : (tab1 j1 led pl).fits (#[(h1, Value.ref a)]).size = true := rfl
  rw [setSearchFrom]
  refine wpAny_bind (wpAny_setState_of ho hd hfit ?_)
  dsimp only
  rw [way1]
  simp only [Bool.false_eq_true, if_false]
  generalize stand.getD ((tab1 j1 led pl).probeStart h) = p at *
  subst hh
  unfold SetTable.probe
  rw [show 10 * SetTable.turns (tab1 j1 led pl).mask = 219 + 1 from rfl, go_cand (h := h1) hj ?hz]
  case hz => rfl
  dsimp only
  have fin : wpAny (model prog w) A (do
      let some (_, y) := (#[(h1, Value.ref a)])[0]? | unsupported "internal:set-entry"
      let equal ← holding [y] (eqBool y (.ref b))
      let (es', _, t') ← setState S
      if true && equal then return .there none
      let some same := t'.sameMemory (tab1 j1 led pl).moves (tab1 j1 led pl).mask | unsupported "set.changed-during-lookup:is-the-new-block-at-the-old-address"
      let still ← match (if same then t'.slot p.j else .empty) with
        | .live i' => match es'[i']? with
          | some (_, y') => do pure (if ← isSame y' y then some i' else none)
          | none => pure none
        | _ => pure none
      match still with
      | none => rule "set.search.anew"; setSearchFrom S (.ref b) h1 true n none
      | some i' => if equal then return .there (some i') else setSearchFrom S (.ref b) h1 true n (some ((tab1 j1 led pl).advance p))) Q E s := by
    refine wpAny_bind (wpAny_holding (wpAny_eqBool_tuple hu (x.key (prog := prog) (w := w)) (y.key (prog := prog) (w := w)) ?_))
    refine wpAny_bind (wpAny_setState_of ho hd hfit ?_)
    by_cases hns : ns = ms
    · rw [decide_eq_true hns]
      exact wpAny_pure (hq1 hns)
    · rw [decide_eq_false hns]
      simp only [Bool.and_false, Bool.false_eq_true, if_false]
      rw [show (tab1 j1 led pl).sameMemory (tab1 j1 led pl).moves (tab1 j1 led pl).mask = some true from rfl]
      simp only [if_true]
      rw [slot1, if_pos hj.symm]
      show wpAny _ _ (isSame (.ref a) (.ref a) >>= _) _ _ _
      refine wpAny_bind (same_self ?_)
      refine wpAny_bind (wpAny_pure ?_)
      exact hq2 hns
  cases led with
  | true => exact fin
  | false =>
    simp only [show (tab1 j1 false pl).led = false from rfl, Bool.not_false, if_true]
    have el : (List.map (fun x : Int × Value => x.snd) (Array.filter (fun x : Int × Value => x.fst == h1) #[(h1, Value.ref a)]).toList) = [.ref a] := by simp
    rw [el]
    refine wpAny_bind (seen_tup x y ?_)
    simp only [Bool.false_eq_true, if_false]
    exact fin
theorem search_two : ∀ (k n : Nat) (stand : Option SetTable.Probe) {Q : SetFound → Shared → Prop}, GP (stand.getD ((tab1 j1 led pl).probeStart h)) k → k ≤ 100 → k + 2 ≤ n →
      (ns = ms → h1 = h ∧ (stand.getD ((tab1 j1 led pl).probeStart h)).j = j1) → (ns = ms → Q (.there none) s) → (ns ≠ ms → ∀ j, j < 8 → j ≠ j1 → Q (.free j false) s) →
      wpAny (model prog w) A (setSearchFrom S (.ref b) h true n stand) Q E s := by
  intro k
  induction k with
  | zero =>
    intro n stand Q g hk hn hsm hq1 hq2
    obtain ⟨n', rfl⟩ : ∃ n', n = n' + 1 + 1 := ⟨n - 2, by omega⟩
    by_cases hh : h1 = h
    · by_cases hj : (stand.getD ((tab1 j1 led pl).probeStart h)).j = j1
      · refine search_cand hu ho hd x y hh hj hq1 fun hne => ?_
        have z := GP.last (j1 := j1) (led := led) (pl := pl) g
        refine search_miss ho hd ?_ z.1.2.2.2.1 (hq2 hne _ z.1.2.2.1 ?_)
        · rw [← hj]; exact z.2
        · rw [← hj]; exact z.2
      · exact search_miss ho hd hj g.2.2.2.1 (hq2 (fun e => hj (hsm e).2) _ g.2.2.1 hj)
    · exact search_diff ho hd hh g hk (hq2 fun e => hh (hsm e).1)
  | succ k ih =>
    intro n stand Q g hk hn hsm hq1 hq2
    obtain ⟨n', rfl⟩ : ∃ n', n = n' + 1 := ⟨n - 1, by omega⟩
    by_cases hh : h1 = h
    · by_cases hj : (stand.getD ((tab1 j1 led pl).probeStart h)).j = j1
      · refine search_cand hu ho hd x y hh hj hq1 fun hne => ?_
        exact ih n' _ g.next (by omega) (by omega) (fun e => absurd e hne) hq1 hq2
      · exact search_miss ho hd hj g.2.2.2.1 (hq2 (fun e => hj (hsm e).2) _ g.2.2.1 hj)
    · exact search_diff ho hd hh g hk (hq2 fun e => hh (hsm e).1)
end
/-- a set of n elements -/
def SetSz (o : Obj) (n : Nat) : Prop := o.ExactSet ∧ ∃ es ep t, o.data = .set es ep t ∧ t.fits es.size = true ∧ es.size = n
def set1 (j1 : Nat) (led pl : Bool) (h1 : Int) (a : Addr) (ep : Nat) : Obj := { cls := .type "set", dict := none, data := .set #[(h1, .ref a)] ep (tab1 j1 led pl) }
theorem TupI.same {h h' : Heap} {S c : Addr} {o : Obj} {ks : List Int} (x : TupI h c ks) (ho : h.get? S = some o) (hc : o.cls = .type "set") (hs : Heap.SameBut S h h') : TupI h' c ks := by
  obtain ⟨vs, ⟨o', ho', hc', n, hd⟩, hi⟩ := x
  refine ⟨vs, ⟨o', ?_, hc', n, hd⟩, hi⟩
  rw [hs.2 c ?_]
  · exact ho'
  · rintro rfl
    rw [ho] at ho'
    cases ho'
    rw [hc] at hc'
    injection hc' with e
    exact absurd e (by decide)
theorem slot_fresh (led : Bool) (j : Nat) : (SetTable.fresh 0 0 led).slot j = .empty := rfl
theorem probe_fresh (led : Bool) (f : Nat → Int) (h : Int) : (SetTable.fresh 0 0 led).probe f h (none.getD ((SetTable.fresh 0 0 led).probeStart h)) = some (.empty (SetTable.bits h % 8) none) := by
  unfold SetTable.probe
  rw [show 10 * SetTable.turns (SetTable.fresh 0 0 led).mask = 219 + 1 from rfl, SetTable.probe.go, slot_fresh]
  rfl
theorem put_fresh (led : Bool) (j : Nat) : (SetTable.fresh 0 0 led).put j = (tab1 j led true, 0) := rfl
theorem full1 (j : Nat) (led pl : Bool) : (tab1 j led pl).tooFull = false := rfl
theorem ins_nil {α : Type} (x : α) : SetTable.insertAt #[] 0 x = #[x] := by simp [SetTable.insertAt]
theorem add_one {S : Addr} {led : Bool} {Q : Bool → Shared → Prop} (hu : A.units < cLine) (ho : s.heap.get? S = some { cls := .type "set", dict := none, data := .set #[] 0 (.fresh 0 0 led) }) (x : TupI s.heap a ns)
    (h : ∀ h' tk, Heap.SameBut S s.heap h' → h'.get? S = some (set1 (SetTable.bits (tupleKeyHash (intKind prog w) ns) % 8) led true (tupleKeyHash (intKind prog w) ns) a 1) → Q true { s with heap := h', toks := tk }) :
    wpAny (model prog w) A (setAdd S (.ref a)) Q E s := by
  unfold setAdd
  refine wpAny_holding (wpAny_bind (wpAny_pyHash_tuple hu (x.key (prog := prog) (w := w)) ?_))
  generalize s.toks + (ns.length + 1) = tk
  generalize tupleKeyHash (intKind prog w) ns = hv at *
  unfold setAddHashed setAddHashedIn
  have hfit : (SetTable.fresh 0 0 led).fits (#[] : Array (Int × Value)).size = true := rfl
  refine wpAny_holding (wpAny_bind (wpAny_setState_of (s := { s with toks := tk }) ho rfl hfit ?_))
  dsimp only
  rw [show byScan (.ref a) #[] = false from rfl]
  simp only [Bool.false_eq_true, if_false]
  unfold setSearch setSearchFrom
  refine wpAny_bind (wpAny_bind (wpAny_setState_of (s := { s with toks := tk }) ho rfl hfit ?_))
  dsimp only
  rw [show (SetTable.fresh 0 0 led).gaveWay = false by simp [SetTable.gaveWay, SetTable.fresh]]
  simp only [Bool.false_eq_true, if_false]
  rw [probe_fresh]
  refine wpAny_pure ?_
  refine wpAny_bind (wpAny_setState_of (s := { s with toks := tk }) ho rfl hfit ?_)
  dsimp only
  rw [put_fresh]
  dsimp only
  rw [show (tab1 (SetTable.bits hv % 8) led true).plain = true from rfl]
  simp only [if_true]
  refine wpAny_bind (hashByValue_tup (s := { s with toks := tk }) x ?_)
  simp only [if_true]
  rw [ins_nil]
  refine wpAny_bind (wpAny_storeSet_of (s := { s with toks := tk }) ho rfl ?_ (fits_of_scanBound (show 1 < scanBound by decide)))
  rw [show (tab1 (SetTable.bits hv % 8) led true).tooFull = false from full1 _ _ _]
  simp only [Bool.and_false, Bool.false_eq_true, if_false]
  refine wpAny_pure (h _ tk (Heap.SameBut.update ..) ?_)
  have := Heap.get?_update_self (Obj.putSet #[(hv, Value.ref a)] (tab1 (SetTable.bits hv % 8) led true)) ho (by rfl)
  exact this
theorem ins_size {α : Type} (xs : Array α) (p : Nat) (x : α) : (SetTable.insertAt xs p x).size = xs.size + 1 := by
  have := (SetTable.insertAt_perm xs p x).length_eq
  simpa using this
theorem add_two {S b : Addr} {ms : List Int} {led : Bool} {Q : Bool → Shared → Prop} (hu : A.units < cLine) (ho : s.heap.get? S = some (set1 (SetTable.bits (tupleKeyHash (intKind prog w) ns) % 8) led true (tupleKeyHash (intKind prog w) ns) a 1)) (x : TupI s.heap a ns) (y : TupI s.heap b ms)
    (h : ∀ h' tk o v, Heap.SameBut S s.heap h' → h'.get? S = some o → SetSz o (if ns = ms then 1 else 2) → Q v { s with heap := h', toks := tk }) :
    wpAny (model prog w) A (setAdd S (.ref b)) Q E s := by
  unfold setAdd
  refine wpAny_holding (wpAny_bind (wpAny_pyHash_tuple hu (y.key (prog := prog) (w := w)) ?_))
  generalize s.toks + (ms.length + 1) = tk
  have hsm : ns = ms → tupleKeyHash (intKind prog w) ns = tupleKeyHash (intKind prog w) ms := fun e => by rw [e]
  generalize tupleKeyHash (intKind prog w) ms = hv at *
  generalize tupleKeyHash (intKind prog w) ns = h1 at *
  generalize hj1 : SetTable.bits h1 % 8 = j1 at *
  unfold setAddHashed setAddHashedIn
  have hfit : (tab1 j1 led true).fits (#[(h1, Value.ref a)]).size = true := rfl
  refine wpAny_holding (wpAny_bind (wpAny_setState_of (s := { s with toks := tk }) ho rfl hfit ?_))
  dsimp only
  rw [show byScan (.ref b) #[(h1, Value.ref a)] = false from rfl]
  simp only [Bool.false_eq_true, if_false]
  unfold setSearch
  have hrefl : s.heap.SameBut S s.heap := Heap.SameBut.refl S s.heap
  refine wpAny_bind (search_two (s := { s with toks := tk }) hu ho rfl x y 13 100000 none (GP.start _ rfl _) (by omega) (by omega) (fun e => ⟨hsm e, ?_⟩) (fun e => ?_) (fun e j hj8 hj => ?_))
  · show SetTable.bits hv % 8 = j1
    rw [← hj1, hsm e]
  · refine wpAny_pure ?_
    have := h s.heap tk _ false hrefl ho
    rw [if_pos e] at this
    exact this ⟨⟨rfl, rfl, rfl⟩, _, _, _, rfl, hfit, rfl⟩
  · refine wpAny_bind (wpAny_setState_of (s := { s with toks := tk }) ho rfl hfit ?_)
    dsimp only
    rw [show ((tab1 j1 led true).put j).1.plain = true from rfl]
    simp only [if_true]
    refine wpAny_bind (hashByValue_tup (s := { s with toks := tk }) y ?_)
    simp only [if_true]
    have hs2 : (SetTable.insertAt #[(h1, Value.ref a)] ((tab1 j1 led true).put j).2 (hv, Value.ref b)).size = 2 := by rw [ins_size]; rfl
    have hp2 : ((tab1 j1 led true).put j).1.place.size = 2 := by
      show (SetTable.insertAt #[j1] _ j).size = 2
      rw [ins_size]; rfl
    have hd2 : ((tab1 j1 led true).put j).1.dummies = #[] := rfl
    have hm2 : ((tab1 j1 led true).put j).1.mask = 7 := rfl
    refine wpAny_bind (wpAny_storeSet_of (s := { s with toks := tk }) ho rfl ?_ (fits_of_scanBound (by rw [hs2]; decide)))
    rw [show ((tab1 j1 led true).put j).1.tooFull = false by unfold SetTable.tooFull SetTable.fill; rw [hp2, hd2, hm2]; rfl]
    simp only [Bool.and_false, Bool.false_eq_true, if_false]
    have hg := Heap.get?_update_self (Obj.putSet (SetTable.insertAt #[(h1, Value.ref a)] ((tab1 j1 led true).put j).2 (hv, Value.ref b)) ((tab1 j1 led true).put j).1) ho (by rfl)
    have := h _ tk _ true (Heap.SameBut.update ..) hg
    rw [if_neg e] at this
    refine wpAny_pure (this ⟨⟨rfl, rfl, rfl⟩, _, _, _, rfl, ?_, hs2⟩)
    rw [hs2]
    unfold SetTable.fits SetTable.fill
    rw [hp2, hd2, hm2]; rfl
end
end Mine
end
section
open PySem PySem.W PyProof.Rows PySem.Calls
set_option Elab.async false
set_option maxRecDepth 100000
set_option maxHeartbeats 3000000
namespace Mine
theorem sub_tuple_set : isSubtype (.type "tuple") (.type "set") = pure false := by rw [isSubtype_type]; kernel_rfl
theorem sub_tuple_frozenset : isSubtype (.type "tuple") (.type "frozenset") = pure false := by rw [isSubtype_type]; kernel_rfl
section
variable {prog : Program} {w : World} {A : Around} {E : Value → Shared → Prop} {s : Shared}
theorem set_loop {h₀ : Heap} {R : Result → Shared → Prop} {I S a b : Addr} {fp wr : List Addr} {St : Nat → Heap → Prop} {na nb : List Int} {led : Bool} (hu : A.units + 1 < cLine)
    (W : Walks prog w A.in1 I fp wr 2 (fun i v => (#[Value.ref a, Value.ref b])[i]? = some v) St) (hSf : S ∉ fp) (hS : h₀.get? S = none) (hw : ∀ c ∈ wr, h₀.get? c = none) (x : TupI h₀ a na) (y : TupI h₀ b nb)
    (st : St 0 s.heap) (ho : s.heap.get? S = some { cls := .type "set", dict := none, data := .set #[] 0 (.fresh 0 0 led) }) (G : ∀ c o, h₀.get? c = some o → s.heap.get? c = some o)
    (h : ∀ h' tk o, (∀ c o, h₀.get? c = some o → h'.get? c = some o) → h'.get? S = some o → SetSz o (if na = nb then 1 else 2) → R (.ok (.ret .none)) { s with heap := h', toks := tk }) :
    codeAny (model prog w) A (.builtin "set.update.loop" ⟨[.ref S, .ref I], []⟩) R s := by
  have hSw : S ∉ wr := fun h => hSf (W.sub _ h)
  have hu1 : A.in1.units < cLine := hu
  have old : ∀ {h' h'' : Heap}, (∀ c o, h₀.get? c = some o → h'.get? c = some o) → (∀ c o, c ∉ wr → h'.get? c = some o → h''.get? c = some o) → (∀ c o, h₀.get? c = some o → h''.get? c = some o) := by
    intro h' h'' g k c o e
    refine k c o (fun hm => ?_) (g c o e)
    rw [hw c hm] at e; cases e
  have oldS : ∀ {h' h'' : Heap}, (∀ c o, h₀.get? c = some o → h'.get? c = some o) → Heap.SameBut S h' h'' → (∀ c o, h₀.get? c = some o → h''.get? c = some o) := by
    intro h' h'' g k c o e
    rw [k.2 c (by rintro rfl; rw [hS] at e; cases e)]
    exact g c o e
  have step : ∀ i {h' h'' : Heap}, St i h' → Heap.SameBut S h' h'' → St i h'' := by
    intro i h' h'' st k
    refine W.frame _ _ _ st fun c hc o e => ?_
    rw [k.2 c (fun q => hSf (q ▸ hc))]; exact e
  -- first
  refine codeAny_builtin F.entry_set_update_loop ?_
  rw [Around.under_plainId F.plain_set_update_loop _]
  show wpAny _ A.in1 (pyNext (.ref I) >>= _) _ _ s
  refine wpAny_bind (W.item 0 s _ _ (by decide) st fun v h1 tk1 hP st1 k1 => ?_)
  obtain rfl : v = .ref a := by simpa using hP.symm
  have G1 := old G k1
  have ho1 := k1 S _ hSw ho
  show wpAny _ A.in1 (holding [Value.ref a] (setAdd S (.ref a)) >>= _) _ _ _
  refine wpAny_bind (wpAny_holding (add_one (s := { s with heap := h1, toks := tk1 }) hu1 ho1 (x.keeps G1) fun h2 tk2 b2 g2 => ?_))
  have G2 := oldS G1 b2
  have st2 := step _ st1 b2
  refine wpAny_pure ⟨plainId_quiet F.plain_set_update_loop _, ?_⟩
  -- second
  refine codeAny_builtin F.entry_set_update_loop ?_
  rw [Around.under_plainId F.plain_set_update_loop _]
  show wpAny _ A.in1 (pyNext (.ref I) >>= _) _ _ _
  refine wpAny_bind (W.item 1 _ _ _ (by decide) st2 fun v h3 tk3 hP st3 k3 => ?_)
  obtain rfl : v = .ref b := by simpa using hP.symm
  have G3 := old G2 k3
  have ho3 := k3 S _ hSw g2
  show wpAny _ A.in1 (holding [Value.ref b] (setAdd S (.ref b)) >>= _) _ _ _
  refine wpAny_bind (wpAny_holding (add_two (s := { s with heap := h3, toks := tk3 }) hu1 ho3 (x.keeps G3) (y.keeps G3) fun h4 tk4 o v b4 g4 sz => ?_))
  have G4 := oldS G3 b4
  have st4 := step _ st3 b4
  refine wpAny_pure ⟨plainId_quiet F.plain_set_update_loop _, ?_⟩
  -- end
  refine codeAny_builtin F.entry_set_update_loop ?_
  rw [Around.under_plainId F.plain_set_update_loop _]
  show wpAny _ A.in1 (pyNext (.ref I) >>= _) _ _ _
  refine wpAny_bind (W.done _ _ _ st4 fun h5 tk5 k5 => ?_)
  show wpAny _ A.in1 (ret Value.none) _ _ _
  exact wpAny_pure (h h5 tk5 o (old G4 k5) (k5 S _ hSw g4) sz)

theorem call_set_two {l a b : Addr} {na nb : List Int} {Q : Value → Shared → Prop} (hh : A.handled = none) (hu : A.units + 8 < cLine) (hl : IsTup s.heap l #[.ref a, .ref b]) (x : TupI s.heap a na) (y : TupI s.heap b nb)
    (h : ∀ h' tk o, (∀ c o, s.heap.get? c = some o → h'.get? c = some o) → h'.get? s.heap.objs.size = some o → SetSz o (if na = nb then 1 else 2) → Q (.ref s.heap.objs.size) { s with heap := h', toks := tk }) :
    wpAny (model prog w) A (call (.type "set") [.ref l]) Q E s := by
  obtain ⟨c, tl, hmro⟩ := F.called_set.mro
  have hmade := F.called_set.made
  have hsub := F.called_set.sub
  refine wpAny_call (codeAny_of_tree ?_)
  show wpAny _ _ (callAny (.type "set") _) _ _ _
  refine wpAny_pure ⟨Code.quiet_builtin _ (by decide +kernel), codeAny_builtin F.entry_type_call ?_⟩
  rw [Around.under_plain (weight_type_call_type "set" [.ref l] []) rfl]
  have h1 := F.called_set.notType
  have h2 := F.called_set.canCreate
  have hct := F.typeCall_set_1 (.ref l)
  repeat (any_goals (first | assumption | wp_step))
  refine codeAny_mono (code_set_new_1 (.ref l) (E := E) (Q₁ := fun obj s₁ => ∃ led : Bool, obj = .ref s.heap.objs.size ∧ s₁ = { s with heap := s.heap.push { cls := .type "set", dict := none, data := .set #[] 0 (.fresh 0 0 led) } }) fun led => ⟨led, rfl, rfl⟩) fun r s₁ hr => ?_
  cases r with
  | error e => exact hr
  | ok fl =>
    cases fl with
    | ret obj =>
      obtain ⟨led, rfl, rfl⟩ := hr
      have hS : (s.heap.push { cls := .type "set", dict := none, data := .set #[] 0 (.fresh 0 0 led) }).get? s.heap.objs.size = some { cls := .type "set", dict := none, data := .set #[] 0 (.fresh 0 0 led) } := Heap.get?_push_size _ rfl
      have hT : Shared.TypeIs { s with heap := s.heap.push { cls := .type "set", dict := none, data := .set #[] 0 (.fresh 0 0 led) } } (.ref s.heap.objs.size) "set" := ⟨_, hS, rfl⟩
      have hli := F.called_set.init.lookup
      have hbi := F.called_set.init.bind (.ref s.heap.objs.size)
      repeat (any_goals (first | assumption | wp_step))
      refine codeAny_mono (codeAny_call_builtin (R := wants (fun r s₂ => r = .none ∧ ∃ h' tk o, s₂ = { s with heap := h', toks := tk } ∧ (∀ c o, s.heap.get? c = some o → h'.get? c = some o) ∧ h'.get? s.heap.objs.size = some o ∧ SetSz o (if na = nb then 1 else 2)) E)
        F.called_set.init.plain F.entry_set_init (check_set_init_1 hT ?_)) fun r₂ s₂ hr₂ => ?_
      · obtain ⟨ol, hol, hcl, nl, hdl⟩ := id hl
        obtain ⟨ocls, odict, odata, oslots⟩ := ol
        simp only at hcl hdl
        subst hcl; subst hdl
        have hol' : (s.heap.push { cls := .type "set", dict := none, data := .set #[] 0 (.fresh 0 0 led) }).get? l = some { cls := .type "tuple", dict := odict, data := .seq #[.ref a, .ref b] nl, slots := oslots } := Heap.get?_push_of_some _ hol
        have hsls := sub_tuple_set
        have hslf := sub_tuple_frozenset
        have hne : (Value.type "tuple" == Value.type "dict") = false := by decide
        have hl1 : Heap.IsTuple (s.heap.push { cls := .type "set", dict := none, data := .set #[] 0 (.fresh 0 0 led) }) l #[.ref a, .ref b] := ⟨_, hol', rfl, nl, rfl⟩
        unfold Builtin.«set.__init__» noKeywords Builtin.Frozenset.updateFrom
        generalize hPI : pyIter = PI
        wp_walk
        subst hPI
        refine wpAny_pyIter_tuple hl1 ?_
        refine wpAny_bind (wpAny_runValue ?_)
        have hlS : l < s.heap.objs.size := Heap.lt_size hol
        have hh3 : A.in1.in1.in1.handled = none := by simp [hh]
        have hneI : l ≠ (s.heap.push { cls := .type "set", dict := none, data := .set #[] 0 (.fresh 0 0 led) }).objs.size := by
          rw [Heap.size_push]; exact Nat.ne_of_lt (Nat.lt_succ_of_lt hlS)
        have hSf : s.heap.objs.size ∉ [(s.heap.push { cls := .type "set", dict := none, data := .set #[] 0 (.fresh 0 0 led) }).objs.size, l] := by
          rw [Heap.size_push]; simp only [List.mem_cons, List.not_mem_nil, or_false, not_or]
          exact ⟨Nat.ne_of_lt (Nat.lt_succ_self _), Nat.ne_of_gt hlS⟩
        have noneAt : ∀ c, s.heap.objs.size ≤ c → s.heap.get? c = none := fun c hc => by
          cases q : s.heap.get? c with
          | none => rfl
          | some o => exact absurd (Heap.lt_size q) (Nat.not_lt.mpr hc)
        refine set_loop (h₀ := s.heap) (na := na) (nb := nb) ?hu (Walks.tuple hh3 _ l hneI #[.ref a, .ref b]) hSf (noneAt _ (Nat.le_refl _)) ?hw x y
          ⟨⟨_, Heap.get?_push_size _ rfl, rfl, rfl⟩, IsTup.keeps hl1 fun _ _ e => Heap.get?_push_of_some _ e⟩ (led := led) ?ho (fun c o e => Heap.get?_push_of_some _ (Heap.get?_push_of_some _ e)) ?hR
        case hu =>
          have : A.in1.in1.units + 1 = A.units + 3 := rfl
          omega
        case hw =>
          intro c hc
          rw [List.mem_singleton] at hc
          subst hc
          refine noneAt _ ?_
          rw [Heap.size_push]; exact Nat.le_succ _
        case ho => exact Heap.get?_push_of_some _ hS
        case hR =>
          intro h' tk o k1 k2 k3
          show wpAny _ _ _ _ _ _
          refine wpAny_pure ?_
          show wpAny _ _ (ret Value.none) _ _ _
          exact wpAny_pure ⟨rfl, h', tk, o, rfl, k1, k2, k3⟩
      · cases r₂ with
        | error e => exact hr₂
        | ok fl₂ =>
          cases fl₂ with
          | ret r =>
            obtain ⟨rfl, h', tk, o, rfl, k1, k2, k3⟩ := hr₂
            repeat (any_goals (first | assumption | wp_step))
            exact h _ _ _ k1 k2 k3
          | _ => exact hr₂.elim
    | _ => exact hr.elim
end
end Mine
end
section
open PySem PySem.W PyProof.Rows PySem.Calls
set_option Elab.async false
set_option maxRecDepth 100000
set_option maxHeartbeats 8000000
set_option pp.deepTerms false
namespace Mine
local macro_rules | `(tactic| k_asm) => `(tactic| (with_reducible refine' TupI.keeps ?ti1 ?ti2; (case ti1 => assumption); (case ti2 => first | exact Fr.keep (by assumption) | exact fun b o e => Fr.keep (by assumption) b o (Fr.keep (by assumption) b o e))))
local macro_rules | `(tactic| k_inst) => `(tactic| first | (refine InstAt.keepsIn (by assumption) (Fr.keep (by k_asm))) | (refine InstAt.keepsIn (by assumption) (fun b o e => Fr.keep (by k_asm) b o (Fr.keep (by k_asm) b o e))))

section
variable {prog : Program} {w : World} {A : Around} {E : Value → Shared → Prop} {s : Shared} {h₀ : Heap} {L : Addr} {m : Str → Option Value} {news : List (Addr × Obj)}
theorem set_twoN {l a b : Addr} {na nb : List Int} {n : Nat} {Q : Value → Shared → Prop} (Fm : Fr h₀ L s.heap m) (N : News h₀ L s.heap news) (hh : A.handled = none) (hu : A.units + 64 < cLine) (hl : IsTup s.heap l #[.ref a, .ref b]) (x : TupI s.heap a na) (y : TupI s.heap b nb)
    (hn : (if na = nb then 1 else 2) = n) (h : ∀ D h' tk o, Fr h₀ L h' m → News h₀ L h' ((D, o) :: news) → (∀ p ∈ news, p.1 < D) → SetSz o n → Q (.ref D) { s with heap := h', toks := tk }) :
    wpAny (model prog w) A (call (.type "set") [.ref l]) Q E s := by
  refine call_set_two hh (by omega) hl x y fun h' tk o k1 k2 k3 => ?_
  have hL : L < s.heap.objs.size := Fm.ns.lt
  refine h _ h' tk o (Fm.kept k1) (fun p hp => ?_) (fun p hp => Heap.lt_size (N p hp).1) (hn ▸ k3)
  rcases List.mem_cons.mp hp with rfl | hp
  · refine ⟨k2, Nat.ne_of_gt hL, ?_⟩
    cases q : h₀.get? s.heap.objs.size with
    | none => rfl
    | some o' => exact absurd (Heap.lt_size (Fm.keep _ _ q)) (Nat.lt_irrefl _)
  · exact ⟨k1 _ _ (N p hp).1, (N p hp).2⟩
theorem set_lenN {D : Addr} {o : Obj} {n : Nat} {Q : Value → Shared → Prop} (N : News h₀ L s.heap news) (hm : (D, o) ∈ news) (hz : SetSz o n) (hn : n ≤ 1000) (h : Q (.int (n : Int) (s.toks + 1)) { s with toks := s.toks + 1 + 1 }) :
    wpAny (model prog w) A (call (.builtin "len") [.ref D]) Q E s := by
  obtain ⟨hx, es, ep, t, hd, hf, rfl⟩ := hz
  exact call_len_set (N _ hm).1 hx hd hf (size18 hn) h
theorem try_quiet {env : Env} {body orelse : List Stmt} {h₀ : ExceptHandler} {hs : List ExceptHandler} {pos : Pos} {Q : Flow → Shared → Prop}
    (h : wpAny (model prog w) A (execs body env) (fun f s₁ => match f with | .next => wpAny (model prog w) A (execs orelse env) Q E s₁ | f => Q f s₁) (fun _ _ => False) s) :
    wpAny (model prog w) A (exec (.Try body (h₀ :: hs) orelse [] pos) env) Q E s :=
  wpAny_Try_except (wpAny_mono h (fun _ _ x => x) fun _ _ x => x.elim)
end
local macro_rules | `(tactic| walk_at "exec Try") => `(tactic| (k_here; refine wpAny_held ?_))
local macro_rules | `(tactic| walk_at "call type:set") => `(tactic| (k_here; (with_reducible show wpAny _ _ (call (Value.type "set") [Value.ref _]) _ _ _); k_dflt (refine' set_twoN ?k1 ?k2 ?k3 ?k4 ?k5 ?k6 ?k7 ?kn ?_; (case k1 => assumption); (case k2 => assumption); (case k3 => rfl); (case k4 => ke_room); (case k5 => (obtain hN := News.get (by assumption) (by k_mem); exact ⟨_, hN, rfl, _, rfl⟩)); (case k6 => k_asm); (case k7 => k_asm); (case kn => first | exact if_pos (by with_reducible assumption) | exact if_neg (by with_reducible assumption)); k_whole; intro D' h' tk' o' F' N' l1 z'; (try k_lt l1); (try k_sweep))))
local macro_rules | `(tactic| walk_at "call builtin:len") => `(tactic| (k_here; (with_reducible show wpAny _ _ (call (Value.builtin "len") [Value.ref _]) _ _ _); k_dflt (refine' set_lenN ?k1 ?k2 ?k3 ?k4 ?_; (case k1 => assumption); (case k2 => k_mem); (case k3 => assumption); (case k4 => decide); k_whole)))
theorem c100 {w : World} {A₀ : Around} {base h₀ : Heap} {outer : List Env} {L : Addr} {m mg mb : Str → Option Value} {mean : ExcName → Option Value} {p : Program} {loose : List Str} {s : Shared} {env : Env}
    {a b : Addr} {na nb : List Int}
    (B : Below A₀ base outer h₀) (F : Fr h₀ L s.heap m) (X : (hd.heap_39 w.params).In h₀) (T : Top p loose mean mg mb h₀) (hf : env.frame = some L) (hk : env.scope.kind = .function)
    (hta : TupI s.heap a na) (htb : TupI s.heap b nb) (la : na.length ≤ 18) (lb : nb.length ≤ 18) :
    codeAny (model PySem.Challenge.rw_br0036_01.row.prog w) (cA env outer) (.call (.ref 100) ⟨[.ref a, .ref b], []⟩) (RetW s (fun _ v => v = .bool (decide (na = nb)))) s := by
  by_cases hab : na = nb
  all_goals
    revert X; k_fill; intro X
    k_dflt (refine' code_restP ?k1 ?k2 ?k3 ?k5 ?kA ?kF ?kK ?k6 ?k7 ?k8 ?kV ?kP ?kG ?kB ?kD ?_ ?c2 ?c3 ?c4; (case kA => exact rfl); (case kF => exact hf); (case kK => exact hk); (case k1 => k_asm); (case k2 => k_asm); (case k3 => k_asm); (case k5 => k_asm); (case k6 => k_is); (case k7 => k_is); (case k8 => k_room); (case kV => kl_lit); (case kP => exact rfl); (case kG => exact fun _ => rfl); (case kB => exact fun _ => rfl); (case kD => decide +kernel); (case c2 => exact rfl); (case c3 => exact rfl); (case c4 => exact rfl); k_whole; clear B F X T; intro D' L' h' tk' cells' l1' F' N' Y' B' X' T'; (first | k_cells Y' | (have hY := cells_none Y'; subst hY; clear Y')); (try simp only [List.cons_append, List.nil_append] at N'); (try dsimp only); (try k_fold))
    (w_strict k_steps)
    all_goals (try dsimp only)
    refine Stop.intro ?_
    refine try_quiet ?_
    (w_strict k_steps)
    all_goals (try dsimp only)
    refine Stop.intro ?_
    (rename Fr _ _ _ _ => F3)
    refine RetW.intro F3 ?_
    first | (rw [decide_eq_true hab]; rfl) | (rw [decide_eq_false hab]; rfl)
end Mine
end
section
open PySem PySem.W PyProof.Rows PySem.Calls
set_option Elab.async false
set_option maxRecDepth 100000
set_option maxHeartbeats 8000000
set_option pp.deepTerms false
namespace Mine
local macro_rules | `(tactic| k_asm) => `(tactic| (with_reducible refine' TupI.keeps ?ti1 ?ti2; (case ti1 => assumption); (case ti2 => first | exact Fr.keep (by assumption) | exact fun b o e => Fr.keep (by assumption) b o (Fr.keep (by assumption) b o e))))
local macro_rules | `(tactic| k_inst) => `(tactic| first | (refine InstAt.keepsIn (by assumption) (Fr.keep (by k_asm))) | (refine InstAt.keepsIn (by assumption) (fun b o e => Fr.keep (by k_asm) b o (Fr.keep (by k_asm) b o e))))
local macro_rules | `(tactic| walk_at "eval Call Attribute") => `(tactic| (k_here; (with_reducible show wpAny _ _ (eval (Expr.Call (Expr.Attribute _ _ _) [Expr.Starred _ _] [] _) _) _ _ _); refine methodCall_star ?_))
local macro_rules | `(tactic| walk_at "getAttr ref") => `(tactic| (k_here; k_dflt (refine' getattr_sm ?k1 ?k2 ?k4 ?k5 ?k6 ?k7 ?k9 ?k10 ?k11 ?k12 ?k13 ?k14 ?_; (case k1 => k_asm); (case k2 => k_asm); (case k4 => k_inst); (case k5 => k_is); (case k6 => k_is); (case k7 => k_is); (case k9 => k_is); (case k10 => k_is); (case k11 => decide +kernel); (case k12 => k_get); (case k13 => k_is); (case k14 => k_handed); k_whole)))
local macro_rules | `(tactic| walk_at "call ref") => `(tactic| (k_here; (with_reducible show wpAny _ _ (call (Value.ref 100) _) _ _ _); refine wpAny_held ?_))
local macro_rules | `(tactic| walk_at "callWith ref") => `(tactic| (k_here; (with_reducible show wpAny _ _ (callWith _ (Value.ref _) _ (backTo _ (starEach [Expr.Starred _ _] _)) []) _ _ _); k_dflt (refine' callWith_SM ?k1 ?k2 ?k3 ?k4 ?_; (case k1 => k_asm); (case k2 => k_asm); (case k3 => k_mem); (case k4 => k_is); k_whole)))
local macro_rules | `(tactic| walk_at "call builtin:all") => `(tactic| (k_here; (with_reducible show wpAny _ _ (call (Value.builtin "all") [Value.ref _]) _ _ _); k_dflt (refine' all_two ?k1 ?k2 ?k3 ?k4 ?k5 ?k6 ?k7 ?k8 ?_; (case k1 => k_asm); (case k2 => k_asm); (case k3 => rfl); (case k4 => (obtain hN := News.get (by k_asm) (by k_mem); exact ⟨_, hN, rfl, _, rfl⟩)); (case k5 => k_asm); (case k6 => k_asm); (case k7 => omega); (case k8 => omega); k_whole); intro h' tk' F' N'; (try k_sweep)))
def QuickIs (na nb : List Int) (v : Value) : Prop :=
  (na = nb ∧ ∃ t, v = .int 1 t) ∨ (na ≠ nb ∧ (na = [] ∨ nb = []) ∧ ∃ t, v = .int 0 t) ∨ (na ≠ nb ∧ na ≠ [] ∧ nb ≠ [] ∧ v = .none)
theorem c178 {w : World} {A₀ : Around} {base h₀ : Heap} {outer : List Env} {L : Addr} {m mg mb : Str → Option Value} {mean : ExcName → Option Value} {p : Program} {loose : List Str} {s : Shared} {env : Env}
    {x C a b : Addr} {fav wz : Bool} {na nb : List Int} (hC : C = 238 ∨ C = 216) (hI : SelfI s.heap x C fav wz)
    (B : Below A₀ base outer h₀) (F : Fr h₀ L s.heap m) (X : (hd.heap_39 w.params).In h₀) (T : Top p loose mean mg mb h₀) (hf : env.frame = some L) (hk : env.scope.kind = .function)
    (hta : TupI s.heap a na) (htb : TupI s.heap b nb) (la : na.length ≤ 18) (lb : nb.length ≤ 18) :
    codeAny (model PySem.Challenge.rw_br0036_01.row.prog w) (cB env outer) (.call (.ref 178) ⟨[.ref x, .ref a, .ref b], []⟩) (RetW s (fun _ v => QuickIs na nb v)) s := by
  obtain ⟨dx, h1, h2, h3, h4, t1, t2, t3, t4, tq, nd, I⟩ := hI
  revert X; k_fill; intro X
  k_dflt (refine' code_restP ?k1 ?k2 ?k3 ?k5 ?kA ?kF ?kK ?k6 ?k7 ?k8 ?kV ?kP ?kG ?kB ?kD ?_ ?c2 ?c3 ?c4; (case kA => exact rfl); (case kF => exact hf); (case kK => exact hk); (case k1 => k_asm); (case k2 => k_asm); (case k3 => k_asm); (case k5 => k_asm); (case k6 => k_is); (case k7 => k_is); (case k8 => k_room); (case kV => kl_lit); (case kP => exact rfl); (case kG => exact fun _ => rfl); (case kB => exact fun _ => rfl); (case kD => decide +kernel); (case c2 => exact rfl); (case c3 => exact rfl); (case c4 => exact rfl); k_whole; clear B F X T; intro D' L' h' tk' cells' l1' F' N' Y' B' X' T'; (first | k_cells Y' | (have hY := cells_none Y'; subst hY; clear Y')); (try simp only [List.cons_append, List.nil_append] at N'); (try dsimp only); (try k_fold))
  rcases hC with rfl | rfl
  all_goals
    (w_strict k_steps)
    refine Stop.intro ?_
    (rename Fr _ _ _ _ => F1); (rename News _ _ _ _ => N1)
    refine call_pure (c100 B' F1 X' T' rfl rfl (by k_asm) (by k_asm) la lb) rfl rfl (by exact (by decide : 390 + 1 ≤ 400)) (by exact (by decide : 500 + 3 ≤ 1000)) F1 N1 ?_
    clear F1 N1
    intro v h1 tk1 F1 N1 _ hv
    subst hv
    by_cases hab : na = nb
    · rw [decide_eq_true hab]
      (w_strict k_steps)
      all_goals (try dsimp only)
      refine Stop.intro ?_
      (rename Fr _ _ _ _ => F3)
      exact RetW.intro F3 (Or.inl ⟨hab, _, rfl⟩)
    · rw [decide_eq_false hab]
      (w_strict k_steps)
      all_goals (try dsimp only)
      · refine Stop.intro ?_
        (rename Fr _ _ _ _ => F3); (rename (_ = true) => hz)
        refine RetW.intro F3 (Or.inr (Or.inr ⟨hab, ?_, ?_, rfl⟩)) <;> (rintro rfl; simp at hz)
      · refine Stop.intro ?_
        (rename Fr _ _ _ _ => F3); (rename (_ = false) => hz)
        refine RetW.intro F3 (Or.inr (Or.inl ⟨hab, ?_, _, rfl⟩))
        cases na with
        | nil => exact Or.inl rfl
        | cons x xs =>
          cases nb with
          | nil => exact Or.inr rfl
          | cons y ys => simp at hz
end Mine
end
section
open PySem PySem.W PyProof.Rows PySem.Calls
set_option Elab.async false
set_option maxRecDepth 100000
set_option maxHeartbeats 8000000
namespace Mine
def rngObj (x left : Int) : Obj := { cls := .type "range_iterator", data := .fields #[rawInt x, rawInt left, rawInt 1] }
section
variable {prog : Program} {w : World} {A : Around} {E : Value → Shared → Prop} {s : Shared} {env : Env} {h₀ : Heap}
theorem iter_rangeL {L : Addr} {m : Str → Option Value} {news : List (Addr × Obj)} {r : Addr} {a b : Int} {t u v : Tok} {Q : Value → Shared → Prop} (F : Fr h₀ L s.heap m) (N : News h₀ L s.heap news) (hr : IsRange s.heap r a b 1 t u v) (hsmall : Builtin.Range.small a b 1 = true)
    (h : ∀ it h', Fr h₀ L h' m → News h₀ L h' ((it, rngObj a (Builtin.Range.rangeSize a b 1)) :: news) → (∀ p ∈ news, p.1 < it) → Q (.ref it) { s with heap := h' }) :
    wpAny (model prog w) A (pyIter (.ref r)) Q E s :=
  wpAny_pyIter_range hr hsmall (h _ _ (F.push _) (N.push F _) fun p hp => Heap.lt_size (N p hp).1)

theorem loop_rangeN {R : Result → Shared → Prop} {x : Str} {px : Pos} {body : List Stmt} {it : Addr} {a left : Int} {n : Nat} {m : Str → Option Value} {news : List (Addr × Obj)} (hh : A.handled = none) (hx : env.kindOf x = some .local)
    (hp : (env.scope.kind == .class || (env.scope.kind == .module && env.locals != env.globals)) = false)
    (hleft : left = (n : Int)) (F : Fr h₀ env.locals s.heap m) (N : News h₀ env.locals s.heap ((it, rngObj a left) :: news)) (hnw : ∀ p ∈ news, p.1 ≠ it)
    (J : Nat → (Str → Option Value) → List (Addr × Obj) → Prop) (h0 : J 0 m news)
    (step : ∀ i t m₁ news₁ oi h tk, i < n → J i m₁ news₁ → (∀ p ∈ news₁, p.1 ≠ it) → Fr h₀ env.locals h (fun y => if y = x then some (.int (a + (i : Int)) t) else m₁ y) → News h₀ env.locals h ((it, oi) :: news₁) →
      wpAny (model prog w) A (execs body env) (fun f s₃ => Stop (model prog w) A (TurnT h₀ env.locals s [(it, oi)] (J (i + 1)) R f) s₃) (fun _ _ => False) { s with heap := h, toks := tk })
    (hR : ∀ h' tk m' news', Fr h₀ env.locals h' m' → News h₀ env.locals h' news' → J n m' news' → R (.ok .next) { s with heap := h', toks := tk }) :
    codeAny (model prog w) A (.forLoop (.Name x px) (.ref it) body [] env) R s := by
  have hit := N _ (List.mem_cons_self ..)
  refine codeAny_forLoop_frV (Walks.range (A := A) hh it a 1 n) hx hp (by simpa using fun e => hit.2.1 e.symm) (by simpa using hit.2.2) (fun p hp => by simpa using hnw p hp) ?_ F (fun p hp => N p (List.mem_cons_of_mem _ hp)) J h0 ?_ (fun h' tk m' news' F' N' _ j => hR h' tk m' news' F' N' j)
  · have e := hit.1
    subst hleft
    show s.heap.get? it = _
    rw [e]
    simp [rngObj]
  · rintro i v m₁ news₁ s₁ own ⟨h, tk, rfl⟩ hi ⟨t, rfl⟩ hJ hn1 hown1 hown2 hown3 hst F₁ N₁
    obtain ⟨oi, hoi⟩ : ∃ oi, h.get? it = some oi := ⟨_, hst⟩
    have hmem : (it, oi) ∈ own := hown3 it (by simp) hit.2.2 oi hoi
    have hall : ∀ p ∈ own, p = (it, oi) := by
      intro p hp
      have e1 : p.1 = it := by simpa using hown1 p hp
      have e2 := hown2 p hp
      rw [e1] at e2
      have e3 : some p.2 = some oi := e2.symm.trans hoi
      exact Prod.ext e1 (Option.some.inj e3)
    rw [Int.mul_one] at F₁
    have z := step i t m₁ news₁ oi h tk hi hJ (fun p hp => by simpa using hn1 p hp) F₁ (fun p hp => by
      rcases List.mem_cons.mp hp with rfl | hp
      · exact N₁ _ (List.mem_append_left _ hmem)
      · exact N₁ _ (List.mem_append_right _ hp))
    have conv : ∀ s₃, TurnT h₀ env.locals s [(it, oi)] (J (i + 1)) R .next s₃ → LoopStepU h₀ env.locals [it] own (J (i + 1)) { s with heap := h, toks := tk } .next s₃ := by
      rintro s₃ ⟨h', tk', m', news', nx, rfl, F', N', ho, hx', hd, j⟩
      refine ⟨rfl, h', tk', m', nx, rfl, F', fun p hp => ?_, fun p hp => ?_, j⟩
      · rcases List.mem_append.mp hp with hp | hp
        · rw [hall p hp]; exact N' _ (ho _ (List.mem_singleton.mpr rfl))
        · exact N' _ (hx' p hp)
      · simpa using hd p hp (it, oi) (List.mem_singleton.mpr rfl)
    refine wpAny_mono (wpAny_stop z) (fun f s₃ h₃ => ?_) fun _ _ x => x.elim
    cases f with
    | ret v => exact h₃
    | brk => exact h₃
    | cont => exact LoopStepV.cont (conv _ h₃)
    | next => exact LoopStepV.next (conv _ h₃)

theorem call_enumL {L : Addr} {m : Str → Option Value} {news : List (Addr × Obj)} {l : Addr} {items : Array Value} {Q : Value → Shared → Prop} (FR : Fr h₀ L s.heap m) (N : News h₀ L s.heap news) (hL : s.heap.IsList l items)
    (h : ∀ it oi h', Fr h₀ L h' m → News h₀ L h' ((it + 1, enumObj it 0 .none) :: (it, oi) :: news) → (∀ p ∈ news, p.1 < it) → oi.cls = .type "list_iterator" → oi.data = .fields #[.ref l, .int 0 0] → Q (.ref (it + 1)) { s with heap := h' }) :
    wpAny (model prog w) A (call (.type "enumerate") [.ref l]) Q E s := by
  refine call_enumerate_list hL fun h' he hit hsz hk => ?_
  obtain ⟨oi, ho, hc, hd⟩ := hit
  have hls : h₀.objs.size ≤ s.heap.objs.size := Nat.le_trans FR.above (Nat.le_of_lt FR.ns.lt)
  have fresh : ∀ x, s.heap.objs.size ≤ x → x ≠ L ∧ h₀.get? x = none := fun x hx => ⟨fun e => by rw [e] at hx; exact absurd FR.ns.lt (Nat.not_lt.mpr hx), by
    cases q : h₀.get? x with
    | none => rfl
    | some o => exact absurd (Nat.lt_of_lt_of_le (Heap.lt_size q) (Nat.le_trans hls hx)) (Nat.lt_irrefl _)⟩
  refine h s.heap.objs.size oi h' (FR.kept hk) (fun p hp => ?_) (fun p hp => Heap.lt_size (N p hp).1) hc hd
  rcases List.mem_cons.mp hp with rfl | hp
  · exact ⟨he, fresh _ (Nat.le_succ _)⟩
  · rcases List.mem_cons.mp hp with rfl | hp
    · exact ⟨ho, fresh _ (Nat.le_refl _)⟩
    · exact ⟨hk _ _ (N p hp).1, (N p hp).2⟩

theorem loop_enumB {R : Result → Shared → Prop} {elts : List Expr} {k : Nat} {pt : Pos} {body : List Stmt} {it l : Addr} {vs : List Value} {bs : List Bool} {c : Nat} {oi₀ : Obj} {m : Str → Option Value} {news : List (Addr × Obj)} (hh : A.handled = none)
    (hb : LSm.BoolsAre vs bs) (hc0 : oi₀.cls = .type "list_iterator") (hd0 : oi₀.data = .fields #[.ref l, .int 0 0]) (F : Fr h₀ env.locals s.heap m) (N : News h₀ env.locals s.heap ((it + 1, enumObj it 0 .none) :: (it, oi₀) :: (l, W.listOf vs.toArray c) :: news)) (hli : @LT.lt Nat _ l it) (hnw : ∀ p ∈ news, p.1 < it) (hnl : ∀ p ∈ news, p.1 ≠ l)
    (J : Nat → (Str → Option Value) → List (Addr × Obj) → Prop) (h0 : J 0 m news)
    (step : ∀ i t m₁ news₁ oe oi ol h tk T d e sl, i < bs.length → J i m₁ news₁ → (∀ p ∈ news₁, p.1 ≠ it ∧ p.1 ≠ it + 1 ∧ p.1 ≠ l) → it + 1 < T → l < T → (∀ p ∈ news₁, p.1 < T) →
      Fr h₀ env.locals h m₁ → News h₀ env.locals h ((T, { cls := .type "tuple", dict := d, data := .seq #[.int i t, .bool (bs.getD i false)] e, slots := sl }) :: (it + 1, oe) :: (it, oi) :: (l, ol) :: news₁) →
      wpAny (model prog w) A (assign (.Tuple elts k pt) env (.ref T)) (fun _ s₂ => wpAny (model prog w) A (execs body env) (fun f s₃ => Stop (model prog w) A (TurnT h₀ env.locals s [(it + 1, oe), (it, oi), (l, ol)] (J (i + 1)) R f) s₃) (fun _ _ => False) s₂) (fun _ _ => False) { s with heap := h, toks := tk })
    (hR : ∀ h' tk m' news', Fr h₀ env.locals h' m' → News h₀ env.locals h' news' → J bs.length m' news' → R (.ok .next) { s with heap := h', toks := tk }) :
    codeAny (model prog w) A (.forLoop (.Tuple elts k pt) (.ref (it + 1)) body [] env) R s := by
  have hsz : vs.toArray.size = bs.length := by rw [List.size_toArray, hb.length]
  have n1 := N _ (List.mem_cons_self ..)
  have n2 := N _ (List.mem_cons_of_mem _ (List.mem_cons_self ..))
  have n3 := N _ (List.mem_cons_of_mem _ (List.mem_cons_of_mem _ (List.mem_cons_self ..)))
  have hne : l ≠ it := Nat.ne_of_lt hli
  have hne1 : l ≠ it + 1 := Nat.ne_of_lt (Nat.lt_succ_of_lt hli)
  have D := Draws.list (prog := prog) (w := w) (A := A.in1) (by simpa using hh) it l hne vs.toArray
  have W := WalksT.enumerateD (A := A) D (it + 1) (Nat.succ_ne_self it) (by simp only [List.mem_cons, List.not_mem_nil, or_false, not_or]; exact ⟨Nat.succ_ne_self it, Ne.symm hne1⟩) (by simp)
  have hn0 : ∀ p ∈ news, p.1 ∉ [it + 1, it, l] := fun p hp hq => by
    have h9 : @LT.lt Nat _ p.1 it := hnw p hp
    simp only [List.mem_cons, List.not_mem_nil, or_false] at hq
    rcases hq with q | q | q
    · rw [q] at h9; exact absurd h9 (Nat.not_lt.mpr (Nat.le_succ _))
    · rw [q] at h9; exact absurd h9 (Nat.lt_irrefl _)
    · exact hnl p hp q
  refine loop_T (fo := [it + 1, it, l]) W ?_ ?_ ?_ ?_ ?_ ⟨⟨.none, n1.1⟩, ⟨_, n2.1, hc0, hd0⟩, ⟨_, n3.1, rfl, _, rfl⟩⟩ F (fun p hp => N p (List.mem_cons_of_mem _ (List.mem_cons_of_mem _ (List.mem_cons_of_mem _ hp)))) hn0 J h0 ?_ (by rw [hsz]; exact hR)
  · intro b hb; exact .inl hb
  · intro b hb
    simp only [List.mem_cons, List.not_mem_nil, or_false] at hb ⊢
    rcases hb with rfl | rfl <;> simp
  · intro b hb
    simp only [List.mem_cons, List.not_mem_nil, or_false] at hb
    rcases hb with rfl | rfl | rfl
    · exact n1.2.2
    · exact n2.2.2
    · exact n3.2.2
  · intro hb
    simp only [List.mem_cons, List.not_mem_nil, or_false] at hb
    rcases hb with q | q | q
    · exact n1.2.1 q.symm
    · exact n2.2.1 q.symm
    · exact n3.2.1 q.symm
  · rintro h i ⟨⟨old, he⟩, hi, hl⟩ b hb
    simp only [List.mem_cons, List.not_mem_nil, or_false] at hb
    rcases hb with rfl | rfl | rfl
    · exact ⟨_, he⟩
    · obtain ⟨o, ho, _⟩ := hi; exact ⟨o, ho⟩
    · obtain ⟨o, ho, _⟩ := hl; exact ⟨o, ho⟩
  · rintro i vals m₁ news₁ own h tk T oT hi ⟨t, v, hv, rfl⟩ hJ hown hn1 hT hc ⟨e, hd⟩ F₁ N₁
    have hi' : i < bs.length := hsz ▸ hi
    have hv' : vs[i]? = some v := by simpa using (show vs.toArray[i]? = some v from hv)
    have hvb : v = .bool (bs.getD i false) := Option.some.inj (hv'.symm.trans (kbo_at hb i hi'))
    subst hvb
    obtain _ | ⟨⟨a, oe⟩, _ | ⟨⟨b, oi⟩, _ | ⟨⟨c3, ol⟩, _ | ⟨x4, r4⟩⟩⟩⟩ := own
    · simp at hown
    · simp at hown
    · simp at hown
    · simp only [List.map_cons, List.map_nil, List.cons.injEq, and_true] at hown
      obtain ⟨e1, e2, e3⟩ := hown
      subst e1 e2 e3
      obtain ⟨c', d, dt, sl⟩ := oT
      replace hc : c' = .type "tuple" := hc
      replace hd : dt = .seq #[.int i t, .bool (bs.getD i false)] e := hd
      subst hc hd
      refine step i t m₁ news₁ oe oi ol h tk T d e sl hi' hJ (fun p hp => ?_) (hT _ (List.mem_append_left _ (List.mem_cons_self ..))) (hT _ (List.mem_append_left _ (List.mem_cons_of_mem _ (List.mem_cons_of_mem _ (List.mem_cons_self ..))))) (fun p hp => hT p (List.mem_append_right _ hp)) F₁ N₁
      have := hn1 p hp
      simp only [List.mem_cons, List.not_mem_nil, or_false, not_or] at this
      exact ⟨this.2.1, this.1, this.2.2⟩
    · simp at hown
end
end Mine
end
section
open PySem PySem.W PyProof.Rows PySem.Calls
set_option Elab.async false
set_option maxRecDepth 100000
set_option maxHeartbeats 8000000
namespace Mine
def okAt (R : Int) (na nb : List Int) (b2 : List Bool) (i j : Nat) : Bool := decide ((i : Int) - R ≤ j) && decide ((j : Int) ≤ i + R) && (!(b2.getD j false) && decide (nb.getD j 0 = na.getD i 0))
def hit (R : Int) (na nb : List Int) (b2 : List Bool) (i : Nat) : Option Nat := (List.range nb.length).find? (okAt R na nb b2 i)
def flagsG (R : Int) (na nb : List Int) : Nat → List Bool × List Bool × Nat
  | 0 => (List.replicate na.length false, List.replicate nb.length false, 0)
  | i + 1 => match hit R na nb (flagsG R na nb i).2.1 i with
    | some j => ((flagsG R na nb i).1.set i true, (flagsG R na nb i).2.1.set j true, (flagsG R na nb i).2.2 + 1)
    | none => flagsG R na nb i
theorem find_range {n : Nat} {p : Nat → Bool} {j : Nat} (hj : j < n) (h : p j = true) (hl : ∀ k, k < j → p k = false) : (List.range n).find? p = some j := by
  rw [List.find?_range_eq_some]
  exact ⟨h, by simpa using hj, fun k hk => by simpa using hl k hk⟩
theorem find_range_none {n : Nat} {p : Nat → Bool} (hl : ∀ k, k < n → p k = false) : (List.range n).find? p = none := by
  rw [List.find?_eq_none]
  intro k hk
  simpa using hl k (by simpa using hk)
theorem hit_some {R : Int} {na nb : List Int} {b2 : List Bool} {i j : Nat} (hj : j < nb.length) (h : okAt R na nb b2 i j = true) (hl : ∀ k, k < j → okAt R na nb b2 i k = false) : hit R na nb b2 i = some j := find_range hj h hl
theorem hit_none {R : Int} {na nb : List Int} {b2 : List Bool} {i : Nat} (hl : ∀ k, k < nb.length → okAt R na nb b2 i k = false) : hit R na nb b2 i = none := find_range_none hl
theorem flagsG_some {R : Int} {na nb : List Int} {i j : Nat} {b1 b2 : List Bool} {c : Nat} (e : flagsG R na nb i = (b1, b2, c)) (h : hit R na nb b2 i = some j) : flagsG R na nb (i + 1) = (b1.set i true, b2.set j true, c + 1) := by
  rw [flagsG, e]; simp only [h]
theorem flagsG_none {R : Int} {na nb : List Int} {i : Nat} {b1 b2 : List Bool} {c : Nat} (e : flagsG R na nb i = (b1, b2, c)) (h : hit R na nb b2 i = none) : flagsG R na nb (i + 1) = (b1, b2, c) := by
  rw [flagsG, e]; simp only [h]
theorem flagsG_len (R : Int) (na nb : List Int) : ∀ i, (flagsG R na nb i).1.length = na.length ∧ (flagsG R na nb i).2.1.length = nb.length
  | 0 => by simp [flagsG]
  | i + 1 => by
    have h := flagsG_len R na nb i
    rw [flagsG]
    cases hit R na nb (flagsG R na nb i).2.1 i with
    | none => exact h
    | some j => simpa using h
theorem flagsG_le (R : Int) (na nb : List Int) : ∀ i, (flagsG R na nb i).2.2 ≤ i
  | 0 => by simp [flagsG]
  | i + 1 => by
    have h := flagsG_le R na nb i
    rw [flagsG]
    cases hit R na nb (flagsG R na nb i).2.1 i with
    | none => exact Nat.le_succ_of_le h
    | some j => exact Nat.succ_le_succ h

/-- the next true flag from k on -/
def nextT (b2 : List Bool) (k : Nat) : Option Nat := (List.range b2.length).find? fun j => decide (k ≤ j) && b2.getD j false
def transG (b1 b2 : List Bool) (na nb : List Int) : Nat → Nat × Nat
  | 0 => (0, 0)
  | i + 1 => if b1.getD i false = true then (match nextT b2 (transG b1 b2 na nb i).1 with
      | some j => (j + 1, if na.getD i 0 ≠ nb.getD j 0 then (transG b1 b2 na nb i).2 + 1 else (transG b1 b2 na nb i).2)
      | none => transG b1 b2 na nb i) else transG b1 b2 na nb i
theorem nextT_some {b2 : List Bool} {k j : Nat} (hj : j < b2.length) (hk : k ≤ j) (h : b2.getD j false = true) (hl : ∀ k', k ≤ k' → k' < j → b2.getD k' false = false) : nextT b2 k = some j := by
  refine find_range hj (by rw [h]; simp [hk]) fun k' hk' => ?_
  by_cases hkk : k ≤ k'
  · rw [hl k' hkk hk']; simp
  · simp [hkk]
theorem nextT_none {b2 : List Bool} {k : Nat} (hl : ∀ k', k ≤ k' → k' < b2.length → b2.getD k' false = false) : nextT b2 k = none := by
  refine find_range_none fun k' hk' => ?_
  by_cases hkk : k ≤ k'
  · rw [hl k' hkk hk']; simp
  · simp [hkk]
theorem transG_le (b1 b2 : List Bool) (na nb : List Int) : ∀ i, (transG b1 b2 na nb i).2 ≤ i
  | 0 => by simp [transG]
  | i + 1 => by
    have h := transG_le b1 b2 na nb i
    rw [transG]
    split
    · split
      · dsimp only; split <;> omega
      · omega
    · omega
/-- how many flags stand before k -/
def cnt (b : List Bool) (k : Nat) : Nat := ((List.range k).filter fun j => b.getD j false).length
theorem cnt_succ (b : List Bool) (k : Nat) : cnt b (k + 1) = cnt b k + (if b.getD k false = true then 1 else 0) := by
  unfold cnt
  rw [List.range_succ, List.filter_append, List.length_append]
  congr 1
  rw [List.filter_cons]
  cases b.getD k false <;> simp
theorem cnt_mono (b : List Bool) {k l : Nat} (h : k ≤ l) : cnt b k ≤ cnt b l := by
  induction h with
  | refl => exact Nat.le_refl _
  | step _ ih => rw [cnt_succ]; omega
theorem cnt_set {b : List Bool} {j : Nat} (hj : j < b.length) (hf : b.getD j false = false) : ∀ k, cnt (b.set j true) k = cnt b k + (if j < k then 1 else 0)
  | 0 => by simp [cnt]
  | k + 1 => by
    rw [cnt_succ, cnt_succ, cnt_set hj hf k]
    by_cases e : j = k
    · subst e
      have h1 : (b.set j true).getD j false = true := by simp [List.getD_eq_getElem?_getD, hj]
      rw [h1, hf]; simp
    · have h1 : (b.set j true).getD k false = b.getD k false := by simp [List.getD_eq_getElem?_getD, List.getElem?_set, e]
      rw [h1]
      have : (j < k) ↔ (j < k + 1) := by omega
      simp only [this]
      omega
theorem cnt_all_false (n k : Nat) : cnt (List.replicate n false) k = 0 := by
  induction k with
  | zero => simp [cnt]
  | succ k ih =>
    rw [cnt_succ, ih]
    have : (List.replicate n false).getD k false = false := by
      rw [List.getD_eq_getElem?_getD, List.getElem?_replicate]; split <;> rfl
    rw [this]; simp
theorem nextT_spec {b2 : List Bool} {k j : Nat} (h : nextT b2 k = some j) : j < b2.length ∧ k ≤ j ∧ b2.getD j false = true := by
  unfold nextT at h
  rw [List.find?_range_eq_some] at h
  obtain ⟨h1, h2, _⟩ := h
  simp only [Bool.and_eq_true, decide_eq_true_eq] at h1
  exact ⟨by simpa using h2, h1.1, h1.2⟩
theorem transG_skip {b1 b2 : List Bool} {na nb : List Int} {i : Nat} (h : b1.getD i false = false) : transG b1 b2 na nb (i + 1) = transG b1 b2 na nb i := by
  rw [transG, if_neg (by rw [h]; decide)]
theorem transG_ne {b1 b2 : List Bool} {na nb : List Int} {i j : Nat} (h : b1.getD i false = true) (hj : nextT b2 (transG b1 b2 na nb i).1 = some j) (hne : na.getD i 0 ≠ nb.getD j 0) : transG b1 b2 na nb (i + 1) = (j + 1, (transG b1 b2 na nb i).2 + 1) := by
  rw [transG, if_pos h, hj]; simp only [hne, ne_eq, not_false_eq_true, if_true]
theorem transG_eq {b1 b2 : List Bool} {na nb : List Int} {i j : Nat} (h : b1.getD i false = true) (hj : nextT b2 (transG b1 b2 na nb i).1 = some j) (he : na.getD i 0 = nb.getD j 0) : transG b1 b2 na nb (i + 1) = (j + 1, (transG b1 b2 na nb i).2) := by
  rw [transG, if_pos h, hj]; simp only [he, ne_eq, not_true_eq_false, if_false]
theorem transG_le1 (b1 b2 : List Bool) (na nb : List Int) : ∀ i, (transG b1 b2 na nb i).1 ≤ b2.length
  | 0 => by simp [transG]
  | i + 1 => by
    have h := transG_le1 b1 b2 na nb i
    cases hb : b1.getD i false with
    | false => rw [transG_skip hb]; exact h
    | true =>
      rw [transG, if_pos hb]
      split
      · rename_i j hj
        have := (nextT_spec hj).1
        exact this
      · exact h
end Mine
end
section
open PySem PySem.W PyProof.Rows PySem.Calls
set_option Elab.async false
set_option maxRecDepth 100000
set_option maxHeartbeats 1000000
namespace Mine
theorem hit_spec {R : Int} {na nb : List Int} {b2 : List Bool} {i j : Nat} (h : hit R na nb b2 i = some j) : j < nb.length ∧ okAt R na nb b2 i j = true ∧ ∀ k, k < j → okAt R na nb b2 i k = false := by
  unfold hit at h
  rw [List.find?_range_eq_some] at h
  obtain ⟨h1, h2, h3⟩ := h
  exact ⟨by simpa using h2, h1, fun k hk => by simpa using h3 k hk⟩
theorem okAt_spec {R : Int} {na nb : List Int} {b2 : List Bool} {i j : Nat} : okAt R na nb b2 i j = true ↔ (i : Int) - R ≤ j ∧ (j : Int) ≤ i + R ∧ b2.getD j false = false ∧ nb.getD j 0 = na.getD i 0 := by
  unfold okAt
  simp only [Bool.and_eq_true, decide_eq_true_eq, Bool.not_eq_true']
  constructor
  · rintro ⟨⟨h1, h2⟩, h3, h4⟩; exact ⟨h1, h2, h3, h4⟩
  · rintro ⟨h1, h2, h3, h4⟩; exact ⟨⟨h1, h2⟩, h3, h4⟩
theorem getD_set_ne {b : List Bool} {i k : Nat} (h : i ≠ k) : (b.set i true).getD k false = b.getD k false := by
  simp [List.getD_eq_getElem?_getD, List.getElem?_set, h]
theorem getD_set_eq {b : List Bool} {i : Nat} (h : i < b.length) : (b.set i true).getD i false = true := by
  simp [List.getD_eq_getElem?_getD, h]
theorem getD_false_of_le {b : List Bool} {k : Nat} (h : b.length ≤ k) : b.getD k false = false := by
  simp [List.getD_eq_getElem?_getD, List.getElem?_eq_none h]
theorem lt_of_getD {b : List Bool} {k : Nat} (h : b.getD k false = true) : k < b.length := by
  rcases Nat.lt_or_ge k b.length with h1 | h1
  · exact h1
  · rw [getD_false_of_le h1] at h; cases h
theorem repl_getD (n k : Nat) : (List.replicate n false).getD k false = false := by
  rw [List.getD_eq_getElem?_getD, List.getElem?_replicate]; split <;> rfl

theorem flagsG_inv (R : Int) (na nb : List Int) : ∀ i, i ≤ na.length → cnt (flagsG R na nb i).1 na.length = (flagsG R na nb i).2.2 ∧ cnt (flagsG R na nb i).2.1 nb.length = (flagsG R na nb i).2.2 ∧ ∀ k, i ≤ k → (flagsG R na nb i).1.getD k false = false
  | 0, _ => by
    refine ⟨cnt_all_false _ _, cnt_all_false _ _, fun k _ => repl_getD _ _⟩
  | i + 1, hi => by
    obtain ⟨h1, h2, h3⟩ := flagsG_inv R na nb i (by omega)
    have hl := flagsG_len R na nb i
    rw [flagsG]
    cases hh : hit R na nb (flagsG R na nb i).2.1 i with
    | none => exact ⟨h1, h2, fun k hk => h3 k (by omega)⟩
    | some j =>
      obtain ⟨a1, a2, _⟩ := hit_spec hh
      obtain ⟨_, _, a3, _⟩ := okAt_spec.mp a2
      refine ⟨?_, ?_, fun k hk => ?_⟩
      · show cnt ((flagsG R na nb i).1.set i true) na.length = _
        rw [cnt_set (by omega) (h3 i (Nat.le_refl _)), h1, if_pos (by omega)]
      · show cnt ((flagsG R na nb i).2.1.set j true) nb.length = _
        rw [cnt_set (by omega) a3, h2, if_pos a1]
      · show ((flagsG R na nb i).1.set i true).getD k false = false
        rw [getD_set_ne (by omega)]
        exact h3 k (by omega)

theorem cnt_gap {b : List Bool} {k : Nat} : ∀ {j : Nat}, k ≤ j → (∀ x, k ≤ x → x < j → b.getD x false = false) → cnt b j = cnt b k := by
  intro j hj
  induction hj with
  | refl => intro _; rfl
  | step h ih =>
    intro hx
    rw [cnt_succ, ih fun x a b => hx x a (Nat.lt_succ_of_lt b), hx _ h (Nat.lt_succ_self _)]
    simp
theorem nextT_full {b2 : List Bool} {k j : Nat} (h : nextT b2 k = some j) : j < b2.length ∧ k ≤ j ∧ b2.getD j false = true ∧ ∀ x, k ≤ x → x < j → b2.getD x false = false := by
  unfold nextT at h
  rw [List.find?_range_eq_some] at h
  obtain ⟨h1, h2, h3⟩ := h
  simp only [Bool.and_eq_true, decide_eq_true_eq] at h1
  refine ⟨by simpa using h2, h1.1, h1.2, fun x hx hj => ?_⟩
  have := h3 x hj
  simpa [hx] using this
theorem nextT_no {b2 : List Bool} {k : Nat} (h : nextT b2 k = none) : ∀ x, k ≤ x → x < b2.length → b2.getD x false = false := by
  unfold nextT at h
  rw [List.find?_eq_none] at h
  intro x hx hl
  have := h x (by simpa using hl)
  simpa [hx] using this

/-- the true places -/
def tp (b : List Bool) : List Nat := (List.range b.length).filter fun j => b.getD j false
theorem tp_length (b : List Bool) : (tp b).length = cnt b b.length := rfl
theorem tp_at {b : List Bool} {j : Nat} (h : b.getD j false = true) : (tp b).getD (cnt b j) 0 = j := by
  have hj := lt_of_getD h
  obtain ⟨r, hr⟩ : ∃ r, b.length = j + (r + 1) := ⟨b.length - j - 1, by omega⟩
  unfold tp
  rw [hr, List.range_add, List.filter_append, List.range_succ_eq_map, List.map_cons, List.filter_cons]
  have : b.getD (j + 0) false = true := h
  rw [if_pos this]
  have hc : cnt b j = (List.filter (fun j => b.getD j false) (List.range j)).length := rfl
  rw [List.getD_eq_getElem?_getD, hc, List.getElem?_append_right (Nat.le_refl _)]
  simp

def mis (b1 b2 : List Bool) (na nb : List Int) (q : Nat) : Nat := ((List.range q).filter fun k => decide (na.getD ((tp b1).getD k 0) 0 ≠ nb.getD ((tp b2).getD k 0) 0)).length
theorem mis_succ (b1 b2 : List Bool) (na nb : List Int) (q : Nat) : mis b1 b2 na nb (q + 1) = mis b1 b2 na nb q + (if na.getD ((tp b1).getD q 0) 0 ≠ nb.getD ((tp b2).getD q 0) 0 then 1 else 0) := by
  unfold mis
  rw [List.range_succ, List.filter_append, List.length_append]
  congr 1
  rw [List.filter_cons]
  by_cases h : na.getD ((tp b1).getD q 0) 0 = nb.getD ((tp b2).getD q 0) 0
  · rw [if_neg (by simpa using h), if_neg (by simpa using h)]; rfl
  · rw [if_pos (by simpa using h), if_pos h]; rfl

theorem trans_step {b1 b2 : List Bool} {na nb : List Int} (hc : cnt b1 b1.length ≤ cnt b2 b2.length) {i : Nat} (hi : i < b1.length) (hk : (transG b1 b2 na nb i).1 ≤ b2.length) (hq : cnt b2 (transG b1 b2 na nb i).1 = cnt b1 i) (hb : b1.getD i false = true) :
    ∃ j, nextT b2 (transG b1 b2 na nb i).1 = some j := by
  cases h : nextT b2 (transG b1 b2 na nb i).1 with
  | some j => exact ⟨j, rfl⟩
  | none =>
    exfalso
    have h1 := cnt_gap hk (nextT_no h)
    have h2 := cnt_succ b1 i
    rw [hb] at h2
    have h3 := cnt_mono b1 (show i + 1 ≤ b1.length from hi)
    simp at h2
    omega
theorem trans_inv {b1 b2 : List Bool} {na nb : List Int} (hc : cnt b1 b1.length ≤ cnt b2 b2.length) : ∀ i, i ≤ b1.length → (transG b1 b2 na nb i).1 ≤ b2.length ∧ cnt b2 (transG b1 b2 na nb i).1 = cnt b1 i ∧ (transG b1 b2 na nb i).2 = mis b1 b2 na nb (cnt b1 i)
  | 0, _ => by simp [transG, cnt, mis]
  | i + 1, hi => by
    obtain ⟨h1, h2, h3⟩ := trans_inv hc i (by omega)
    cases hb : b1.getD i false with
    | false =>
      rw [transG_skip hb, cnt_succ, hb]
      exact ⟨h1, by simpa using h2, by simpa using h3⟩
    | true =>
      obtain ⟨j, hj⟩ := trans_step hc (by omega) h1 h2 hb
      obtain ⟨a1, a2, a3, a4⟩ := nextT_full hj
      have c1 : cnt b2 j = cnt b1 i := by rw [cnt_gap a2 a4, h2]
      have t1 := tp_at hb
      have t2 := tp_at a3
      rw [c1] at t2
      have hs : cnt b1 (i + 1) = cnt b1 i + 1 := by rw [cnt_succ, hb]; simp
      have hs2 : cnt b2 (j + 1) = cnt b1 i + 1 := by rw [cnt_succ, a3, c1]; simp
      by_cases he : na.getD i 0 = nb.getD j 0
      · rw [transG_eq hb hj he, hs, mis_succ, t1, t2, if_neg (by simpa using he)]
        exact ⟨a1, hs2, h3⟩
      · rw [transG_ne hb hj he, hs, mis_succ, t1, t2, if_pos he]
        exact ⟨a1, hs2, by show _ = _; rw [h3]⟩
theorem flags_cnt {R : Int} {na nb : List Int} {b1 b2 : List Bool} {c : Nat} (h : flagsG R na nb na.length = (b1, b2, c)) : b1.length = na.length ∧ b2.length = nb.length ∧ cnt b1 b1.length = c ∧ cnt b2 b2.length = c := by
  have h1 := flagsG_len R na nb na.length
  have h2 := flagsG_inv R na nb na.length (Nat.le_refl _)
  rw [h] at h1 h2
  refine ⟨h1.1, h1.2, ?_, ?_⟩
  · rw [show b1.length = na.length from h1.1]; exact h2.1
  · rw [show b2.length = nb.length from h1.2]; exact h2.2.1
theorem next_ok {R : Int} {na nb : List Int} {b1 b2 : List Bool} {c : Nat} (h : flagsG R na nb na.length = (b1, b2, c)) : ∀ i, i < b1.length → b1.getD i false = true → ∃ j, nextT b2 (transG b1 b2 na nb i).1 = some j := by
  intro i hi hb
  obtain ⟨_, _, h3, h4⟩ := flags_cnt h
  have hc : cnt b1 b1.length ≤ cnt b2 b2.length := by omega
  obtain ⟨a1, a2, _⟩ := trans_inv (na := na) (nb := nb) hc i (by omega)
  exact trans_step hc hi a1 a2 hb

/-- the letter's places from i on -/
def pf (c : Int) (xs : List Int) (i : Nat) : List Int := ((List.range' i (xs.length - i)).map (fun (k : Nat) => (k : Int))).filter fun (k : Int) => xs.getD k.toNat 0 == c
theorem pf_zero (c : Int) (xs : List Int) : pf c xs 0 = places c xs := by
  unfold pf places; rw [Nat.sub_zero, List.range_eq_range']
theorem pf_end (c : Int) (xs : List Int) : pf c xs xs.length = [] := by
  unfold pf; rw [Nat.sub_self]; rfl
theorem pf_step {c : Int} {xs : List Int} {i : Nat} (h : i < xs.length) : pf c xs i = (if xs.getD i 0 = c then [(i : Int)] else []) ++ pf c xs (i + 1) := by
  unfold pf
  obtain ⟨r, hr⟩ : ∃ r, xs.length - i = r + 1 := ⟨xs.length - i - 1, by omega⟩
  have hr2 : xs.length - (i + 1) = r := by omega
  rw [hr, hr2, List.range'_succ, List.map_cons, List.filter_cons, Int.toNat_natCast]
  by_cases e : xs.getD i 0 = c
  · rw [if_pos (by simpa using e), if_pos e]; rfl
  · rw [if_neg (by simpa using e), if_neg e]; rfl
theorem mem_places {c : Int} {xs : List Int} {x : Int} : x ∈ places c xs ↔ ∃ k : Nat, k < xs.length ∧ x = k ∧ xs.getD k 0 = c := by
  unfold places
  simp only [List.mem_filter, List.mem_map, List.mem_range, beq_iff_eq]
  constructor
  · rintro ⟨⟨k, hk, rfl⟩, h⟩; exact ⟨k, hk, rfl, by simpa using h⟩
  · rintro ⟨k, hk, rfl, h⟩; exact ⟨⟨k, hk, rfl⟩, by simpa using h⟩
theorem places_lt (c : Int) (xs : List Int) : (places c xs).Pairwise (· < ·) := by
  unfold places
  refine List.Pairwise.filter _ ?_
  rw [List.pairwise_map]
  exact List.pairwise_lt_range.imp fun h => by omega

theorem twoPtr_fst (R : Int) : ∀ (n : Nat) (hs ts : List Int), hs.length + ts.length ≤ n → ((twoPtr R hs ts).map (·.1)).Sublist hs ∧ ((twoPtr R hs ts).map (·.2)).Sublist ts
  | _, [], ts, _ => by rw [twoPtr]; simp
  | _, h :: hs, [], _ => by rw [twoPtr]; simp
  | 0, h :: hs, t :: ts, hn => by simp at hn
  | n + 1, h :: hs, t :: ts, hn => by
    simp only [List.length_cons] at hn
    rw [twoPtr]
    by_cases h1 : (if h - t < 0 then -(h - t) else h - t) ≤ R
    · rw [if_pos h1]
      have := twoPtr_fst R n hs ts (by omega)
      exact ⟨this.1.cons_cons _, this.2.cons_cons _⟩
    · rw [if_neg h1]
      by_cases h3 : h < t
      · rw [if_pos h3]
        have := twoPtr_fst R n hs (t :: ts) (by simp; omega)
        exact ⟨this.1.cons _, this.2⟩
      · rw [if_neg h3]
        have := twoPtr_fst R n (h :: hs) ts (by simp; omega)
        exact ⟨this.1, this.2.cons _⟩
theorem twoPtr_swap {R : Int} (hR : 0 ≤ R) : ∀ (n : Nat) (hs ts : List Int), hs.length + ts.length ≤ n → twoPtr R ts hs = (twoPtr R hs ts).map fun p => (p.2, p.1)
  | _, [], ts, _ => by rw [twoPtr]; cases ts <;> (rw [twoPtr]; rfl)
  | _, h :: hs, [], _ => by rw [twoPtr, twoPtr]; rfl
  | 0, h :: hs, t :: ts, hn => by simp at hn
  | n + 1, h :: hs, t :: ts, hn => by
    simp only [List.length_cons] at hn
    rw [twoPtr, twoPtr]
    by_cases h1 : (if h - t < 0 then -(h - t) else h - t) ≤ R
    · have h2 : (if t - h < 0 then -(t - h) else t - h) ≤ R := by split <;> split at h1 <;> omega
      rw [if_pos h1, if_pos h2, List.map_cons, twoPtr_swap hR n hs ts (by omega)]
    · have h2 : ¬ (if t - h < 0 then -(t - h) else t - h) ≤ R := by split <;> split at h1 <;> omega
      rw [if_neg h1, if_neg h2]
      by_cases h3 : h < t
      · rw [if_pos h3, if_neg (by omega), twoPtr_swap hR n hs (t :: ts) (by simp; omega)]
      · have h4 : t < h := by split at h1 <;> omega
        rw [if_neg h3, if_pos h4, twoPtr_swap hR n (h :: hs) ts (by simp; omega)]

theorem scan {R : Int} (hR : 0 ≤ R) (h : Int) (hs : List Int) : ∀ ts : List Int, ts.Pairwise (· < ·) →
    (∃ pre t ts', ts = pre ++ t :: ts' ∧ (∀ x ∈ pre, x + R < h) ∧ h - R ≤ t ∧ t ≤ h + R ∧ twoPtr R (h :: hs) ts = (h, t) :: twoPtr R hs ts') ∨
    (∃ pre ts', ts = pre ++ ts' ∧ (∀ x ∈ pre, x + R < h) ∧ (∀ x ∈ ts', h + R < x) ∧ twoPtr R (h :: hs) ts = twoPtr R hs ts')
  | [], _ => .inr ⟨[], [], rfl, by simp, by simp, by rw [twoPtr]; cases hs <;> rw [twoPtr]⟩
  | t :: ts, hp => by
    rw [List.pairwise_cons] at hp
    by_cases h1 : (if h - t < 0 then -(h - t) else h - t) ≤ R
    · refine .inl ⟨[], t, ts, rfl, by simp, by split at h1 <;> omega, by split at h1 <;> omega, ?_⟩
      rw [twoPtr, if_pos h1]
    · by_cases h3 : h < t
      · refine .inr ⟨[], t :: ts, rfl, by simp, ?_, by rw [twoPtr, if_neg h1, if_pos h3]⟩
        have h4 : h + R < t := by split at h1 <;> omega
        intro x hx
        rcases List.mem_cons.mp hx with rfl | hx
        · exact h4
        · have := hp.1 x hx; omega
      · have h4 : t + R < h := by split at h1 <;> omega
        have e : twoPtr R (h :: hs) (t :: ts) = twoPtr R (h :: hs) ts := by rw [twoPtr, if_neg h1, if_neg h3]
        rw [e]
        rcases scan hR h hs ts hp.2 with ⟨pre, t', ts', rfl, a, b, c, d⟩ | ⟨pre, ts', rfl, a, b, d⟩
        · refine .inl ⟨t :: pre, t', ts', rfl, ?_, b, c, d⟩
          intro x hx
          rcases List.mem_cons.mp hx with rfl | hx
          · exact h4
          · exact a x hx
        · refine .inr ⟨t :: pre, ts', rfl, ?_, b, d⟩
          intro x hx
          rcases List.mem_cons.mp hx with rfl | hx
          · exact h4
          · exact a x hx

/-- the pairs of one letter -/
def TT (R : Int) (na nb : List Int) (c : Int) : List (Int × Int) := twoPtr R (places c na) (places c nb)
def LI (R : Int) (na nb : List Int) (c : Int) (i : Nat) (b1 b2 : List Bool) : Prop :=
  ∃ ps ts, TT R na nb c = ps ++ twoPtr R (pf c na i) ts ∧ ts.Pairwise (· < ·) ∧ (∀ x ∈ ts, ∃ j : Nat, x = j ∧ j < nb.length ∧ nb.getD j 0 = c ∧ b2.getD j false = false) ∧
    (∀ j : Nat, j < nb.length → nb.getD j 0 = c → ((b2.getD j false = true ↔ (j : Int) ∈ ps.map (·.2)) ∧ (b2.getD j false = false → (j : Int) ∈ ts ∨ (j : Int) + R < i))) ∧
    (∀ k : Nat, k < na.length → na.getD k 0 = c → (b1.getD k false = true ↔ (k : Int) ∈ ps.map (·.1)))

theorem LI.zero (R : Int) (na nb : List Int) (c : Int) : LI R na nb c 0 (flagsG R na nb 0).1 (flagsG R na nb 0).2.1 := by
  refine ⟨[], places c nb, by rw [pf_zero]; rfl, places_lt _ _, ?_, ?_, ?_⟩
  · intro x hx
    obtain ⟨k, h1, h2, h3⟩ := mem_places.mp hx
    exact ⟨k, h2, h1, h3, repl_getD _ _⟩
  · intro j hj hc
    refine ⟨?_, fun _ => .inl (mem_places.mpr ⟨j, hj, rfl, hc⟩)⟩
    show (List.replicate _ false).getD j false = true ↔ _
    rw [repl_getD]; simp
  · intro k hk hc
    show (List.replicate _ false).getD k false = true ↔ _
    rw [repl_getD]; simp

theorem LI.step {R : Int} (hR : 0 ≤ R) {na nb : List Int} {c : Int} {i : Nat} (hi : i < na.length) (I : LI R na nb c i (flagsG R na nb i).1 (flagsG R na nb i).2.1) :
    LI R na nb c (i + 1) (flagsG R na nb (i + 1)).1 (flagsG R na nb (i + 1)).2.1 := by
  have hl := flagsG_len R na nb i
  have hv := (flagsG_inv R na nb i (by omega)).2.2
  rcases hg : flagsG R na nb i with ⟨b1, b2, n⟩
  rw [hg] at I hl hv
  dsimp only at I hl hv
  obtain ⟨ps, ts, e, hts, hin, hj2, hk1⟩ := I
  rw [pf_step hi] at e
  by_cases hc : na.getD i 0 = c
  · rw [if_pos hc] at e
    have hnot : (i : Int) ∉ ps.map (·.1) := fun hm => by
      have := (hk1 i hi hc).mpr hm
      rw [hv i (Nat.le_refl _)] at this; cases this
    rcases scan hR (i : Int) (pf c na (i + 1)) ts hts with ⟨pre, t, ts', rfl, a1, a2, a3, a4⟩ | ⟨pre, ts', rfl, a1, a2, a3⟩
    · obtain ⟨j, rfl, q1, q2, q3⟩ := hin t (by simp)
      rw [List.pairwise_append, List.pairwise_cons] at hts
      obtain ⟨_, ⟨p2, p3⟩, _⟩ := hts
      have hh : hit R na nb b2 i = some j := by
        refine hit_some q1 (okAt_spec.mpr ⟨a2, a3, q3, by rw [q2, hc]⟩) fun k hk => ?_
        cases ho : okAt R na nb b2 i k with
        | false => rfl
        | true =>
          exfalso
          obtain ⟨o1, o2, o3, o4⟩ := okAt_spec.mp ho
          rcases (hj2 k (by omega) (by rw [o4, hc])).2 o3 with hm | hm
          · rcases List.mem_append.mp hm with hm | hm
            · have := a1 _ hm; omega
            · rcases List.mem_cons.mp hm with hm | hm
              · have : (k : Int) = j := hm
                omega
              · have := p2 _ hm; omega
          · omega
      rw [flagsG_some hg hh]
      dsimp only
      refine ⟨ps ++ [((i : Int), (j : Int))], ts', ?_, p3, ?_, ?_, ?_⟩
      · rw [e]
        show ps ++ twoPtr R (↑i :: pf c na (i + 1)) _ = _
        rw [a4]; simp
      · intro x hx
        obtain ⟨j', rfl, r1, r2, r3⟩ := hin x (by simp [hx])
        have := p2 _ hx
        exact ⟨j', rfl, r1, r2, by rw [getD_set_ne (by omega)]; exact r3⟩
      · intro j' r1 r2
        by_cases ej : j = j'
        · subst ej
          rw [getD_set_eq (by omega)]
          simp
        · rw [getD_set_ne ej]
          obtain ⟨u1, u2⟩ := hj2 j' r1 r2
          refine ⟨?_, fun hf => ?_⟩
          · rw [u1, List.map_append, List.mem_append]
            simp only [List.map_cons, List.map_nil, List.mem_singleton]
            exact ⟨Or.inl, fun h => h.resolve_right (by omega)⟩
          · rcases u2 hf with hm | hm
            · rcases List.mem_append.mp hm with hm | hm
              · have := a1 _ hm; omega
              · rcases List.mem_cons.mp hm with hm | hm
                · omega
                · exact .inl hm
            · omega
      · intro k r1 r2
        by_cases ek : i = k
        · subst ek
          rw [getD_set_eq (by omega)]
          simp
        · rw [getD_set_ne ek, hk1 k r1 r2, List.map_append, List.mem_append]
          simp only [List.map_cons, List.map_nil, List.mem_singleton]
          exact ⟨Or.inl, fun h => h.resolve_right (by omega)⟩
    · have hh : hit R na nb b2 i = none := by
        refine hit_none fun k hk => ?_
        cases ho : okAt R na nb b2 i k with
        | false => rfl
        | true =>
          exfalso
          obtain ⟨o1, o2, o3, o4⟩ := okAt_spec.mp ho
          rcases (hj2 k (by omega) (by rw [o4, hc])).2 o3 with hm | hm
          · rcases List.mem_append.mp hm with hm | hm
            · have := a1 _ hm; omega
            · have := a2 _ hm; omega
          · omega
      rw [flagsG_none hg hh]
      dsimp only
      rw [List.pairwise_append] at hts
      refine ⟨ps, ts', ?_, hts.2.1, fun x hx => hin x (by simp [hx]), fun j r1 r2 => ⟨(hj2 j r1 r2).1, fun hf => ?_⟩, hk1⟩
      · rw [e]
        show ps ++ twoPtr R (↑i :: pf c na (i + 1)) _ = _
        rw [a3]
      · rcases (hj2 j r1 r2).2 hf with hm | hm
        · rcases List.mem_append.mp hm with hm | hm
          · have := a1 _ hm; omega
          · exact .inl hm
        · omega
  · rw [if_neg hc, List.nil_append] at e
    cases hh : hit R na nb b2 i with
    | none =>
      rw [flagsG_none hg hh]
      dsimp only
      exact ⟨ps, ts, e, hts, hin, fun j r1 r2 => ⟨(hj2 j r1 r2).1, fun hf => ((hj2 j r1 r2).2 hf).imp id fun h => by omega⟩, hk1⟩
    | some j =>
      obtain ⟨q1, q2, _⟩ := hit_spec hh
      obtain ⟨_, _, _, q3⟩ := okAt_spec.mp q2
      rw [flagsG_some hg hh]
      dsimp only
      have hne : ∀ j' : Nat, nb.getD j' 0 = c → j ≠ j' := fun j' h1 h2 => by subst h2; rw [q3] at h1; exact hc h1
      have hne2 : ∀ k : Nat, na.getD k 0 = c → i ≠ k := fun k h1 h2 => by subst h2; exact hc h1
      refine ⟨ps, ts, e, hts, ?_, ?_, ?_⟩
      · intro x hx
        obtain ⟨j', rfl, r1, r2, r3⟩ := hin x hx
        exact ⟨j', rfl, r1, r2, by rw [getD_set_ne (hne j' r2)]; exact r3⟩
      · intro j' r1 r2
        rw [getD_set_ne (hne j' r2)]
        exact ⟨(hj2 j' r1 r2).1, fun hf => ((hj2 j' r1 r2).2 hf).imp id fun h => by omega⟩
      · intro k r1 r2
        rw [getD_set_ne (hne2 k r2)]
        exact hk1 k r1 r2
theorem LI.all {R : Int} (hR : 0 ≤ R) (na nb : List Int) (c : Int) : ∀ i, i ≤ na.length → LI R na nb c i (flagsG R na nb i).1 (flagsG R na nb i).2.1
  | 0, _ => LI.zero R na nb c
  | i + 1, hi => LI.step hR hi (LI.all hR na nb c i (by omega))
theorem flags_letter {R : Int} (hR : 0 ≤ R) {na nb : List Int} {b1 b2 : List Bool} {n : Nat} (h : flagsG R na nb na.length = (b1, b2, n)) (c : Int) :
    (∀ k : Nat, k < na.length → na.getD k 0 = c → (b1.getD k false = true ↔ (k : Int) ∈ (TT R na nb c).map (·.1))) ∧ (∀ j : Nat, j < nb.length → nb.getD j 0 = c → (b2.getD j false = true ↔ (j : Int) ∈ (TT R na nb c).map (·.2))) := by
  obtain ⟨ps, ts, e, _, _, h2, h1⟩ := LI.all hR na nb c na.length (Nat.le_refl _)
  rw [h] at h1 h2
  rw [pf_end, twoPtr, List.append_nil] at e
  rw [e]
  exact ⟨h1, fun j a b => (h2 j a b).1⟩
end Mine
end
section
open PySem PySem.W PyProof.Rows PySem.Calls
set_option Elab.async false
set_option maxRecDepth 100000
set_option maxHeartbeats 1000000
namespace Mine
theorem first_place (na : List Int) : ∀ (n k : Nat), k < n → k < na.length → ∃ i, i < na.length ∧ na.getD i 0 = na.getD k 0 ∧ na.getD i 0 ∉ na.take i
  | 0, k, h, _ => by omega
  | n + 1, k, h, hk => by
    by_cases hm : na.getD k 0 ∈ na.take k
    · obtain ⟨j, hj, e⟩ := List.mem_iff_getElem.mp hm
      rw [List.length_take] at hj
      have e2 : na.getD j 0 = na.getD k 0 := by
        rw [← e, List.getElem_take, List.getD_eq_getElem?_getD, List.getElem?_eq_getElem (by omega)]; rfl
      obtain ⟨i, a, b, c⟩ := first_place na n j (by omega) (by omega)
      exact ⟨i, a, b.trans e2, c⟩
    · exact ⟨k, hk, rfl, hm⟩
theorem mem_lawPairs {R : Int} {na nb : List Int} {x : Int × Int} : ∀ {n : Nat}, x ∈ lawPairs R na nb n ↔ ∃ i, i < n ∧ na.getD i 0 ∉ na.take i ∧ x ∈ TT R na nb (na.getD i 0)
  | 0 => by simp [lawPairs]
  | n + 1 => by
    rw [lawPairs, List.mem_append, mem_lawPairs]
    constructor
    · rintro (⟨i, a, b, c⟩ | h)
      · exact ⟨i, by omega, b, c⟩
      · by_cases hm : na.getD n 0 ∈ na.take n
        · rw [if_pos hm] at h; cases h
        · rw [if_neg hm] at h; exact ⟨n, by omega, hm, h⟩
    · rintro ⟨i, a, b, c⟩
      rcases Nat.lt_or_ge i n with h | h
      · exact .inl ⟨i, h, b, c⟩
      · obtain rfl : i = n := by omega
        right
        rw [if_neg b]; exact c
theorem TT_fst {R : Int} {na nb : List Int} {c : Int} {x : Int × Int} (h : x ∈ TT R na nb c) : x.1 ∈ places c na ∧ x.2 ∈ places c nb :=
  ⟨(twoPtr_fst R _ _ _ (Nat.le_refl _)).1.subset (List.mem_map_of_mem h), (twoPtr_fst R _ _ _ (Nat.le_refl _)).2.subset (List.mem_map_of_mem h)⟩
theorem lt_nodup {xs : List Int} (h : xs.Pairwise (· < ·)) : xs.Nodup := h.imp fun h => by omega
theorem TT_nodup (R : Int) (na nb : List Int) (c : Int) : ((TT R na nb c).map (·.1)).Nodup ∧ ((TT R na nb c).map (·.2)).Nodup :=
  ⟨(twoPtr_fst R _ _ _ (Nat.le_refl _)).1.nodup (lt_nodup (places_lt _ _)), (twoPtr_fst R _ _ _ (Nat.le_refl _)).2.nodup (lt_nodup (places_lt _ _))⟩
theorem getD_mem_take {na : List Int} {i n : Nat} (h : i < n) (hn : n ≤ na.length) : na.getD i 0 ∈ na.take n := by
  rw [List.getD_eq_getElem?_getD, List.getElem?_eq_getElem (by omega)]
  exact List.mem_iff_getElem.mpr ⟨i, by rw [List.length_take]; omega, by rw [List.getElem_take]; rfl⟩
theorem lawPairs_nodup (R : Int) (na nb : List Int) : ∀ n, n ≤ na.length → ((lawPairs R na nb n).map (·.1)).Nodup ∧ ((lawPairs R na nb n).map (·.2)).Nodup
  | 0, _ => by simp [lawPairs]
  | n + 1, hn => by
    have ih := lawPairs_nodup R na nb n (by omega)
    rw [lawPairs]
    by_cases hm : na.getD n 0 ∈ na.take n
    · rw [if_pos hm, List.append_nil]; exact ih
    · rw [if_neg hm, List.map_append, List.map_append, List.nodup_append, List.nodup_append]
      have tn := TT_nodup R na nb (na.getD n 0)
      have key : ∀ x ∈ lawPairs R na nb n, ∀ y ∈ TT R na nb (na.getD n 0), x.1 ≠ y.1 ∧ x.2 ≠ y.2 := by
        intro x hx y hy
        obtain ⟨i, hi, _, hx⟩ := mem_lawPairs.mp hx
        obtain ⟨x1, x2⟩ := TT_fst hx
        obtain ⟨y1, y2⟩ := TT_fst hy
        have hne : na.getD i 0 ≠ na.getD n 0 := fun e => hm (e ▸ getD_mem_take hi (by omega))
        constructor
        · intro e
          obtain ⟨k, _, e1, c1⟩ := mem_places.mp x1
          obtain ⟨k', _, e2, c2⟩ := mem_places.mp y1
          have : k = k' := by omega
          subst this
          exact hne (c1.symm.trans c2)
        · intro e
          obtain ⟨k, _, e1, c1⟩ := mem_places.mp x2
          obtain ⟨k', _, e2, c2⟩ := mem_places.mp y2
          have : k = k' := by omega
          subst this
          exact hne (c1.symm.trans c2)
      refine ⟨⟨ih.1, tn.1, ?_⟩, ⟨ih.2, tn.2, ?_⟩⟩
      · intro a ha b hb
        obtain ⟨x, hx, rfl⟩ := List.mem_map.mp ha
        obtain ⟨y, hy, rfl⟩ := List.mem_map.mp hb
        exact (key x hx y hy).1
      · intro a ha b hb
        obtain ⟨x, hx, rfl⟩ := List.mem_map.mp ha
        obtain ⟨y, hy, rfl⟩ := List.mem_map.mp hb
        exact (key x hx y hy).2
/-- the places as ints -/
def tpI (b : List Bool) : List Int := (tp b).map fun (k : Nat) => (k : Int)
theorem tp_sorted (b : List Bool) : (tpI b).Pairwise (· < ·) := by
  unfold tpI tp
  rw [List.pairwise_map]
  exact (List.Pairwise.filter _ List.pairwise_lt_range).imp fun h => by omega
theorem mem_tpI {b : List Bool} {x : Int} : x ∈ tpI b ↔ ∃ k : Nat, x = k ∧ b.getD k false = true := by
  unfold tpI tp
  simp only [List.mem_map, List.mem_filter, List.mem_range]
  constructor
  · rintro ⟨k, ⟨_, h⟩, rfl⟩; exact ⟨k, rfl, h⟩
  · rintro ⟨k, rfl, h⟩; exact ⟨k, ⟨lt_of_getD h, h⟩, rfl⟩
theorem sorted_tp {b : List Bool} {xs : List Int} (hn : xs.Nodup) (h : ∀ x, x ∈ xs ↔ x ∈ tpI b) : sortI xs = tpI b := by
  refine (sortI_eq (List.perm_iff_count.mpr fun x => ?_) ((tp_sorted b).imp fun h => by omega)).symm
  rw [List.Nodup.count (lt_nodup (tp_sorted b)), List.Nodup.count hn]
  simp only [h x]
section
variable {R : Int} (hR : 0 ≤ R) {na nb : List Int} {b1 b2 : List Bool} {n : Nat} (h : flagsG R na nb na.length = (b1, b2, n))
include hR h
theorem law_fst : sortI ((lawPairs R na nb na.length).map fun p => p.1) = tpI b1 := by
  have hl := flags_cnt h
  refine sorted_tp (lawPairs_nodup R na nb _ (Nat.le_refl _)).1 fun x => ?_
  rw [mem_tpI, List.mem_map]
  constructor
  · rintro ⟨p, hp, rfl⟩
    obtain ⟨i, hi, _, hx⟩ := mem_lawPairs.mp hp
    obtain ⟨k, k1, k2, k3⟩ := mem_places.mp (TT_fst hx).1
    exact ⟨k, k2, ((flags_letter hR h _).1 k k1 k3).mpr (k2 ▸ List.mem_map_of_mem hx)⟩
  · rintro ⟨k, rfl, hb⟩
    have hk : k < na.length := by have := lt_of_getD hb; omega
    have := ((flags_letter hR h _).1 k hk rfl).mp hb
    obtain ⟨p, hp, e⟩ := List.mem_map.mp this
    obtain ⟨i, i1, i2, i3⟩ := first_place na _ k (Nat.lt_succ_self k) hk
    exact ⟨p, mem_lawPairs.mpr ⟨i, i1, i3, by rw [i2]; exact hp⟩, e⟩
theorem law_snd : sortI ((lawPairs R na nb na.length).map fun p => p.2) = tpI b2 := by
  have hl := flags_cnt h
  refine sorted_tp (lawPairs_nodup R na nb _ (Nat.le_refl _)).2 fun x => ?_
  rw [mem_tpI, List.mem_map]
  constructor
  · rintro ⟨p, hp, rfl⟩
    obtain ⟨i, hi, _, hx⟩ := mem_lawPairs.mp hp
    obtain ⟨k, k1, k2, k3⟩ := mem_places.mp (TT_fst hx).2
    exact ⟨k, k2, ((flags_letter hR h _).2 k k1 k3).mpr (k2 ▸ List.mem_map_of_mem hx)⟩
  · rintro ⟨k, rfl, hb⟩
    have hk : k < nb.length := by have := lt_of_getD hb; omega
    have := ((flags_letter hR h _).2 k hk rfl).mp hb
    obtain ⟨p, hp, e⟩ := List.mem_map.mp this
    obtain ⟨j, j1, j2, j3⟩ := mem_places.mp (TT_fst hp).1
    obtain ⟨i, i1, i2, i3⟩ := first_place na _ j (Nat.lt_succ_self j) j1
    exact ⟨p, mem_lawPairs.mpr ⟨i, i1, i3, by rw [i2, j3]; exact hp⟩, e⟩
theorem law_len : (lawPairs R na nb na.length).length = n := by
  have e := congrArg List.length (law_fst hR h)
  rw [sortI_length, List.length_map] at e
  rw [e, tpI, List.length_map, tp_length]
  exact (flags_cnt h).2.2.1
theorem law_crossed : crossedOf na nb (lawPairs R na nb na.length) = (transG b1 b2 na nb b1.length).2 := by
  have hl := flags_cnt h
  rw [(trans_inv (by omega) b1.length (Nat.le_refl _)).2.2, hl.2.2.1]
  unfold crossedOf mis
  rw [law_fst hR h, law_snd hR h, law_len hR h, List.filter_map, List.length_map]
  congr 1
  refine List.filter_congr fun k hk => ?_
  have g : ∀ b : List Bool, cnt b b.length = n → ((tpI b).getD k 0).toNat = (tp b).getD k 0 := by
    intro b hb
    have : k < (tp b).length := by rw [tp_length, hb]; exact List.mem_range.mp hk
    unfold tpI
    rw [List.getD_eq_getElem?_getD, List.getElem?_map, List.getElem?_eq_getElem this, List.getD_eq_getElem?_getD, List.getElem?_eq_getElem this]
    rfl
  show (_ != _) = _
  rw [Int.toNat_natCast, g b1 hl.2.2.1, g b2 hl.2.2.2]
  generalize na.getD ((tp b1).getD k 0) 0 = u
  generalize nb.getD ((tp b2).getD k 0) 0 = v
  by_cases e : u = v <;> simp [e]
theorem law_swap : ∃ n', flagsG R nb na nb.length = (b2, b1, n') ∧ n' = n := by
  rcases hg : flagsG R nb na nb.length with ⟨c2, c1, n'⟩
  have hl := flags_cnt h
  have hl' := flags_cnt hg
  have sw : ∀ c, TT R nb na c = (TT R na nb c).map fun p => (p.2, p.1) := fun c => twoPtr_swap hR _ _ _ (Nat.le_refl _)
  have e1 : c2 = b2 := by
    refine List.ext_getElem (by omega) fun k k1 k2 => ?_
    have z := (flags_letter hR hg _).1 k (by omega) rfl
    have z' := (flags_letter hR h (nb.getD k 0)).2 k (by omega) rfl
    rw [sw, List.map_map] at z
    have : (c2.getD k false = true) ↔ (b2.getD k false = true) := z.trans z'.symm
    rw [List.getD_eq_getElem?_getD, List.getD_eq_getElem?_getD, List.getElem?_eq_getElem k1, List.getElem?_eq_getElem k2] at this
    exact Bool.eq_iff_iff.mpr this
  have e2 : c1 = b1 := by
    refine List.ext_getElem (by omega) fun k k1 k2 => ?_
    have z := (flags_letter hR hg _).2 k (by omega) rfl
    have z' := (flags_letter hR h (na.getD k 0)).1 k (by omega) rfl
    rw [sw, List.map_map] at z
    have : (c1.getD k false = true) ↔ (b1.getD k false = true) := z.trans z'.symm
    rw [List.getD_eq_getElem?_getD, List.getD_eq_getElem?_getD, List.getElem?_eq_getElem k1, List.getElem?_eq_getElem k2] at this
    exact Bool.eq_iff_iff.mpr this
  subst e1 e2
  exact ⟨n', rfl, by omega⟩
theorem law_swap_trans : (transG b2 b1 nb na b2.length).2 = (transG b1 b2 na nb b1.length).2 := by
  have hl := flags_cnt h
  rw [(trans_inv (by omega) b1.length (Nat.le_refl _)).2.2, (trans_inv (by omega) b2.length (Nat.le_refl _)).2.2, hl.2.2.1, hl.2.2.2]
  unfold mis
  congr 1
  refine List.filter_congr fun k _ => ?_
  simp only [ne_eq, eq_comm]
end
end Mine
end
section
open PySem PySem.W PyProof.Rows PySem.Calls
set_option Elab.async false
set_option maxRecDepth 100000
set_option maxHeartbeats 1000000
namespace Mine
section
open PySem.Float64
/-- a finite double of size at most 2 ^ (P - 1074) -/
def Bd (P : Nat) (x : UInt64) : Prop := ∃ neg t, x = pack neg t ∧ t < infMag ∧ V t ≤ 2 ^ P
theorem pow_le {P Q : Nat} (h : P ≤ Q) : 2 ^ P ≤ 2 ^ Q := Nat.pow_le_pow_right (by decide) h
theorem Bd.mono {P Q : Nat} {x : UInt64} (h : Bd P x) (hq : P ≤ Q) : Bd Q x := by
  obtain ⟨n, t, a, b, c⟩ := h; exact ⟨n, t, a, b, Nat.le_trans c (pow_le hq)⟩
theorem Bd.dec {P : Nat} {x : UInt64} (h : Bd P x) : ∃ s m e, decode x = .fin s m e ∧ (val x).natAbs ≤ 2 ^ P := by
  obtain ⟨n, t, rfl, b, c⟩ := h
  obtain ⟨m, e, hd, hv⟩ := decode_pack n b
  exact ⟨n, m, e, hd, by rw [val_natAbs hd, hv]; exact c⟩
theorem Bd.right {r : UInt64} {neg : Bool} {W D P : Nat} (h : Right r neg W D) (hD : 0 < D) (hW : W ≤ D * 2 ^ P) (hP : P ≤ 2090) : Bd (P + 1) r := by
  obtain ⟨t, rfl, h1, h2, h3⟩ := h
  have hp : 2 ^ P ≤ 2 ^ 2090 := pow_le hP
  have hlt : t < infMag := by
    rcases Nat.lt_or_ge t infMag with h | h
    · exact h
    · exfalso
      have := h2.mp (by omega)
      have h5 : D * ((2 ^ 54 - 1) * 2 ^ 2045) ≤ D * (2 * 2 ^ 2090) := by
        refine Nat.le_trans this ?_
        have : D * 2 ^ P ≤ D * 2 ^ 2090 := Nat.mul_le_mul_left D hp
        have e : D * (2 * 2 ^ 2090) = 2 * (D * 2 ^ 2090) := by ac_rfl
        rw [e]; omega
      have h6 := Nat.le_of_mul_le_mul_left h5 hD
      exact absurd h6 (by decide +kernel)
  refine ⟨neg, t, rfl, hlt, ?_⟩
  have := (h3 hlt 0).1
  rw [V_zero, Nat.mul_zero] at this
  unfold dist at this
  have h7 : D * V t ≤ D * 2 ^ (P + 1) := by
    rw [Nat.pow_succ, ← Nat.mul_assoc]; omega
  exact Nat.le_of_mul_le_mul_left h7 hD
theorem Bd.zero (P : Nat) (n : Bool) : Bd P (zero n) := ⟨n, 0, rfl, by decide +kernel, by rw [V_zero]; exact Nat.zero_le _⟩
theorem Bd.add {P : Nat} {x y : UInt64} (hx : Bd P x) (hy : Bd P y) (hP : P ≤ 2080) : Bd (P + 2) (Float64.add x y) := by
  obtain ⟨a, m, e, dx, vx⟩ := hx.dec
  obtain ⟨b, k, f, dy, vy⟩ := hy.dec
  have h := add_right dx dy
  by_cases hz : val x + val y = 0
  · rw [h.1 hz]; exact Bd.zero _ _
  · exact Bd.right (P := P + 1) (h.2 hz) (by decide) (by rw [Nat.pow_succ]; omega) (by omega)
theorem Bd.sub {P : Nat} {x y : UInt64} (hx : Bd P x) (hy : Bd P y) (hP : P ≤ 2080) : Bd (P + 2) (Float64.sub x y) := by
  obtain ⟨a, m, e, dx, vx⟩ := hx.dec
  obtain ⟨b, k, f, dy, vy⟩ := hy.dec
  have h := sub_right dx dy
  by_cases hz : val x - val y = 0
  · rw [h.1 hz]; exact Bd.zero _ _
  · exact Bd.right (P := P + 1) (h.2 hz) (by decide) (by rw [Nat.pow_succ]; omega) (by omega)
theorem Bd.mul {P Q S : Nat} {x y : UInt64} (hx : Bd P x) (hy : Bd Q y) (hS : P + Q = 1074 + S) (hP : S ≤ 2080) : Bd (S + 1) (Float64.mul x y) := by
  obtain ⟨a, m, e, dx, vx⟩ := hx.dec
  obtain ⟨b, k, f, dy, vy⟩ := hy.dec
  refine Bd.right (mul_right dx dy) (Nat.two_pow_pos _) ?_ (by omega)
  rw [← Nat.pow_add, ← hS, Nat.pow_add]
  exact Nat.mul_le_mul vx vy
theorem Bd.div {P : Nat} {x y : UInt64} {b : Bool} {k : Nat} {f : Int} (hx : Bd P x) (hy : decode y = .fin b k f) (hv : 2 ^ 1074 ≤ (val y).natAbs) (hP : P ≤ 2080) : Bd (P + 1) (Float64.div x y) := by
  obtain ⟨a, m, e, dx, vx⟩ := hx.dec
  have hp : 0 < (val y).natAbs := Nat.lt_of_lt_of_le (Nat.two_pow_pos _) hv
  have hk : k ≠ 0 := by rintro rfl; rw [val_natAbs hy] at hp; omega
  refine Bd.right (div_right dx hy hk) hp ?_ (by omega)
  rw [Nat.mul_comm]
  exact Nat.mul_le_mul hv vx
theorem Bd.frac {neg : Bool} {n d : Nat} (hd : 0 < d) (hn : n ≤ 2 ^ 10) : Bd 1085 (ofFrac neg n d) := by
  refine Bd.right (P := 1084) (ofFrac_right (W := n * 2 ^ 1074) (D := d) hd rfl hd) hd ?_ (by omega)
  have e : 2 ^ 1084 = 2 ^ 10 * 2 ^ 1074 := by rw [← Nat.pow_add]
  rw [e]
  generalize 2 ^ 1074 = K
  have := Nat.mul_le_mul_right K hn
  have h2 : 2 ^ 10 * K ≤ d * (2 ^ 10 * K) := Nat.le_mul_of_pos_left _ hd
  omega
theorem Bd.q {a b : Int} (hb : 0 < b) (ha : a ≤ 1000) (ha' : -1000 ≤ a) : Bd 1085 (qI a b) := by
  unfold qI
  exact Bd.frac (by omega) (by omega)
theorem Bd.int {a : Int} (ha : a ≤ 1000) (ha' : -1000 ≤ a) : Bd 1085 (ofInt a) := by
  unfold ofInt
  exact Bd.frac (by decide) (by omega)
def okF (x : UInt64) : Prop := Float64.cmp x x = some Ordering.eq
theorem Bd.ok {P : Nat} {x : UInt64} (h : Bd P x) : okF x := by
  obtain ⟨a, m, e, dx, vx⟩ := h.dec
  unfold okF
  rw [cmp_right dx dx, Int.compare_eq_eq.mpr rfl]
theorem add_swap {P Q : Nat} {x y : UInt64} (hx : Bd P x) (hy : Bd Q y) : Float64.add x y = Float64.add y x := by
  obtain ⟨a, m, e, dx, vx⟩ := hx.dec
  obtain ⟨b, k, f, dy, vy⟩ := hy.dec
  have A : ∀ {x y : UInt64} {a b : Bool} {m k : Nat} {e f : Int}, decode x = .fin a m e → decode y = .fin b k f → Float64.add x y = (fun (p q g : Int) => if p + q == 0 then zero (a && b) else ofBin (decide (p + q < 0)) (p + q).natAbs g) (sgn a (m * 2 ^ (e - min e f).toNat)) (sgn b (k * 2 ^ (f - min e f).toNat)) (min e f) := by
    intro x y a b m k e f dx dy
    unfold Float64.add
    rw [dx, dy]
    rfl
  rw [A dx dy, A dy dx, Int.min_comm f e]
  generalize sgn a _ = p
  generalize sgn b _ = q
  dsimp only
  have e2 : q + p = p + q := Int.add_comm q p
  simp only [e2, Bool.and_comm b a]
theorem add_nil {P Q : Nat} {x y : UInt64} (hx : Bd P x) (hy : Bd Q y) (hz : val y = 0) (hP : P ≤ 2090) : Float64.cmp (Float64.add x y) x = some Ordering.eq := by
  obtain ⟨b, k, f, dy, vy⟩ := hy.dec
  obtain ⟨n, t, rfl, ht, hV⟩ := id hx
  obtain ⟨a, m, e, dx, vx⟩ := hx.dec
  have h := add_right dx dy
  rw [hz, Int.add_zero] at h
  have hvx := val_pack n ht
  by_cases h0 : val (pack n t) = 0
  · rw [h.1 h0]
    obtain ⟨a2, m2, e2, d2, v2⟩ := (Bd.zero 0 (a && b)).dec
    have v3 : val (zero (a && b)) = 0 := by
      show val (pack (a && b) 0) = 0
      rw [val_pack _ (by decide +kernel), V_zero]
      unfold sgn; split <;> rfl
    rw [cmp_right d2 dx, v3, h0]; rfl
  · obtain ⟨t2, e2, q1, q2, q3⟩ := h.2 h0
    have hn : (val (pack n t)).natAbs = V t := by rw [hvx, sgn_natAbs]
    rw [hn] at q2 q3
    have hlt : t2 < infMag := by
      rcases Nat.lt_or_ge t2 infMag with h | h
      · exact h
      · exfalso
        have := q2.mp (by omega)
        have hp : 2 ^ P ≤ 2 ^ 2090 := pow_le hP
        have h6 : 1 * ((2 ^ 54 - 1) * 2 ^ 2045) ≤ 2 * 2 ^ 2090 := by omega
        exact absurd h6 (by decide +kernel)
    have hd := (q3 hlt t).1
    have hV2 : V t2 = V t := by unfold dist at hd; omega
    obtain ⟨m2, e3, d2, v2⟩ := decode_pack (decide (val (pack n t) < 0)) hlt
    rw [e2, cmp_right d2 dx, val_pack _ hlt, hV2, hvx]
    rw [hvx] at h0
    have : sgn (decide (sgn n (V t) < 0)) (V t) = sgn n (V t) := by
      cases n
      · have : ¬ sgn false (V t) < 0 := by unfold sgn; simp <;> omega
        rw [decide_eq_false this]
      · have : sgn true (V t) < 0 := by
          unfold sgn at h0 ⊢
          simp only [if_true] at h0 ⊢
          omega
        rw [decide_eq_true this]
    rw [this, Int.compare_eq_eq.mpr rfl]
end
end Mine
end
section
open PySem PySem.W PyProof.Rows PySem.Calls
set_option Elab.async false
set_option maxRecDepth 100000
set_option maxHeartbeats 1000000
namespace Mine
def leL (W : UInt64) : Bool := (Float64.cmp W 4604480259023595110 == some Ordering.lt || Float64.cmp W 4604480259023595110 == some Ordering.eq)
def v1F (k : Nat) (W : UInt64) : UInt64 := if k = 0 then W else Float64.add W (Float64.mul (Float64.mul (Float64.ofInt k) 4591870180066957722) (Float64.sub 4607182418800017408 W))
def v2F (c m n k : Int) (V : UInt64) : UInt64 := Float64.add V (Float64.mul (Float64.sub 4607182418800017408 V) (qI (c - k - 1) (m + n - k * 2 + 2)))
def FinIs (na nb : List Int) (fav wz : Bool) (c : Nat) (W : UInt64) (v : Value) : Prop :=
  (wz = false ∧ ∃ t, v = .float W t) ∨ (wz = true ∧ leL W = true ∧ ∃ t, v = .float W t) ∨ (wz = true ∧ leL W = false ∧ ∃ k, IsPre na nb k ∧ ((ShortW fav c na.length nb.length k ∧ ∃ t, v = .float (v1F k W) t) ∨ (¬ ShortW fav c na.length nb.length k ∧ ∃ t, v = .float (v2F c na.length nb.length k (v1F k W)) t)))
def CallIs (na nb : List Int) (fav wz : Bool) (v : Value) : Prop :=
  (na = nb ∧ ∃ t, v = .int 1 t) ∨ (na ≠ nb ∧ (na = [] ∨ nb = []) ∧ ∃ t, v = .int 0 t) ∨
  (na ≠ nb ∧ na ≠ [] ∧ nb ≠ [] ∧ ∃ b1 b2 c, flagsG (reachI na.length nb.length) na nb na.length = (b1, b2, c) ∧
    ((c = 0 ∧ ∃ t, v = .float 0 t) ∨ (c ≠ 0 ∧ FinIs na nb fav wz c (jaroF c na.length nb.length (((transG b1 b2 na nb b1.length).2 : Int).fdiv 2)) v)))
end Mine
end
section
open PySem PySem.W PyProof.Rows PySem.Calls
set_option Elab.async false
set_option maxRecDepth 100000
set_option maxHeartbeats 1000000
namespace Mine
theorem V_inj {s t : Nat} (h : PySem.Float64.V s = PySem.Float64.V t) : s = t := by
  rcases Nat.lt_trichotomy s t with g | g | g
  · have := PySem.Float64.V_lt g; omega
  · exact g
  · have := PySem.Float64.V_lt g; omega
open PySem.Float64 in
theorem add_nil' {P Q : Nat} {x y : UInt64} (hx : Bd P x) (hy : Bd Q y) (hz : val y = 0) (hP : P ≤ 2090) (h0 : val x ≠ 0) : Float64.add x y = x := by
  obtain ⟨b, k, f, dy, vy⟩ := hy.dec
  obtain ⟨n, t, rfl, ht, hV⟩ := id hx
  obtain ⟨a, m, e, dx, vx⟩ := hx.dec
  have h := add_right dx dy
  rw [hz, Int.add_zero] at h
  have hvx := val_pack n ht
  obtain ⟨t2, e2, q1, q2, q3⟩ := h.2 h0
  have hn : (val (pack n t)).natAbs = V t := by rw [hvx, sgn_natAbs]
  rw [hn] at q2 q3
  have hlt : t2 < infMag := by
    rcases Nat.lt_or_ge t2 infMag with h | h
    · exact h
    · exfalso
      have := q2.mp (by omega)
      have hp : 2 ^ P ≤ 2 ^ 2090 := pow_le hP
      have h6 : 1 * ((2 ^ 54 - 1) * 2 ^ 2045) ≤ 2 * 2 ^ 2090 := by omega
      exact absurd h6 (by decide +kernel)
  have hd := (q3 hlt t).1
  have hV2 : V t2 = V t := by unfold dist at hd; omega
  rw [hvx] at h0
  rw [e2, V_inj hV2, hvx]
  congr 1
  cases n
  · have : ¬ sgn false (V t) < 0 := by unfold sgn; simp <;> omega
    rw [decide_eq_false this]
  · have : sgn true (V t) < 0 := by
      unfold sgn at h0 ⊢
      simp only [if_true] at h0 ⊢
      omega
    rw [decide_eq_true this]

theorem reachI_comm (m n : Nat) : reachI m n = reachI n m := by
  unfold reachI
  have : (if (n : Int) > m then (n : Int) else m) = (if (m : Int) > n then (m : Int) else n) := by split <;> split <;> omega
  rw [this]
theorem reachI_nn (m n : Nat) : 0 ≤ reachI m n := by unfold reachI; split <;> omega
theorem leastI_comm (m n : Nat) : leastI m n = leastI n m := by unfold leastI; split <;> split <;> omega
theorem jaro_comm {p m n t : Int} (hm : 0 < m) (hn : 0 < n) (hp : p ≤ 1000) (hp' : -1000 ≤ p) : jaroF p m n t = jaroF p n m t := by
  unfold jaroF
  rw [add_swap (Bd.q hm hp hp') (Bd.q hn hp hp')]
open PySem.Float64 in
theorem three_dec : ∃ a k f, decode (ofInt 3) = .fin a k f ∧ 2 ^ 1074 ≤ (val (ofInt 3)).natAbs := by
  obtain ⟨a, m, e, d, v⟩ := (Bd.int (a := 3) (by decide) (by decide)).dec
  exact ⟨a, m, e, d, by decide +kernel⟩
theorem jaro_bd {p m n t : Int} (hm : 0 < m) (hn : 0 < n) (hp : p ≤ 1000) (hp0 : 0 < p) (ht : 0 ≤ t) (ht' : t ≤ p) : Bd 1100 (jaroF p m n t) := by
  unfold jaroF
  obtain ⟨_, k, f, d, v⟩ := three_dec
  have h1 := Bd.q (a := p) hm hp (by omega)
  have h2 := Bd.q (a := p) hn hp (by omega)
  have h3 := Bd.q (a := p - t) hp0 (by omega) (by omega)
  have h4 := (h1.add h2 (by omega)).add (h3.mono (by omega)) (by omega)
  exact (h4.div d v (by omega)).mono (by omega)
theorem one_bd : Bd 1085 (Float64.ofInt 1) := Bd.int (by decide) (by decide)
theorem one_is : Float64.ofInt 1 = 4607182418800017408 := by decide +kernel
theorem tenth_is : qI 1 10 = 4591870180066957722 := by decide +kernel
theorem line_is : qI 7 10 = 4604480259023595110 := by decide +kernel
theorem leL_is (W : UInt64) : leL W = leF W := by unfold leL leF; rw [line_is]
theorem w1_bd {k : Nat} {W : UInt64} (hk : k ≤ 4) (hW : Bd 1100 W) : Bd 1150 (w1F k W) := by
  unfold w1F
  have h1 : Bd 1102 (Float64.sub (Float64.ofInt 1) W) := Bd.sub (one_bd.mono (by omega)) hW (by omega)
  have h2 : Bd 1097 (Float64.mul (Float64.ofInt k) (qI 1 10)) := Bd.mul (S := 1096) (Bd.int (a := k) (by omega) (by omega)) (Bd.q (by decide) (by decide) (by decide)) (by omega) (by omega)
  have h3 : Bd 1126 (Float64.mul (Float64.mul (Float64.ofInt k) (qI 1 10)) (Float64.sub (Float64.ofInt 1) W)) := Bd.mul (S := 1125) h2 h1 (by omega) (by omega)
  exact ((hW.mono (by omega)).add h3 (by omega)).mono (by omega)
theorem w2_bd {p m n k : Int} {V : UInt64} (hV : Bd 1150 V) (hp : p - k - 1 ≤ 1000) (hp' : -1000 ≤ p - k - 1) (hd : 0 < m + n - 2 * k + 2) : Bd 1200 (w2F p m n k V) := by
  unfold w2F
  have h1 : Bd 1152 (Float64.sub (Float64.ofInt 1) V) := Bd.sub (one_bd.mono (by omega)) hV (by omega)
  have h3 : Bd 1164 (Float64.mul (Float64.sub (Float64.ofInt 1) V) (qI (p - k - 1) (m + n - 2 * k + 2))) := Bd.mul (S := 1163) h1 (Bd.q hd hp hp') (by omega) (by omega)
  exact ((hV.mono (by omega)).add h3 (by omega)).mono (by omega)
open PySem.Float64 in
theorem val_pos {W : UInt64} (hW : Bd 1100 W) (h : leF W = false) : val W ≠ 0 := by
  intro e
  obtain ⟨a, m, x, d, v⟩ := hW.dec
  obtain ⟨b, k, f, d2, v2⟩ := (Bd.q (a := 7) (b := 10) (by decide) (by decide) (by decide)).dec
  unfold leF at h
  have h2 : (0 : Int) < val (qI 7 10) := by decide +kernel
  rw [cmp_right d d2, e, Int.compare_eq_lt.mpr h2] at h
  exact absurd h (by decide)
open PySem.Float64 in
theorem nil_mul {y : UInt64} {P : Nat} (hy : Bd P y) : val (Float64.mul (Float64.mul (Float64.ofInt 0) (qI 1 10)) y) = 0 ∧ Bd 1 (Float64.mul (Float64.mul (Float64.ofInt 0) (qI 1 10)) y) := by
  have e : Float64.mul (Float64.ofInt 0) (qI 1 10) = 0 := by decide +kernel
  obtain ⟨a, m, x, d, v⟩ := hy.dec
  have e2 : Float64.mul 0 y = pack (false != a) 0 := by
    unfold Float64.mul
    rw [d, PySem.Flt.decode_zero]
    show ofBin (false != a) (0 * m) _ = _
    rw [Nat.zero_mul]
    have hz : ∀ z : Int, (shift 0 1 z).1 = 0 := by intro z; unfold shift; split <;> simp
    have hr : ∀ (s : Bool) (z : Int), ofBin s 0 z = pack s 0 := by
      intro s z
      show ofFrac s (shift 0 1 z).1 (shift 0 1 z).2 = _
      rw [hz]
      unfold ofFrac
      rw [roundMag_min]
      rfl
    exact hr _ _
  rw [e, e2]
  refine ⟨?_, Bd.zero _ _⟩
  rw [val_pack _ (by decide +kernel), V_zero]
  unfold sgn; split <;> rfl
theorem v1_is {k : Nat} {W : UInt64} (hW : Bd 1100 W) (h : leF W = false) : v1F k W = w1F k W := by
  unfold v1F w1F
  rw [one_is, tenth_is]
  by_cases hk : k = 0
  · subst hk
    rw [if_pos rfl]
    have h1 : Bd 1102 (Float64.sub (Float64.ofInt 1) W) := Bd.sub (one_bd.mono (by omega)) hW (by omega)
    have z := nil_mul h1
    rw [one_is, tenth_is] at z
    exact (add_nil' hW z.2 z.1 (by omega) (val_pos hW h)).symm
  · rw [if_neg hk]
theorem v2_is (c m n k : Int) (V : UInt64) : v2F c m n k V = w2F c m n k V := by
  unfold v2F w2F
  rw [one_is, Int.mul_comm k 2]
theorem pre_unique {na nb : List Int} {k l : Nat} (h : IsPre na nb k) (h' : IsPre na nb l) : k = l := by
  obtain ⟨a1, a2, a3, a4, a5⟩ := h
  obtain ⟨b1, b2, b3, b4, b5⟩ := h'
  rcases Nat.lt_trichotomy k l with g | g | g
  · have := b4 k g
    rcases a5 with h | h | h | h
    · omega
    · omega
    · omega
    · exact absurd this h
  · exact g
  · have := a4 l g
    rcases b5 with h | h | h | h
    · omega
    · omega
    · omega
    · exact absurd this h
theorem pre_comm {na nb : List Int} {k : Nat} (h : IsPre na nb k) : IsPre nb na k := by
  obtain ⟨a1, a2, a3, a4, a5⟩ := h
  refine ⟨a2, a1, a3, fun i hi => (a4 i hi).symm, ?_⟩
  rcases a5 with h | h | h | h
  · exact .inr (.inl h)
  · exact .inl h
  · exact .inr (.inr (.inl h))
  · exact .inr (.inr (.inr fun e => h e.symm))
theorem short_comm {fav : Bool} {p m n k : Nat} (h : ShortW fav p m n k) : ShortW fav p n m k := by
  unfold ShortW at h ⊢; rw [leastI_comm n m]; exact h
theorem fin_comm {na nb : List Int} {fav wz : Bool} {c : Nat} {W : UInt64} {v : Value} (h : FinIs nb na fav wz c W v) : FinIs na nb fav wz c W v := by
  rcases h with h | h | ⟨h1, h2, k, h3, h4⟩
  · exact .inl h
  · exact .inr (.inl h)
  · refine .inr (.inr ⟨h1, h2, k, pre_comm h3, ?_⟩)
    rcases h4 with ⟨h5, h6⟩ | ⟨h5, h6⟩
    · exact .inl ⟨short_comm h5, h6⟩
    · refine .inr ⟨fun h => h5 (short_comm h), ?_⟩
      unfold v2F at h6 ⊢
      rw [Int.add_comm (na.length : Int)]; exact h6
theorem flags_le {R : Int} {na nb : List Int} {b1 b2 : List Bool} {c : Nat} (h : flagsG R na nb na.length = (b1, b2, c)) : c ≤ na.length ∧ c ≤ nb.length := by
  obtain ⟨h1, h2, h3, h4⟩ := flags_cnt h
  have e : ∀ b : List Bool, cnt b b.length ≤ b.length := fun b => Nat.le_trans (List.length_filter_le _ _) (by simp)
  have := e b1
  have := e b2
  omega
theorem call_comm {na nb : List Int} {fav wz : Bool} {v : Value} (l : na.length + nb.length ≤ 18) (h : CallIs nb na fav wz v) : CallIs na nb fav wz v := by
  rcases h with ⟨e, t, rfl⟩ | ⟨e, h, t, rfl⟩ | ⟨e, h1, h2, b1, b2, c, hf, h3⟩
  · exact .inl ⟨e.symm, t, rfl⟩
  · exact .inr (.inl ⟨fun x => e x.symm, h.symm, t, rfl⟩)
  · refine .inr (.inr ⟨fun x => e x.symm, h2, h1, ?_⟩)
    have hf' := hf
    rw [reachI_comm] at hf
    obtain ⟨n', hs, rfl⟩ := law_swap (reachI_nn _ _) hf
    refine ⟨b2, b1, n', hs, h3.imp id ?_⟩
    rintro ⟨h4, h5⟩
    refine ⟨h4, ?_⟩
    have hle := flags_le hs
    have e2 := law_swap_trans (reachI_nn _ _) hs
    have hna : 0 < na.length := List.length_pos_iff.mpr h2
    have hnb : 0 < nb.length := List.length_pos_iff.mpr h1
    rw [jaro_comm (by omega) (by omega) (by omega) (by omega), ← e2]
    exact fin_comm h5
/-- the two numbers are equal, and so are their distances -/
def EqN (v d : Value) : Prop :=
  (∃ t u, v = .int 1 t ∧ d = .int 1 u) ∨ (∃ t u, v = .int 0 t ∧ d = .int 0 u) ∨ (∃ t u, v = .float 0 t ∧ d = .int 0 u) ∨
  (∃ X t u, v = .float X t ∧ d = .float X u ∧ okF X ∧ okF (Float64.sub (Float64.ofInt 1) X))
theorem EqN.flt {X : UInt64} {t u : Tok} (h : Bd 1200 X) : EqN (.float X t) (.float X u) :=
  .inr (.inr (.inr ⟨X, t, u, rfl, rfl, h.ok, (Bd.sub (one_bd.mono (by omega)) h (by omega)).ok⟩))
section
variable {na nb : List Int} {fav : Bool} {v d : Value} (l : na.length + nb.length ≤ 18)
include l
theorem call_data (h : CallIs na nb fav wz v) : (na = nb ∧ ∃ t, v = .int 1 t) ∨ (na ≠ nb ∧ (lawPairs (reachI na.length nb.length) na nb na.length).length = 0 ∧ ((∃ t, v = .int 0 t) ∨ ∃ t, v = .float 0 t)) ∨
    (na ≠ nb ∧ (lawPairs (reachI na.length nb.length) na nb na.length).length ≠ 0 ∧ Bd 1100 (jF na nb (lawPairs (reachI na.length nb.length) na nb na.length)) ∧ (lawPairs (reachI na.length nb.length) na nb na.length).length ≤ 18 ∧
      FinIs na nb fav wz (lawPairs (reachI na.length nb.length) na nb na.length).length (jF na nb (lawPairs (reachI na.length nb.length) na nb na.length)) v) := by
  rcases h with ⟨e, t, rfl⟩ | ⟨e, h, t, rfl⟩ | ⟨e, h1, h2, b1, b2, c, hf, h3⟩
  · exact .inl ⟨e, t, rfl⟩
  · refine .inr (.inl ⟨e, ?_, .inl ⟨t, rfl⟩⟩)
    rcases hf : flagsG (reachI na.length nb.length) na nb na.length with ⟨b1, b2, c⟩
    rw [law_len (reachI_nn _ _) hf]
    have hle := flags_le hf
    rcases h with rfl | rfl
    · have : ([] : List Int).length = 0 := rfl
      omega
    · have : ([] : List Int).length = 0 := rfl
      omega
  · have hl := law_len (reachI_nn _ _) hf
    have hcr := law_crossed (reachI_nn _ _) hf
    have hle := flags_le hf
    rcases h3 with ⟨h4, t, rfl⟩ | ⟨h4, h5⟩
    · exact .inr (.inl ⟨e, by omega, .inr ⟨t, rfl⟩⟩)
    · refine .inr (.inr ⟨e, by omega, ?_, by omega, ?_⟩)
      · unfold jF
        rw [hl]
        have hna : 0 < na.length := List.length_pos_iff.mpr h1
        have hnb : 0 < nb.length := List.length_pos_iff.mpr h2
        have hcl : crossedOf na nb (lawPairs (reachI na.length nb.length) na nb na.length) ≤ c := by
          unfold crossedOf
          refine Nat.le_trans (List.length_filter_le _ _) ?_
          rw [List.length_map, List.length_range]; omega
        have hfd := fdiv2_le (Int.ofNat_le.mpr hcl)
        exact jaro_bd (by omega) (by omega) (by omega) (by omega) hfd.1 hfd.2
      · unfold jF
        rw [hl, hcr]; exact h5
theorem law_jaro (h : CallIs na nb fav false v) (hd : JaroIs na nb (lawPairs (reachI na.length nb.length) na nb na.length) d) : EqN v d := by
  rcases call_data l h with ⟨e, t, rfl⟩ | ⟨e, h0, h2⟩ | ⟨e, h0, hb, _, hf⟩
  · rcases hd with ⟨_, u, rfl⟩ | ⟨e', _⟩ | ⟨e', _⟩
    · exact .inl ⟨t, u, rfl, rfl⟩
    · exact absurd e e'
    · exact absurd e e'
  · rcases hd with ⟨e', _⟩ | ⟨_, _, u, rfl⟩ | ⟨_, h', _⟩
    · exact absurd e' e
    · rcases h2 with ⟨t, rfl⟩ | ⟨t, rfl⟩
      · exact .inr (.inl ⟨t, u, rfl, rfl⟩)
      · exact .inr (.inr (.inl ⟨t, u, rfl, rfl⟩))
    · exact absurd h0 h'
  · rcases hd with ⟨e', _⟩ | ⟨_, h', _⟩ | ⟨_, _, u, rfl⟩
    · exact absurd e' e
    · exact absurd h' h0
    · rcases hf with ⟨_, t, rfl⟩ | ⟨h3, _⟩ | ⟨h3, _⟩
      · exact EqN.flt (hb.mono (by omega))
      · cases h3
      · cases h3
theorem law_wink (h : CallIs na nb fav true v) (hd : WinkIs na nb (lawPairs (reachI na.length nb.length) na nb na.length) fav d) : EqN v d := by
  rcases call_data l h with ⟨e, t, rfl⟩ | ⟨e, h0, h2⟩ | ⟨e, h0, hb, hp, hf⟩
  · rcases hd with ⟨_, u, rfl⟩ | ⟨e', _⟩ | ⟨e', _⟩ | ⟨e', _⟩
    · exact .inl ⟨t, u, rfl, rfl⟩
    · exact absurd e e'
    · exact absurd e e'
    · exact absurd e e'
  · rcases hd with ⟨e', _⟩ | ⟨_, _, u, rfl⟩ | ⟨_, h', _⟩ | ⟨_, h', _⟩
    · exact absurd e' e
    · rcases h2 with ⟨t, rfl⟩ | ⟨t, rfl⟩
      · exact .inr (.inl ⟨t, u, rfl, rfl⟩)
      · exact .inr (.inr (.inl ⟨t, u, rfl, rfl⟩))
    · exact absurd h0 h'
    · exact absurd h0 h'
  · rcases hd with ⟨e', _⟩ | ⟨_, h', _⟩ | ⟨_, _, hl, u, rfl⟩ | ⟨_, _, hl, k, hk, hv⟩
    · exact absurd e' e
    · exact absurd h' h0
    · rcases hf with ⟨h3, _⟩ | ⟨_, h3, t, rfl⟩ | ⟨_, h3, _⟩
      · cases h3
      · exact EqN.flt (hb.mono (by omega))
      · rw [leL_is, hl] at h3; cases h3
    · rcases hf with ⟨h3, _⟩ | ⟨_, h3, t, rfl⟩ | ⟨_, h3, k', hk', hv'⟩
      · cases h3
      · rw [leL_is, hl] at h3; cases h3
      · obtain rfl := pre_unique hk hk'
        have hk4 : k ≤ 4 := hk.2.2.1
        have hkm : k ≤ na.length := hk.1
        have hkn : k ≤ nb.length := hk.2.1
        have hb1 := w1_bd hk4 hb
        rw [v1_is hb hl, v2_is] at hv'
        rcases hv with ⟨s1, u, rfl⟩ | ⟨s1, u, rfl⟩
        · rcases hv' with ⟨_, t, rfl⟩ | ⟨s2, _⟩
          · exact EqN.flt (hb1.mono (by omega))
          · exact absurd s1 s2
        · rcases hv' with ⟨s2, _⟩ | ⟨_, t, rfl⟩
          · exact absurd s2 s1
          · exact EqN.flt (w2_bd hb1 (by omega) (by omega) (by omega))
end
end Mine
end
section
open PySem PySem.W PyProof.Rows PySem.Calls
set_option Elab.async false
set_option maxRecDepth 100000
set_option maxHeartbeats 8000000
set_option pp.deepTerms false
namespace Mine

theorem reachI_nonneg (m n : Nat) : 0 ≤ reachI m n := by unfold reachI; split <;> omega
theorem reachI_le {m n : Nat} (hm : m ≤ 18) (hn : n ≤ 18) : reachI m n ≤ 18 := by
  have h : (if (n : Int) > m then (n : Int) else m) ≤ 18 := by split <;> omega
  have h0 : 0 ≤ (if (n : Int) > m then (n : Int) else m) := by split <;> omega
  unfold reachI
  generalize (if (n : Int) > m then (n : Int) else m) = z at *
  rw [Int.fdiv_eq_ediv_of_nonneg _ (by decide)]
  split <;> omega
theorem own3 {news₁ : List (Addr × Obj)} {it l : Addr} {oe oi ol : Obj} (h : ∀ p ∈ news₁, p.1 ≠ it ∧ p.1 ≠ it + 1 ∧ p.1 ≠ l) : ∀ p ∈ news₁, ∀ q ∈ [(it + 1, oe), (it, oi), (l, ol)], p.1 ≠ q.1 := by
  intro p hp q hq
  simp only [List.mem_cons, List.not_mem_nil, or_false] at hq
  rcases hq with rfl | rfl | rfl
  · exact (h p hp).2.1
  · exact (h p hp).1
  · exact (h p hp).2.2
theorem not_short {fav : Bool} {p m n k : Nat} (h1 : fav = true) (h2 : ¬ leastI m n ≤ 4) (h3 : ¬ (p : Int) ≤ k + 1) (h4 : ¬ 2 * (p : Int) < leastI m n + k) : ¬ ShortW fav p m n k := by
  rintro (h | h | h | h)
  · rw [h] at h1; cases h1
  · exact h2 h
  · exact h3 h
  · exact h4 h
def NoPrune : Prop := True
theorem flat_false : ∀ n, (List.replicate n [false]).flatten = List.replicate n false
  | 0 => rfl
  | n + 1 => by rw [List.replicate_succ, List.flatten_cons, flat_false n]; rfl
theorem mulF {prog : Program} {w : World} {A : Around} {E : Value → Shared → Prop} {s : Shared} {h₀ : Heap} {L l : Addr} {m : Str → Option Value} {news : List (Addr × Obj)} {n k : Nat} {u : Tok} {Q : Value → Shared → Prop} (Fm : Fr h₀ L s.heap m) (N : News h₀ L s.heap news) (hm : (l, W.listOf #[.bool false] k) ∈ news) (hn : n ≤ 18)
    (h : ∀ D vs h', Fr h₀ L h' m → News h₀ L h' ((D, W.listOf (List.toArray vs) 0) :: news) → (∀ p ∈ news, p.1 < D) → LSm.BoolsAre vs (List.replicate n false) → Q (.ref D) { s with heap := h' }) : wpAny (model prog w) A (binaryOp .Mult (.ref l) (.int (n : Int) u)) Q E s := by
  refine kbo_mul (vs := [.bool false]) (bs := [false]) Fm N (News.isList N hm) (.cons _ .nil) (by omega) (by omega) (by simp; omega) fun D h' F' N' l1 b1 _ _ _ _ _ _ => ?_
  rw [Int.toNat_natCast] at b1 N'
  refine h D _ h' F' N' l1 ?_
  exact flat_false n ▸ b1
def Met (h₀ : Heap) (L : Addr) (s : Shared) (P : (Str → Option Value) → Prop) (news : List (Addr × Obj)) (f : Flow) (s' : Shared) : Prop :=
  f = .next ∧ ∃ h tk m, s' = { s with heap := h, toks := tk } ∧ Fr h₀ L h m ∧ News h₀ L h news ∧ P m
theorem meet_next {M : Model} {A : Around} {t : Sem Flow} {Q : Flow → Shared → Prop} {E : Value → Shared → Prop} {s : Shared} {h₀ : Heap} {L : Addr} (P : (Str → Option Value) → Prop) (news : List (Addr × Obj))
    (h1 : wpAny M A t (fun f s' => Stop M A (Met h₀ L s P news f) s') (fun _ _ => False) s) (h2 : ∀ h tk m, Fr h₀ L h m → News h₀ L h news → P m → Q .next { s with heap := h, toks := tk }) : wpAny M A t Q E s := by
  refine wpAny_mono (wpAny_stop h1) ?_ fun _ _ x => x.elim
  rintro f s' ⟨rfl, h, tk, m, rfl, F, N, hP⟩
  exact h2 h tk m F N hP
def J1 (x a b f1 f2 : Addr) (R : Int) (na nb : List Int) (i : Nat) (m : Str → Option Value) (news : List (Addr × Obj)) : Prop :=
  ∃ t1 t2 t3 t4 t5 t6 vs1 vs2 b1 b2 c, m (Str.ofString "self") = some (.ref x) ∧ m (Str.ofString "s1") = some (.ref a) ∧ m (Str.ofString "s2") = some (.ref b) ∧ m (Str.ofString "prefix_weight") = some (.float 4591870180066957722 t5) ∧ m (Str.ofString "s1_len") = some (.int na.length t1) ∧
    m (Str.ofString "s2_len") = some (.int nb.length t2) ∧ m (Str.ofString "min_len") = some (.int (leastI na.length nb.length) t3) ∧ m (Str.ofString "search_range") = some (.int R t4) ∧ m (Str.ofString "s1_flags") = some (.ref f1) ∧ m (Str.ofString "s2_flags") = some (.ref f2) ∧ m (Str.ofString "common_chars") = some (.int (c : Nat) t6) ∧
    news = [(f2, W.listOf (List.toArray vs2) 0), (f1, W.listOf (List.toArray vs1) 0)] ∧ LSm.BoolsAre vs1 b1 ∧ LSm.BoolsAre vs2 b2 ∧ flagsG R na nb i = (b1, b2, c)
def J2 (x a b f1 f2 it : Addr) (oe oi : Obj) (vs1 vs2 : List Value) (b2 : List Bool) (c : Nat) (R low : Int) (na nb : List Int) (i : Nat) (t : Nat) (m : Str → Option Value) (news : List (Addr × Obj)) : Prop :=
  ∃ t1 t2 t3 t4 t5 t6 t7 t8, m (Str.ofString "self") = some (.ref x) ∧ m (Str.ofString "s1") = some (.ref a) ∧ m (Str.ofString "s2") = some (.ref b) ∧ m (Str.ofString "prefix_weight") = some (.float 4591870180066957722 t5) ∧ m (Str.ofString "s1_len") = some (.int na.length t1) ∧
    m (Str.ofString "s2_len") = some (.int nb.length t2) ∧ m (Str.ofString "min_len") = some (.int (leastI na.length nb.length) t3) ∧ m (Str.ofString "search_range") = some (.int R t4) ∧ m (Str.ofString "s1_flags") = some (.ref f1) ∧ m (Str.ofString "s2_flags") = some (.ref f2) ∧ m (Str.ofString "common_chars") = some (.int (c : Nat) t6) ∧
    m (Str.ofString "i") = some (.int (i : Nat) t7) ∧ m (Str.ofString "s1_ch") = some (.int (na.getD i 0) t8) ∧
    news = [(it + 1, oe), (it, oi), (f2, W.listOf (List.toArray vs2) 0), (f1, W.listOf (List.toArray vs1) 0)] ∧ (∀ j : Nat, (j : Int) < low + t → okAt R na nb b2 i j = false)
def J3 (x a b D2 : Addr) (us2 : List Value) (b1 b2 : List Bool) (c : Nat) (na nb : List Int) (i : Nat) (m : Str → Option Value) (news : List (Addr × Obj)) : Prop :=
  ∃ t1 t2 t3 t5 t6 t7 t8, m (Str.ofString "self") = some (.ref x) ∧ m (Str.ofString "s1") = some (.ref a) ∧ m (Str.ofString "s2") = some (.ref b) ∧ m (Str.ofString "prefix_weight") = some (.float 4591870180066957722 t5) ∧ m (Str.ofString "s1_len") = some (.int na.length t1) ∧
    m (Str.ofString "s2_len") = some (.int nb.length t2) ∧ m (Str.ofString "min_len") = some (.int (leastI na.length nb.length) t3) ∧ m (Str.ofString "s2_flags") = some (.ref D2) ∧ m (Str.ofString "common_chars") = some (.int (c : Nat) t6) ∧
    m (Str.ofString "k") = some (.int ((transG b1 b2 na nb i).1 : Nat) t7) ∧ m (Str.ofString "trans_count") = some (.int ((transG b1 b2 na nb i).2 : Nat) t8) ∧ news = [(D2, W.listOf (List.toArray us2) 0)]
def J4 (x a b D1 D2 it : Addr) (oe oi ol : Obj) (us2 : List Value) (b2 : List Bool) (c k0 tc : Nat) (na nb : List Int) (i : Nat) (t : Nat) (m : Str → Option Value) (news : List (Addr × Obj)) : Prop :=
  ∃ t1 t2 t3 t5 t6 t7 t8 t9, m (Str.ofString "self") = some (.ref x) ∧ m (Str.ofString "s1") = some (.ref a) ∧ m (Str.ofString "s2") = some (.ref b) ∧ m (Str.ofString "prefix_weight") = some (.float 4591870180066957722 t5) ∧ m (Str.ofString "s1_len") = some (.int na.length t1) ∧
    m (Str.ofString "s2_len") = some (.int nb.length t2) ∧ m (Str.ofString "min_len") = some (.int (leastI na.length nb.length) t3) ∧ m (Str.ofString "s2_flags") = some (.ref D2) ∧ m (Str.ofString "common_chars") = some (.int (c : Nat) t6) ∧
    m (Str.ofString "k") = some (.int (k0 : Nat) t7) ∧ m (Str.ofString "trans_count") = some (.int (tc : Nat) t8) ∧ m (Str.ofString "i") = some (.int (i : Nat) t9) ∧
    news = [(it + 1, oe), (it, oi), (D1, ol), (D2, W.listOf (List.toArray us2) 0)] ∧ (∀ j : Nat, k0 ≤ j → j < k0 + t → b2.getD j false = false)
def J5 (x a b : Addr) (c : Nat) (W : UInt64) (na nb : List Int) (n : Nat) (m : Str → Option Value) (news : List (Addr × Obj)) : Prop :=
  ∃ k t1 t2 t3 t5 t6 t7 t8 t9, n + k = 4 ∧ k ≤ na.length ∧ k ≤ nb.length ∧ (∀ i, i < k → na.getD i 0 = nb.getD i 0) ∧ news = [] ∧ m (Str.ofString "self") = some (.ref x) ∧ m (Str.ofString "s1") = some (.ref a) ∧ m (Str.ofString "s2") = some (.ref b) ∧ m (Str.ofString "prefix_weight") = some (.float 4591870180066957722 t5) ∧ m (Str.ofString "s1_len") = some (.int na.length t1) ∧
    m (Str.ofString "s2_len") = some (.int nb.length t2) ∧ m (Str.ofString "min_len") = some (.int (leastI na.length nb.length) t3) ∧ m (Str.ofString "common_chars") = some (.int (c : Nat) t6) ∧
    m (Str.ofString "weight") = some (.float W t7) ∧ m (Str.ofString "i") = some (.int (k : Nat) t8) ∧ m (Str.ofString "j") = some (.int (if 4 < leastI na.length nb.length then 4 else leastI na.length nb.length) t9)
theorem call_fin {na nb : List Int} {fav wz : Bool} {v : Value} {b1 b2 : List Bool} {c tt : Nat} {W : UInt64} (hab : na ≠ nb) (hna : na ≠ []) (hnb : nb ≠ []) (hfl : flagsG (reachI na.length nb.length) na nb na.length = (b1, b2, c)) (hc : c ≠ 0)
    (ht : (transG b1 b2 na nb b1.length).2 = tt) (hW : jaroF c na.length nb.length ((tt : Int).fdiv 2) = W) (h : FinIs na nb fav wz c W v) : CallIs na nb fav wz v := by
  subst ht hW
  exact Or.inr (Or.inr ⟨hab, hna, hnb, b1, b2, c, hfl, Or.inr ⟨hc, h⟩⟩)
section
variable {na nb : List Int} {fav wz : Bool} {c k : Nat} {W : UInt64} {t : Tok} (hwz : wz = true) (hl : leL W = false) (hp : IsPre na nb k)
include hwz hl hp
theorem fin_short0 (hz : (k : Int) = 0) (hs : ShortW fav c na.length nb.length k) : FinIs na nb fav wz c W (.float W t) :=
  Or.inr (Or.inr ⟨hwz, hl, k, hp, Or.inl ⟨hs, t, by unfold v1F; rw [if_pos (Int.ofNat_inj.mp hz)]⟩⟩)
theorem fin_short1 (hz : (k : Int) ≠ 0) (hs : ShortW fav c na.length nb.length k) : FinIs na nb fav wz c W (.float (Float64.add W (Float64.mul (Float64.mul (Float64.ofInt k) 4591870180066957722) (Float64.sub 4607182418800017408 W))) t) :=
  Or.inr (Or.inr ⟨hwz, hl, k, hp, Or.inl ⟨hs, t, by unfold v1F; rw [if_neg fun e => hz (congrArg Int.ofNat e)]⟩⟩)
theorem fin_long0 (hz : (k : Int) = 0) (hs : ¬ ShortW fav c na.length nb.length k) : FinIs na nb fav wz c W (.float (Float64.add W (Float64.mul (Float64.sub 4607182418800017408 W) (qI (c - k - 1) (na.length + nb.length - k * 2 + 2)))) t) :=
  Or.inr (Or.inr ⟨hwz, hl, k, hp, Or.inr ⟨hs, t, by unfold v1F v2F; rw [if_pos (Int.ofNat_inj.mp hz)]⟩⟩)
theorem fin_long1 (hz : (k : Int) ≠ 0) (hs : ¬ ShortW fav c na.length nb.length k) : FinIs na nb fav wz c W (.float (Float64.add (Float64.add W (Float64.mul (Float64.mul (Float64.ofInt k) 4591870180066957722) (Float64.sub 4607182418800017408 W))) (Float64.mul (Float64.sub 4607182418800017408 (Float64.add W (Float64.mul (Float64.mul (Float64.ofInt k) 4591870180066957722) (Float64.sub 4607182418800017408 W)))) (qI (c - k - 1) (na.length + nb.length - k * 2 + 2)))) t) :=
  Or.inr (Or.inr ⟨hwz, hl, k, hp, Or.inr ⟨hs, t, by unfold v1F v2F; rw [if_neg fun e => hz (congrArg Int.ofNat e)]⟩⟩)
end
def JS (x a b : Addr) (R : Int) (na nb : List Int) (m : Str → Option Value) : Prop :=
  ∃ t1 t2 t3 t4 t5, m (Str.ofString "self") = some (.ref x) ∧ m (Str.ofString "s1") = some (.ref a) ∧ m (Str.ofString "s2") = some (.ref b) ∧ m (Str.ofString "prefix_weight") = some (.float 4591870180066957722 t5) ∧ m (Str.ofString "s1_len") = some (.int na.length t1) ∧
    m (Str.ofString "s2_len") = some (.int nb.length t2) ∧ m (Str.ofString "min_len") = some (.int (leastI na.length nb.length) t3) ∧ m (Str.ofString "search_range") = some (.int R t4)
theorem news_add {h₀ g h' : Heap} {L l : Addr} {m : Str → Option Value} {news : List (Addr × Obj)} {o : Obj} (F : Fr h₀ L g m) (N : News h₀ L h' news) (hl : h'.get? l = some o) (hg : g.get? l = none) : News h₀ L h' ((l, o) :: news) := by
  intro p hp
  rcases List.mem_cons.mp hp with rfl | hp
  · refine ⟨hl, ?_, ?_⟩
    · intro e
      have e' : l = L := e
      obtain ⟨ob, es, ep, ho, _⟩ := F.ns
      rw [← e', hg] at ho
      cases ho
    · cases q : h₀.get? l with
      | none => rfl
      | some x => have := F.keep _ _ q; rw [hg] at this; cases this
  · exact N p hp
end Mine
end
section
open PySem PySem.W PyProof.Rows PySem.Calls
set_option Elab.async false
set_option maxRecDepth 100000
set_option maxHeartbeats 8000000
set_option pp.deepTerms false
namespace Mine
local macro_rules | `(tactic| k_asm) => `(tactic| (with_reducible refine' TupI.keeps ?ti1 ?ti2; (case ti1 => assumption); (case ti2 => first | exact Fr.keep (by assumption) | exact fun b o e => Fr.keep (by assumption) b o (Fr.keep (by assumption) b o e))))
local macro_rules | `(tactic| k_inst) => `(tactic| first | (refine InstAt.keepsIn (by assumption) (Fr.keep (by k_asm))) | (refine InstAt.keepsIn (by assumption) (fun b o e => Fr.keep (by k_asm) b o (Fr.keep (by k_asm) b o e))))
local macro_rules | `(tactic| walk_at "eval Name") => `(tactic| (k_here; (rename NoPrune => np'); k_dflt (refine' ld ?k1 ?k2 ?_; (case k1 => assumption); (case k2 => exact rfl); k_whole)))
local macro_rules | `(tactic| walk_at "exec If") => `(tactic| (k_here; (rename NoPrune => np'); k_dflt (refine wpAny_If ?_)))
local macro_rules | `(tactic| walk_at "ite") => `(tactic| (k_here; (rename NoPrune => np'); k_openite; first | (refine ite_pos (by with_reducible assumption) ?_) | (refine ite_neg (by with_reducible assumption) ?_) | (refine ite_isFalse (by with_reducible assumption) ?_) | with_reducible refine ite_tt ?_ | with_reducible refine ite_ff ?_ | (with_reducible refine split_ine ?_ ?_ <;> intro _) | (with_reducible refine split_ieq ?_ ?_ <;> intro _) | with_reducible refine split_not ?_ | (refine split_dec ?_ ?_ <;> intro _) | (refine split_bool ?_ ?_ <;> intro _)))
local macro_rules | `(tactic| walk_at "subscriptTail Name Name ref int") => `(tactic| (k_here; (rename NoPrune => np'); (with_reducible show wpAny _ _ (subscriptTail _ _ (Value.ref _) (Value.int _ _)) _ _ _); k_dflt (refine' kbo_sub ?k1 ?k2 ?k3 ?k4 ?k5 ?k6 ?_ ?k7; (case k1 => assumption); (case k2 => k_mem); (case k3 => with_reducible assumption); (case k4 => omega); (case k5 => omega); (case k6 => omega); (case k7 => with_unfolding_all rfl); k_whole)))
local macro_rules | `(tactic| walk_at "call ref") => `(tactic| (k_here; (with_reducible show wpAny _ _ (call (Value.ref 108) _) _ _ _); refine wpAny_held ?_))
local macro_rules | `(tactic| walk_at "call ref") => `(tactic| (k_here; (with_reducible show wpAny _ _ (call (Value.ref 178) _) _ _ _); refine wpAny_held ?_))
local macro_rules | `(tactic| walk_at "call builtin:len") => `(tactic| (k_here; (with_reducible show wpAny _ _ (call (Value.builtin "len") [Value.ref _]) _ _ _); k_dflt (refine' ti_len ?k1 ?k2 ?_; (case k1 => k_asm); (case k2 => omega); k_whole)))
local macro_rules | `(tactic| walk_at "exec For Tuple Call") => `(tactic| (k_here; k_dflt (refine wpAny_For ?_)))
local macro_rules | `(tactic| walk_at "exec For Name Call cons nil") => `(tactic| (k_here; k_dflt (refine wpAny_For ?_)))
local macro_rules | `(tactic| walk_at "exec If Compare") => `(tactic| (k_here; (with_reducible show wpAny _ _ (exec (Stmt.If (PySem.Expr.Compare (PySem.Expr.Name _ _) [CmpOp.Lt] _ _) _ _ _) _) _ _ _); refine wpAny_held ?_))
local macro_rules | `(tactic| walk_at "binaryOp Mult ref int") => `(tactic| (k_here; (with_reducible show wpAny _ _ (binaryOp Operator.Mult (Value.ref _) (Value.int _ _)) _ _ _); k_dflt (refine' mulF ?k1 ?k2 ?k3 ?k4 ?_; (case k1 => assumption); (case k2 => assumption); (case k3 => k_mem); (case k4 => omega); k_whole; intro D' vs' h' F' N' l1 b'; (try k_lt l1); (try k_sweep))))
local macro_rules | `(tactic| walk_at "pyIter ref") => `(tactic| (k_here; k_dflt (refine' iter_rangeL ?k1 ?k2 ?k3 ?k4 ?_; (case k1 => assumption); (case k2 => assumption); (case k3 => assumption); (case k4 => (refine small_one ?_ ?_ ?_ ?_ <;> omega)); k_whole; intro it' h' F' N' l1; (try k_lt l1); (try k_sweep))))
local macro_rules | `(tactic| walk_at "call type:enumerate") => `(tactic| (k_here; (with_reducible show wpAny _ _ (call (Value.type "enumerate") [Value.ref _]) _ _ _); k_dflt (refine' call_enumL ?k1 ?k2 ?k3 ?_; (case k1 => assumption); (case k2 => assumption); (case k3 => exact News.isList (by assumption) (by k_mem)); k_whole; intro it' oi' h' F' N' l1 c1' d1'; (try k_lt l1); (try k_sweep))))
local macro_rules | `(tactic| walk_at "call type:enumerate") => `(tactic| (k_here; (with_reducible show wpAny _ _ (call (Value.type "enumerate") [Value.ref _]) _ _ _); k_dflt (refine' call_enumI ?k1 ?k2 ?k3 ?_; (case k1 => assumption); (case k2 => assumption); (case k3 => k_asm); k_whole; intro it' h' F' N' l1 l2; (try k_lt l1); (try k_lt2 l2); (try k_sweep))))
local macro_rules | `(tactic| walk_at "pyIter ref") => `(tactic| (k_here; k_dflt (refine' wpAny_pyIter_enum ?k1 ?_; (case k1 => exact News.get (by assumption) (by k_mem)); k_whole)))
local macro_rules | `(tactic| walk_at "subscriptTail Name Name ref int") => `(tactic| (k_here; (with_reducible show wpAny _ _ (subscriptTail _ _ (Value.ref _) (Value.int _ _)) _ _ _); k_dflt (refine' ti_item ?k1 ?k2 ?k3 ?k4 ?_; (case k1 => k_asm); (case k2 => omega); (case k3 => omega); (case k4 => omega); k_whole; intro t')))
local macro_rules | `(tactic| walk_at "exec While") => `(tactic| (k_here; refine wpAny_held ?_))
theorem c213a {w : World} {A₀ : Around} {base h₀ : Heap} {outer : List Env} {L : Addr} {m mg mb : Str → Option Value} {mean : ExcName → Option Value} {p : Program} {loose : List Str} {s : Shared} {env : Env}
    {x C a b : Addr} {fav wz : Bool} {na nb : List Int} (hC : C = 238) (hI : SelfI s.heap x C fav wz)
    (B : Below A₀ base outer h₀) (F : Fr h₀ L s.heap m) (X : (hd.heap_39 w.params).In h₀) (T : Top p loose mean mg mb h₀) (hf : env.frame = some L) (hk : env.scope.kind = .function)
    (hta : TupI s.heap a na) (htb : TupI s.heap b nb) (la : na.length ≤ 18) (lb : nb.length ≤ 18) :
    codeAny (model PySem.Challenge.rw_br0036_01.row.prog w) (cC env outer) (.call (.ref 213) ⟨[.ref x, .ref a, .ref b], []⟩) (RetW s (fun _ v => CallIs na nb fav wz v)) s := by
  have hI' := hI
  obtain ⟨dx, h1, h2, h3, h4, t1, t2, t3, t4, tq, nd, I⟩ := hI
  revert X; k_fill; intro X
  k_dflt (refine' code_pureC ?k1 ?k2 ?k3 ?k5 ?kA ?kF ?kK ?k6 ?k7 ?k8 ?k9 ?kB ?kD ?_ ?c2 ?c3 ?c4; (case kA => exact rfl); (case kF => exact hf); (case kK => exact hk); (case k1 => k_asm); (case k2 => k_asm); (case k3 => k_asm); (case k5 => k_asm); (case k6 => k_is); (case k7 => k_is); (case k8 => k_room); (case k9 => first | exact BindsTo.of_eq rfl | exact binds_K (by k_in) rfl (by k_is) rfl rfl rfl | fail "k_enter: no rule for these arguments"); (case kB => exact rfl); (case kD => decide +kernel); (case c2 => exact rfl); (case c3 => exact rfl); (case c4 => exact rfl); k_whole; clear B F X T; intro L' h' tk' cells' F' N' Y' B' X' T'; (first | k_cells Y' | (have hY := cells_none Y'; subst hY; clear Y')); (try simp only [List.cons_append, List.nil_append] at N'); (try dsimp only); (try k_fold))
  subst hC
  · (w_strict k_steps)
    refine Stop.intro ?_
    (rename Fr _ _ _ _ => F1); (rename News _ _ _ _ => N1)
    refine call_pure (c108 (C := 238) (fav := fav) (wz := wz) (Or.inl rfl) (SelfI.keeps hI' F1.keep) B' F1 X' T' rfl rfl) rfl rfl (by exact (by decide : 380 + 1 ≤ 400)) (by exact (by decide : 250 + 3 ≤ 1000)) F1 N1 ?_
    rintro v h1 tk1 F2 N2 _ ⟨l, n, rfl, hl, hg⟩
    replace N2 := news_add F1 N2 hl hg
    clear F1 N1 hl hg
    (w_strict k_steps)
    refine Stop.intro ?_
    (rename Fr _ _ _ _ => F1); (rename News _ _ _ _ => N1)
    refine call_pure (c178 (C := 238) (fav := fav) (wz := wz) (Or.inl rfl) (SelfI.keeps hI' F1.keep) B' F1 X' T' rfl rfl (by k_asm) (by k_asm) la lb) rfl rfl (by exact (by decide : 380 + 1 ≤ 390)) (by exact (by decide : 250 + 3 ≤ 500)) F1 N1 ?_
    clear F1 N1
    rintro v h2 tk2 F1 N1 _ hq
    rcases hq with ⟨hab, t, rfl⟩ | ⟨hab, he, t, rfl⟩ | ⟨hab, hna, hnb, rfl⟩
    · (w_strict k_steps)
      all_goals (try dsimp only)
      refine Stop.intro ?_
      (rename Fr _ _ _ _ => F9)
      exact RetW.intro F9 (Or.inl ⟨hab, _, rfl⟩)
    · (w_strict k_steps)
      all_goals (try dsimp only)
      refine Stop.intro ?_
      (rename Fr _ _ _ _ => F9)
      exact RetW.intro F9 (Or.inr (Or.inl ⟨hab, he, _, rfl⟩))
    · have ga : 0 < na.length := List.length_pos_iff.mpr hna
      have gb : 0 < nb.length := List.length_pos_iff.mpr hnb
      (w_strict k_steps)
      all_goals (try dsimp only)
      · refine Stop.intro ?_
        (rename Fr _ _ _ _ => F3); (rename News _ _ _ _ => N3)
        refine meet_next (h₀ := s.heap) (L := L') (JS x a b (reachI na.length nb.length) na nb) [] ?one ?two
        case one =>
          refine wpAny_If ?_
          (w_strict k_steps)
          all_goals (try dsimp only)
          · (rename Fr _ _ _ _ => F4); (rename (_ < 0) => hlt)
            refine Stop.intro ⟨rfl, _, _, _, rfl, F4, fun p hp => (nomatch hp), ?_⟩
            have e : reachI na.length nb.length = 0 := by unfold reachI; rw [if_pos hlt]
            rw [e]
            exact ⟨_, _, _, _, _, rfl, rfl, rfl, rfl, rfl, rfl, rfl, rfl⟩
          · (rename Fr _ _ _ _ => F4); (rename (¬ (_ < 0)) => hlt)
            refine Stop.intro ⟨rfl, _, _, _, rfl, F4, fun p hp => (nomatch hp), ?_⟩
            have e : reachI na.length nb.length = (if (nb.length : Int) > na.length then (nb.length : Int) else na.length).fdiv 2 - 1 := by unfold reachI; rw [if_neg hlt]
            rw [e]
            exact ⟨_, _, _, _, _, rfl, rfl, rfl, rfl, rfl, rfl, rfl, rfl⟩
        case two =>
          clear F3 N3
          rintro h3 tk3 m3 F3 N3 ⟨t1, t2, t3, t4, t5, e1, e2, e3, e4, e5, e6, e7, e8⟩
          have hR0 : 0 ≤ reachI na.length nb.length := reachI_nonneg _ _
          have hR1 : reachI na.length nb.length ≤ 18 := reachI_le la lb
          generalize hRe : reachI na.length nb.length = R at hR0 hR1 e8 ⊢
          replace F3 := fr_knows [(Str.ofString "self", _), (Str.ofString "s1", _), (Str.ofString "s2", _), (Str.ofString "prefix_weight", _), (Str.ofString "s1_len", _), (Str.ofString "s2_len", _), (Str.ofString "min_len", _), (Str.ofString "search_range", _)] (by simp only [List.forall_mem_cons, List.not_mem_nil, false_implies, implies_true, and_true]; exact ⟨e1, e2, e3, e4, e5, e6, e7, e8⟩) F3
          (try dsimp only)
          (w_strict k_steps)
          (rename Fr _ _ _ _ => F4); (rename News _ _ _ _ => N4)
          rename_i D1 vs1 g1 bb1 q1 g2 tkk lst2 g3 q2 D2 vs2 g4 bb2 q3 g5 g6 it g7 q4 q5
          refine loop_enumI (h₀ := s.heap) (l := a) (ns := na) (news := [(D2, W.listOf (List.toArray vs2) 0), (D1, W.listOf (List.toArray vs1) 0)]) rfl hta F4 (fun p hp => N4 p ?hN) ?hlow (J1 x a b D1 D2 R na nb) ?h0 ?step ?done
          case hN =>
            simp only [List.mem_cons, List.not_mem_nil, or_false] at hp ⊢
            rcases hp with hp | hp | hp | hp <;> simp [hp]
          case hlow =>
            simp only [List.forall_mem_cons, List.not_mem_nil, false_implies, implies_true, and_true]
            exact ⟨q4.1, q4.2.2.1⟩
          case h0 =>
            exact ⟨_, _, _, _, _, _, vs1, vs2, _, _, 0, by rfl, by rfl, by rfl, by rfl, by rfl, by rfl, by rfl, by rfl, by rfl, by rfl, by rfl, rfl, bb1, bb2, rfl⟩
          case step =>
            clear F4 N4
            rintro i t tv m₁ news₁ oe oi h tk T d e sl hil ⟨t1, t2, t3, t4, t5, t6, us1, us2, b1, b2, c, e1, e2, e3, e4, e5, e6, e7, e8, e9, e10, e11, rfl, hb1, hb2, hfl⟩ hn1 hT1 hT2 F5 N5
            have hlen := flagsG_len R na nb i
            have hci := flagsG_le R na nb i
            rw [hfl] at hlen hci
            obtain ⟨hl1, hl2⟩ := hlen
            dsimp only at hl1 hl2 hci
            replace F5 := fr_knows [(Str.ofString "self", _), (Str.ofString "s1", _), (Str.ofString "s2", _), (Str.ofString "prefix_weight", _), (Str.ofString "s1_len", _), (Str.ofString "s2_len", _), (Str.ofString "min_len", _), (Str.ofString "search_range", _), (Str.ofString "s1_flags", _), (Str.ofString "s2_flags", _), (Str.ofString "common_chars", _)] (by simp only [List.forall_mem_cons, List.not_mem_nil, false_implies, implies_true, and_true]; exact ⟨e1, e2, e3, e4, e5, e6, e7, e8, e9, e10, e11⟩) F5
            change Fr s.heap L' h _ at F5
            change News s.heap L' h _ at N5
            k_lt hT2
            (try dsimp only)
            (w_strict k_steps)
            (rename Fr _ _ _ _ => F6); (rename News _ _ _ _ => N6)
            rename_i it2 gg2 q6
            generalize hlo : (if (i : Int) - R > 0 then (i : Int) - R else 0) = low at F6 N6 ⊢
            generalize hhi : (if (nb.length : Int) - 1 < (i : Int) + R then (nb.length : Int) - 1 else (i : Int) + R) = hi at F6 N6 ⊢
            have lo1 : 0 ≤ low := by rw [← hlo]; split <;> omega
            have lo2 : (i : Int) - R ≤ low := by rw [← hlo]; split <;> omega
            have lo3 : ∀ j : Nat, (j : Int) < low → (j : Int) < (i : Int) - R := by intro j hj; rw [← hlo] at hj; split at hj <;> omega
            have hi1 : hi ≤ (nb.length : Int) - 1 := by rw [← hhi]; split <;> omega
            have hi2 : hi ≤ (i : Int) + R := by rw [← hhi]; split <;> omega
            have hi3 : ∀ j : Nat, hi < (j : Int) → j < nb.length → (i : Int) + R < (j : Int) := by intro j hj hjn; rw [← hhi] at hj; split at hj <;> omega
            have N6' : News s.heap L' gg2 [(it2, rngObj low (Builtin.Range.rangeSize low (hi + 1) 1)), (it + 1, oe), (it, oi), (D2, W.listOf (List.toArray us2) 0), (D1, W.listOf (List.toArray us1) 0)] := by
              intro p hp
              refine N6 p ?_
              simp only [List.mem_cons, List.not_mem_nil, or_false] at hp ⊢
              rcases hp with hp | hp | hp | hp | hp <;> simp [hp]
            refine loop_rangeN (a := low) (left := Builtin.Range.rangeSize low (hi + 1) 1) (n := (hi + 1 - low).toNat) (news := [(it + 1, oe), (it, oi), (D2, W.listOf (List.toArray us2) 0), (D1, W.listOf (List.toArray us1) 0)]) rfl (by rfl) (by rfl) (rangeSize_nat _ _) F6 N6' ?hnw2 (J2 x a b D1 D2 it oe oi us1 us2 b2 c R low na nb i) ?h02 ?step2 ?done2
            case hnw2 =>
              simp only [List.forall_mem_cons, List.not_mem_nil, false_implies, implies_true, and_true]
              exact ⟨by k_ne, by k_ne, by k_ne, by k_ne⟩
            case h02 =>
              refine ⟨_, _, _, _, _, _, _, _, by rfl, by rfl, by rfl, by rfl, by rfl, by rfl, by rfl, by rfl, by rfl, by rfl, by rfl, by rfl, by rfl, rfl, fun j hj => ?_⟩
              have := lo3 j (by omega)
              have h9 : ¬ ((i : Int) - R ≤ (j : Int)) := by omega
              unfold okAt; simp [h9]
            case step2 =>
              clear F6 N6 N6'
              rintro k t' m2 news2 oR h' tk' hk ⟨u1, u2, u3, u4, u5, u6, u7, u8, f1, f2, f3, f4, f5, f6, f7, f8, f9, f10, f11, f12, f13, rfl, hno⟩ hn2 F7 N7
              have np : NoPrune := trivial
              obtain ⟨jn, hjn⟩ : ∃ jn : Nat, low + (k : Int) = (jn : Int) := ⟨(low + (k : Int)).toNat, by omega⟩
              rw [hjn] at F7 hno
              have hj1 : jn < nb.length := by omega
              have hj2 : (i : Int) - R ≤ (jn : Int) := by omega
              have hj3 : (jn : Int) ≤ (i : Int) + R := by omega
              replace F7 := fr_knows [(Str.ofString "self", _), (Str.ofString "s1", _), (Str.ofString "s2", _), (Str.ofString "prefix_weight", _), (Str.ofString "s1_len", _), (Str.ofString "s2_len", _), (Str.ofString "min_len", _), (Str.ofString "search_range", _), (Str.ofString "s1_flags", _), (Str.ofString "s2_flags", _), (Str.ofString "common_chars", _), (Str.ofString "i", _), (Str.ofString "s1_ch", _), (Str.ofString "j", .int (jn : Int) t')] (by simp only [List.forall_mem_cons, List.not_mem_nil, false_implies, implies_true, and_true]; exact ⟨f1, f2, f3, f4, f5, f6, f7, f8, f9, f10, f11, f12, f13, rfl⟩) F7
              change Fr s.heap L' h' _ at F7
              change News s.heap L' h' _ at N7
              (try dsimp only)
              (w_strict k_steps)
              · refine Stop.intro ?_
                (rename Fr _ _ _ _ => F8); (rename News _ _ _ _ => N8); (rename (_ = true) => hbad)
                rw [Int.toNat_natCast] at hbad
                refine TurnT.next [(it + 1, oe), (it, oi), (D2, W.listOf (List.toArray us2) 0), (D1, W.listOf (List.toArray us1) 0)] F8 N8 ?_ ?_ ?_ ?_
                · intro p hp
                  simp only [List.mem_cons, List.not_mem_nil, or_false] at hp
                  subst hp; simp
                · intro p hp
                  simp only [List.mem_cons, List.not_mem_nil, or_false] at hp ⊢
                  rcases hp with hp | hp | hp | hp <;> simp [hp]
                · intro p hp q hq
                  rw [List.mem_singleton] at hq
                  subst hq
                  exact hn2 p hp
                · refine ⟨_, _, _, _, _, _, _, _, by rfl, by rfl, by rfl, by rfl, by rfl, by rfl, by rfl, by rfl, by rfl, by rfl, by rfl, by rfl, by rfl, rfl, fun j hj => ?_⟩
                  by_cases hjj : j = jn
                  · subst hjj; unfold okAt; rw [hbad]; simp
                  · exact hno j (by omega)
              · (rename Fr _ _ _ _ => F8); (rename News _ _ _ _ => N8); (rename (_ = false) => hfl2); (rename (_ = List.getD na i 0) => heq2)
                rename_i z1 hbb1 z2 z3 hbb2 z4 z5
                simp only [Int.toNat_natCast] at hbb1 hbb2 hfl2 heq2 N8
                have hhit : hit R na nb b2 i = some jn := hit_some hj1 (by unfold okAt; rw [hfl2, heq2]; simp; omega) (fun j hj => hno j (by omega))
                (try dsimp only)
                refine Stop.intro ?_
                dsimp only [TurnT]
                (w_strict k_steps)
                refine Stop.intro ?_
                (rename Fr _ _ _ _ => F9); (rename News _ _ _ _ => N9)
                refine TurnT.next [(D2, W.listOf (List.toArray (us2.set jn (.bool true))) 0), (D1, W.listOf (List.toArray (us1.set i (.bool true))) 0)] F9 N9 ?_ ?_ ?_ ?_
                · intro p hp
                  simp only [List.mem_cons, List.not_mem_nil, or_false] at hp
                  rcases hp with rfl | rfl <;> simp
                · intro p hp
                  simp only [List.mem_cons, List.not_mem_nil, or_false] at hp ⊢
                  rcases hp with hp | hp <;> simp [hp]
                · refine own_apart ?_
                  simp only [List.forall_mem_cons] at hn1 ⊢
                  exact hn1
                · exact ⟨_, _, _, _, _, _, _, _, _, _, c + 1, by rfl, by rfl, by rfl, by rfl, by rfl, by rfl, by rfl, by rfl, by rfl, by rfl, by rfl, rfl, hbb1, hbb2, flagsG_some hfl hhit⟩
              · refine Stop.intro ?_
                (rename Fr _ _ _ _ => F8); (rename News _ _ _ _ => N8); (rename (¬ _ = List.getD na i 0) => hbad)
                rw [Int.toNat_natCast] at hbad
                refine TurnT.next [(it + 1, oe), (it, oi), (D2, W.listOf (List.toArray us2) 0), (D1, W.listOf (List.toArray us1) 0)] F8 N8 ?_ ?_ ?_ ?_
                · intro p hp
                  simp only [List.mem_cons, List.not_mem_nil, or_false] at hp
                  subst hp; simp
                · intro p hp
                  simp only [List.mem_cons, List.not_mem_nil, or_false] at hp ⊢
                  rcases hp with hp | hp | hp | hp <;> simp [hp]
                · intro p hp q hq
                  rw [List.mem_singleton] at hq
                  subst hq
                  exact hn2 p hp
                · refine ⟨_, _, _, _, _, _, _, _, by rfl, by rfl, by rfl, by rfl, by rfl, by rfl, by rfl, by rfl, by rfl, by rfl, by rfl, by rfl, by rfl, rfl, fun j hj => ?_⟩
                  by_cases hjj : j = jn
                  · subst hjj; unfold okAt; rw [decide_eq_false hbad]; simp
                  · exact hno j (by omega)
            case done2 =>
              clear F6 N6 N6'
              rintro h' tk' m2 news2 F7 N7 ⟨u1, u2, u3, u4, u5, u6, u7, u8, f1, f2, f3, f4, f5, f6, f7, f8, f9, f10, f11, f12, f13, rfl, hno⟩
              have np : NoPrune := trivial
              replace F7 := fr_knows [(Str.ofString "self", _), (Str.ofString "s1", _), (Str.ofString "s2", _), (Str.ofString "prefix_weight", _), (Str.ofString "s1_len", _), (Str.ofString "s2_len", _), (Str.ofString "min_len", _), (Str.ofString "search_range", _), (Str.ofString "s1_flags", _), (Str.ofString "s2_flags", _), (Str.ofString "common_chars", _), (Str.ofString "i", _), (Str.ofString "s1_ch", _)] (by simp only [List.forall_mem_cons, List.not_mem_nil, false_implies, implies_true, and_true]; exact ⟨f1, f2, f3, f4, f5, f6, f7, f8, f9, f10, f11, f12, f13⟩) F7
              change Fr s.heap L' h' _ at F7
              change News s.heap L' h' _ at N7
              have hhit : hit R na nb b2 i = none := by
                refine hit_none fun j hj => ?_
                by_cases hjj : (j : Int) < low + ((hi + 1 - low).toNat : Nat)
                · exact hno j hjj
                · have := hi3 j (by omega) hj
                  have h9 : ¬ ((j : Int) ≤ (i : Int) + R) := by omega
                  unfold okAt; simp [h9]
              (try dsimp only)
              (w_strict k_steps)
              refine Stop.intro ?_
              (rename Fr _ _ _ _ => F9); (rename News _ _ _ _ => N9)
              refine TurnT.next [(D2, W.listOf (List.toArray us2) 0), (D1, W.listOf (List.toArray us1) 0)] F9 N9 ?_ ?_ ?_ ?_
              · intro p hp
                simp only [List.mem_cons, List.not_mem_nil, or_false] at hp
                rcases hp with rfl | rfl <;> simp
              · intro p hp
                simp only [List.mem_cons, List.not_mem_nil, or_false] at hp ⊢
                rcases hp with hp | hp <;> simp [hp]
              · refine own_apart ?_
                simp only [List.forall_mem_cons] at hn1 ⊢
                exact hn1
              · exact ⟨_, _, _, _, _, _, _, _, _, _, c, by rfl, by rfl, by rfl, by rfl, by rfl, by rfl, by rfl, by rfl, by rfl, by rfl, by rfl, rfl, hb1, hb2, flagsG_none hfl hhit⟩
          case done =>
            clear F4 N4
            rintro h' tk m₁ news₁ F5 N5 ⟨t1, t2, t3, t4, t5, t6, us1, us2, b1, b2, c, e1, e2, e3, e4, e5, e6, e7, e8, e9, e10, e11, rfl, hb1, hb2, hfl⟩
            have hlen := flagsG_len R na nb na.length
            have hci := flagsG_le R na nb na.length
            rw [hfl] at hlen hci
            obtain ⟨hl1, hl2⟩ := hlen
            dsimp only at hl1 hl2 hci
            replace F5 := fr_knows [(Str.ofString "self", _), (Str.ofString "s1", _), (Str.ofString "s2", _), (Str.ofString "prefix_weight", _), (Str.ofString "s1_len", _), (Str.ofString "s2_len", _), (Str.ofString "min_len", _), (Str.ofString "search_range", _), (Str.ofString "s1_flags", _), (Str.ofString "s2_flags", _), (Str.ofString "common_chars", _)] (by simp only [List.forall_mem_cons, List.not_mem_nil, false_implies, implies_true, and_true]; exact ⟨e1, e2, e3, e4, e5, e6, e7, e8, e9, e10, e11⟩) F5
            change Fr s.heap L' h' _ at F5
            change News s.heap L' h' _ at N5
            (try dsimp only)
            (w_strict k_steps)
            all_goals (try dsimp only)
            · (rename Fr _ _ _ _ => F6); (rename News _ _ _ _ => N6); (rename (_ ≠ 0) => hc0)
              rename_i gg1 gg2 jt oi1 gg3 cc1 dd1 q7
              have hnx := next_ok hfl
              have N6' : News s.heap L' gg3 ((jt + 1, enumObj jt 0 Value.none) :: (jt, oi1) :: (D1, W.listOf (List.toArray us1) 0) :: [(D2, W.listOf (List.toArray us2) 0)]) := by
                intro p hp
                refine N6 p ?_
                simp only [List.mem_cons, List.not_mem_nil, or_false] at hp ⊢
                rcases hp with hp | hp | hp | hp <;> simp [hp]
              refine loop_enumB (h₀ := s.heap) (l := D1) (bs := b1) (news := [(D2, W.listOf (List.toArray us2) 0)]) rfl hb1 cc1 dd1 F6 N6' q7.2 ?hlow2 ?hnl2 (J3 x a b D2 us2 b1 b2 c na nb) ?h03 ?step3 ?done3
              case hlow2 =>
                simp only [List.forall_mem_cons, List.not_mem_nil, false_implies, implies_true, and_true]
                exact q7.1
              case hnl2 =>
                simp only [List.forall_mem_cons, List.not_mem_nil, false_implies, implies_true, and_true]
                k_ne
              case h03 =>
                exact ⟨_, _, _, _, _, _, _, by rfl, by rfl, by rfl, by rfl, by rfl, by rfl, by rfl, by rfl, by rfl, by rfl, by rfl, rfl⟩
              case step3 =>
                clear F6 N6 N6'
                rintro i t m₂ news₂ oe oi ol h tk T d e sl hib ⟨t1, t2, t3, t5, t6, t7, t8, e1, e2, e3, e4, e5, e6, e7, e8, e9, e10, e11, rfl⟩ hn3 hT1 hTl hT2 F7 N7
                have hia : i < na.length := by omega
                have hk1 := transG_le1 b1 b2 na nb i
                have hk2 := transG_le b1 b2 na nb i
                have hskip : b1.getD i false = false → transG b1 b2 na nb (i + 1) = transG b1 b2 na nb i := transG_skip
                have hnx' := hnx i hib
                have hne' : ∀ j, b1.getD i false = true → nextT b2 (transG b1 b2 na nb i).1 = some j → na.getD i 0 ≠ nb.getD j 0 → transG b1 b2 na nb (i + 1) = (j + 1, (transG b1 b2 na nb i).2 + 1) := fun j h1 h2 h3 => transG_ne h1 h2 h3
                have heq' : ∀ j, b1.getD i false = true → nextT b2 (transG b1 b2 na nb i).1 = some j → na.getD i 0 = nb.getD j 0 → transG b1 b2 na nb (i + 1) = (j + 1, (transG b1 b2 na nb i).2) := fun j h1 h2 h3 => transG_eq h1 h2 h3
                generalize transG b1 b2 na nb i = kt at e10 e11 hk1 hk2 hskip hnx' hne' heq'
                obtain ⟨k0, tc⟩ := kt
                dsimp only at hk1 hk2 hnx' hne' heq' e10 e11
                replace F7 := fr_knows [(Str.ofString "self", _), (Str.ofString "s1", _), (Str.ofString "s2", _), (Str.ofString "prefix_weight", _), (Str.ofString "s1_len", _), (Str.ofString "s2_len", _), (Str.ofString "min_len", _), (Str.ofString "s2_flags", _), (Str.ofString "common_chars", _), (Str.ofString "k", _), (Str.ofString "trans_count", _)] (by simp only [List.forall_mem_cons, List.not_mem_nil, false_implies, implies_true, and_true]; exact ⟨e1, e2, e3, e4, e5, e6, e7, e8, e9, e10, e11⟩) F7
                change Fr s.heap L' h _ at F7
                change News s.heap L' h _ at N7
                k_lt hT2
                have np : NoPrune := trivial
                (try dsimp only)
                (w_strict k_steps)
                all_goals (try dsimp only)
                · (rename Fr _ _ _ _ => F8); (rename News _ _ _ _ => N8); (rename (_ = true) => hbt)
                  rename_i it2 gg4 q8
                  obtain ⟨j0, hj0⟩ := hnx' hbt
                  have hj0s := nextT_spec hj0
                  have N8' : News s.heap L' gg4 [(it2, rngObj (k0 : Int) (Builtin.Range.rangeSize (k0 : Int) (nb.length : Int) 1)), (jt + 1, oe), (jt, oi), (D1, ol), (D2, W.listOf (List.toArray us2) 0)] := by
                    intro p hp
                    refine N8 p ?_
                    simp only [List.mem_cons, List.not_mem_nil, or_false] at hp ⊢
                    rcases hp with hp | hp | hp | hp | hp <;> simp [hp]
                  refine loop_rangeN (a := (k0 : Int)) (left := Builtin.Range.rangeSize (k0 : Int) (nb.length : Int) 1) (n := ((nb.length : Int) - (k0 : Int)).toNat) (news := [(jt + 1, oe), (jt, oi), (D1, ol), (D2, W.listOf (List.toArray us2) 0)]) rfl (by rfl) (by rfl) (rangeSize_nat _ _) F8 N8' ?hnw4 (J4 x a b D1 D2 jt oe oi ol us2 b2 c k0 tc na nb i) ?h04 ?step4 ?done4
                  case hnw4 =>
                    simp only [List.forall_mem_cons, List.not_mem_nil, false_implies, implies_true, and_true]
                    exact ⟨by k_ne, by k_ne, by k_ne, by k_ne⟩
                  case h04 =>
                    exact ⟨_, _, _, _, _, _, _, _, by rfl, by rfl, by rfl, by rfl, by rfl, by rfl, by rfl, by rfl, by rfl, by rfl, by rfl, by rfl, rfl, fun j h1 h2 => absurd h2 (by omega)⟩
                  case step4 =>
                    clear F8 N8 N8'
                    rintro k t' m2 news2 oR h' tk' hk ⟨u1, u2, u3, u5, u6, u7, u8, u9, f1, f2, f3, f4, f5, f6, f7, f8, f9, f10, f11, f12, rfl, hno⟩ hn2 F9 N9
                    obtain ⟨jn, hjn⟩ : ∃ jn : Nat, (k0 : Int) + (k : Int) = (jn : Int) := ⟨k0 + k, by omega⟩
                    rw [hjn] at F9
                    have hj1 : jn < nb.length := by omega
                    have hj2 : k0 ≤ jn := by omega
                    have hj3 : ∀ j, k0 ≤ j → j < jn → b2.getD j false = false := fun j h1 h2 => hno j h1 (by omega)
                    replace F9 := fr_knows [(Str.ofString "self", _), (Str.ofString "s1", _), (Str.ofString "s2", _), (Str.ofString "prefix_weight", _), (Str.ofString "s1_len", _), (Str.ofString "s2_len", _), (Str.ofString "min_len", _), (Str.ofString "s2_flags", _), (Str.ofString "common_chars", _), (Str.ofString "k", _), (Str.ofString "trans_count", _), (Str.ofString "i", _), (Str.ofString "j", .int (jn : Int) t')] (by simp only [List.forall_mem_cons, List.not_mem_nil, false_implies, implies_true, and_true]; exact ⟨f1, f2, f3, f4, f5, f6, f7, f8, f9, f10, f11, f12, rfl⟩) F9
                    change Fr s.heap L' h' _ at F9
                    change News s.heap L' h' _ at N9
                    (try dsimp only)
                    (w_strict k_steps)
                    · (rename Fr _ _ _ _ => F10); (rename News _ _ _ _ => N10); (rename (_ = true) => hjt)
                      rw [Int.toNat_natCast] at hjt
                      have hnj : nextT b2 k0 = some jn := nextT_some (by omega) hj2 hjt hj3
                      (try dsimp only)
                      refine Stop.intro ?_
                      dsimp only [TurnT]
                      (w_strict k_steps)
                      · refine Stop.intro ?_
                        (rename Fr _ _ _ _ => F8); (rename News _ _ _ _ => N8); (rename (¬ List.getD na _ 0 = _) => hbad)
                        simp only [Int.toNat_natCast] at hbad
                        refine TurnT.next [(D2, W.listOf (List.toArray us2) 0)] F8 N8 ?_ ?_ ?_ ?_
                        · intro p hp
                          simp only [List.mem_cons, List.not_mem_nil, or_false] at hp
                          rcases hp with rfl | rfl | rfl <;> simp
                        · intro p hp
                          simp only [List.mem_cons, List.not_mem_nil, or_false] at hp ⊢
                          simp [hp]
                        · exact own3 hn3
                        · unfold J3; rw [hne' jn hbt hnj hbad]; exact ⟨_, _, _, _, _, _, _, by rfl, by rfl, by rfl, by rfl, by rfl, by rfl, by rfl, by rfl, by rfl, by rfl, by rfl, rfl⟩
                      · refine Stop.intro ?_
                        (rename Fr _ _ _ _ => F8); (rename News _ _ _ _ => N8); (rename (List.getD na _ 0 = _) => hgd)
                        simp only [Int.toNat_natCast] at hgd
                        refine TurnT.next [(D2, W.listOf (List.toArray us2) 0)] F8 N8 ?_ ?_ ?_ ?_
                        · intro p hp
                          simp only [List.mem_cons, List.not_mem_nil, or_false] at hp
                          rcases hp with rfl | rfl | rfl <;> simp
                        · intro p hp
                          simp only [List.mem_cons, List.not_mem_nil, or_false] at hp ⊢
                          simp [hp]
                        · exact own3 hn3
                        · unfold J3; rw [heq' jn hbt hnj hgd]; exact ⟨_, _, _, _, _, _, _, by rfl, by rfl, by rfl, by rfl, by rfl, by rfl, by rfl, by rfl, by rfl, by rfl, by rfl, rfl⟩
                    · refine Stop.intro ?_
                      (rename Fr _ _ _ _ => F10); (rename News _ _ _ _ => N10); (rename (_ = false) => hjt)
                      rw [Int.toNat_natCast] at hjt
                      refine TurnT.next [(jt + 1, oe), (jt, oi), (D1, ol), (D2, W.listOf (List.toArray us2) 0)] F10 N10 ?_ ?_ ?_ ?_
                      · intro p hp
                        simp only [List.mem_cons, List.not_mem_nil, or_false] at hp
                        subst hp; simp
                      · intro p hp
                        simp only [List.mem_cons, List.not_mem_nil, or_false] at hp ⊢
                        rcases hp with hp | hp | hp | hp <;> simp [hp]
                      · intro p hp q hq
                        rw [List.mem_singleton] at hq
                        subst hq
                        exact hn2 p hp
                      · refine ⟨_, _, _, _, _, _, _, _, by rfl, by rfl, by rfl, by rfl, by rfl, by rfl, by rfl, by rfl, by rfl, by rfl, by rfl, by rfl, rfl, fun j h1 h2 => ?_⟩
                        by_cases hjj : j = jn
                        · subst hjj; exact hjt
                        · exact hno j h1 (by omega)
                  case done4 =>
                    rintro h' tk' m2 news2 F9 N9 ⟨u1, u2, u3, u5, u6, u7, u8, u9, f1, f2, f3, f4, f5, f6, f7, f8, f9, f10, f11, f12, rfl, hno⟩
                    have := hno j0 hj0s.2.1 (by omega)
                    rw [hj0s.2.2] at this
                    cases this
                · refine Stop.intro ?_
                  (rename Fr _ _ _ _ => F8); (rename News _ _ _ _ => N8); (rename (_ = false) => hbf)
                  refine TurnT.next [(D2, W.listOf (List.toArray us2) 0)] F8 N8 ?_ ?_ ?_ ?_
                  · intro p hp
                    simp only [List.mem_cons, List.not_mem_nil, or_false] at hp
                    rcases hp with rfl | rfl | rfl <;> simp
                  · intro p hp
                    simp only [List.mem_cons, List.not_mem_nil, or_false] at hp ⊢
                    rcases hp with hp; simp [hp]
                  · exact own3 hn3
                  · unfold J3; rw [hskip hbf]; exact ⟨_, _, _, _, _, _, _, by rfl, by rfl, by rfl, by rfl, by rfl, by rfl, by rfl, by rfl, by rfl, by rfl, by rfl, rfl⟩
              case done3 =>
                clear F6 N6 N6'
                rintro h' tk' m2 news2 F7 N7 ⟨t1, t2, t3, t5, t6, t7, t8, e1, e2, e3, e4, e5, e6, e7, e8, e9, e10, e11, rfl⟩
                have hT := transG_le b1 b2 na nb b1.length
                generalize hTe : (transG b1 b2 na nb b1.length).2 = tt at e11 hT
                generalize (transG b1 b2 na nb b1.length).1 = kk at e10
                replace F7 := fr_knows [(Str.ofString "self", _), (Str.ofString "s1", _), (Str.ofString "s2", _), (Str.ofString "prefix_weight", _), (Str.ofString "s1_len", _), (Str.ofString "s2_len", _), (Str.ofString "min_len", _), (Str.ofString "s2_flags", _), (Str.ofString "common_chars", _), (Str.ofString "k", _), (Str.ofString "trans_count", _)] (by simp only [List.forall_mem_cons, List.not_mem_nil, false_implies, implies_true, and_true]; exact ⟨e1, e2, e3, e4, e5, e6, e7, e8, e9, e10, e11⟩) F7
                change Fr s.heap L' h' _ at F7
                change News s.heap L' h' _ at N7
                have hL1 : leastI na.length nb.length ≤ na.length := by unfold leastI; split <;> omega
                have hL2 : leastI na.length nb.length ≤ nb.length := by unfold leastI; split <;> omega
                have hL3 : 0 ≤ leastI na.length nb.length := by unfold leastI; split <;> omega
                have hfd := fdiv2_le (Int.ofNat_le.mpr hT)
                (try dsimp only)
                (w_strict k_steps)
                all_goals (try dsimp only)
                · refine Stop.intro ?_
                  (rename Fr _ _ _ _ => F9); (rename (_ = true) => hle)
                  exact RetW.intro F9 (call_fin hab hna hnb (by rw [hRe]; exact hfl) (by omega) hTe rfl (Or.inr (Or.inl ⟨by with_reducible assumption, hle, _, rfl⟩)))
                · refine Stop.intro ?_
                  (rename Fr _ _ _ _ => F9); (rename News _ _ _ _ => N9); (rename (_ = false) => hle)
                  have hwz : wz = true := by with_reducible assumption
                  have hc9 : c ≠ 0 := by omega
                  have hleJ : leL (jaroF c na.length nb.length ((tt : Int).fdiv 2)) = false := hle
                  have hflR : flagsG (reachI na.length nb.length) na nb na.length = (b1, b2, c) := by rw [hRe]; exact hfl
                  refine while_T (news := []) (J5 x a b c (jaroF c na.length nb.length ((tt : Int).fdiv 2)) na nb) (n₀ := 4) F9 (fun p hp => (nomatch hp)) ?hJ5 ?turn5
                  case hJ5 =>
                    exact ⟨0, _, _, _, _, _, _, _, _, rfl, by omega, by omega, fun i hi => absurd hi (by omega), rfl, by rfl, by rfl, by rfl, by rfl, by rfl, by rfl, by rfl, by rfl, by rfl, by rfl, by rfl⟩
                  case turn5 =>
                    clear F9 N9
                    rintro n2 m2 news2 h2 tk2 F9 N9 ⟨k, u1, u2, u3, u5, u6, u7, u8, u9, hn, hka, hkb, heq, rfl, f1, f2, f3, f4, f5, f6, f7, f8, f9, f10, f11⟩
                    replace F9 := fr_knows [(Str.ofString "self", _), (Str.ofString "s1", _), (Str.ofString "s2", _), (Str.ofString "prefix_weight", _), (Str.ofString "s1_len", _), (Str.ofString "s2_len", _), (Str.ofString "min_len", _), (Str.ofString "common_chars", _), (Str.ofString "weight", _), (Str.ofString "i", _), (Str.ofString "j", _)] (by simp only [List.forall_mem_cons, List.not_mem_nil, false_implies, implies_true, and_true]; exact ⟨f1, f2, f3, f4, f5, f6, f7, f8, f9, f10, f11⟩) F9
                    change Fr s.heap L' h2 _ at F9
                    change News s.heap L' h2 _ at N9
                    generalize hW : jaroF c na.length nb.length ((tt : Int).fdiv 2) = W at F9
                    have hleW : leL W = false := hW ▸ hleJ
                    (try dsimp only)
                    (w_strict k_steps)
                    all_goals (try dsimp only)
                    · refine Stop.intro ?_
                      (rename Fr _ _ _ _ => F3); (rename News _ _ _ _ => N3); (rename (_ < ite _ _ _) => hlt); (rename (List.getD _ _ _ = _) => hke)
                      have hk4 : k < na.length ∧ k < nb.length ∧ k < 4 := by split at hlt <;> omega
                      rw [Int.toNat_natCast] at hke
                      refine WhileStep2.next (n' := n2 - 1) [] F3 N3 (fun p hp => nomatch hp) (by omega) ⟨k + 1, _, _, _, _, _, _, _, _, by omega, by omega, by omega, ?_, rfl, by rfl, by rfl, by rfl, by rfl, by rfl, by rfl, by rfl, by rfl, by rfl, by rfl, by rfl⟩
                      intro i hi
                      rcases Nat.lt_or_ge i k with h | h
                      · exact heq i h
                      · obtain rfl : i = k := by omega
                        exact hke
                    · refine Stop.intro ?_
                      (rename (¬ List.getD _ _ _ = _) => hke)
                      rw [Int.toNat_natCast] at hke
                      have hpre : IsPre na nb k := ⟨hka, hkb, by omega, heq, Or.inr (Or.inr (Or.inr hke))⟩
                      (w_strict k_steps)
                      all_goals (try dsimp only)
                      all_goals
                        refine Stop.intro ?_
                        (rename Fr _ _ _ _ => F3)
                        refine RetW.intro F3 (call_fin hab hna hnb hflR hc9 hTe hW ?_)
                        first
                        | (have hz : (k : Int) = 0 := by with_reducible assumption
                           first
                           | ((have hs : fav = false := by with_reducible assumption); exact fin_short0 hwz hleW hpre hz (Or.inl hs))
                           | ((have hs : leastI na.length nb.length ≤ 4 := by with_reducible assumption); exact fin_short0 hwz hleW hpre hz (Or.inr (Or.inl hs)))
                           | ((have hs : (c : Int) ≤ k + 1 := by with_reducible assumption); exact fin_short0 hwz hleW hpre hz (Or.inr (Or.inr (Or.inl hs))))
                           | ((have hs : 2 * (c : Int) < leastI na.length nb.length + k := by with_reducible assumption); exact fin_short0 hwz hleW hpre hz (Or.inr (Or.inr (Or.inr hs))))
                           | ((have hs := not_short (fav := fav) (p := c) (m := na.length) (n := nb.length) (k := k) (by with_reducible assumption) (by with_reducible assumption) (by with_reducible assumption) (by with_reducible assumption)); exact fin_long0 hwz hleW hpre hz hs)
                           | ((have hs : leastI na.length nb.length ≤ 4 := by (split at hlt <;> omega)); exact fin_short0 hwz hleW hpre hz (Or.inr (Or.inl hs))))
                        | (have hz : (k : Int) ≠ 0 := by with_reducible assumption
                           first
                           | ((have hs : fav = false := by with_reducible assumption); exact fin_short1 hwz hleW hpre hz (Or.inl hs))
                           | ((have hs : leastI na.length nb.length ≤ 4 := by with_reducible assumption); exact fin_short1 hwz hleW hpre hz (Or.inr (Or.inl hs)))
                           | ((have hs : (c : Int) ≤ k + 1 := by with_reducible assumption); exact fin_short1 hwz hleW hpre hz (Or.inr (Or.inr (Or.inl hs))))
                           | ((have hs : 2 * (c : Int) < leastI na.length nb.length + k := by with_reducible assumption); exact fin_short1 hwz hleW hpre hz (Or.inr (Or.inr (Or.inr hs))))
                           | ((have hs := not_short (fav := fav) (p := c) (m := na.length) (n := nb.length) (k := k) (by with_reducible assumption) (by with_reducible assumption) (by with_reducible assumption) (by with_reducible assumption)); exact fin_long1 hwz hleW hpre hz hs)
                           | ((have hs : leastI na.length nb.length ≤ 4 := by (split at hlt <;> omega)); exact fin_short1 hwz hleW hpre hz (Or.inr (Or.inl hs))))
                    · refine Stop.intro ?_
                      (rename (¬ (_ < ite _ _ _)) => hlt)
                      have hpre : IsPre na nb k := ⟨hka, hkb, by omega, heq, by unfold leastI at hlt; (repeat' split at hlt) <;> omega⟩
                      (w_strict k_steps)
                      all_goals (try dsimp only)
                      all_goals
                        refine Stop.intro ?_
                        (rename Fr _ _ _ _ => F3)
                        refine RetW.intro F3 (call_fin hab hna hnb hflR hc9 hTe hW ?_)
                        first
                        | (have hz : (k : Int) = 0 := by with_reducible assumption
                           first
                           | ((have hs : fav = false := by with_reducible assumption); exact fin_short0 hwz hleW hpre hz (Or.inl hs))
                           | ((have hs : leastI na.length nb.length ≤ 4 := by with_reducible assumption); exact fin_short0 hwz hleW hpre hz (Or.inr (Or.inl hs)))
                           | ((have hs : (c : Int) ≤ k + 1 := by with_reducible assumption); exact fin_short0 hwz hleW hpre hz (Or.inr (Or.inr (Or.inl hs))))
                           | ((have hs : 2 * (c : Int) < leastI na.length nb.length + k := by with_reducible assumption); exact fin_short0 hwz hleW hpre hz (Or.inr (Or.inr (Or.inr hs))))
                           | ((have hs := not_short (fav := fav) (p := c) (m := na.length) (n := nb.length) (k := k) (by with_reducible assumption) (by with_reducible assumption) (by with_reducible assumption) (by with_reducible assumption)); exact fin_long0 hwz hleW hpre hz hs)
                           | ((have hs : leastI na.length nb.length ≤ 4 := by (split at hlt <;> omega)); exact fin_short0 hwz hleW hpre hz (Or.inr (Or.inl hs))))
                        | (have hz : (k : Int) ≠ 0 := by with_reducible assumption
                           first
                           | ((have hs : fav = false := by with_reducible assumption); exact fin_short1 hwz hleW hpre hz (Or.inl hs))
                           | ((have hs : leastI na.length nb.length ≤ 4 := by with_reducible assumption); exact fin_short1 hwz hleW hpre hz (Or.inr (Or.inl hs)))
                           | ((have hs : (c : Int) ≤ k + 1 := by with_reducible assumption); exact fin_short1 hwz hleW hpre hz (Or.inr (Or.inr (Or.inl hs))))
                           | ((have hs : 2 * (c : Int) < leastI na.length nb.length + k := by with_reducible assumption); exact fin_short1 hwz hleW hpre hz (Or.inr (Or.inr (Or.inr hs))))
                           | ((have hs := not_short (fav := fav) (p := c) (m := na.length) (n := nb.length) (k := k) (by with_reducible assumption) (by with_reducible assumption) (by with_reducible assumption) (by with_reducible assumption)); exact fin_long1 hwz hleW hpre hz hs)
                           | ((have hs : leastI na.length nb.length ≤ 4 := by (split at hlt <;> omega)); exact fin_short1 hwz hleW hpre hz (Or.inr (Or.inl hs))))
                · refine Stop.intro ?_
                  (rename Fr _ _ _ _ => F9)
                  exact RetW.intro F9 (call_fin hab hna hnb (by rw [hRe]; exact hfl) (by omega) hTe rfl (Or.inl ⟨by with_reducible assumption, _, rfl⟩))
            · refine Stop.intro ?_
              (rename Fr _ _ _ _ => F9); (rename (_ = 0) => hc0)
              exact RetW.intro F9 (Or.inr (Or.inr ⟨hab, hna, hnb, b1, b2, c, by rw [hRe]; exact hfl, Or.inl ⟨by omega, _, rfl⟩⟩))
      · exfalso; omega
      · exfalso; omega
end Mine
end
section
open PySem PySem.W PyProof.Rows PySem.Calls
set_option Elab.async false
set_option maxRecDepth 100000
set_option maxHeartbeats 8000000
set_option pp.deepTerms false
namespace Mine
local macro_rules | `(tactic| k_asm) => `(tactic| (with_reducible refine' TupI.keeps ?ti1 ?ti2; (case ti1 => assumption); (case ti2 => first | exact Fr.keep (by assumption) | exact fun b o e => Fr.keep (by assumption) b o (Fr.keep (by assumption) b o e))))
local macro_rules | `(tactic| k_inst) => `(tactic| first | (refine InstAt.keepsIn (by assumption) (Fr.keep (by k_asm))) | (refine InstAt.keepsIn (by assumption) (fun b o e => Fr.keep (by k_asm) b o (Fr.keep (by k_asm) b o e))))
local macro_rules | `(tactic| walk_at "eval Name") => `(tactic| (k_here; (rename NoPrune => np'); k_dflt (refine' ld ?k1 ?k2 ?_; (case k1 => assumption); (case k2 => exact rfl); k_whole)))
local macro_rules | `(tactic| walk_at "exec If") => `(tactic| (k_here; (rename NoPrune => np'); k_dflt (refine wpAny_If ?_)))
local macro_rules | `(tactic| walk_at "ite") => `(tactic| (k_here; (rename NoPrune => np'); k_openite; first | (refine ite_pos (by with_reducible assumption) ?_) | (refine ite_neg (by with_reducible assumption) ?_) | (refine ite_isFalse (by with_reducible assumption) ?_) | with_reducible refine ite_tt ?_ | with_reducible refine ite_ff ?_ | (with_reducible refine split_ine ?_ ?_ <;> intro _) | (with_reducible refine split_ieq ?_ ?_ <;> intro _) | with_reducible refine split_not ?_ | (refine split_dec ?_ ?_ <;> intro _) | (refine split_bool ?_ ?_ <;> intro _)))
local macro_rules | `(tactic| walk_at "subscriptTail Name Name ref int") => `(tactic| (k_here; (rename NoPrune => np'); (with_reducible show wpAny _ _ (subscriptTail _ _ (Value.ref _) (Value.int _ _)) _ _ _); k_dflt (refine' kbo_sub ?k1 ?k2 ?k3 ?k4 ?k5 ?k6 ?_ ?k7; (case k1 => assumption); (case k2 => k_mem); (case k3 => with_reducible assumption); (case k4 => omega); (case k5 => omega); (case k6 => omega); (case k7 => with_unfolding_all rfl); k_whole)))
local macro_rules | `(tactic| walk_at "call ref") => `(tactic| (k_here; (with_reducible show wpAny _ _ (call (Value.ref 108) _) _ _ _); refine wpAny_held ?_))
local macro_rules | `(tactic| walk_at "call ref") => `(tactic| (k_here; (with_reducible show wpAny _ _ (call (Value.ref 178) _) _ _ _); refine wpAny_held ?_))
local macro_rules | `(tactic| walk_at "call builtin:len") => `(tactic| (k_here; (with_reducible show wpAny _ _ (call (Value.builtin "len") [Value.ref _]) _ _ _); k_dflt (refine' ti_len ?k1 ?k2 ?_; (case k1 => k_asm); (case k2 => omega); k_whole)))
local macro_rules | `(tactic| walk_at "exec For Tuple Call") => `(tactic| (k_here; k_dflt (refine wpAny_For ?_)))
local macro_rules | `(tactic| walk_at "exec For Name Call cons nil") => `(tactic| (k_here; k_dflt (refine wpAny_For ?_)))
local macro_rules | `(tactic| walk_at "exec If Compare") => `(tactic| (k_here; (with_reducible show wpAny _ _ (exec (Stmt.If (PySem.Expr.Compare (PySem.Expr.Name _ _) [CmpOp.Lt] _ _) _ _ _) _) _ _ _); refine wpAny_held ?_))
local macro_rules | `(tactic| walk_at "binaryOp Mult ref int") => `(tactic| (k_here; (with_reducible show wpAny _ _ (binaryOp Operator.Mult (Value.ref _) (Value.int _ _)) _ _ _); k_dflt (refine' mulF ?k1 ?k2 ?k3 ?k4 ?_; (case k1 => assumption); (case k2 => assumption); (case k3 => k_mem); (case k4 => omega); k_whole; intro D' vs' h' F' N' l1 b'; (try k_lt l1); (try k_sweep))))
local macro_rules | `(tactic| walk_at "pyIter ref") => `(tactic| (k_here; k_dflt (refine' iter_rangeL ?k1 ?k2 ?k3 ?k4 ?_; (case k1 => assumption); (case k2 => assumption); (case k3 => assumption); (case k4 => (refine small_one ?_ ?_ ?_ ?_ <;> omega)); k_whole; intro it' h' F' N' l1; (try k_lt l1); (try k_sweep))))
local macro_rules | `(tactic| walk_at "call type:enumerate") => `(tactic| (k_here; (with_reducible show wpAny _ _ (call (Value.type "enumerate") [Value.ref _]) _ _ _); k_dflt (refine' call_enumL ?k1 ?k2 ?k3 ?_; (case k1 => assumption); (case k2 => assumption); (case k3 => exact News.isList (by assumption) (by k_mem)); k_whole; intro it' oi' h' F' N' l1 c1' d1'; (try k_lt l1); (try k_sweep))))
local macro_rules | `(tactic| walk_at "call type:enumerate") => `(tactic| (k_here; (with_reducible show wpAny _ _ (call (Value.type "enumerate") [Value.ref _]) _ _ _); k_dflt (refine' call_enumI ?k1 ?k2 ?k3 ?_; (case k1 => assumption); (case k2 => assumption); (case k3 => k_asm); k_whole; intro it' h' F' N' l1 l2; (try k_lt l1); (try k_lt2 l2); (try k_sweep))))
local macro_rules | `(tactic| walk_at "pyIter ref") => `(tactic| (k_here; k_dflt (refine' wpAny_pyIter_enum ?k1 ?_; (case k1 => exact News.get (by assumption) (by k_mem)); k_whole)))
local macro_rules | `(tactic| walk_at "subscriptTail Name Name ref int") => `(tactic| (k_here; (with_reducible show wpAny _ _ (subscriptTail _ _ (Value.ref _) (Value.int _ _)) _ _ _); k_dflt (refine' ti_item ?k1 ?k2 ?k3 ?k4 ?_; (case k1 => k_asm); (case k2 => omega); (case k3 => omega); (case k4 => omega); k_whole; intro t')))
local macro_rules | `(tactic| walk_at "exec While") => `(tactic| (k_here; refine wpAny_held ?_))
theorem c213b {w : World} {A₀ : Around} {base h₀ : Heap} {outer : List Env} {L : Addr} {m mg mb : Str → Option Value} {mean : ExcName → Option Value} {p : Program} {loose : List Str} {s : Shared} {env : Env}
    {x C a b : Addr} {fav wz : Bool} {na nb : List Int} (hC : C = 216) (hI : SelfI s.heap x C fav wz)
    (B : Below A₀ base outer h₀) (F : Fr h₀ L s.heap m) (X : (hd.heap_39 w.params).In h₀) (T : Top p loose mean mg mb h₀) (hf : env.frame = some L) (hk : env.scope.kind = .function)
    (hta : TupI s.heap a na) (htb : TupI s.heap b nb) (la : na.length ≤ 18) (lb : nb.length ≤ 18) :
    codeAny (model PySem.Challenge.rw_br0036_01.row.prog w) (cC env outer) (.call (.ref 213) ⟨[.ref x, .ref a, .ref b], []⟩) (RetW s (fun _ v => CallIs na nb fav wz v)) s := by
  have hI' := hI
  obtain ⟨dx, h1, h2, h3, h4, t1, t2, t3, t4, tq, nd, I⟩ := hI
  revert X; k_fill; intro X
  k_dflt (refine' code_pureC ?k1 ?k2 ?k3 ?k5 ?kA ?kF ?kK ?k6 ?k7 ?k8 ?k9 ?kB ?kD ?_ ?c2 ?c3 ?c4; (case kA => exact rfl); (case kF => exact hf); (case kK => exact hk); (case k1 => k_asm); (case k2 => k_asm); (case k3 => k_asm); (case k5 => k_asm); (case k6 => k_is); (case k7 => k_is); (case k8 => k_room); (case k9 => first | exact BindsTo.of_eq rfl | exact binds_K (by k_in) rfl (by k_is) rfl rfl rfl | fail "k_enter: no rule for these arguments"); (case kB => exact rfl); (case kD => decide +kernel); (case c2 => exact rfl); (case c3 => exact rfl); (case c4 => exact rfl); k_whole; clear B F X T; intro L' h' tk' cells' F' N' Y' B' X' T'; (first | k_cells Y' | (have hY := cells_none Y'; subst hY; clear Y')); (try simp only [List.cons_append, List.nil_append] at N'); (try dsimp only); (try k_fold))
  subst hC
  · (w_strict k_steps)
    refine Stop.intro ?_
    (rename Fr _ _ _ _ => F1); (rename News _ _ _ _ => N1)
    refine call_pure (c108 (C := 216) (fav := fav) (wz := wz) (Or.inr rfl) (SelfI.keeps hI' F1.keep) B' F1 X' T' rfl rfl) rfl rfl (by exact (by decide : 380 + 1 ≤ 400)) (by exact (by decide : 250 + 3 ≤ 1000)) F1 N1 ?_
    rintro v h1 tk1 F2 N2 _ ⟨l, n, rfl, hl, hg⟩
    replace N2 := news_add F1 N2 hl hg
    clear F1 N1 hl hg
    (w_strict k_steps)
    refine Stop.intro ?_
    (rename Fr _ _ _ _ => F1); (rename News _ _ _ _ => N1)
    refine call_pure (c178 (C := 216) (fav := fav) (wz := wz) (Or.inr rfl) (SelfI.keeps hI' F1.keep) B' F1 X' T' rfl rfl (by k_asm) (by k_asm) la lb) rfl rfl (by exact (by decide : 380 + 1 ≤ 390)) (by exact (by decide : 250 + 3 ≤ 500)) F1 N1 ?_
    clear F1 N1
    rintro v h2 tk2 F1 N1 _ hq
    rcases hq with ⟨hab, t, rfl⟩ | ⟨hab, he, t, rfl⟩ | ⟨hab, hna, hnb, rfl⟩
    · (w_strict k_steps)
      all_goals (try dsimp only)
      refine Stop.intro ?_
      (rename Fr _ _ _ _ => F9)
      exact RetW.intro F9 (Or.inl ⟨hab, _, rfl⟩)
    · (w_strict k_steps)
      all_goals (try dsimp only)
      refine Stop.intro ?_
      (rename Fr _ _ _ _ => F9)
      exact RetW.intro F9 (Or.inr (Or.inl ⟨hab, he, _, rfl⟩))
    · have ga : 0 < na.length := List.length_pos_iff.mpr hna
      have gb : 0 < nb.length := List.length_pos_iff.mpr hnb
      (w_strict k_steps)
      all_goals (try dsimp only)
      · refine Stop.intro ?_
        (rename Fr _ _ _ _ => F3); (rename News _ _ _ _ => N3)
        refine meet_next (h₀ := s.heap) (L := L') (JS x a b (reachI na.length nb.length) na nb) [] ?one ?two
        case one =>
          refine wpAny_If ?_
          (w_strict k_steps)
          all_goals (try dsimp only)
          · (rename Fr _ _ _ _ => F4); (rename (_ < 0) => hlt)
            refine Stop.intro ⟨rfl, _, _, _, rfl, F4, fun p hp => (nomatch hp), ?_⟩
            have e : reachI na.length nb.length = 0 := by unfold reachI; rw [if_pos hlt]
            rw [e]
            exact ⟨_, _, _, _, _, rfl, rfl, rfl, rfl, rfl, rfl, rfl, rfl⟩
          · (rename Fr _ _ _ _ => F4); (rename (¬ (_ < 0)) => hlt)
            refine Stop.intro ⟨rfl, _, _, _, rfl, F4, fun p hp => (nomatch hp), ?_⟩
            have e : reachI na.length nb.length = (if (nb.length : Int) > na.length then (nb.length : Int) else na.length).fdiv 2 - 1 := by unfold reachI; rw [if_neg hlt]
            rw [e]
            exact ⟨_, _, _, _, _, rfl, rfl, rfl, rfl, rfl, rfl, rfl, rfl⟩
        case two =>
          clear F3 N3
          rintro h3 tk3 m3 F3 N3 ⟨t1, t2, t3, t4, t5, e1, e2, e3, e4, e5, e6, e7, e8⟩
          have hR0 : 0 ≤ reachI na.length nb.length := reachI_nonneg _ _
          have hR1 : reachI na.length nb.length ≤ 18 := reachI_le la lb
          generalize hRe : reachI na.length nb.length = R at hR0 hR1 e8 ⊢
          replace F3 := fr_knows [(Str.ofString "self", _), (Str.ofString "s1", _), (Str.ofString "s2", _), (Str.ofString "prefix_weight", _), (Str.ofString "s1_len", _), (Str.ofString "s2_len", _), (Str.ofString "min_len", _), (Str.ofString "search_range", _)] (by simp only [List.forall_mem_cons, List.not_mem_nil, false_implies, implies_true, and_true]; exact ⟨e1, e2, e3, e4, e5, e6, e7, e8⟩) F3
          (try dsimp only)
          (w_strict k_steps)
          (rename Fr _ _ _ _ => F4); (rename News _ _ _ _ => N4)
          rename_i D1 vs1 g1 bb1 q1 g2 tkk lst2 g3 q2 D2 vs2 g4 bb2 q3 g5 g6 it g7 q4 q5
          refine loop_enumI (h₀ := s.heap) (l := a) (ns := na) (news := [(D2, W.listOf (List.toArray vs2) 0), (D1, W.listOf (List.toArray vs1) 0)]) rfl hta F4 (fun p hp => N4 p ?hN) ?hlow (J1 x a b D1 D2 R na nb) ?h0 ?step ?done
          case hN =>
            simp only [List.mem_cons, List.not_mem_nil, or_false] at hp ⊢
            rcases hp with hp | hp | hp | hp <;> simp [hp]
          case hlow =>
            simp only [List.forall_mem_cons, List.not_mem_nil, false_implies, implies_true, and_true]
            exact ⟨q4.1, q4.2.2.1⟩
          case h0 =>
            exact ⟨_, _, _, _, _, _, vs1, vs2, _, _, 0, by rfl, by rfl, by rfl, by rfl, by rfl, by rfl, by rfl, by rfl, by rfl, by rfl, by rfl, rfl, bb1, bb2, rfl⟩
          case step =>
            clear F4 N4
            rintro i t tv m₁ news₁ oe oi h tk T d e sl hil ⟨t1, t2, t3, t4, t5, t6, us1, us2, b1, b2, c, e1, e2, e3, e4, e5, e6, e7, e8, e9, e10, e11, rfl, hb1, hb2, hfl⟩ hn1 hT1 hT2 F5 N5
            have hlen := flagsG_len R na nb i
            have hci := flagsG_le R na nb i
            rw [hfl] at hlen hci
            obtain ⟨hl1, hl2⟩ := hlen
            dsimp only at hl1 hl2 hci
            replace F5 := fr_knows [(Str.ofString "self", _), (Str.ofString "s1", _), (Str.ofString "s2", _), (Str.ofString "prefix_weight", _), (Str.ofString "s1_len", _), (Str.ofString "s2_len", _), (Str.ofString "min_len", _), (Str.ofString "search_range", _), (Str.ofString "s1_flags", _), (Str.ofString "s2_flags", _), (Str.ofString "common_chars", _)] (by simp only [List.forall_mem_cons, List.not_mem_nil, false_implies, implies_true, and_true]; exact ⟨e1, e2, e3, e4, e5, e6, e7, e8, e9, e10, e11⟩) F5
            change Fr s.heap L' h _ at F5
            change News s.heap L' h _ at N5
            k_lt hT2
            (try dsimp only)
            (w_strict k_steps)
            (rename Fr _ _ _ _ => F6); (rename News _ _ _ _ => N6)
            rename_i it2 gg2 q6
            generalize hlo : (if (i : Int) - R > 0 then (i : Int) - R else 0) = low at F6 N6 ⊢
            generalize hhi : (if (nb.length : Int) - 1 < (i : Int) + R then (nb.length : Int) - 1 else (i : Int) + R) = hi at F6 N6 ⊢
            have lo1 : 0 ≤ low := by rw [← hlo]; split <;> omega
            have lo2 : (i : Int) - R ≤ low := by rw [← hlo]; split <;> omega
            have lo3 : ∀ j : Nat, (j : Int) < low → (j : Int) < (i : Int) - R := by intro j hj; rw [← hlo] at hj; split at hj <;> omega
            have hi1 : hi ≤ (nb.length : Int) - 1 := by rw [← hhi]; split <;> omega
            have hi2 : hi ≤ (i : Int) + R := by rw [← hhi]; split <;> omega
            have hi3 : ∀ j : Nat, hi < (j : Int) → j < nb.length → (i : Int) + R < (j : Int) := by intro j hj hjn; rw [← hhi] at hj; split at hj <;> omega
            have N6' : News s.heap L' gg2 [(it2, rngObj low (Builtin.Range.rangeSize low (hi + 1) 1)), (it + 1, oe), (it, oi), (D2, W.listOf (List.toArray us2) 0), (D1, W.listOf (List.toArray us1) 0)] := by
              intro p hp
              refine N6 p ?_
              simp only [List.mem_cons, List.not_mem_nil, or_false] at hp ⊢
              rcases hp with hp | hp | hp | hp | hp <;> simp [hp]
            refine loop_rangeN (a := low) (left := Builtin.Range.rangeSize low (hi + 1) 1) (n := (hi + 1 - low).toNat) (news := [(it + 1, oe), (it, oi), (D2, W.listOf (List.toArray us2) 0), (D1, W.listOf (List.toArray us1) 0)]) rfl (by rfl) (by rfl) (rangeSize_nat _ _) F6 N6' ?hnw2 (J2 x a b D1 D2 it oe oi us1 us2 b2 c R low na nb i) ?h02 ?step2 ?done2
            case hnw2 =>
              simp only [List.forall_mem_cons, List.not_mem_nil, false_implies, implies_true, and_true]
              exact ⟨by k_ne, by k_ne, by k_ne, by k_ne⟩
            case h02 =>
              refine ⟨_, _, _, _, _, _, _, _, by rfl, by rfl, by rfl, by rfl, by rfl, by rfl, by rfl, by rfl, by rfl, by rfl, by rfl, by rfl, by rfl, rfl, fun j hj => ?_⟩
              have := lo3 j (by omega)
              have h9 : ¬ ((i : Int) - R ≤ (j : Int)) := by omega
              unfold okAt; simp [h9]
            case step2 =>
              clear F6 N6 N6'
              rintro k t' m2 news2 oR h' tk' hk ⟨u1, u2, u3, u4, u5, u6, u7, u8, f1, f2, f3, f4, f5, f6, f7, f8, f9, f10, f11, f12, f13, rfl, hno⟩ hn2 F7 N7
              have np : NoPrune := trivial
              obtain ⟨jn, hjn⟩ : ∃ jn : Nat, low + (k : Int) = (jn : Int) := ⟨(low + (k : Int)).toNat, by omega⟩
              rw [hjn] at F7 hno
              have hj1 : jn < nb.length := by omega
              have hj2 : (i : Int) - R ≤ (jn : Int) := by omega
              have hj3 : (jn : Int) ≤ (i : Int) + R := by omega
              replace F7 := fr_knows [(Str.ofString "self", _), (Str.ofString "s1", _), (Str.ofString "s2", _), (Str.ofString "prefix_weight", _), (Str.ofString "s1_len", _), (Str.ofString "s2_len", _), (Str.ofString "min_len", _), (Str.ofString "search_range", _), (Str.ofString "s1_flags", _), (Str.ofString "s2_flags", _), (Str.ofString "common_chars", _), (Str.ofString "i", _), (Str.ofString "s1_ch", _), (Str.ofString "j", .int (jn : Int) t')] (by simp only [List.forall_mem_cons, List.not_mem_nil, false_implies, implies_true, and_true]; exact ⟨f1, f2, f3, f4, f5, f6, f7, f8, f9, f10, f11, f12, f13, rfl⟩) F7
              change Fr s.heap L' h' _ at F7
              change News s.heap L' h' _ at N7
              (try dsimp only)
              (w_strict k_steps)
              · refine Stop.intro ?_
                (rename Fr _ _ _ _ => F8); (rename News _ _ _ _ => N8); (rename (_ = true) => hbad)
                rw [Int.toNat_natCast] at hbad
                refine TurnT.next [(it + 1, oe), (it, oi), (D2, W.listOf (List.toArray us2) 0), (D1, W.listOf (List.toArray us1) 0)] F8 N8 ?_ ?_ ?_ ?_
                · intro p hp
                  simp only [List.mem_cons, List.not_mem_nil, or_false] at hp
                  subst hp; simp
                · intro p hp
                  simp only [List.mem_cons, List.not_mem_nil, or_false] at hp ⊢
                  rcases hp with hp | hp | hp | hp <;> simp [hp]
                · intro p hp q hq
                  rw [List.mem_singleton] at hq
                  subst hq
                  exact hn2 p hp
                · refine ⟨_, _, _, _, _, _, _, _, by rfl, by rfl, by rfl, by rfl, by rfl, by rfl, by rfl, by rfl, by rfl, by rfl, by rfl, by rfl, by rfl, rfl, fun j hj => ?_⟩
                  by_cases hjj : j = jn
                  · subst hjj; unfold okAt; rw [hbad]; simp
                  · exact hno j (by omega)
              · (rename Fr _ _ _ _ => F8); (rename News _ _ _ _ => N8); (rename (_ = false) => hfl2); (rename (_ = List.getD na i 0) => heq2)
                rename_i z1 hbb1 z2 z3 hbb2 z4 z5
                simp only [Int.toNat_natCast] at hbb1 hbb2 hfl2 heq2 N8
                have hhit : hit R na nb b2 i = some jn := hit_some hj1 (by unfold okAt; rw [hfl2, heq2]; simp; omega) (fun j hj => hno j (by omega))
                (try dsimp only)
                refine Stop.intro ?_
                dsimp only [TurnT]
                (w_strict k_steps)
                refine Stop.intro ?_
                (rename Fr _ _ _ _ => F9); (rename News _ _ _ _ => N9)
                refine TurnT.next [(D2, W.listOf (List.toArray (us2.set jn (.bool true))) 0), (D1, W.listOf (List.toArray (us1.set i (.bool true))) 0)] F9 N9 ?_ ?_ ?_ ?_
                · intro p hp
                  simp only [List.mem_cons, List.not_mem_nil, or_false] at hp
                  rcases hp with rfl | rfl <;> simp
                · intro p hp
                  simp only [List.mem_cons, List.not_mem_nil, or_false] at hp ⊢
                  rcases hp with hp | hp <;> simp [hp]
                · refine own_apart ?_
                  simp only [List.forall_mem_cons] at hn1 ⊢
                  exact hn1
                · exact ⟨_, _, _, _, _, _, _, _, _, _, c + 1, by rfl, by rfl, by rfl, by rfl, by rfl, by rfl, by rfl, by rfl, by rfl, by rfl, by rfl, rfl, hbb1, hbb2, flagsG_some hfl hhit⟩
              · refine Stop.intro ?_
                (rename Fr _ _ _ _ => F8); (rename News _ _ _ _ => N8); (rename (¬ _ = List.getD na i 0) => hbad)
                rw [Int.toNat_natCast] at hbad
                refine TurnT.next [(it + 1, oe), (it, oi), (D2, W.listOf (List.toArray us2) 0), (D1, W.listOf (List.toArray us1) 0)] F8 N8 ?_ ?_ ?_ ?_
                · intro p hp
                  simp only [List.mem_cons, List.not_mem_nil, or_false] at hp
                  subst hp; simp
                · intro p hp
                  simp only [List.mem_cons, List.not_mem_nil, or_false] at hp ⊢
                  rcases hp with hp | hp | hp | hp <;> simp [hp]
                · intro p hp q hq
                  rw [List.mem_singleton] at hq
                  subst hq
                  exact hn2 p hp
                · refine ⟨_, _, _, _, _, _, _, _, by rfl, by rfl, by rfl, by rfl, by rfl, by rfl, by rfl, by rfl, by rfl, by rfl, by rfl, by rfl, by rfl, rfl, fun j hj => ?_⟩
                  by_cases hjj : j = jn
                  · subst hjj; unfold okAt; rw [decide_eq_false hbad]; simp
                  · exact hno j (by omega)
            case done2 =>
              clear F6 N6 N6'
              rintro h' tk' m2 news2 F7 N7 ⟨u1, u2, u3, u4, u5, u6, u7, u8, f1, f2, f3, f4, f5, f6, f7, f8, f9, f10, f11, f12, f13, rfl, hno⟩
              have np : NoPrune := trivial
              replace F7 := fr_knows [(Str.ofString "self", _), (Str.ofString "s1", _), (Str.ofString "s2", _), (Str.ofString "prefix_weight", _), (Str.ofString "s1_len", _), (Str.ofString "s2_len", _), (Str.ofString "min_len", _), (Str.ofString "search_range", _), (Str.ofString "s1_flags", _), (Str.ofString "s2_flags", _), (Str.ofString "common_chars", _), (Str.ofString "i", _), (Str.ofString "s1_ch", _)] (by simp only [List.forall_mem_cons, List.not_mem_nil, false_implies, implies_true, and_true]; exact ⟨f1, f2, f3, f4, f5, f6, f7, f8, f9, f10, f11, f12, f13⟩) F7
              change Fr s.heap L' h' _ at F7
              change News s.heap L' h' _ at N7
              have hhit : hit R na nb b2 i = none := by
                refine hit_none fun j hj => ?_
                by_cases hjj : (j : Int) < low + ((hi + 1 - low).toNat : Nat)
                · exact hno j hjj
                · have := hi3 j (by omega) hj
                  have h9 : ¬ ((j : Int) ≤ (i : Int) + R) := by omega
                  unfold okAt; simp [h9]
              (try dsimp only)
              (w_strict k_steps)
              refine Stop.intro ?_
              (rename Fr _ _ _ _ => F9); (rename News _ _ _ _ => N9)
              refine TurnT.next [(D2, W.listOf (List.toArray us2) 0), (D1, W.listOf (List.toArray us1) 0)] F9 N9 ?_ ?_ ?_ ?_
              · intro p hp
                simp only [List.mem_cons, List.not_mem_nil, or_false] at hp
                rcases hp with rfl | rfl <;> simp
              · intro p hp
                simp only [List.mem_cons, List.not_mem_nil, or_false] at hp ⊢
                rcases hp with hp | hp <;> simp [hp]
              · refine own_apart ?_
                simp only [List.forall_mem_cons] at hn1 ⊢
                exact hn1
              · exact ⟨_, _, _, _, _, _, _, _, _, _, c, by rfl, by rfl, by rfl, by rfl, by rfl, by rfl, by rfl, by rfl, by rfl, by rfl, by rfl, rfl, hb1, hb2, flagsG_none hfl hhit⟩
          case done =>
            clear F4 N4
            rintro h' tk m₁ news₁ F5 N5 ⟨t1, t2, t3, t4, t5, t6, us1, us2, b1, b2, c, e1, e2, e3, e4, e5, e6, e7, e8, e9, e10, e11, rfl, hb1, hb2, hfl⟩
            have hlen := flagsG_len R na nb na.length
            have hci := flagsG_le R na nb na.length
            rw [hfl] at hlen hci
            obtain ⟨hl1, hl2⟩ := hlen
            dsimp only at hl1 hl2 hci
            replace F5 := fr_knows [(Str.ofString "self", _), (Str.ofString "s1", _), (Str.ofString "s2", _), (Str.ofString "prefix_weight", _), (Str.ofString "s1_len", _), (Str.ofString "s2_len", _), (Str.ofString "min_len", _), (Str.ofString "search_range", _), (Str.ofString "s1_flags", _), (Str.ofString "s2_flags", _), (Str.ofString "common_chars", _)] (by simp only [List.forall_mem_cons, List.not_mem_nil, false_implies, implies_true, and_true]; exact ⟨e1, e2, e3, e4, e5, e6, e7, e8, e9, e10, e11⟩) F5
            change Fr s.heap L' h' _ at F5
            change News s.heap L' h' _ at N5
            (try dsimp only)
            (w_strict k_steps)
            all_goals (try dsimp only)
            · (rename Fr _ _ _ _ => F6); (rename News _ _ _ _ => N6); (rename (_ ≠ 0) => hc0)
              rename_i gg1 gg2 jt oi1 gg3 cc1 dd1 q7
              have hnx := next_ok hfl
              have N6' : News s.heap L' gg3 ((jt + 1, enumObj jt 0 Value.none) :: (jt, oi1) :: (D1, W.listOf (List.toArray us1) 0) :: [(D2, W.listOf (List.toArray us2) 0)]) := by
                intro p hp
                refine N6 p ?_
                simp only [List.mem_cons, List.not_mem_nil, or_false] at hp ⊢
                rcases hp with hp | hp | hp | hp <;> simp [hp]
              refine loop_enumB (h₀ := s.heap) (l := D1) (bs := b1) (news := [(D2, W.listOf (List.toArray us2) 0)]) rfl hb1 cc1 dd1 F6 N6' q7.2 ?hlow2 ?hnl2 (J3 x a b D2 us2 b1 b2 c na nb) ?h03 ?step3 ?done3
              case hlow2 =>
                simp only [List.forall_mem_cons, List.not_mem_nil, false_implies, implies_true, and_true]
                exact q7.1
              case hnl2 =>
                simp only [List.forall_mem_cons, List.not_mem_nil, false_implies, implies_true, and_true]
                k_ne
              case h03 =>
                exact ⟨_, _, _, _, _, _, _, by rfl, by rfl, by rfl, by rfl, by rfl, by rfl, by rfl, by rfl, by rfl, by rfl, by rfl, rfl⟩
              case step3 =>
                clear F6 N6 N6'
                rintro i t m₂ news₂ oe oi ol h tk T d e sl hib ⟨t1, t2, t3, t5, t6, t7, t8, e1, e2, e3, e4, e5, e6, e7, e8, e9, e10, e11, rfl⟩ hn3 hT1 hTl hT2 F7 N7
                have hia : i < na.length := by omega
                have hk1 := transG_le1 b1 b2 na nb i
                have hk2 := transG_le b1 b2 na nb i
                have hskip : b1.getD i false = false → transG b1 b2 na nb (i + 1) = transG b1 b2 na nb i := transG_skip
                have hnx' := hnx i hib
                have hne' : ∀ j, b1.getD i false = true → nextT b2 (transG b1 b2 na nb i).1 = some j → na.getD i 0 ≠ nb.getD j 0 → transG b1 b2 na nb (i + 1) = (j + 1, (transG b1 b2 na nb i).2 + 1) := fun j h1 h2 h3 => transG_ne h1 h2 h3
                have heq' : ∀ j, b1.getD i false = true → nextT b2 (transG b1 b2 na nb i).1 = some j → na.getD i 0 = nb.getD j 0 → transG b1 b2 na nb (i + 1) = (j + 1, (transG b1 b2 na nb i).2) := fun j h1 h2 h3 => transG_eq h1 h2 h3
                generalize transG b1 b2 na nb i = kt at e10 e11 hk1 hk2 hskip hnx' hne' heq'
                obtain ⟨k0, tc⟩ := kt
                dsimp only at hk1 hk2 hnx' hne' heq' e10 e11
                replace F7 := fr_knows [(Str.ofString "self", _), (Str.ofString "s1", _), (Str.ofString "s2", _), (Str.ofString "prefix_weight", _), (Str.ofString "s1_len", _), (Str.ofString "s2_len", _), (Str.ofString "min_len", _), (Str.ofString "s2_flags", _), (Str.ofString "common_chars", _), (Str.ofString "k", _), (Str.ofString "trans_count", _)] (by simp only [List.forall_mem_cons, List.not_mem_nil, false_implies, implies_true, and_true]; exact ⟨e1, e2, e3, e4, e5, e6, e7, e8, e9, e10, e11⟩) F7
                change Fr s.heap L' h _ at F7
                change News s.heap L' h _ at N7
                k_lt hT2
                have np : NoPrune := trivial
                (try dsimp only)
                (w_strict k_steps)
                all_goals (try dsimp only)
                · (rename Fr _ _ _ _ => F8); (rename News _ _ _ _ => N8); (rename (_ = true) => hbt)
                  rename_i it2 gg4 q8
                  obtain ⟨j0, hj0⟩ := hnx' hbt
                  have hj0s := nextT_spec hj0
                  have N8' : News s.heap L' gg4 [(it2, rngObj (k0 : Int) (Builtin.Range.rangeSize (k0 : Int) (nb.length : Int) 1)), (jt + 1, oe), (jt, oi), (D1, ol), (D2, W.listOf (List.toArray us2) 0)] := by
                    intro p hp
                    refine N8 p ?_
                    simp only [List.mem_cons, List.not_mem_nil, or_false] at hp ⊢
                    rcases hp with hp | hp | hp | hp | hp <;> simp [hp]
                  refine loop_rangeN (a := (k0 : Int)) (left := Builtin.Range.rangeSize (k0 : Int) (nb.length : Int) 1) (n := ((nb.length : Int) - (k0 : Int)).toNat) (news := [(jt + 1, oe), (jt, oi), (D1, ol), (D2, W.listOf (List.toArray us2) 0)]) rfl (by rfl) (by rfl) (rangeSize_nat _ _) F8 N8' ?hnw4 (J4 x a b D1 D2 jt oe oi ol us2 b2 c k0 tc na nb i) ?h04 ?step4 ?done4
                  case hnw4 =>
                    simp only [List.forall_mem_cons, List.not_mem_nil, false_implies, implies_true, and_true]
                    exact ⟨by k_ne, by k_ne, by k_ne, by k_ne⟩
                  case h04 =>
                    exact ⟨_, _, _, _, _, _, _, _, by rfl, by rfl, by rfl, by rfl, by rfl, by rfl, by rfl, by rfl, by rfl, by rfl, by rfl, by rfl, rfl, fun j h1 h2 => absurd h2 (by omega)⟩
                  case step4 =>
                    clear F8 N8 N8'
                    rintro k t' m2 news2 oR h' tk' hk ⟨u1, u2, u3, u5, u6, u7, u8, u9, f1, f2, f3, f4, f5, f6, f7, f8, f9, f10, f11, f12, rfl, hno⟩ hn2 F9 N9
                    obtain ⟨jn, hjn⟩ : ∃ jn : Nat, (k0 : Int) + (k : Int) = (jn : Int) := ⟨k0 + k, by omega⟩
                    rw [hjn] at F9
                    have hj1 : jn < nb.length := by omega
                    have hj2 : k0 ≤ jn := by omega
                    have hj3 : ∀ j, k0 ≤ j → j < jn → b2.getD j false = false := fun j h1 h2 => hno j h1 (by omega)
                    replace F9 := fr_knows [(Str.ofString "self", _), (Str.ofString "s1", _), (Str.ofString "s2", _), (Str.ofString "prefix_weight", _), (Str.ofString "s1_len", _), (Str.ofString "s2_len", _), (Str.ofString "min_len", _), (Str.ofString "s2_flags", _), (Str.ofString "common_chars", _), (Str.ofString "k", _), (Str.ofString "trans_count", _), (Str.ofString "i", _), (Str.ofString "j", .int (jn : Int) t')] (by simp only [List.forall_mem_cons, List.not_mem_nil, false_implies, implies_true, and_true]; exact ⟨f1, f2, f3, f4, f5, f6, f7, f8, f9, f10, f11, f12, rfl⟩) F9
                    change Fr s.heap L' h' _ at F9
                    change News s.heap L' h' _ at N9
                    (try dsimp only)
                    (w_strict k_steps)
                    · (rename Fr _ _ _ _ => F10); (rename News _ _ _ _ => N10); (rename (_ = true) => hjt)
                      rw [Int.toNat_natCast] at hjt
                      have hnj : nextT b2 k0 = some jn := nextT_some (by omega) hj2 hjt hj3
                      (try dsimp only)
                      refine Stop.intro ?_
                      dsimp only [TurnT]
                      (w_strict k_steps)
                      · refine Stop.intro ?_
                        (rename Fr _ _ _ _ => F8); (rename News _ _ _ _ => N8); (rename (¬ List.getD na _ 0 = _) => hbad)
                        simp only [Int.toNat_natCast] at hbad
                        refine TurnT.next [(D2, W.listOf (List.toArray us2) 0)] F8 N8 ?_ ?_ ?_ ?_
                        · intro p hp
                          simp only [List.mem_cons, List.not_mem_nil, or_false] at hp
                          rcases hp with rfl | rfl | rfl <;> simp
                        · intro p hp
                          simp only [List.mem_cons, List.not_mem_nil, or_false] at hp ⊢
                          simp [hp]
                        · exact own3 hn3
                        · unfold J3; rw [hne' jn hbt hnj hbad]; exact ⟨_, _, _, _, _, _, _, by rfl, by rfl, by rfl, by rfl, by rfl, by rfl, by rfl, by rfl, by rfl, by rfl, by rfl, rfl⟩
                      · refine Stop.intro ?_
                        (rename Fr _ _ _ _ => F8); (rename News _ _ _ _ => N8); (rename (List.getD na _ 0 = _) => hgd)
                        simp only [Int.toNat_natCast] at hgd
                        refine TurnT.next [(D2, W.listOf (List.toArray us2) 0)] F8 N8 ?_ ?_ ?_ ?_
                        · intro p hp
                          simp only [List.mem_cons, List.not_mem_nil, or_false] at hp
                          rcases hp with rfl | rfl | rfl <;> simp
                        · intro p hp
                          simp only [List.mem_cons, List.not_mem_nil, or_false] at hp ⊢
                          simp [hp]
                        · exact own3 hn3
                        · unfold J3; rw [heq' jn hbt hnj hgd]; exact ⟨_, _, _, _, _, _, _, by rfl, by rfl, by rfl, by rfl, by rfl, by rfl, by rfl, by rfl, by rfl, by rfl, by rfl, rfl⟩
                    · refine Stop.intro ?_
                      (rename Fr _ _ _ _ => F10); (rename News _ _ _ _ => N10); (rename (_ = false) => hjt)
                      rw [Int.toNat_natCast] at hjt
                      refine TurnT.next [(jt + 1, oe), (jt, oi), (D1, ol), (D2, W.listOf (List.toArray us2) 0)] F10 N10 ?_ ?_ ?_ ?_
                      · intro p hp
                        simp only [List.mem_cons, List.not_mem_nil, or_false] at hp
                        subst hp; simp
                      · intro p hp
                        simp only [List.mem_cons, List.not_mem_nil, or_false] at hp ⊢
                        rcases hp with hp | hp | hp | hp <;> simp [hp]
                      · intro p hp q hq
                        rw [List.mem_singleton] at hq
                        subst hq
                        exact hn2 p hp
                      · refine ⟨_, _, _, _, _, _, _, _, by rfl, by rfl, by rfl, by rfl, by rfl, by rfl, by rfl, by rfl, by rfl, by rfl, by rfl, by rfl, rfl, fun j h1 h2 => ?_⟩
                        by_cases hjj : j = jn
                        · subst hjj; exact hjt
                        · exact hno j h1 (by omega)
                  case done4 =>
                    rintro h' tk' m2 news2 F9 N9 ⟨u1, u2, u3, u5, u6, u7, u8, u9, f1, f2, f3, f4, f5, f6, f7, f8, f9, f10, f11, f12, rfl, hno⟩
                    have := hno j0 hj0s.2.1 (by omega)
                    rw [hj0s.2.2] at this
                    cases this
                · refine Stop.intro ?_
                  (rename Fr _ _ _ _ => F8); (rename News _ _ _ _ => N8); (rename (_ = false) => hbf)
                  refine TurnT.next [(D2, W.listOf (List.toArray us2) 0)] F8 N8 ?_ ?_ ?_ ?_
                  · intro p hp
                    simp only [List.mem_cons, List.not_mem_nil, or_false] at hp
                    rcases hp with rfl | rfl | rfl <;> simp
                  · intro p hp
                    simp only [List.mem_cons, List.not_mem_nil, or_false] at hp ⊢
                    rcases hp with hp; simp [hp]
                  · exact own3 hn3
                  · unfold J3; rw [hskip hbf]; exact ⟨_, _, _, _, _, _, _, by rfl, by rfl, by rfl, by rfl, by rfl, by rfl, by rfl, by rfl, by rfl, by rfl, by rfl, rfl⟩
              case done3 =>
                clear F6 N6 N6'
                rintro h' tk' m2 news2 F7 N7 ⟨t1, t2, t3, t5, t6, t7, t8, e1, e2, e3, e4, e5, e6, e7, e8, e9, e10, e11, rfl⟩
                have hT := transG_le b1 b2 na nb b1.length
                generalize hTe : (transG b1 b2 na nb b1.length).2 = tt at e11 hT
                generalize (transG b1 b2 na nb b1.length).1 = kk at e10
                replace F7 := fr_knows [(Str.ofString "self", _), (Str.ofString "s1", _), (Str.ofString "s2", _), (Str.ofString "prefix_weight", _), (Str.ofString "s1_len", _), (Str.ofString "s2_len", _), (Str.ofString "min_len", _), (Str.ofString "s2_flags", _), (Str.ofString "common_chars", _), (Str.ofString "k", _), (Str.ofString "trans_count", _)] (by simp only [List.forall_mem_cons, List.not_mem_nil, false_implies, implies_true, and_true]; exact ⟨e1, e2, e3, e4, e5, e6, e7, e8, e9, e10, e11⟩) F7
                change Fr s.heap L' h' _ at F7
                change News s.heap L' h' _ at N7
                have hL1 : leastI na.length nb.length ≤ na.length := by unfold leastI; split <;> omega
                have hL2 : leastI na.length nb.length ≤ nb.length := by unfold leastI; split <;> omega
                have hL3 : 0 ≤ leastI na.length nb.length := by unfold leastI; split <;> omega
                have hfd := fdiv2_le (Int.ofNat_le.mpr hT)
                (try dsimp only)
                (w_strict k_steps)
                all_goals (try dsimp only)
                · refine Stop.intro ?_
                  (rename Fr _ _ _ _ => F9); (rename (_ = true) => hle)
                  exact RetW.intro F9 (call_fin hab hna hnb (by rw [hRe]; exact hfl) (by omega) hTe rfl (Or.inr (Or.inl ⟨by with_reducible assumption, hle, _, rfl⟩)))
                · refine Stop.intro ?_
                  (rename Fr _ _ _ _ => F9); (rename News _ _ _ _ => N9); (rename (_ = false) => hle)
                  have hwz : wz = true := by with_reducible assumption
                  have hc9 : c ≠ 0 := by omega
                  have hleJ : leL (jaroF c na.length nb.length ((tt : Int).fdiv 2)) = false := hle
                  have hflR : flagsG (reachI na.length nb.length) na nb na.length = (b1, b2, c) := by rw [hRe]; exact hfl
                  refine while_T (news := []) (J5 x a b c (jaroF c na.length nb.length ((tt : Int).fdiv 2)) na nb) (n₀ := 4) F9 (fun p hp => (nomatch hp)) ?hJ5 ?turn5
                  case hJ5 =>
                    exact ⟨0, _, _, _, _, _, _, _, _, rfl, by omega, by omega, fun i hi => absurd hi (by omega), rfl, by rfl, by rfl, by rfl, by rfl, by rfl, by rfl, by rfl, by rfl, by rfl, by rfl, by rfl⟩
                  case turn5 =>
                    clear F9 N9
                    rintro n2 m2 news2 h2 tk2 F9 N9 ⟨k, u1, u2, u3, u5, u6, u7, u8, u9, hn, hka, hkb, heq, rfl, f1, f2, f3, f4, f5, f6, f7, f8, f9, f10, f11⟩
                    replace F9 := fr_knows [(Str.ofString "self", _), (Str.ofString "s1", _), (Str.ofString "s2", _), (Str.ofString "prefix_weight", _), (Str.ofString "s1_len", _), (Str.ofString "s2_len", _), (Str.ofString "min_len", _), (Str.ofString "common_chars", _), (Str.ofString "weight", _), (Str.ofString "i", _), (Str.ofString "j", _)] (by simp only [List.forall_mem_cons, List.not_mem_nil, false_implies, implies_true, and_true]; exact ⟨f1, f2, f3, f4, f5, f6, f7, f8, f9, f10, f11⟩) F9
                    change Fr s.heap L' h2 _ at F9
                    change News s.heap L' h2 _ at N9
                    generalize hW : jaroF c na.length nb.length ((tt : Int).fdiv 2) = W at F9
                    have hleW : leL W = false := hW ▸ hleJ
                    (try dsimp only)
                    (w_strict k_steps)
                    all_goals (try dsimp only)
                    · refine Stop.intro ?_
                      (rename Fr _ _ _ _ => F3); (rename News _ _ _ _ => N3); (rename (_ < ite _ _ _) => hlt); (rename (List.getD _ _ _ = _) => hke)
                      have hk4 : k < na.length ∧ k < nb.length ∧ k < 4 := by split at hlt <;> omega
                      rw [Int.toNat_natCast] at hke
                      refine WhileStep2.next (n' := n2 - 1) [] F3 N3 (fun p hp => nomatch hp) (by omega) ⟨k + 1, _, _, _, _, _, _, _, _, by omega, by omega, by omega, ?_, rfl, by rfl, by rfl, by rfl, by rfl, by rfl, by rfl, by rfl, by rfl, by rfl, by rfl, by rfl⟩
                      intro i hi
                      rcases Nat.lt_or_ge i k with h | h
                      · exact heq i h
                      · obtain rfl : i = k := by omega
                        exact hke
                    · refine Stop.intro ?_
                      (rename (¬ List.getD _ _ _ = _) => hke)
                      rw [Int.toNat_natCast] at hke
                      have hpre : IsPre na nb k := ⟨hka, hkb, by omega, heq, Or.inr (Or.inr (Or.inr hke))⟩
                      (w_strict k_steps)
                      all_goals (try dsimp only)
                      all_goals
                        refine Stop.intro ?_
                        (rename Fr _ _ _ _ => F3)
                        refine RetW.intro F3 (call_fin hab hna hnb hflR hc9 hTe hW ?_)
                        first
                        | (have hz : (k : Int) = 0 := by with_reducible assumption
                           first
                           | ((have hs : fav = false := by with_reducible assumption); exact fin_short0 hwz hleW hpre hz (Or.inl hs))
                           | ((have hs : leastI na.length nb.length ≤ 4 := by with_reducible assumption); exact fin_short0 hwz hleW hpre hz (Or.inr (Or.inl hs)))
                           | ((have hs : (c : Int) ≤ k + 1 := by with_reducible assumption); exact fin_short0 hwz hleW hpre hz (Or.inr (Or.inr (Or.inl hs))))
                           | ((have hs : 2 * (c : Int) < leastI na.length nb.length + k := by with_reducible assumption); exact fin_short0 hwz hleW hpre hz (Or.inr (Or.inr (Or.inr hs))))
                           | ((have hs := not_short (fav := fav) (p := c) (m := na.length) (n := nb.length) (k := k) (by with_reducible assumption) (by with_reducible assumption) (by with_reducible assumption) (by with_reducible assumption)); exact fin_long0 hwz hleW hpre hz hs)
                           | ((have hs : leastI na.length nb.length ≤ 4 := by (split at hlt <;> omega)); exact fin_short0 hwz hleW hpre hz (Or.inr (Or.inl hs))))
                        | (have hz : (k : Int) ≠ 0 := by with_reducible assumption
                           first
                           | ((have hs : fav = false := by with_reducible assumption); exact fin_short1 hwz hleW hpre hz (Or.inl hs))
                           | ((have hs : leastI na.length nb.length ≤ 4 := by with_reducible assumption); exact fin_short1 hwz hleW hpre hz (Or.inr (Or.inl hs)))
                           | ((have hs : (c : Int) ≤ k + 1 := by with_reducible assumption); exact fin_short1 hwz hleW hpre hz (Or.inr (Or.inr (Or.inl hs))))
                           | ((have hs : 2 * (c : Int) < leastI na.length nb.length + k := by with_reducible assumption); exact fin_short1 hwz hleW hpre hz (Or.inr (Or.inr (Or.inr hs))))
                           | ((have hs := not_short (fav := fav) (p := c) (m := na.length) (n := nb.length) (k := k) (by with_reducible assumption) (by with_reducible assumption) (by with_reducible assumption) (by with_reducible assumption)); exact fin_long1 hwz hleW hpre hz hs)
                           | ((have hs : leastI na.length nb.length ≤ 4 := by (split at hlt <;> omega)); exact fin_short1 hwz hleW hpre hz (Or.inr (Or.inl hs))))
                    · refine Stop.intro ?_
                      (rename (¬ (_ < ite _ _ _)) => hlt)
                      have hpre : IsPre na nb k := ⟨hka, hkb, by omega, heq, by unfold leastI at hlt; (repeat' split at hlt) <;> omega⟩
                      (w_strict k_steps)
                      all_goals (try dsimp only)
                      all_goals
                        refine Stop.intro ?_
                        (rename Fr _ _ _ _ => F3)
                        refine RetW.intro F3 (call_fin hab hna hnb hflR hc9 hTe hW ?_)
                        first
                        | (have hz : (k : Int) = 0 := by with_reducible assumption
                           first
                           | ((have hs : fav = false := by with_reducible assumption); exact fin_short0 hwz hleW hpre hz (Or.inl hs))
                           | ((have hs : leastI na.length nb.length ≤ 4 := by with_reducible assumption); exact fin_short0 hwz hleW hpre hz (Or.inr (Or.inl hs)))
                           | ((have hs : (c : Int) ≤ k + 1 := by with_reducible assumption); exact fin_short0 hwz hleW hpre hz (Or.inr (Or.inr (Or.inl hs))))
                           | ((have hs : 2 * (c : Int) < leastI na.length nb.length + k := by with_reducible assumption); exact fin_short0 hwz hleW hpre hz (Or.inr (Or.inr (Or.inr hs))))
                           | ((have hs := not_short (fav := fav) (p := c) (m := na.length) (n := nb.length) (k := k) (by with_reducible assumption) (by with_reducible assumption) (by with_reducible assumption) (by with_reducible assumption)); exact fin_long0 hwz hleW hpre hz hs)
                           | ((have hs : leastI na.length nb.length ≤ 4 := by (split at hlt <;> omega)); exact fin_short0 hwz hleW hpre hz (Or.inr (Or.inl hs))))
                        | (have hz : (k : Int) ≠ 0 := by with_reducible assumption
                           first
                           | ((have hs : fav = false := by with_reducible assumption); exact fin_short1 hwz hleW hpre hz (Or.inl hs))
                           | ((have hs : leastI na.length nb.length ≤ 4 := by with_reducible assumption); exact fin_short1 hwz hleW hpre hz (Or.inr (Or.inl hs)))
                           | ((have hs : (c : Int) ≤ k + 1 := by with_reducible assumption); exact fin_short1 hwz hleW hpre hz (Or.inr (Or.inr (Or.inl hs))))
                           | ((have hs : 2 * (c : Int) < leastI na.length nb.length + k := by with_reducible assumption); exact fin_short1 hwz hleW hpre hz (Or.inr (Or.inr (Or.inr hs))))
                           | ((have hs := not_short (fav := fav) (p := c) (m := na.length) (n := nb.length) (k := k) (by with_reducible assumption) (by with_reducible assumption) (by with_reducible assumption) (by with_reducible assumption)); exact fin_long1 hwz hleW hpre hz hs)
                           | ((have hs : leastI na.length nb.length ≤ 4 := by (split at hlt <;> omega)); exact fin_short1 hwz hleW hpre hz (Or.inr (Or.inl hs))))
                · refine Stop.intro ?_
                  (rename Fr _ _ _ _ => F9)
                  exact RetW.intro F9 (call_fin hab hna hnb (by rw [hRe]; exact hfl) (by omega) hTe rfl (Or.inl ⟨by with_reducible assumption, _, rfl⟩))
            · refine Stop.intro ?_
              (rename Fr _ _ _ _ => F9); (rename (_ = 0) => hc0)
              exact RetW.intro F9 (Or.inr (Or.inr ⟨hab, hna, hnb, b1, b2, c, by rw [hRe]; exact hfl, Or.inl ⟨by omega, _, rfl⟩⟩))
      · exfalso; omega
      · exfalso; omega
end Mine
end
section
open PySem PySem.W PyProof.Rows PySem.Calls
set_option Elab.async false
set_option maxRecDepth 100000
set_option maxHeartbeats 8000000
set_option pp.deepTerms false
namespace Mine
abbrev cD (env : Env) (outer : List Env) : Around := { handled := none, depth := 370, frames := some (env :: outer), guards := none, units := 200 }
abbrev cE (env : Env) (outer : List Env) : Around := { handled := none, depth := 360, frames := some (env :: outer), guards := none, units := 150 }
section
variable {M : Model} {A : Around} {E : Value → Shared → Prop} {s : Shared} {K : Frag} {env : Env} {pos p : Pos} {x C : Addr} {ox : Obj} {od : Option Obj} {first : List Value} {Q : Value → Shared → Prop} {e : Expr}
/-- an own object called with one star argument -/
theorem callWith_IS {h₀ : Heap} (_X : K.In h₀) (_I : InstAt s.heap x ox C od) (hd : ox.data = .plain)
    (h : wpAny M A (eval e env) (fun v s₁ => StarOf M A E v (fun vs s₂ => kco_P K x C ox od s₂.heap ∧ wpAny M A (call (.ref x) (first ++ vs)) Q E s₂) s₁) E s)
    (he : starEach [.Starred e p] env = [(true, eval e env)] := by rfl) :
    wpAny M A (callWith pos (.ref x) first (backTo pos (starEach [.Starred e p] env)) []) Q E s := by
  rw [he]
  unfold callWith
  refine wpAny_bind (wpAny_holding (wpAny_mono (ks_lone (f := .ref x) (Q := fun a s₂ => kco_P K x C ox od s₂.heap ∧ wpAny M A (call (.ref x) (first ++ a.pos) a.kw) Q E s₂) h) (fun a s₁ h₁ => wpAny_bind (wpAny_standAt ?_)) fun _ _ y => y))
  refine wpAny_bind ((kco_keeper (M := M) h₁.1.2 hd).here ?_)
  have tail : ∀ {t : Sem Value}, wpAny M A t Q E s₁ → wpAny M A (t >>= fun r => holding [r] point >>= fun _ => pure r) Q E s₁ :=
    fun ht => wpAny_bind (wpAny_mono ht (fun r s₂ hr => wpAny_bind (wpAny_holding (wpAny_point (wpAny_pure hr)))) fun _ _ y => y)
  exact tail (wpAny_operating h₁.2)
end
end Mine
end
section
open PySem PySem.W PyProof.Rows PySem.Calls
set_option Elab.async false
set_option maxRecDepth 100000
set_option maxHeartbeats 8000000
set_option pp.deepTerms false
namespace Mine
local macro_rules | `(tactic| k_asm) => `(tactic| (with_reducible refine' TupI.keeps ?ti1 ?ti2; (case ti1 => assumption); (case ti2 => first | exact Fr.keep (by assumption) | exact fun b o e => Fr.keep (by assumption) b o (Fr.keep (by assumption) b o e))))
local macro_rules | `(tactic| k_inst) => `(tactic| first | (refine InstAt.keepsIn (by assumption) (Fr.keep (by k_asm))) | (refine InstAt.keepsIn (by assumption) (fun b o e => Fr.keep (by k_asm) b o (Fr.keep (by k_asm) b o e))))
local macro_rules | `(tactic| walk_at "call ref") => `(tactic| (k_here; (with_reducible show wpAny _ _ (call (Value.ref _) [Value.ref _, Value.ref _]) _ _ _); refine wpAny_held ?_))
local macro_rules | `(tactic| walk_at "callWith ref") => `(tactic| (k_here; (with_reducible show wpAny _ _ (callWith _ (Value.ref _) _ (backTo _ (starEach [Expr.Starred _ _] _)) []) _ _ _); k_dflt (refine' callWith_IS ?k0 ?k1 ?k2 ?_; (case k0 => k_asm); (case k1 => k_inst); (case k2 => rfl); k_whole)))
theorem c171a {w : World} {A₀ : Around} {base h₀ : Heap} {outer : List Env} {L : Addr} {m mg mb : Str → Option Value} {mean : ExcName → Option Value} {p : Program} {loose : List Str} {s : Shared} {env : Env}
    {x a b : Addr} {fav wz : Bool} {na nb : List Int} (hI : SelfI s.heap x 238 fav wz)
    (B : Below A₀ base outer h₀) (F : Fr h₀ L s.heap m) (X : (hd.heap_39 w.params).In h₀) (T : Top p loose mean mg mb h₀) (hf : env.frame = some L) (hk : env.scope.kind = .function)
    (hta : TupI s.heap a na) (htb : TupI s.heap b nb) (la : na.length ≤ 18) (lb : nb.length ≤ 18) :
    codeAny (model PySem.Challenge.rw_br0036_01.row.prog w) (cD env outer) (.call (.ref 171) ⟨[.ref x, .ref a, .ref b], []⟩) (RetW s (fun _ v => CallIs na nb fav wz v)) s := by
  have hI' := hI
  obtain ⟨dx, h1, h2, h3, h4, t1, t2, t3, t4, tq, nd, I⟩ := hI
  revert X; k_fill; intro X
  k_dflt (refine' code_restP ?k1 ?k2 ?k3 ?k5 ?kA ?kF ?kK ?k6 ?k7 ?k8 ?kV ?kP ?kG ?kB ?kD ?_ ?c2 ?c3 ?c4; (case kA => exact rfl); (case kF => exact hf); (case kK => exact hk); (case k1 => k_asm); (case k2 => k_asm); (case k3 => k_asm); (case k5 => k_asm); (case k6 => k_is); (case k7 => k_is); (case k8 => k_room); (case kV => kl_lit); (case kP => exact rfl); (case kG => exact fun _ => rfl); (case kB => exact fun _ => rfl); (case kD => decide +kernel); (case c2 => exact rfl); (case c3 => exact rfl); (case c4 => exact rfl); k_whole; clear B F X T; intro D' L' h' tk' cells' l1' F' N' Y' B' X' T'; (first | k_cells Y' | (have hY := cells_none Y'; subst hY; clear Y')); (try simp only [List.cons_append, List.nil_append] at N'); (try dsimp only); (try k_fold))
  (w_strict k_steps)
  refine Stop.intro ?_
  (rename Fr _ _ _ _ => F1); (rename News _ _ _ _ => N1)
  refine call_pure (kco_code (K := hd.heap_39 w.params) (C := 238) (X'.keeps F1.keep) (InstAt.keepsIn I F1.keep) rfl (by k_is) (by k_is) (by k_is) (c213a rfl (SelfI.keeps hI' F1.keep) B' F1 X' T' rfl rfl (by k_asm) (by k_asm) la lb)) rfl rfl (by exact (by decide : 370 + 1 ≤ 380)) (by exact (by decide : 200 + 3 ≤ 250)) F1 N1 ?_
  clear F1 N1
  rintro v h1 tk1 F2 N2 _ hv
  (w_strict k_steps)
  all_goals (try dsimp only)
  refine Stop.intro ?_
  (rename Fr _ _ _ _ => F3)
  exact RetW.intro F3 hv
end Mine
end
section
open PySem PySem.W PyProof.Rows PySem.Calls
set_option Elab.async false
set_option maxRecDepth 100000
set_option maxHeartbeats 8000000
set_option pp.deepTerms false
namespace Mine
local macro_rules | `(tactic| k_asm) => `(tactic| (with_reducible refine' TupI.keeps ?ti1 ?ti2; (case ti1 => assumption); (case ti2 => first | exact Fr.keep (by assumption) | exact fun b o e => Fr.keep (by assumption) b o (Fr.keep (by assumption) b o e))))
local macro_rules | `(tactic| k_inst) => `(tactic| first | (refine InstAt.keepsIn (by assumption) (Fr.keep (by k_asm))) | (refine InstAt.keepsIn (by assumption) (fun b o e => Fr.keep (by k_asm) b o (Fr.keep (by k_asm) b o e))))
local macro_rules | `(tactic| walk_at "call ref") => `(tactic| (k_here; (with_reducible show wpAny _ _ (call (Value.ref _) [Value.ref _, Value.ref _]) _ _ _); refine wpAny_held ?_))
local macro_rules | `(tactic| walk_at "callWith ref") => `(tactic| (k_here; (with_reducible show wpAny _ _ (callWith _ (Value.ref _) _ (backTo _ (starEach [Expr.Starred _ _] _)) []) _ _ _); k_dflt (refine' callWith_IS ?k0 ?k1 ?k2 ?_; (case k0 => k_asm); (case k1 => k_inst); (case k2 => rfl); k_whole)))
theorem c171b {w : World} {A₀ : Around} {base h₀ : Heap} {outer : List Env} {L : Addr} {m mg mb : Str → Option Value} {mean : ExcName → Option Value} {p : Program} {loose : List Str} {s : Shared} {env : Env}
    {x a b : Addr} {fav wz : Bool} {na nb : List Int} (hI : SelfI s.heap x 216 fav wz)
    (B : Below A₀ base outer h₀) (F : Fr h₀ L s.heap m) (X : (hd.heap_39 w.params).In h₀) (T : Top p loose mean mg mb h₀) (hf : env.frame = some L) (hk : env.scope.kind = .function)
    (hta : TupI s.heap a na) (htb : TupI s.heap b nb) (la : na.length ≤ 18) (lb : nb.length ≤ 18) :
    codeAny (model PySem.Challenge.rw_br0036_01.row.prog w) (cD env outer) (.call (.ref 171) ⟨[.ref x, .ref a, .ref b], []⟩) (RetW s (fun _ v => CallIs na nb fav wz v)) s := by
  have hI' := hI
  obtain ⟨dx, h1, h2, h3, h4, t1, t2, t3, t4, tq, nd, I⟩ := hI
  revert X; k_fill; intro X
  k_dflt (refine' code_restP ?k1 ?k2 ?k3 ?k5 ?kA ?kF ?kK ?k6 ?k7 ?k8 ?kV ?kP ?kG ?kB ?kD ?_ ?c2 ?c3 ?c4; (case kA => exact rfl); (case kF => exact hf); (case kK => exact hk); (case k1 => k_asm); (case k2 => k_asm); (case k3 => k_asm); (case k5 => k_asm); (case k6 => k_is); (case k7 => k_is); (case k8 => k_room); (case kV => kl_lit); (case kP => exact rfl); (case kG => exact fun _ => rfl); (case kB => exact fun _ => rfl); (case kD => decide +kernel); (case c2 => exact rfl); (case c3 => exact rfl); (case c4 => exact rfl); k_whole; clear B F X T; intro D' L' h' tk' cells' l1' F' N' Y' B' X' T'; (first | k_cells Y' | (have hY := cells_none Y'; subst hY; clear Y')); (try simp only [List.cons_append, List.nil_append] at N'); (try dsimp only); (try k_fold))
  (w_strict k_steps)
  refine Stop.intro ?_
  (rename Fr _ _ _ _ => F1); (rename News _ _ _ _ => N1)
  refine call_pure (kco_code (K := hd.heap_39 w.params) (C := 216) (X'.keeps F1.keep) (InstAt.keepsIn I F1.keep) rfl (by k_is) (by k_is) (by k_is) (c213b rfl (SelfI.keeps hI' F1.keep) B' F1 X' T' rfl rfl (by k_asm) (by k_asm) la lb)) rfl rfl (by exact (by decide : 370 + 1 ≤ 380)) (by exact (by decide : 200 + 3 ≤ 250)) F1 N1 ?_
  clear F1 N1
  rintro v h1 tk1 F2 N2 _ hv
  (w_strict k_steps)
  all_goals (try dsimp only)
  refine Stop.intro ?_
  (rename Fr _ _ _ _ => F3)
  exact RetW.intro F3 hv
end Mine
end
section
open PySem PySem.W PyProof.Rows PySem.Calls
set_option Elab.async false
set_option maxRecDepth 100000
set_option maxHeartbeats 8000000
set_option pp.deepTerms false
namespace Mine
local macro_rules | `(tactic| k_asm) => `(tactic| (with_reducible refine' TupI.keeps ?ti1 ?ti2; (case ti1 => assumption); (case ti2 => first | exact Fr.keep (by assumption) | exact fun b o e => Fr.keep (by assumption) b o (Fr.keep (by assumption) b o e))))
local macro_rules | `(tactic| k_inst) => `(tactic| first | (refine InstAt.keepsIn (by assumption) (Fr.keep (by k_asm))) | (refine InstAt.keepsIn (by assumption) (fun b o e => Fr.keep (by k_asm) b o (Fr.keep (by k_asm) b o e))))
theorem meth_held {M : Model} {A : Around} {E : Value → Shared → Prop} {s : Shared} {h₀ : Heap} {L g q : Addr} {self : Value} {args : List Value} {news : List (Addr × Obj)} {Q : Value → Shared → Prop} (_N : News h₀ L s.heap news) (_hq : (q, methodObj (.ref g) self) ∈ news)
    (h : Stop M A (fun s' => wpAny M A (call (.ref q) args) Q E s') s) : wpAny M A (call (.ref q) args) Q E s := wpAny_held h
theorem call_shape {na nb : List Int} {fav wz : Bool} {u : Value} (h : CallIs na nb fav wz u) : (∃ t, u = .int 1 t) ∨ (∃ t, u = .int 0 t) ∨ (∃ X t, u = .float X t) := by
  rcases h with ⟨_, t, rfl⟩ | ⟨_, _, t, rfl⟩ | ⟨_, _, _, b1, b2, c, _, h3⟩
  · exact .inl ⟨t, rfl⟩
  · exact .inr (.inl ⟨t, rfl⟩)
  · refine .inr (.inr ?_)
    rcases h3 with ⟨_, t, rfl⟩ | ⟨_, h5⟩
    · exact ⟨_, t, rfl⟩
    · rcases h5 with ⟨_, t, rfl⟩ | ⟨_, _, t, rfl⟩ | ⟨_, _, k, _, ⟨_, t, rfl⟩ | ⟨_, t, rfl⟩⟩
      all_goals exact ⟨_, t, rfl⟩
/-- what the distance gives -/
def DistIs (na nb : List Int) (fav wz : Bool) (v : Value) : Prop :=
  ∃ u, CallIs na nb fav wz u ∧ ((∃ t t', u = .int 1 t ∧ v = .int 0 t') ∨ (∃ t t', u = .int 0 t ∧ v = .int 1 t') ∨ (∃ X t t', u = .float X t ∧ v = .float (Float64.sub (Float64.ofInt 1) X) t'))
local macro_rules | `(tactic| walk_at "eval Call Attribute") => `(tactic| (k_here; (with_reducible show wpAny _ _ (eval (Expr.Call (Expr.Attribute _ _ _) [Expr.Starred _ _] [] _) _) _ _ _); refine methodCall_star ?_))
local macro_rules | `(tactic| walk_at "call ref") => `(tactic| (k_here; (with_reducible show wpAny _ _ (call (Value.ref _) [Value.ref _, Value.ref _]) _ _ _); k_dflt (refine' meth_held (g := 171) ?k1 ?k2 ?_; (case k1 => k_asm); (case k2 => k_mem); k_whole)))
local macro_rules | `(tactic| walk_at "callWith ref") => `(tactic| (k_here; (with_reducible show wpAny _ _ (callWith _ (Value.ref _) _ (backTo _ (starEach [Expr.Starred _ _] _)) []) _ _ _); k_dflt (refine' callWith_SM ?k1 ?k2 ?k3 ?k4 ?_; (case k1 => k_asm); (case k2 => k_asm); (case k3 => k_mem); (case k4 => k_is); k_whole)))
theorem c164a {w : World} {A₀ : Around} {base h₀ : Heap} {outer : List Env} {L : Addr} {m mg mb : Str → Option Value} {mean : ExcName → Option Value} {p : Program} {loose : List Str} {s : Shared} {env : Env}
    {x a b : Addr} {fav wz : Bool} {na nb : List Int} (hI : SelfI s.heap x 238 fav wz)
    (B : Below A₀ base outer h₀) (F : Fr h₀ L s.heap m) (X : (hd.heap_39 w.params).In h₀) (T : Top p loose mean mg mb h₀) (hf : env.frame = some L) (hk : env.scope.kind = .function)
    (hta : TupI s.heap a na) (htb : TupI s.heap b nb) (la : na.length ≤ 18) (lb : nb.length ≤ 18) :
    codeAny (model PySem.Challenge.rw_br0036_01.row.prog w) (cE env outer) (.call (.ref 164) ⟨[.ref x, .ref a, .ref b], []⟩) (RetW s (fun _ v => DistIs na nb fav wz v)) s := by
  have hI' := hI
  obtain ⟨dx, h1, h2, h3, h4, t1, t2, t3, t4, tq, nd, I⟩ := hI
  revert X; k_fill; intro X
  k_dflt (refine' code_restP ?k1 ?k2 ?k3 ?k5 ?kA ?kF ?kK ?k6 ?k7 ?k8 ?kV ?kP ?kG ?kB ?kD ?_ ?c2 ?c3 ?c4; (case kA => exact rfl); (case kF => exact hf); (case kK => exact hk); (case k1 => k_asm); (case k2 => k_asm); (case k3 => k_asm); (case k5 => k_asm); (case k6 => k_is); (case k7 => k_is); (case k8 => k_room); (case kV => kl_lit); (case kP => exact rfl); (case kG => exact fun _ => rfl); (case kB => exact fun _ => rfl); (case kD => decide +kernel); (case c2 => exact rfl); (case c3 => exact rfl); (case c4 => exact rfl); k_whole; clear B F X T; intro D' L' h' tk' cells' l1' F' N' Y' B' X' T'; (first | k_cells Y' | (have hY := cells_none Y'; subst hY; clear Y')); (try simp only [List.cons_append, List.nil_append] at N'); (try dsimp only); (try k_fold))
  (w_strict k_steps)
  refine Stop.intro ?_
  (rename Fr _ _ _ _ => F1); (rename News _ _ _ _ => N1)
  refine call_pure (method_call (N1 _ (by k_mem)).1 (c171a (SelfI.keeps hI' F1.keep) B' F1 X' T' rfl rfl (by k_asm) (by k_asm) la lb)) rfl rfl (by exact (by decide : 360 + 1 ≤ 370)) (by exact (by decide : 150 + 3 ≤ 200)) F1 N1 ?_
  clear F1 N1
  rintro v h1 tk1 F2 N2 _ hv
  rcases call_shape hv with ⟨t, rfl⟩ | ⟨t, rfl⟩ | ⟨X, t, rfl⟩
  all_goals
    (w_strict k_steps)
    all_goals (try dsimp only)
  · refine Stop.intro ?_
    (rename Fr _ _ _ _ => F3)
    exact RetW.intro F3 ⟨_, hv, Or.inl ⟨_, _, rfl, rfl⟩⟩
  · refine Stop.intro ?_
    (rename Fr _ _ _ _ => F3)
    exact RetW.intro F3 ⟨_, hv, Or.inr (Or.inl ⟨_, _, rfl, rfl⟩)⟩
  · refine Stop.intro ?_
    (rename Fr _ _ _ _ => F3)
    exact RetW.intro F3 ⟨_, hv, Or.inr (Or.inr ⟨_, _, _, rfl, rfl⟩)⟩
end Mine
end
section
open PySem PySem.W PyProof.Rows PySem.Calls
set_option Elab.async false
set_option maxRecDepth 100000
set_option maxHeartbeats 1000000
namespace Mine
/-- e is 1 - d -/
def MinusIs (d e : Value) : Prop := (∃ t t', d = .int 1 t ∧ e = .int 0 t') ∨ (∃ t t', d = .int 0 t ∧ e = .int 1 t') ∨ (∃ X t t', d = .float X t ∧ e = .float (Float64.sub (Float64.ofInt 1) X) t')
theorem minus_1 {t : Tok} {e : Value} (h : MinusIs (.int 1 t) e) : ∃ t', e = .int 0 t' := by
  rcases h with ⟨_, t', _, rfl⟩ | ⟨_, t', e1, rfl⟩ | ⟨Y, _, t', e1, rfl⟩
  · exact ⟨t', rfl⟩
  · injection e1 with e1; exact absurd e1 (by decide)
  · cases e1
theorem minus_0 {t : Tok} {e : Value} (h : MinusIs (.int 0 t) e) : ∃ t', e = .int 1 t' := by
  rcases h with ⟨_, t', e1, rfl⟩ | ⟨_, t', e1, rfl⟩ | ⟨Y, _, t', e1, rfl⟩
  · injection e1 with e1; exact absurd e1 (by decide)
  · exact ⟨t', rfl⟩
  · cases e1
theorem minus_f {X : UInt64} {t : Tok} {e : Value} (h : MinusIs (.float X t) e) : ∃ t', e = .float (Float64.sub (Float64.ofInt 1) X) t' := by
  rcases h with ⟨_, t', e1, rfl⟩ | ⟨_, t', e1, rfl⟩ | ⟨Y, _, t', e1, rfl⟩
  · cases e1
  · cases e1
  · injection e1 with e1; subst e1; exact ⟨t', rfl⟩
section
variable {prog : Program} {w : World} {A : Around} {E : Value → Shared → Prop} {s : Shared} {Q : Value → Shared → Prop} {v d e u : Value}
theorem ne_EqN (h : EqN v d) (hq : Q (.bool false) s) : wpAny (model prog w) A (compareOp .NotEq v d) Q E s := by
  rcases h with ⟨t, u, rfl, rfl⟩ | ⟨t, u, rfl, rfl⟩ | ⟨t, u, rfl, rfl⟩ | ⟨X, t, u, rfl, rfl, h1, h2⟩
  · exact ne_int hq
  · exact ne_int hq
  · refine ne_fi ?_
    rw [show (Float64.cmpInt 0 0 != some Ordering.eq) = false by decide +kernel]; exact hq
  · refine AutoFloatOps.ne_0 ?_
    unfold okF at h1
    rw [h1]; exact hq
theorem eq_EqN (h : EqN v d) (hq : Q (.bool true) s) : wpAny (model prog w) A (compareOp .Eq v d) Q E s := by
  rcases h with ⟨t, u, rfl, rfl⟩ | ⟨t, u, rfl, rfl⟩ | ⟨t, u, rfl, rfl⟩ | ⟨X, t, u, rfl, rfl, h1, h2⟩
  · exact eq_int hq
  · exact eq_int hq
  · refine eq_fi ?_
    rw [show (Float64.cmpInt 0 0 == some Ordering.eq) = true by decide +kernel]; exact hq
  · refine AutoFloatOps.eq_0 ?_
    unfold okF at h1
    rw [h1]; exact hq
theorem sub_one {t : Tok} (h : EqN v d) (hq : ∀ e tk, MinusIs d e → Q e { s with toks := tk }) : wpAny (model prog w) A (binaryOp .Sub (.int 1 t) d) Q E s := by
  rcases h with ⟨t, u, rfl, rfl⟩ | ⟨t, u, rfl, rfl⟩ | ⟨t, u, rfl, rfl⟩ | ⟨X, t, u, rfl, rfl, h1, h2⟩
  · exact sub_int (hq _ _ (.inl ⟨_, _, rfl, rfl⟩))
  · exact sub_int (hq _ _ (.inr (.inl ⟨_, _, rfl, rfl⟩)))
  · exact sub_int (hq _ _ (.inr (.inl ⟨_, _, rfl, rfl⟩)))
  · exact sub_if_fits (by decide +kernel) (hq _ _ (.inr (.inr ⟨_, _, _, rfl, rfl⟩)))
theorem ne_minus (h : EqN u d) (hv : MinusIs u v) (he : MinusIs d e) (hq : Q (.bool false) s) : wpAny (model prog w) A (compareOp .NotEq v e) Q E s := by
  rcases h with ⟨t, u, rfl, rfl⟩ | ⟨t, u, rfl, rfl⟩ | ⟨t, u, rfl, rfl⟩ | ⟨X, t, u, rfl, rfl, h1, h2⟩
  · obtain ⟨t1, rfl⟩ := minus_1 hv
    obtain ⟨t2, rfl⟩ := minus_1 he
    exact ne_int hq
  · obtain ⟨t1, rfl⟩ := minus_0 hv
    obtain ⟨t2, rfl⟩ := minus_0 he
    exact ne_int hq
  · obtain ⟨t1, rfl⟩ := minus_f hv
    obtain ⟨t2, rfl⟩ := minus_0 he
    refine ne_fi ?_
    rw [show (Float64.cmpInt (Float64.sub (Float64.ofInt 1) 0) 1 != some Ordering.eq) = false by decide +kernel]; exact hq
  · obtain ⟨t1, rfl⟩ := minus_f hv
    obtain ⟨t2, rfl⟩ := minus_f he
    refine AutoFloatOps.ne_0 ?_
    unfold okF at h2
    rw [h2]; exact hq
end
theorem law_dist {na nb : List Int} {fav : Bool} {v d : Value} (l : na.length + nb.length ≤ 18) (h : DistIs na nb fav false v) (hd : JaroIs na nb (lawPairs (reachI na.length nb.length) na nb na.length) d) : ∃ u, EqN u d ∧ MinusIs u v := by
  obtain ⟨u, hu, hm⟩ := h
  exact ⟨u, law_jaro l hu hd, hm⟩
theorem pairs_ok (na nb : List Int) : (lawPairs (reachI na.length nb.length) na nb na.length).length ≤ na.length ∧ (lawPairs (reachI na.length nb.length) na nb na.length).length ≤ nb.length ∧
    AllIn ((lawPairs (reachI na.length nb.length) na nb na.length).map fun p => p.1) na.length ∧ AllIn ((lawPairs (reachI na.length nb.length) na nb na.length).map fun p => p.2) nb.length := by
  rcases hf : flagsG (reachI na.length nb.length) na nb na.length with ⟨b1, b2, c⟩
  have hl := law_len (reachI_nn _ _) hf
  have hle := flags_le hf
  refine ⟨by omega, by omega, ?_, ?_⟩
  · intro x hx
    obtain ⟨p, hp, rfl⟩ := List.mem_map.mp hx
    obtain ⟨i, hi, _, hx⟩ := mem_lawPairs.mp hp
    obtain ⟨k, k1, k2, _⟩ := mem_places.mp (TT_fst hx).1
    rw [k2]; omega
  · intro x hx
    obtain ⟨p, hp, rfl⟩ := List.mem_map.mp hx
    obtain ⟨i, hi, _, hx⟩ := mem_lawPairs.mp hp
    obtain ⟨k, k1, k2, _⟩ := mem_places.mp (TT_fst hx).2
    rw [k2]; omega
theorem news_tupI {h₀ h : Heap} {L D : Addr} {news : List (Addr × Obj)} {vs : List Value} {ns : List Int} (N : News h₀ L h news) (hm : (D, ({ cls := .type "tuple", data := .seq vs.toArray } : Obj)) ∈ news) (i : IntsAre vs ns) : TupI h D ns :=
  ⟨vs, ⟨_, (N _ hm).1, rfl, _, rfl⟩, i⟩
end Mine
end
section
open PySem PySem.W PyProof.Rows PySem.Calls
set_option Elab.async false
set_option maxRecDepth 100000
set_option maxHeartbeats 8000000
set_option pp.deepTerms false
namespace Mine
local macro_rules | `(tactic| k_asm) => `(tactic| (with_reducible refine' TupI.keeps ?ti1 ?ti2; (case ti1 => assumption); (case ti2 => first | exact Fr.keep (by assumption) | exact fun b o e => Fr.keep (by assumption) b o (Fr.keep (by assumption) b o e))))
local macro_rules | `(tactic| k_inst) => `(tactic| first | (refine InstAt.keepsIn (by assumption) (Fr.keep (by k_asm))) | (refine InstAt.keepsIn (by assumption) (fun b o e => Fr.keep (by k_asm) b o (Fr.keep (by k_asm) b o e))))

theorem wpAt_MethodCallKW {M : Model} {A : Around} {c : Code} {E : Value → Shared → Prop} {s : Shared} {env : Env} {o : Expr} {name : Str} {apos pos : Pos} {args : List Expr} {kws : List Keyword} {pl : Sem Bool} {Q : Value → Shared → Prop}
    (h : PySem.wpAt M A c (attributeBase o name env (eval o env)) (fun ov s₁ => wpAny M A (getMethod ov name pl) (fun fx s₂ => wpAny M A (callWith pos fx.1 fx.2 (backTo pos (starEach args env)) (backToKw pos (keywordEach kws env))) Q E s₂) E s₁) E s)
    (he : eval (.Call (.Attribute o name apos) args kws pos) env = (do
      let ov ← attributeBase o name env (eval o env)
      standAt apos.atName
      let (f, first) ← holding [ov] (getMethod ov name pl)
      callWith pos f first (backTo pos (starEach args env)) (backToKw pos (keywordEach kws env))) := by rfl) :
    PySem.wpAt M A c (eval (.Call (.Attribute o name apos) args kws pos) env) Q E s := by
  rw [he]
  refine _root_.PySem.wpAt_bind (ks_wpAt_mono h (fun ov s₁ h₁ => wpAt_of_wpAny (wpAny_bind (wpAny_standAt (wpAny_bind (wpAny_holding (wpAny_mono h₁ (fun fx s₂ h₂ => ?_) fun _ _ x => x)))))) fun _ _ x => x)
  exact h₂
theorem callWith_KWM0 {M : Model} {A : Around} {E : Value → Shared → Prop} {s : Shared} {K : Frag} {env : Env} {pos : Pos} {first : List Value} {Q : Value → Shared → Prop} {kws : List Keyword} {h₀ : Heap} {L q g : Addr} {self : Value} {news : List (Addr × Obj)}
    (_X : K.In h₀) (_N : News h₀ L s.heap news) (_q : (q, methodObj (.ref g) self) ∈ news) (hf : fnIn K g = true) (hall : (backToKw pos (keywordEach kws env)).all (·.1.isSome) = true)
    (h : wpAny M A (evalAll ((backToKw pos (keywordEach kws env)).map (·.2))) (fun ks s₂ => MethP K q g self s₂.heap ∧ wpAny M A (call (.ref q) (first ++ []) (((backToKw pos (keywordEach kws env)).filterMap (·.1)).zip ks)) Q E s₂) E s)
    (hplain : ((backTo pos (starEach [] env)).any (·.1) || (backToKw pos (keywordEach kws env)).any (·.1.isNone)) = false := by rfl) :
    wpAny M A (callWith pos (.ref q) first (backTo pos (starEach [] env)) (backToKw pos (keywordEach kws env))) Q E s :=
  callWith_of hplain (keeps_M hf) (evalArgs_kw2_nil hall h)

local macro_rules | `(tactic| walk_at "callWith ref") => `(tactic| (k_here; k_dflt (refine' callWith_KWM0 ?k1 ?k2 ?k3 ?k4 ?k5 ?_; (case k1 => k_asm); (case k2 => k_asm); (case k3 => k_mem); (case k4 => k_is); (case k5 => exact rfl); k_whole)))
local macro_rules | `(tactic| walk_at "wpAt") => `(tactic| ((with_reducible show PySem.wpAt _ _ _ (eval (Expr.Call (Expr.Attribute _ _ _) _ (_ :: _) _) _) _ _ _); refine wpAt_MethodCallKW ?_))
local macro_rules | `(tactic| walk_at "call ref") => `(tactic| (k_here; (with_reducible show wpAny _ _ (call (Value.ref 238) _) _ _ _); k_dflt (refine' call_cls ?k1 ?k2 ?k3 ?k4 ?k5 ?k6 ?_; (case k1 => k_asm); (case k2 => k_asm); (case k3 => k_asm); (case k4 => k_is); (case k5 => k_is); (case k6 => k_is); intro x' d' h' F' N' l1 l2; (try k_lt l1); (try k_lt2 l2); (refine' ks_code_super ?k1 ?k2 ?k3 ?k4 ?k5 ?kA ?kF ?kK ?k6 ?k7 ?k8 ?k9 ?kB ?_ ?c1 ?c2 ?c3 ?c4; (case kA => exact rfl); (case kF => first | exact rfl | assumption); (case kK => first | exact rfl | assumption); (case k1 => k_asm); (case k2 => k_asm); (case k3 => k_asm); (case k4 => k_asm); (case k5 => k_asm); (case k6 => k_is); (case k7 => k_is); (case k8 => k_room); (case k9 => first | exact BindsTo.of_eq rfl | exact binds_K (by k_in) rfl (by k_is) rfl rfl rfl); (case kB => exact locs rfl); (case c1 => decide); (case c2 => exact rfl); (case c3 => exact rfl); (case c4 => exact rfl); intro g' L' h' FG' F' N' B' X' T' l1; (try k_lt l1); (try dsimp only); (try k_lift B')))))
local macro_rules | `(tactic| walk_at "call ref") => `(tactic| (k_here; (with_reducible show wpAny _ _ (call (Value.ref 216) _ _) _ _ _); k_dflt (refine' call_cls ?k1 ?k2 ?k3 ?k4 ?k5 ?k6 ?_; (case k1 => k_asm); (case k2 => k_asm); (case k3 => k_asm); (case k4 => k_is); (case k5 => k_is); (case k6 => k_is); k_whole; intro x' d' h' F' N' l1 l2; (try k_lt l1); (try k_lt2 l2); (try k_sweep); (refine' code_def ?k1 ?k2 ?k3 ?k4 ?k5 ?kA ?kF ?kK ?k6 ?k7 ?k8 ?k9 ?kB ?_ ?c2 ?c3 ?c4 ?c5; (case kA => exact rfl); (case kF => first | exact rfl | assumption); (case kK => first | exact rfl | assumption); (case k1 => k_asm); (case k2 => k_asm); (case k3 => k_asm); (case k4 => k_asm); (case k5 => k_asm); (case k6 => k_is); (case k7 => k_is); (case k8 => k_room); (case k9 => first | exact BindsTo.of_eq rfl | exact binds_K (by k_in) rfl (by k_is) rfl rfl rfl); (case c5 => decide); (case kB => exact locs rfl); (case c2 => exact rfl); (case c3 => exact rfl); (case c4 => exact rfl); k_whole; intro g' L' h' FG' F' N' B' X' T'; (try dsimp only); (try k_lift B'); (try k_fold)))))

theorem self_of {h₀ h : Heap} {L x d C : Addr} {news : List (Addr × Obj)} {fav wz : Bool} {h1 h2 h3 h4 : Int} {t1 t2 t3 t4 tq : Tok} {n : Nat} (N : News h₀ L h news) (m1 : (x, instObj C d) ∈ news)
    (m2 : (d, dictOf [⟨h1, .str (Str.ofString "qval") t1, .int 1 tq⟩, ⟨h2, .str (Str.ofString "long_tolerance") t2, .bool fav⟩, ⟨h3, .str (Str.ofString "winklerize") t3, .bool wz⟩, ⟨h4, .str (Str.ofString "external") t4, .bool true⟩] n) ∈ news) : SelfI h x C fav wz :=
  ⟨_, _, _, _, _, _, _, _, _, _, _, ⟨(N _ m1).1, rfl, rfl, (N _ m2).1⟩⟩
theorem mk238 {w : World} {A₀ : Around} {base h₀ : Heap} {L : Addr} {m mg mb : Str → Option Value} {mean : ExcName → Option Value} {p : Program} {loose : List Str} {s : Shared} {env : Env} {news : List (Addr × Obj)} {Q : Value → Shared → Prop} {E : Value → Shared → Prop}
    (B : Below A₀ base [] h₀) (F : Fr h₀ L s.heap m) (X : (hd.heap_39 w.params).In h₀) (T : Top p loose mean mg mb h₀) (hf : env.frame = some L) (hk : env.scope.kind = .function) (N : News h₀ L s.heap news)
    (h : ∀ x d q so oq oso h1 h2 h3 h4 t1 t2 t3 t4 tq n h' tk, Fr h₀ L h' m → News h₀ L h' ((q, oq) :: (so, oso) :: (x, instObj 238 d) :: (d, dictOf [⟨h1, .str (Str.ofString "qval") t1, .int 1 tq⟩, ⟨h2, .str (Str.ofString "long_tolerance") t2, .bool false⟩, ⟨h3, .str (Str.ofString "winklerize") t3, .bool false⟩, ⟨h4, .str (Str.ofString "external") t4, .bool true⟩] n) :: news) → Q (.ref x) { s with heap := h', toks := tk }) :
    wpAny (model PySem.Challenge.rw_br0036_01.row.prog w) (callerA.deeper env) (call (.ref 238) []) Q E s := by
  revert X; k_fill; intro X
  (w_strict k_steps)
  (rename Fr h₀ _ _ _ => F1); (rename News h₀ _ _ _ => N1)
  exact h _ _ _ _ _ _ _ _ _ _ _ _ _ _ _ _ _ _ F1 N1
theorem mk216 {w : World} {A₀ : Around} {base h₀ : Heap} {L : Addr} {m mg mb : Str → Option Value} {mean : ExcName → Option Value} {p : Program} {loose : List Str} {s : Shared} {env : Env} {news : List (Addr × Obj)} {fav : Bool} {Q : Value → Shared → Prop} {E : Value → Shared → Prop}
    (B : Below A₀ base [] h₀) (F : Fr h₀ L s.heap m) (X : (hd.heap_39 w.params).In h₀) (T : Top p loose mean mg mb h₀) (hf : env.frame = some L) (hk : env.scope.kind = .function) (N : News h₀ L s.heap news)
    (h : ∀ x d h1 h2 h3 h4 t1 t2 t3 t4 tq n h' tk, Fr h₀ L h' m → News h₀ L h' ((x, instObj 216 d) :: (d, dictOf [⟨h1, .str (Str.ofString "qval") t1, .int 1 tq⟩, ⟨h2, .str (Str.ofString "long_tolerance") t2, .bool fav⟩, ⟨h3, .str (Str.ofString "winklerize") t3, .bool true⟩, ⟨h4, .str (Str.ofString "external") t4, .bool true⟩] n) :: news) → Q (.ref x) { s with heap := h', toks := tk }) :
    wpAny (model PySem.Challenge.rw_br0036_01.row.prog w) (callerA.deeper env) (call (.ref 216) [] [(Str.ofString "long_tolerance", .bool fav)]) Q E s := by
  revert X; k_fill; intro X
  (w_strict k_steps)
  (rename Fr h₀ _ _ _ => F1); (rename News h₀ _ _ _ => N1)
  exact h _ _ _ _ _ _ _ _ _ _ _ _ _ _ F1 N1
end Mine
end
section
open PySem PySem.W PyProof.Rows PySem.Calls
set_option Elab.async false
set_option maxRecDepth 100000
set_option maxHeartbeats 8000000
namespace Mine
section
variable {prog : Program} {w : World} {A : Around} {E : Value → Shared → Prop} {s : Shared} {env : Env} {h₀ : Heap}
theorem iter_listN {L : Addr} {m : Str → Option Value} {news : List (Addr × Obj)} {l : Addr} {vs : List Value} {c : Nat} {Q : Value → Shared → Prop} (F : Fr h₀ L s.heap m) (N : News h₀ L s.heap news) (hm : (l, W.listOf vs.toArray c) ∈ news)
    (h : ∀ it h', Fr h₀ L h' m → News h₀ L h' ((it, listIterObj l 0) :: news) → (∀ p ∈ news, p.1 < it) → Q (.ref it) { s with heap := h' }) :
    wpAny (model prog w) A (pyIter (.ref l)) Q E s :=
  wpAny_pyIter_list (News.isList N hm) (h _ _ (F.push _) (N.push F _) fun p hp => Heap.lt_size (N p hp).1)

theorem loop_listI {R : Result → Shared → Prop} {x : Str} {px : Pos} {body : List Stmt} {it l : Addr} {vs : List Value} {ns : List Int} {c : Nat} {m : Str → Option Value} {news : List (Addr × Obj)} (hh : A.handled = none) (hx : env.kindOf x = some .local)
    (hp : (env.scope.kind == .class || (env.scope.kind == .module && env.locals != env.globals)) = false) (hi : IntsAre vs ns) (hne : l ≠ it)
    (F : Fr h₀ env.locals s.heap m) (N : News h₀ env.locals s.heap ((it, listIterObj l 0) :: (l, W.listOf vs.toArray c) :: news)) (hnw : ∀ p ∈ news, p.1 ≠ it ∧ p.1 ≠ l)
    (J : Nat → (Str → Option Value) → List (Addr × Obj) → Prop) (h0 : J 0 m news)
    (step : ∀ i t m₁ news₁ oi ol h tk, i < ns.length → J i m₁ news₁ → (∀ p ∈ news₁, p.1 ≠ it ∧ p.1 ≠ l) → Fr h₀ env.locals h (fun y => if y = x then some (.int (ns.getD i 0) t) else m₁ y) → News h₀ env.locals h ((it, oi) :: (l, ol) :: news₁) →
      wpAny (model prog w) A (execs body env) (fun f s₃ => Stop (model prog w) A (TurnT h₀ env.locals s [(it, oi), (l, ol)] (J (i + 1)) R f) s₃) (fun _ _ => False) { s with heap := h, toks := tk })
    (hR : ∀ h' tk m' news', Fr h₀ env.locals h' m' → News h₀ env.locals h' news' → J ns.length m' news' → R (.ok .next) { s with heap := h', toks := tk }) :
    codeAny (model prog w) A (.forLoop (.Name x px) (.ref it) body [] env) R s := by
  have hit := N _ (List.mem_cons_self ..)
  have hl := N _ (List.mem_cons_of_mem _ (List.mem_cons_self ..))
  have hsz : vs.toArray.size = ns.length := by rw [List.size_toArray, hi.length]
  refine codeAny_forLoop_frV (Walks.list (A := A) hh it l hne vs.toArray) hx hp ?_ (by simpa using hit.2.2) (fun p hp => by simpa using (hnw p hp).1) ⟨⟨_, hit.1, rfl, rfl⟩, ⟨_, hl.1, rfl, _, rfl⟩⟩ F (fun p hp => N p (List.mem_cons_of_mem _ (List.mem_cons_of_mem _ hp)))
    (fun i m n => J i m n ∧ ∀ p ∈ n, p.1 ≠ it ∧ p.1 ≠ l) ⟨h0, hnw⟩ ?_ (fun h' tk m' news' F' N' _ j => hR h' tk m' news' F' N' (hsz ▸ j.1))
  · simp only [List.mem_cons, List.not_mem_nil, or_false, not_or]
    exact ⟨fun e => hit.2.1 e.symm, fun e => hl.2.1 e.symm⟩
  · rintro i v m₁ news₁ s₁ own ⟨h, tk, rfl⟩ hilt hPv ⟨hJ, hn1⟩ hn1' hown1 hown2 hown3 hst F₁ N₁
    have hilt' : i < ns.length := hsz ▸ hilt
    obtain ⟨t, rfl⟩ := hi.int_at i v (by simpa using hPv)
    obtain ⟨⟨oi, hoi, _⟩, ⟨ol, hol, _⟩⟩ := hst
    have hm1 : (it, oi) ∈ own := hown3 it (by simp) hit.2.2 oi hoi
    have hm2 : (l, ol) ∈ own := hown3 l (by simp) hl.2.2 ol hol
    have hall : ∀ p ∈ own, p = (it, oi) ∨ p = (l, ol) := by
      intro p hp
      have e1 : p.1 = it ∨ p.1 = l := by simpa using hown1 p hp
      have e2 := hown2 p hp
      rcases e1 with e1 | e1
      · rw [e1] at e2
        have e3 : some p.2 = some oi := e2.symm.trans hoi
        exact Or.inl (Prod.ext e1 (Option.some.inj e3))
      · rw [e1] at e2
        have e3 : some p.2 = some ol := e2.symm.trans hol
        exact Or.inr (Prod.ext e1 (Option.some.inj e3))
    have z := step i t m₁ news₁ oi ol h tk hilt' hJ hn1 F₁ (fun p hp => by
      rcases List.mem_cons.mp hp with rfl | hp
      · exact N₁ _ (List.mem_append_left _ hm1)
      · rcases List.mem_cons.mp hp with rfl | hp
        · exact N₁ _ (List.mem_append_left _ hm2)
        · exact N₁ _ (List.mem_append_right _ hp))
    have conv : ∀ s₃, TurnT h₀ env.locals s [(it, oi), (l, ol)] (J (i + 1)) R .next s₃ → LoopStepU h₀ env.locals [it] own (fun m n => J (i + 1) m n ∧ ∀ p ∈ n, p.1 ≠ it ∧ p.1 ≠ l) { s with heap := h, toks := tk } .next s₃ := by
      rintro s₃ ⟨h', tk', m', news', nx, rfl, F', N', ho, hx', hd, j⟩
      refine ⟨rfl, h', tk', m', nx, rfl, F', fun p hp => ?_, fun p hp => ?_, j, fun p hp => ⟨hd p hp _ (List.mem_cons_self ..), hd p hp _ (List.mem_cons_of_mem _ (List.mem_cons_self ..))⟩⟩
      · rcases List.mem_append.mp hp with hp | hp
        · rcases hall p hp with rfl | rfl
          · exact N' _ (ho _ (List.mem_cons_self ..))
          · exact N' _ (ho _ (List.mem_cons_of_mem _ (List.mem_cons_self ..)))
        · exact N' _ (hx' p hp)
      · simpa using hd p hp _ (List.mem_cons_self ..)
    refine wpAny_mono (wpAny_stop z) (fun f s₃ h₃ => ?_) fun _ _ x => x.elim
    cases f with
    | ret v => exact h₃
    | brk => exact h₃
    | cont => exact LoopStepV.cont (conv _ h₃)
    | next => exact LoopStepV.next (conv _ h₃)

/-- a statement that ends with a frame and a ledger of which P holds -/
def MetP (h₀ : Heap) (L : Addr) (s : Shared) (P : (Str → Option Value) → List (Addr × Obj) → Prop) (f : Flow) (s' : Shared) : Prop :=
  f = .next ∧ ∃ h tk m news, s' = { s with heap := h, toks := tk } ∧ Fr h₀ L h m ∧ News h₀ L h news ∧ P m news
theorem metP_next {M : Model} {t : Sem Flow} {Q : Flow → Shared → Prop} {L : Addr} (P : (Str → Option Value) → List (Addr × Obj) → Prop)
    (h1 : wpAny M A t (fun f s' => Stop M A (MetP h₀ L s P f) s') (fun _ _ => False) s) (h2 : ∀ h tk m news, Fr h₀ L h m → News h₀ L h news → P m news → Q .next { s with heap := h, toks := tk }) : wpAny M A t Q E s := by
  refine wpAny_mono (wpAny_stop h1) ?_ fun _ _ x => x.elim
  rintro f s' ⟨rfl, h, tk, m, news, rfl, F, N, hP⟩
  exact h2 h tk m news F N hP
end
end Mine
end
section
open PySem PySem.W PyProof.Rows PySem.Calls
set_option Elab.async false
set_option maxRecDepth 100000
set_option maxHeartbeats 8000000
set_option pp.deepTerms false
namespace Mine

def GateA : Prop := ∃ x : Nat, x = 77
def GateB : Prop := ∃ x : Nat, x = 78
/-- what the rows' loop keeps -/
def JR (r r0 r1 : Addr) (fav : Bool) (i : Nat) (m : Str → Option Value) (news : List (Addr × Obj)) : Prop :=
  ∃ vs0 vs1 ns0 ns1 c c0 c1, m (Str.ofString "rows") = some (.ref r) ∧ m (Str.ofString "favoured") = some (.bool fav) ∧
    news = [(r, W.listOf #[.ref r0, .ref r1] c), (r1, W.listOf (List.toArray vs1) c1), (r0, W.listOf (List.toArray vs0) c0)] ∧ IntsAre vs0 ns0 ∧ IntsAre vs1 ns1 ∧ ns0.length + ns1.length ≤ i
theorem news_skip3 {h₀ h : Heap} {L : Addr} {a b c : Addr × Obj} {rest : List (Addr × Obj)} (N : News h₀ L h (a :: b :: c :: rest)) : News h₀ L h (a :: b :: rest) := by
  intro p hp
  refine N p ?_
  simp only [List.mem_cons] at hp ⊢
  rcases hp with hp | hp | hp <;> simp [hp]
theorem news_adds {h₀ g h' : Heap} {L : Addr} {m : Str → Option Value} {news tl : List (Addr × Obj)} (F : Fr h₀ L g m) (N : News h₀ L h' news) (hT : ∀ p ∈ tl, h'.get? p.1 = some p.2 ∧ g.get? p.1 = none) : News h₀ L h' (news ++ tl) := by
  intro p hp
  rcases List.mem_append.mp hp with hp | hp
  · exact N p hp
  · obtain ⟨h1, h2⟩ := hT p hp
    refine ⟨h1, ?_, ?_⟩
    · intro e
      obtain ⟨ob, es, ep, ho, _⟩ := F.ns
      rw [e] at h2
      rw [h2] at ho
      cases ho
    · cases q : h₀.get? p.1 with
      | none => rfl
      | some x => have := F.keep _ _ q; rw [h2] at this; cases this
theorem news_pairs {h₀ h : Heap} {L pA : Addr} {news tl : List (Addr × Obj)} {ps : List Value} {pn : Nat} {prs : List (Int × Int)} (N : News h₀ L h news) (hm : (pA, W.listOf ps.toArray pn) ∈ news) (ht : ∀ p ∈ tl, p ∈ news) (hP : PairsIn tl ps prs) : PairsB h pA prs :=
  ⟨ps, News.isList N hm, hP.toH fun p hp => (N p (ht p hp)).1⟩
theorem TurnT.next2 {s : Shared} {h₀ : Heap} {L : Addr} {p1 p2 : Addr × Obj} {nx : List (Addr × Obj)} {J : (Str → Option Value) → List (Addr × Obj) → Prop} {R : Result → Shared → Prop} {h' : Heap} {tk : Nat} {m' : Str → Option Value}
    (F : Fr h₀ L h' m') (N : News h₀ L h' (p1 :: p2 :: nx)) (hd : ∀ p ∈ nx, p.1 ≠ p1.1 ∧ p.1 ≠ p2.1) (hJ : J m' nx) : TurnT h₀ L s [p1, p2] J R .next { s with heap := h', toks := tk } := by
  refine TurnT.next nx F N ?_ ?_ ?_ hJ
  · intro p hp
    simp only [List.mem_cons, List.not_mem_nil, or_false] at hp ⊢
    rcases hp with hp | hp <;> simp [hp]
  · intro p hp; simp [hp]
  · intro p hp q hq
    simp only [List.mem_cons, List.not_mem_nil, or_false] at hq
    rcases hq with rfl | rfl
    · exact (hd p hp).1
    · exact (hd p hp).2

local macro_rules | `(tactic| walk_at "call ref") => `(tactic| (k_here; (with_reducible show wpAny _ _ (call (Value.ref 245) _) _ _ _); refine wpAny_held ?_))
local macro_rules | `(tactic| walk_at "call ref") => `(tactic| (k_here; (with_reducible show wpAny _ _ (call (Value.ref 250) _) _ _ _); refine wpAny_held ?_))
local macro_rules | `(tactic| walk_at "call ref") => `(tactic| (k_here; (with_reducible show wpAny _ _ (call (Value.ref 257) _) _ _ _); refine wpAny_held ?_))
local macro_rules | `(tactic| walk_at "call ref") => `(tactic| (k_here; (with_reducible show wpAny _ _ (call (Value.ref 171) _) _ _ _); refine wpAny_held ?_))
local macro_rules | `(tactic| walk_at "call ref") => `(tactic| (k_here; (with_reducible show wpAny _ _ (call (Value.ref 164) _) _ _ _); refine wpAny_held ?_))
local macro_rules | `(tactic| walk_at "call ref") => `(tactic| (k_here; (with_reducible show wpAny _ _ (call (Value.ref 238) _ _) _ _ _); refine wpAny_held ?_))
local macro_rules | `(tactic| walk_at "call ref") => `(tactic| (k_here; (with_reducible show wpAny _ _ (call (Value.ref 216) _ _) _ _ _); refine wpAny_held ?_))
local macro_rules | `(tactic| walk_at "exec Assign cons IfExp") => `(tactic| (k_here; (rename GateA => g'); refine wpAny_held ?_))
local macro_rules | `(tactic| walk_at "exec For Name BoolOp cons nil") => `(tactic| (k_here; (rename GateB => g'); refine wpAny_held ?_))
local macro_rules | `(tactic| walk_at "pyIter ref") => `(tactic| (k_here; k_dflt (refine' iter_listN ?k1 ?k2 ?k3 ?_; (case k1 => assumption); (case k2 => assumption); (case k3 => k_mem); k_whole; intro it' h' F' N' l1; (try k_lt l1); (try k_sweep))))
local macro_rules | `(tactic| walk_at "compareOp NotEq") => `(tactic| (k_here; refine ne_EqN (by with_reducible assumption) ?_))
local macro_rules | `(tactic| walk_at "compareOp NotEq") => `(tactic| (k_here; refine ne_minus (by with_reducible assumption) (by with_reducible assumption) (by with_reducible assumption) ?_))
local macro_rules | `(tactic| walk_at "compareOp Eq") => `(tactic| (k_here; refine eq_EqN (by with_reducible assumption) ?_))
local macro_rules | `(tactic| walk_at "binaryOp Sub int") => `(tactic| (k_here; refine sub_one (by with_reducible assumption) ?_; intro e' tk' he'))
theorem lawW : PySem.Challenge.rw_br0036_01.Holds := hd (by
  w_strict (k_go0; (all_goals try k_fold); (have gateA : GateA := ⟨_, rfl⟩); k_steps)
  (rename GateA => gt); clear gt
  rename_i W0 s0 s1 mg mb G Y fa o pm doc kV ho hg KX X V GL T B TE TW a9 a8 M a7 a6 hcd ns hs hlay0 hL1 hr1 hl2 a4 a3 lS vsS aA hL ra w1 r0 hI hr hcA hcB K0 hD h1 F N
  refine Stop.intro ?_
  refine metP_next (h₀ := s1.heap) (L := s1.heap.objs.size) (fun m news => ∃ fav, m (Str.ofString "script") = some (.ref lS) ∧ m (Str.ofString "favoured") = some (.bool fav) ∧ news = []) ?one ?two
  case one =>
    (try dsimp only)
    (w_strict k_steps)
    all_goals
      refine Stop.intro ?_
      (rename Fr _ _ _ _ => F3); (rename News _ _ _ _ => N3)
      exact ⟨rfl, _, _, _, _, rfl, F3, N3, _, by rfl, by rfl, rfl⟩
  case two =>
    clear F N
    rintro h2 tk2 m2 news2 F2 N2 ⟨fav, e1, e2, rfl⟩
    replace F2 := fr_knows [(Str.ofString "script", _), (Str.ofString "favoured", _)] (by simp only [List.forall_mem_cons, List.not_mem_nil, false_implies, implies_true, and_true]; exact ⟨e1, e2⟩) F2
    have gateB : GateB := ⟨_, rfl⟩
    (w_strict k_steps)
    (rename GateB => gt); clear gt
    rename_i r0 uH1 uT r1 uH2 p1 r uH3 p2 uH4 F3 N3
    refine Stop.intro ?_
    refine metP_next (h₀ := s1.heap) (L := s1.heap.objs.size) (JR r r0 r1 fav 18) ?lp ?rest
    case rest =>
      clear F3 N3
      rintro h3 tk3 m3 news3 F3 N3 ⟨vs0, vs1, ns0, ns1, c, c0, c1, e3, e4, rfl, i0, i1, hle⟩
      replace F3 := fr_knows [(Str.ofString "rows", _), (Str.ofString "favoured", _)] (by simp only [List.forall_mem_cons, List.not_mem_nil, false_implies, implies_true, and_true]; exact ⟨e3, e4⟩) F3
      (try dsimp only)
      (w_strict k_steps)
      refine Stop.intro ?_
      (rename Fr _ _ _ _ => F4); (rename News _ _ _ _ => N4)
      have la : ns0.length ≤ 18 := by omega
      have lb : ns1.length ≤ 18 := by omega
      refine call_pure (c245 K0 F4 KX T rfl rfl (news_tupI N4 (by k_mem) i0) (news_tupI N4 (by k_mem) i1) la lb) rfl rfl (by exact (by decide : 301 + 1 ≤ 400)) (by exact (by decide : 4 + 3 ≤ 1000)) F4 N4 ?_
      rintro v h4 tk4 F5 N5 _ ⟨pA, ps, pn, tl, rfl, hP, hT, hvl⟩
      replace N5 := news_adds F4 N5 hT
      simp only [List.cons_append, List.nil_append] at N5
      clear F4 N4 hT
      (w_strict k_steps)
      refine Stop.intro ?_
      (rename Fr _ _ _ _ => F4); (rename News _ _ _ _ => N4)
      obtain ⟨pk1, pk2, pk3, pk4⟩ := pairs_ok ns0 ns1
      refine call_pure (c250 K0 F4 KX T rfl rfl (news_tupI N4 (by k_mem) i0) (news_tupI N4 (by k_mem) i1) la lb (news_pairs N4 (by k_mem) (by intro p hp; simp [hp]) hP) (Nat.le_trans pk1 la) pk1 pk2 pk3 pk4) rfl rfl (by exact (by decide : 301 + 1 ≤ 400)) (by exact (by decide : 4 + 3 ≤ 1000)) F4 N4 ?_
      clear F4 N4
      rintro d h5 tk5 F4 N4 _ hJ
      (w_strict k_steps)
      refine Stop.intro ?_
      (rename Fr _ _ _ _ => F5); (rename News _ _ _ _ => N5)
      refine mk238 (h₀ := s1.heap) K0 F5 KX T rfl rfl N5 ?_
      clear F5 N5
      intro xJ dJ q1 q2 o1 o2 y1 y2 y3 y4 z1 z2 z3 z4 zq yn h6 tk6 F4 N4
      (w_strict k_steps)
      refine Stop.intro ?_
      (rename Fr _ _ _ _ => F5); (rename News _ _ _ _ => N5)
      refine call_pure (c171a (self_of N5 (by k_mem) (by k_mem)) K0 F5 KX T rfl rfl (news_tupI N5 (by k_mem) i0) (news_tupI N5 (by k_mem) i1) la lb) rfl rfl (by exact (by decide : 301 + 1 ≤ 370)) (by exact (by decide : 4 + 3 ≤ 200)) F5 N5 ?_
      clear F5 N5
      rintro v1 h7 tk7 F4 N4 _ hc
      have ev1 : EqN v1 d := law_jaro hle hc hJ
      clear hc
      (w_strict k_steps)
      refine Stop.intro ?_
      (rename Fr _ _ _ _ => F5); (rename News _ _ _ _ => N5)
      refine call_pure (c171a (self_of N5 (by k_mem) (by k_mem)) K0 F5 KX T rfl rfl (news_tupI N5 (by k_mem) i1) (news_tupI N5 (by k_mem) i0) lb la) rfl rfl (by exact (by decide : 301 + 1 ≤ 370)) (by exact (by decide : 4 + 3 ≤ 200)) F5 N5 ?_
      clear F5 N5
      rintro v2 h8 tk8 F4 N4 _ hc
      have ev2 : EqN v2 d := law_jaro hle (call_comm hle hc) hJ
      clear hc
      (w_strict k_steps)
      refine Stop.intro ?_
      (rename Fr _ _ _ _ => F5); (rename News _ _ _ _ => N5)
      refine call_pure (c164a (self_of N5 (by k_mem) (by k_mem)) K0 F5 KX T rfl rfl (news_tupI N5 (by k_mem) i0) (news_tupI N5 (by k_mem) i1) la lb) rfl rfl (by exact (by decide : 301 + 1 ≤ 360)) (by exact (by decide : 4 + 3 ≤ 150)) F5 N5 ?_
      clear F5 N5
      rintro v3 h9 tk9 F4 N4 _ hc
      obtain ⟨u3, eu3, mu3⟩ := law_dist hle hc hJ
      clear hc
      (w_strict k_steps)
      refine Stop.intro ?_
      (rename Fr _ _ _ _ => F5); (rename News _ _ _ _ => N5)
      refine call_pure (c257 K0 F5 KX T rfl rfl (news_tupI N5 (by k_mem) i0) (news_tupI N5 (by k_mem) i1) la lb (news_pairs N5 (by k_mem) (by intro p hp; simp [hp]) hP) (Nat.le_trans pk1 la) pk1 pk2 pk3 pk4) rfl rfl (by exact (by decide : 301 + 1 ≤ 390)) (by exact (by decide : 4 + 3 ≤ 500)) F5 N5 ?_
      clear F5 N5
      rintro dw h10 tk10 F4 N4 _ hW
      (w_strict k_steps)
      refine Stop.intro ?_
      (rename Fr _ _ _ _ => F5); (rename News _ _ _ _ => N5)
      refine mk216 (h₀ := s1.heap) K0 F5 KX T rfl rfl N5 ?_
      clear F5 N5
      intro xW dW a1 a2 a3 a4 b1 b2 b3 b4 bq bn h11 tk11 F4 N4
      (w_strict k_steps)
      refine Stop.intro ?_
      (rename Fr _ _ _ _ => F5); (rename News _ _ _ _ => N5)
      refine call_pure (c171b (self_of N5 (by k_mem) (by k_mem)) K0 F5 KX T rfl rfl (news_tupI N5 (by k_mem) i0) (news_tupI N5 (by k_mem) i1) la lb) rfl rfl (by exact (by decide : 301 + 1 ≤ 370)) (by exact (by decide : 4 + 3 ≤ 200)) F5 N5 ?_
      clear F5 N5
      rintro v4 h12 tk12 F4 N4 _ hc
      have ev4 : EqN v4 dw := law_wink hle hc hW
      clear hc
      (w_strict k_steps)
      refine Stop.intro ?_
      (rename Fr _ _ _ _ => F5); (rename News _ _ _ _ => N5)
      refine call_pure (c171b (self_of N5 (by k_mem) (by k_mem)) K0 F5 KX T rfl rfl (news_tupI N5 (by k_mem) i1) (news_tupI N5 (by k_mem) i0) lb la) rfl rfl (by exact (by decide : 301 + 1 ≤ 370)) (by exact (by decide : 4 + 3 ≤ 200)) F5 N5 ?_
      clear F5 N5
      rintro v5 h13 tk13 F4 N4 _ hc
      have ev5 : EqN v5 dw := law_wink hle (call_comm hle hc) hW
      clear hc
      (w_strict k_steps)
    case lp =>
      refine wpAny_For ?_
      (w_strict k_steps)
      · rename_i D ws g3 hI hC hL1 d1 hpos it g4 F4 N4 d2
        refine loop_listI (ns := (ns.drop 1).take (min 19 ns.length - 1)) (news := [(r, W.listOf #[.ref r0, .ref r1] 0), (r1, W.listOf #[] 0), (r0, W.listOf #[] 0)]) rfl rfl rfl hI (Nat.ne_of_lt d2.1) F4 N4 ?hnw (JR r r0 r1 fav) ?h0 ?step ?done
        case hnw =>
          simp only [List.forall_mem_cons, List.not_mem_nil, false_implies, implies_true, and_true]
          exact ⟨⟨by k_ne, by k_ne⟩, ⟨by k_ne, by k_ne⟩, ⟨by k_ne, by k_ne⟩⟩
        case h0 => exact ⟨[], [], [], [], 0, 0, 0, by rfl, by rfl, rfl, .nil, .nil, by simp⟩
        case done =>
          clear F4 N4
          rintro h' tk m' news' F4 N4 ⟨vs0, vs1, ns0, ns1, c, c0, c1, e3, e4, rfl, i0, i1, hle⟩
          refine Stop.intro ⟨rfl, _, _, _, _, rfl, F4, N4, vs0, vs1, ns0, ns1, c, c0, c1, e3, e4, rfl, i0, i1, ?_⟩
          refine Nat.le_trans hle ?_; rw [List.length_take]; omega
        case step =>
          clear F4 N4
          rintro i t m₁ news₁ oi ol h tk hil ⟨vs0, vs1, ns0, ns1, c, c0, c1, e3, e4, rfl, i0, i1, hle⟩ hn1 F4 N4
          replace F4 := fr_knows [(Str.ofString "rows", _), (Str.ofString "favoured", _)] (by simp only [List.forall_mem_cons, List.not_mem_nil, false_implies, implies_true, and_true]; exact ⟨e3, e4⟩) F4
          change Fr s1.heap s1.heap.objs.size h _ at F4
          change News s1.heap s1.heap.objs.size h _ at N4
          (try dsimp only)
          (w_strict k_steps)
          all_goals
            refine Stop.intro ?_
            (rename Fr _ _ _ _ => F5); (rename News _ _ _ _ => N5)
            simp only [List.push_toArray] at N5
            refine TurnT.next2 F5 N5 ?_ ?_
            · simp only [List.forall_mem_cons] at hn1 ⊢
              exact hn1
            · first
              | exact ⟨_, _, ns0 ++ [_], ns1, _, _, _, by rfl, by rfl, rfl, IntsAre.append i0 (.cons _ _ .nil), i1, by (simp only [List.length_append, List.length_cons, List.length_nil]; omega)⟩
              | exact ⟨_, _, ns0, ns1 ++ [_], _, _, _, by rfl, by rfl, rfl, i0, IntsAre.append i1 (.cons _ _ .nil), by (simp only [List.length_append, List.length_cons, List.length_nil]; omega)⟩
      · rename_i D0 ws g3 hI hC hL1 d1 hpos D g5 d3 it g4 F4 N4 d2
        refine loop_listI (ns := [0, 2, 4, 6, 3, 1, 7, 5]) (news := [(r, W.listOf #[.ref r0, .ref r1] 0), (r1, W.listOf #[] 0), (r0, W.listOf #[] 0)]) rfl rfl rfl (.cons _ _ (.cons _ _ (.cons _ _ (.cons _ _ (.cons _ _ (.cons _ _ (.cons _ _ (.cons _ _ .nil)))))))) (Nat.ne_of_lt d2.1) F4 (news_skip3 N4) ?hnw (JR r r0 r1 fav) ?h0 ?step ?done
        case hnw =>
          simp only [List.forall_mem_cons, List.not_mem_nil, false_implies, implies_true, and_true]
          exact ⟨⟨by k_ne, by k_ne⟩, ⟨by k_ne, by k_ne⟩, ⟨by k_ne, by k_ne⟩⟩
        case h0 => exact ⟨[], [], [], [], 0, 0, 0, by rfl, by rfl, rfl, .nil, .nil, by simp⟩
        case done =>
          clear F4 N4
          rintro h' tk m' news' F4 N4 ⟨vs0, vs1, ns0, ns1, c, c0, c1, e3, e4, rfl, i0, i1, hle⟩
          refine Stop.intro ⟨rfl, _, _, _, _, rfl, F4, N4, vs0, vs1, ns0, ns1, c, c0, c1, e3, e4, rfl, i0, i1, ?_⟩
          exact Nat.le_trans hle (by decide)
        case step =>
          clear F4 N4
          rintro i t m₁ news₁ oi ol h tk hil ⟨vs0, vs1, ns0, ns1, c, c0, c1, e3, e4, rfl, i0, i1, hle⟩ hn1 F4 N4
          replace F4 := fr_knows [(Str.ofString "rows", _), (Str.ofString "favoured", _)] (by simp only [List.forall_mem_cons, List.not_mem_nil, false_implies, implies_true, and_true]; exact ⟨e3, e4⟩) F4
          change Fr s1.heap s1.heap.objs.size h _ at F4
          change News s1.heap s1.heap.objs.size h _ at N4
          (try dsimp only)
          (w_strict k_steps)
          all_goals
            refine Stop.intro ?_
            (rename Fr _ _ _ _ => F5); (rename News _ _ _ _ => N5)
            simp only [List.push_toArray] at N5
            refine TurnT.next2 F5 N5 ?_ ?_
            · simp only [List.forall_mem_cons] at hn1 ⊢
              exact hn1
            · first
              | exact ⟨_, _, ns0 ++ [_], ns1, _, _, _, by rfl, by rfl, rfl, IntsAre.append i0 (.cons _ _ .nil), i1, by (simp only [List.length_append, List.length_cons, List.length_nil]; omega)⟩
              | exact ⟨_, _, ns0, ns1 ++ [_], _, _, _, by rfl, by rfl, rfl, i0, IntsAre.append i1 (.cons _ _ .nil), by (simp only [List.length_append, List.length_cons, List.length_nil]; omega)⟩
      done)
end Mine
end
set_option maxRecDepth 100000 in
set_option maxHeartbeats 8000000 in
theorem PySem.Challenge.cw_br0036_01_holds : PySem.Challenge.rw_br0036_01.Holds :=
  Mine.lawW

import PyProof.Rows.All
import Wide.All
import OpenK.AllK
import Wide.FinOn
import KE.LcTurns
import PyProof.Rows.SortStrRead
import PySem.Challenge.RW_oy0131_01

set_option Elab.async false
set_option linter.unusedVariables false

section PartTop131
open PySem PySem.W PyProof.Rows
namespace Mine
set_option maxRecDepth 100000 in
set_option maxHeartbeats 8000000 in
open_top hd for PySem.Challenge.rw_oy0131_01
end Mine
end PartTop131

section PartBase131
open PySem PySem.W PySem.Calls PyProof.Rows
namespace Mine

/-- the state behind a def's body: what it hands back and what it leaves on the ledger -/
def Done (g : Heap) (L : Addr) (s₁ : Shared) (Post : Value → List (Addr × Obj) → Prop) (v : Value) (s' : Shared) : Prop :=
  ∃ m' more h' tk', s' = { s₁ with heap := h', toks := tk' } ∧ Fr g L h' m' ∧ News g L h' more ∧ Post v more
theorem Done.intro {g : Heap} {L : Addr} {s₁ : Shared} {Post : Value → List (Addr × Obj) → Prop} {v : Value} {m' : Str → Option Value} {more : List (Addr × Obj)} {h' : Heap} {tk' : Nat}
    (F : Fr g L h' m') (N : News g L h' more) (P : Post v more) : Done g L s₁ Post v { s₁ with heap := h', toks := tk' } := ⟨m', more, h', tk', rfl, F, N, P⟩

/-- a call of the def at f: `need` are the objects that it may turn, `Pre` what it reads, `Post` what it hands back and makes; all else stays -/
def Run (w : World) (mean : ExcName → Option Value) (mg mb : Str → Option Value) (d : Nat) (f : Addr) (vs : List Value) (need : List (Addr × Obj)) (Pre : Heap → Prop) (Post : Value → List (Addr × Obj) → Prop) : Prop :=
  ∀ (dp un : Nat) (gd : Option (List Code)) (cn : Str) (cs : Scope) (a : Addr) (ccd : Value) (cl : List (Str × Addr)) (outer : List Env) (A₀ : Around) (base h₀ : Heap) (L : Addr) (m : Str → Option Value) (rest : List (Addr × Obj)) (s : Shared) (Q E : Value → Shared → Prop),
    Below A₀ base outer h₀ → Fr h₀ L s.heap m → (Mine.hd.heap_39 w.params).In h₀ → News h₀ L s.heap need → News h₀ L s.heap rest → (∀ p ∈ need, ∀ q ∈ rest, q.1 ≠ p.1) → Top Mine.hd.view_39 (looseW Mine.hd.view_39 [Str.ofString "_filemode_table"]) mean mg mb h₀ → cs.kind = .function →
    dp + d < recursionLimit → un + 8 * d + 16 < cLine → Pre (hideAll s.heap (need.map (·.1))) →
    (∀ v more h' tk', Post v more → Fr h₀ L h' m → News h₀ L h' more → News h₀ L h' rest → (∀ p ∈ more, ∀ q ∈ rest, q.1 ≠ p.1) → Q v { s with heap := h', toks := tk' }) →
      wpAny (model PySem.Challenge.rw_oy0131_01.row.prog w) (ktrTop dp un gd cn cs L a ccd cl outer) (call (.ref f) vs) Q E s

theorem run_of {w : World} {mean : ExcName → Option Value} {mg mb : Str → Option Value} {d : Nat} {f : Addr} {vs : List Value} {need : List (Addr × Obj)} {Pre : Heap → Prop} {Post : Value → List (Addr × Obj) → Prop}
    {name qual : Str} {params : Arguments} {body : List Stmt} {scope : Scope} {dV kV doc pm cdv ct oc : Value} {an od : Option Addr} {osl : Array (Option Value)} {binds : List (Str × Value)}
    (ho : (Mine.hd.heap_39 w.params).lookup f = some ⟨oc, od, .func (fnOf name qual params body scope dV kV doc pm an cdv ct), osl⟩) (hcd : codeIn (Mine.hd.heap_39 w.params) cdv qual = true)
    (hbind : ∀ s, BindsTo s (fnOf name qual params body scope dV kV doc pm an cdv ct) ⟨vs, []⟩ binds) (hloc : ∀ y ∈ binds, scope.names.lookup y.1 = some .local)
    (hco : scope.isCoroutine = false) (hgen : scope.isGenerator = false) (hk : scope.kind = .function) (hcell : ∀ x ∈ scope.names, x.2 ≠ .cell)
    (h : ∀ (dp un : Nat) (gd : Option (List Code)) (cn : Str) (cs : Scope) (L a : Addr) (ccd : Value) (cl : List (Str × Addr)) (outer : List Env) (base g : Heap) (L' : Addr) (s₁ : Shared) (E : Value → Shared → Prop),
      Below (ktrTop dp un gd cn cs L a ccd cl outer) base (envX cn cs L a ccd cl :: outer) g → Fr g L' s₁.heap (fun y => binds.reverse.lookup y) → (Mine.hd.heap_39 w.params).In g → News g L' s₁.heap need →
      Top Mine.hd.view_39 (looseW Mine.hd.view_39 [Str.ofString "_filemode_table"]) mean mg mb g → dp + d < recursionLimit → un + 8 * d + 16 < cLine → Pre g →
      wpAny (model PySem.Challenge.rw_oy0131_01.row.prog w) ((ktrTop dp un gd cn cs L a ccd cl outer).deeper (envOf qual scope L' f cdv)) (execs body (envOf qual scope L' f cdv))
        (fun fl s' => Done g L' s₁ Post (match fl with | .ret v => v | _ => .none) s') (fun e s' => wpAny (model PySem.Challenge.rw_oy0131_01.row.prog w) ((ktrTop dp un gd cn cs L a ccd cl outer).deeper (envOf qual scope L' f cdv)) (leaving (envOf qual scope L' f cdv) e) (fun _ s'' => E e s'') (fun e' s'' => E e' s'') s') s₁) :
    Run w mean mg mb d f vs need Pre Post := by
  intro dp un gd cn cs a ccd cl outer A₀ base h₀ L m rest s Q E B F X N NR hoff T hck hdp hun hpre hret
  refine wpAny_call ?_
  obtain ⟨FG, BG, st, _⟩ := groundX (env := envX cn cs L a ccd cl) (A := ktrTop dp un gd cn cs L a ccd cl outer) (R := fun _ _ => True) B F N rfl rfl hck
  refine codeAny_call_def (fd := fnOf name qual params body scope dV kV doc pm an cdv ct) (body := body) (binds := binds) (by show dp < recursionLimit; omega) ((X.keeps F.keep) _ _ ho) rfl (T.nolimit.keeps F.keep) (codeRec_of (X.keeps F.keep) hcd) rfl (hbind s) hcell hloc (fun h₁ hns hk₁ => ?_) hco hgen hk
  have gr : ∀ q ∈ rest, (hideAll s.heap (need.map (·.1))).get? q.1 = some q.2 := fun q hq => hideAll_get _ (NR q hq).1 fun hm => by
    obtain ⟨p, hp, e⟩ := List.mem_map.mp hm
    exact hoff p hp q hq e.symm
  have key := h dp un gd cn cs L a ccd cl outer base (hideAll s.heap (need.map fun x => x.1)) s.heap.objs.size { s with heap := h₁, toks := s.toks + binds.length } E BG
    ⟨hns, fun b o e => hk₁ b o (of_hideAll _ e), Nat.le_of_eq (hideAll_size _ _)⟩ (X.keeps (fun b o e => st b o e))
    (fun p hp => ⟨hk₁ _ _ (N p hp).1, Nat.ne_of_lt (Heap.lt_size (N p hp).1), hideAll_none _ (List.mem_map_of_mem hp)⟩) (T.keeps (fun b o e => st b o e)) hdp hun hpre
  refine wpAny_mono key (fun fl s' hd => ?_) fun _ _ y => y
  obtain ⟨m', more, h', tk', rfl, F', N', P'⟩ := hd
  obtain ⟨oL, es, ep, hLg, hLd, hLk, hLf⟩ := FG.ns
  refine hret _ more h' tk' P' ⟨⟨oL, es, ep, F'.keep L oL hLg, hLd, hLk, hLf⟩, fun b o e => F'.keep b o (st b o e), F.above⟩ (fun p hp => ⟨(N' p hp).1, fun q => ?_, ?_⟩) (fun q hq => ⟨F'.keep _ _ (gr q hq), (NR q hq).2⟩) (fun p hp q hq e => ?_)
  · have := (N' p hp).2.2; rw [q, hLg] at this; cases this
  · cases q : h₀.get? p.1 with
    | none => rfl
    | some o => have := (N' p hp).2.2; rw [st _ _ q] at this; cases this
  · have := (N' p hp).2.2; rw [← e, gr q hq] at this; cases this
theorem run_ofC {w : World} {mean : ExcName → Option Value} {mg mb : Str → Option Value} {d : Nat} {f : Addr} {vs : List Value} {Pre : Heap → Prop} {Post : Value → List (Addr × Obj) → Prop}
    {name qual : Str} {params : Arguments} {body : List Stmt} {scope : Scope} {dV kV doc pm cdv ct oc : Value} {an od : Option Addr} {osl : Array (Option Value)} {binds : List (Str × Value)}
    (ho : (Mine.hd.heap_39 w.params).lookup f = some ⟨oc, od, .func (fnOf name qual params body scope dV kV doc pm an cdv ct), osl⟩) (hcd : codeIn (Mine.hd.heap_39 w.params) cdv qual = true)
    (hbind : ∀ s, BindsTo s (fnOf name qual params body scope dV kV doc pm an cdv ct) ⟨vs, []⟩ binds)
    (hkind : (binds.all fun y => scope.names.lookup y.1 == some .local || scope.names.lookup y.1 == some .cell) = true) (hnd : ((cellsFrom 0 scope.names []).map (·.1)).Nodup)
    (hco : scope.isCoroutine = false) (hgen : scope.isGenerator = false) (hk : scope.kind = .function)
    (h : ∀ (dp un : Nat) (gd : Option (List Code)) (cn : Str) (cs : Scope) (L a : Addr) (ccd : Value) (cl : List (Str × Addr)) (outer : List Env) (base g : Heap) (L' : Addr) (cells : List (Addr × Obj)) (s₁ : Shared) (E : Value → Shared → Prop),
      Below (ktrTop dp un gd cn cs L a ccd cl outer) base (envX cn cs L a ccd cl :: outer) g → Fr g L' s₁.heap (bindL (envOfC qual scope L' f cdv).kindOf binds fun _ => none) → (Mine.hd.heap_39 w.params).In g → News g L' s₁.heap cells →
      CellsAre (bindC (envOfC qual scope L' f cdv).kindOf binds fun _ => none) (cellsFrom (L' + 1) scope.names []) cells →
      Top Mine.hd.view_39 (looseW Mine.hd.view_39 [Str.ofString "_filemode_table"]) mean mg mb g → dp + d < recursionLimit → un + 8 * d + 16 < cLine → Pre g →
      wpAny (model PySem.Challenge.rw_oy0131_01.row.prog w) ((ktrTop dp un gd cn cs L a ccd cl outer).deeper (envOfC qual scope L' f cdv)) (execs body (envOfC qual scope L' f cdv))
        (fun fl s' => Done g L' s₁ Post (match fl with | .ret v => v | _ => .none) s') (fun e s' => wpAny (model PySem.Challenge.rw_oy0131_01.row.prog w) ((ktrTop dp un gd cn cs L a ccd cl outer).deeper (envOfC qual scope L' f cdv)) (leaving (envOfC qual scope L' f cdv) e) (fun _ s'' => E e s'') (fun e' s'' => E e' s'') s') s₁) :
    Run w mean mg mb d f vs [] Pre Post := by
  intro dp un gd cn cs a ccd cl outer A₀ base h₀ L m rest s Q E B F X _ NR _ T hck hdp hun hpre hret
  refine wpAny_call ?_
  have hroom : dp < recursionLimit := by omega
  obtain ⟨FG, BG, st, _⟩ := groundX (env := envX cn cs L a ccd cl) (A := ktrTop dp un gd cn cs L a ccd cl outer) (R := fun _ _ => True) (news := []) B F News.nil rfl rfl hck
  refine codeAny_call_function (fd := fnOf name qual params body scope dV kV doc pm an cdv ct) hroom ((X.keeps F.keep) _ _ ho) rfl hco hgen rfl (codeRec_of (X.keeps F.keep) hcd) (hbind s _ _ _ _ ?_)
  refine wpAny_newFunctionEnv_cells hk (kindsX hkind _) fun env' he s' x => ?_
  subst he
  refine ⟨(T.nolimit.keeps F.keep).keeps x.toInCall.keep, codeAny_func ?_⟩
  obtain ⟨h₁, tk, rfl, _⟩ := x.done
  have hk₁ := x.toInCall.keep
  obtain ⟨cells, NC, Y⟩ := Cl.news (h₀ := s.heap) (Nat.le_refl _) fun n c hm => ⟨x.cell n c (lookup_of_mem_nodup (cellsFrom_names scope.names 0 (s.heap.objs.size + 1) [] [] rfl ▸ hnd) hm), x.above n c hm⟩
  have key := h dp un gd cn cs L a ccd cl outer base s.heap s.heap.objs.size cells { s with heap := h₁, toks := tk } E BG ⟨x.toInCall.ns, hk₁, Nat.le_refl _⟩ (X.keeps F.keep) NC Y (T.keeps F.keep) hdp hun hpre
  refine wpAny_mono key (fun fl s' hd => ?_) fun _ _ y => y
  obtain ⟨m', more, h', tk', rfl, F', N', P'⟩ := hd
  obtain ⟨oL, es, ep, hLg, hLd, hLk, hLf⟩ := F.ns
  refine hret _ more h' tk' P' ⟨⟨oL, es, ep, F'.keep L oL hLg, hLd, hLk, hLf⟩, fun b o e => F'.keep b o (F.keep b o e), F.above⟩ (fun p hp => ⟨(N' p hp).1, fun q => ?_, ?_⟩) (fun q hq => ⟨F'.keep _ _ (NR q hq).1, (NR q hq).2⟩) (fun p hp q hq e => ?_)
  · have := (N' p hp).2.2; rw [q, hLg] at this; cases this
  · cases q : h₀.get? p.1 with
    | none => rfl
    | some o => have := (N' p hp).2.2; rw [F.keep _ _ q] at this; cases this
  · have := (N' p hp).2.2; rw [← e, (NR q hq).1] at this; cases this
theorem run_use {w : World} {mean : ExcName → Option Value} {mg mb : Str → Option Value} {d : Nat} {f : Addr} {vs : List Value} {Pre : Heap → Prop} {Post : Value → List (Addr × Obj) → Prop}
    (R : Run w mean mg mb d f vs [] Pre Post) {dp un : Nat} {gd : Option (List Code)} {cn : Str} {cs : Scope} {a : Addr} {ccd : Value} {cl : List (Str × Addr)} {outer : List Env} {A₀ : Around} {base h₀ : Heap} {L : Addr} {m : Str → Option Value} {rest : List (Addr × Obj)} {s : Shared} {Q E : Value → Shared → Prop}
    (B : Below A₀ base outer h₀) (F : Fr h₀ L s.heap m) (X : (Mine.hd.heap_39 w.params).In h₀) (N : News h₀ L s.heap rest) (T : Top Mine.hd.view_39 (looseW Mine.hd.view_39 [Str.ofString "_filemode_table"]) mean mg mb h₀) (hck : cs.kind = .function)
    (hdp : dp + d < recursionLimit) (hun : un + 8 * d + 16 < cLine) (hpre : Pre s.heap)
    (hret : ∀ v more h' tk', Post v more → Fr h₀ L h' m → News h₀ L h' (more ++ rest) → (∀ p ∈ more, ∀ q ∈ rest, q.1 ≠ p.1) → Q v { s with heap := h', toks := tk' }) :
    wpAny (model PySem.Challenge.rw_oy0131_01.row.prog w) (ktrTop dp un gd cn cs L a ccd cl outer) (call (.ref f) vs) Q E s :=
  R dp un gd cn cs a ccd cl outer A₀ base h₀ L m rest s Q E B F X News.nil N (fun _ h => nomatch h) T hck hdp hun hpre fun v more h' tk' P F' N' NR' hoff =>
    hret v more h' tk' P F' (fun p hp => (List.mem_append.mp hp).elim (N' p) (NR' p)) hoff
theorem run_pure {w : World} {mean : ExcName → Option Value} {mg mb : Str → Option Value} {d : Nat} {f : Addr} {vs : List Value} {Pre : Heap → Prop} {P : Value → Prop}
    (R : Run w mean mg mb d f vs [] Pre (fun v _ => P v)) {dp un : Nat} {gd : Option (List Code)} {cn : Str} {cs : Scope} {a : Addr} {ccd : Value} {cl : List (Str × Addr)} {outer : List Env} {A₀ : Around} {base h₀ : Heap} {L : Addr} {m : Str → Option Value} {rest : List (Addr × Obj)} {s : Shared} {Q E : Value → Shared → Prop}
    (B : Below A₀ base outer h₀) (F : Fr h₀ L s.heap m) (X : (Mine.hd.heap_39 w.params).In h₀) (N : News h₀ L s.heap rest) (T : Top Mine.hd.view_39 (looseW Mine.hd.view_39 [Str.ofString "_filemode_table"]) mean mg mb h₀) (hck : cs.kind = .function)
    (hdp : dp + d < recursionLimit) (hun : un + 8 * d + 16 < cLine) (hpre : Pre s.heap)
    (hret : ∀ v h' tk', P v → Fr h₀ L h' m → News h₀ L h' rest → Q v { s with heap := h', toks := tk' }) :
    wpAny (model PySem.Challenge.rw_oy0131_01.row.prog w) (ktrTop dp un gd cn cs L a ccd cl outer) (call (.ref f) vs) Q E s :=
  run_use R B F X N T hck hdp hun hpre fun v more h' tk' p F' N' _ => hret v h' tk' p F' fun q hq => N' q (List.mem_append_right _ hq)
theorem fillup {P : Prop} (h : PySem.Challenge.rw_oy0131_01 = PySem.Challenge.rw_oy0131_01 → Mine.hd.heap_39 = Mine.hd.heap_39 → P) : P := h rfl rfl
end Mine
end PartBase131

section PartT1
open PySem PySem.W PySem.Calls PyProof.Rows
namespace Mine
open PySem.AutoSeq1 (wpAny_loadPart')
section
variable {prog : Program} {w : World} {A : Around} {E : Value → Shared → Prop} {s : Shared}

theorem nextOf_tup_item {it t : Addr} {i : Nat} {items : Array Value} {x : Value} {Q : Value → Shared → Prop} (hit : s.heap.IsTupleIter it t i)
    (ht : s.heap.IsTuple t items) (hx : items[i]? = some x)
    (hQ : ∀ h', h'.IsTupleIter it t (i + 1) → Heap.SameBut it s.heap h' → Q x { s with heap := h' }) :
    wpAny (model prog w) A (Builtin.SmallTypes.nextOf (.ref it)) Q E s := by
  obtain ⟨o, ho, hc, hd⟩ := id hit
  obtain ⟨ol, hol, _, nl, hdl⟩ := ht
  unfold Builtin.SmallTypes.nextOf
  refine wpAny_bind (wpAny_callSpecial?_slot (name := Str.ofString "__next__") hit.typeIs F.slot_tuple_iterator_next
    (wpAny_call_entry F.slot_tuple_iterator_next hit.typeIs F.entry_tuple_iterator_next ?_ (F.args_tuple_iterator_next_1 _)))
  show wpAny _ _ (field (.ref it) 0 >>= _) _ _ s
  refine wpAny_bind (wpAny_field ho hd (x := .ref t) rfl ?_)
  show wpAny _ _ (if (Value.ref t == Value.none) = true then _ else _) _ _ s
  rw [if_neg (show ¬ ((Value.ref t == Value.none) = true) from Bool.false_ne_true)]
  show wpAny _ _ (field (.ref it) 1 >>= _) _ _ s
  refine wpAny_bind (wpAny_field ho hd (x := .int i 0) rfl ?_)
  show wpAny _ _ (seqItems? (.ref t) >>= _) _ _ s
  refine wpAny_bind (wpAny_seqItems hol hdl ?_)
  simp only [Int.toNat_natCast, hx]
  refine wpAny_bind (wpAny_setField ho hd (by simp) (wpAny_pure ⟨x, rfl, wpAny_pure (hQ _ ?_ (Heap.SameBut.update ..))⟩))
  exact ⟨_, Heap.get?_update_self _ ho (Obj.isFreed_of_fields (Obj.data_mapFields hd _)), (Obj.cls_mapFields ..).trans hc, by
    rw [Obj.data_mapFields hd]; simp [rawInt]⟩

theorem nextOf_tup_end {it t : Addr} {i : Nat} {items : Array Value} {Q : Value → Shared → Prop} (hh : A.handled = none)
    (hit : s.heap.IsTupleIter it t i) (ht : s.heap.IsTuple t items) (hx : items[i]? = none)
    (hE : ∀ h' e, Heap.ExtBut it s.heap h' → (∃ o, h'.get? e = some o ∧ o.cls = .type "StopIteration") → E (.ref e) { s with heap := h' }) :
    wpAny (model prog w) A (Builtin.SmallTypes.nextOf (.ref it)) Q E s := by
  obtain ⟨o, ho, hc, hd⟩ := id hit
  obtain ⟨ol, hol, _, nl, hdl⟩ := ht
  unfold Builtin.SmallTypes.nextOf
  refine wpAny_bind (wpAny_callSpecial?_slot (name := Str.ofString "__next__") hit.typeIs F.slot_tuple_iterator_next
    (wpAny_call_entry F.slot_tuple_iterator_next hit.typeIs F.entry_tuple_iterator_next ?_ (F.args_tuple_iterator_next_1 _)))
  show wpAny _ _ (field (.ref it) 0 >>= _) _ _ s
  refine wpAny_bind (wpAny_field ho hd (x := .ref t) rfl ?_)
  show wpAny _ _ (if (Value.ref t == Value.none) = true then _ else _) _ _ s
  rw [if_neg (show ¬ ((Value.ref t == Value.none) = true) from Bool.false_ne_true)]
  show wpAny _ _ (field (.ref it) 1 >>= _) _ _ s
  refine wpAny_bind (wpAny_field ho hd (x := .int i 0) rfl ?_)
  show wpAny _ _ (seqItems? (.ref t) >>= _) _ _ s
  refine wpAny_bind (wpAny_seqItems hol hdl ?_)
  simp only [Int.toNat_natCast, hx]
  refine wpAny_bind (wpAny_rule (wpAny_bind (wpAny_setField ho hd (by simp) ?_)))
  show wpAny _ _ (newExc (.type "StopIteration") [] >>= _) _ _ _
  refine wpAny_bind ?_
  simp only [newExc, newTuple]
  refine wpAny_bind (wpAny_newObj_type ?_ (by size_fits))
  refine wpAny_bind (m := firstArgMember _ _) (wpAny_of_eq (a := Value.none) (by first | rfl | (simp only [firstArgMember]; rfl)) ?_)
  refine wpAny_newObj_type ?_ (by size_fits)
  simp only [raiseNew]
  refine wpAny_bind (wpAny_handled ?_)
  first | rw [show A.in1.handled = none from hh] | rw [hh]
  refine wpAny_bind (wpAny_pure (wpAny_throw ?_))
  exact hE _ _ (((Heap.SameBut.update ..).extBut.push _).push _) ⟨_, Heap.get?_push_size _ rfl, rfl⟩
end

theorem drawsTup {prog : Program} {w : World} {A : Around} (hh : A.handled = none) (it l : Addr) (hne : l ≠ it) (items : Array Value) :
    Draws prog w A it [it, l] items.size (fun i v => items[i]? = some v) (fun i h => h.IsTupleIter it l i ∧ h.IsTuple l items) where
  live := fun _ _ st => let ⟨o, ho, _⟩ := st.1; ⟨o, ho⟩
  frame := fun _ _ _ st hk => ⟨st.1.at fun o e => hk it (by simp) o e, st.2.at fun o e => hk l (by simp) o e⟩
  item := fun i s Q E hi st hQ => by
    refine nextOf_tup_item st.1 st.2 (x := items[i]) (by simp [hi]) fun h' hit' hs' => ?_
    exact hQ _ h' s.toks (by simp [hi]) ⟨hit', st.2.extBut hs'.extBut hne⟩ hs'
  done := fun s Q E st hE => nextOf_tup_end hh st.1 st.2 (by simp) hE

set_option maxRecDepth 100000 in
theorem meets_enum_tup (l : Addr) (items : Array Value) (n : Nat) (dct : Option Addr) (sl : Array (Option Value)) :
    Meets (Builtin.«enumerate.__new__» ⟨[.type "enumerate", .ref l], []⟩) (fun _ R s => s.heap.get? l = some { cls := .type "tuple", dict := dct, data := .seq items n, slots := sl } ∧
      R (.ok (.ret (.ref (s.heap.push { cls := .type "tuple_iterator", data := .fields #[.ref l, .int 0 0] }).objs.size)))
        { s with heap := (s.heap.push { cls := .type "tuple_iterator", data := .fields #[.ref l, .int 0 0] }).push { cls := .type "enumerate", data := .fields #[.none, .bool false, .ref s.heap.objs.size, rawInt 0, .none, .none] } }) :=
  .of_wp fun prog w A R s h => by
    obtain ⟨hp, g, d, tk, os⟩ := s; obtain ⟨hl, h⟩ := h
    have hsub := sub_enumerate
    have hL : Heap.IsTuple (Shared.heap ⟨hp, g, d, tk, os⟩) l items := ⟨_, hl, rfl, n, rfl⟩
    wp_walk using wpAny_loadPart' hl
    refine wpAny_stack_any fun st => wpAny_pure ?_
    split
    · rename_i c _ _ _ _ _
      cases (c == Value.type "enumerate")
      · wp_walk using wpAny_loadPart' hl, wpAny_pyIter_tuple hL
        exact ⟨_, rfl, h⟩
      · wp_walk using wpAny_loadPart' hl, wpAny_pyIter_tuple hL
        exact ⟨_, rfl, h⟩
    · wp_walk using wpAny_loadPart' hl, wpAny_pyIter_tuple hL
      exact ⟨_, rfl, h⟩

section
variable {prog : Program} {w : World} {A : Around} {E : Value → Shared → Prop} {s : Shared}
theorem call_enumerate_tup {l : Addr} {items : Array Value} {Q : Value → Shared → Prop} (hL : s.heap.IsTuple l items)
    (h : ∀ h', IsEnum h' (s.heap.objs.size + 1) s.heap.objs.size 0 .none → h'.IsTupleIter s.heap.objs.size l 0 → h'.objs.size = s.heap.objs.size + 2 →
      (∀ b o, s.heap.get? b = some o → h'.get? b = some o) → Q (.ref (s.heap.objs.size + 1)) { s with heap := h' }) :
    wpAny (model prog w) A (call (.type "enumerate") [.ref l]) Q E s := by
  obtain ⟨⟨c, dct, dt, sl⟩, hl, hc, n, hd⟩ := hL
  replace hc : c = .type "tuple" := hc
  replace hd : dt = .seq items n := hd
  subst hc hd
  refine callType_new F.called_enumerate (by decide) (F.typeCall_enumerate_1 _) (F.newCall_enumerate_1 _) (fun obj => F.args_object_init_2 obj _) F.entry_enumerate_new
    (meets_enum_tup l items n dct sl) ⟨hl, ?_⟩
  have hz : (s.heap.push { cls := .type "tuple_iterator", data := .fields #[.ref l, .int 0 0] }).objs.size = s.heap.objs.size + 1 := Heap.size_push ..
  show _ ∧ _
  rw [hz]
  have he : IsEnum ((s.heap.push { cls := .type "tuple_iterator", data := .fields #[.ref l, .int 0 0] }).push
      { cls := .type "enumerate", data := .fields #[.none, .bool false, .ref s.heap.objs.size, rawInt 0, .none, .none] }) (s.heap.objs.size + 1) s.heap.objs.size 0 .none := by
    have := Heap.get?_push_size (s.heap.push { cls := .type "tuple_iterator", data := .fields #[.ref l, .int 0 0] })
      (o := { cls := .type "enumerate", data := .fields #[.none, .bool false, .ref s.heap.objs.size, rawInt 0, .none, .none] }) rfl
    rw [hz] at this; exact this
  refine ⟨⟨_, he, rfl⟩, h _ he ⟨_, Heap.get?_push_of_some _ (Heap.get?_push_size _ rfl), rfl, rfl⟩ (by rw [Heap.size_push, hz]) fun b o x => Heap.get?_push_of_some _ (Heap.get?_push_of_some _ x)⟩

def anyKind : ItemKind Value := ⟨fun a v => v = a, fun v => some v, fun _ _ h => by rw [h]⟩

theorem call_enum_tup {l : Addr} {vs : List Value} {Q : Value → Shared → Prop} {h₀ : Heap} {L : Addr} {m : Str → Option Value} {news : List (Addr × Obj)} (hh : A.handled = none) (hl : h₀.IsTuple l vs.toArray)
    (F : Fr h₀ L s.heap m) (N : News h₀ L s.heap news)
    (h : ∀ h' e, Fr h₀ L h' m → News h₀ L h' news → PairSrcL prog w A E h₀ L anyKind vs (.ref e) { s with heap := h' } m news → Q (.ref e) { s with heap := h' }) :
    wpAny (model prog w) A (call (.type "enumerate") [.ref l]) Q E s := by
  have hls : s.heap.IsTuple l vs.toArray := hl.at fun o e => F.keep l o e
  obtain ⟨ol, hol, _⟩ := id hl
  have hlt : l < h₀.objs.size := Heap.lt_size hol
  have hLs : L < s.heap.objs.size := F.ns.lt
  have hab : h₀.objs.size ≤ L := F.above
  refine call_enumerate_tup hls fun h' he hit hsz hk => ?_
  have F' : Fr h₀ L h' m := ⟨F.ns.keeps hk, fun b o e => hk b o (F.keep b o e), F.above⟩
  have N' : News h₀ L h' news := fun p hp => ⟨hk _ _ (N p hp).1, (N p hp).2⟩
  refine h h' _ F' N' fun env hL => ?_
  subst hL
  have hl2 : l < s.heap.objs.size := Nat.lt_trans (Nat.lt_of_lt_of_le hlt hab) hLs
  refine enumSrc (drawsTup (A := A.in1) hh s.heap.objs.size l (Nat.ne_of_lt hl2) vs.toArray) he ⟨hit, hls.at fun o e => hk l o e⟩ (Nat.succ_ne_self _) ?_ (by simp) ?_
    (Heap.get?_none_of_le (Nat.le_trans hab (Nat.le_of_lt (Nat.lt_succ_of_lt hLs)))) (Heap.get?_none_of_le (Nat.le_trans hab (Nat.le_of_lt hLs))) ?_ (by simp) (fun i x hx => ⟨x, by simpa using hx, rfl⟩) F' N'
  · intro hm
    rcases List.mem_cons.mp hm with e | hm
    · exact Nat.succ_ne_self _ e
    · exact Nat.ne_of_gt (Nat.lt_succ_of_lt hl2) (List.mem_singleton.mp hm)
  · intro hm
    rcases List.mem_cons.mp hm with e | hm
    · exact Nat.ne_of_lt (Nat.lt_succ_of_lt hLs) e
    · rcases List.mem_cons.mp hm with e | hm
      · exact Nat.ne_of_lt hLs e
      · exact Nat.ne_of_gt (Nat.lt_of_lt_of_le hlt hab) (List.mem_singleton.mp hm)
  · intro b hb q hq e
    have hq1 : q.1 < s.heap.objs.size := Heap.lt_size (N q hq).1
    rcases List.mem_cons.mp hb with e1 | hb
    · exact Nat.ne_of_gt (Nat.lt_succ_of_lt hq1) (e1.symm.trans e)
    · rcases List.mem_cons.mp hb with e1 | hb
      · exact Nat.ne_of_gt hq1 (e1.symm.trans e)
      · have e2 := List.mem_singleton.mp hb
        have hn := (N q hq).2.2
        rw [← e, e2, hol] at hn
        cases hn
end
end Mine
end PartT1

section PartT2
open PySem PySem.W PySem.Calls PyProof.Rows
namespace Mine
section
variable {prog : Program} {w : World} {A : Around} {s : Shared} {env : Env} {g : Heap}

def TurnTo (g : Heap) (L : Addr) (s : Shared) (I : Addr) (it : Obj) (J : (Str → Option Value) → List (Addr × Obj) → Prop) (s₃ : Shared) : Prop :=
  ∃ h' tk' m' news', s₃ = { s with heap := h', toks := tk' } ∧ Fr g L h' m' ∧ News g L h' ((I, it) :: news') ∧ (∀ p ∈ news', p.1 ≠ I) ∧ J m' news'
def Turn (g : Heap) (L : Addr) (s : Shared) (I : Addr) (it : Obj) (J : (Str → Option Value) → List (Addr × Obj) → Prop) (Q : Flow → Shared → Prop) (f : Flow) (s₃ : Shared) : Prop :=
  match f with
  | .ret v => Q (.ret v) s₃
  | .brk => Q .next s₃
  | _ => TurnTo g L s I it J s₃

theorem letOwned_pass {I a : Addr} {o : Obj} {c : String} {elts : List Expr} {k : Nat} {pos : Pos} {E : Value → Shared → Prop} {Q : Unit → Shared → Prop} (ho : s.heap.get? I = some o) (hc : o.cls = .type c)
    (hn : (["enumerate", "zip", "dict_itemiterator", "dict_reverseitemiterator", "odict_iterator", "itertools.zip_longest", "itertools.pairwise"] : List String).contains c = false) (h : Q () s) :
    wpAny (model prog w) A (letOwnedTupleGo (.Tuple elts k pos) (.ref I) (.ref a)) Q E s := by
  show wpAny _ _ (load I >>= _) _ _ s
  refine wpAny_bind (wpAny_load ho ?_)
  rw [hc]
  cases o.data <;> dsimp only
  all_goals first
    | exact wpAny_pure h
    | (rw [hn]; exact wpAny_pure h)

/-- a for over a tuple of pairs that stands in the ground, with an else -/
theorem for_pairs {Q : Flow → Shared → Prop} {xi xc tb : Str} {pk pv pt ptb pos : Pos} {x1 : Nat} {body orelse : List Stmt} {ta : Addr} {ps : List (Addr × Value × Value)} {m : Str → Option Value} {news : List (Addr × Obj)}
    (hh : A.handled = none) (hxi : env.kindOf xi = some .local) (hxc : env.kindOf xc = some .local) (hp : (env.scope.kind == .class || (env.scope.kind == .module && env.locals != env.globals)) = false)
    (hev : ∀ Q' : Value → Shared → Prop, Q' (.ref ta) s → wpAny (model prog w) A (eval (.Name tb ptb) env) Q' (fun _ _ => False) s)
    (hT : g.IsTuple ta (ps.map fun p => Value.ref p.1).toArray) (hP : ∀ p ∈ ps, g.IsTuple p.1 #[p.2.1, p.2.2])
    (F : Fr g env.locals s.heap m) (N : News g env.locals s.heap news)
    (J : Nat → (Str → Option Value) → List (Addr × Obj) → Prop) (h0 : J 0 m news)
    (step : ∀ i a v0 v1 m₁ news₁ h tk I it, ps[i]? = some (a, v0, v1) → J i m₁ news₁ → (∀ p ∈ news₁, p.1 ≠ I) →
      Fr g env.locals h (fun y => if y = xc then some v1 else if y = xi then some v0 else m₁ y) → News g env.locals h ((I, it) :: news₁) →
      wpAny (model prog w) A (execs body env) (Turn g env.locals s I it (J (i + 1)) Q) (fun _ _ => False) { s with heap := h, toks := tk })
    (done : ∀ m₁ news₁ h tk, J ps.length m₁ news₁ → Fr g env.locals h m₁ → News g env.locals h news₁ → wpAny (model prog w) A (execs orelse env) Q (fun _ _ => False) { s with heap := h, toks := tk })
    (hs : ∀ x, foldedSetIterable (.Name tb ptb) env x = pure x := by intro _; rfl) :
    wpAny (model prog w) A (exec (.For (.Tuple [.Name xi pk, .Name xc pv] x1 pt) (.Name tb ptb) body orelse pos) env) Q (fun _ _ => False) s := by
  refine wpAny_For (hev _ ?_) hs
  have hTs : s.heap.IsTuple ta (ps.map fun p => Value.ref p.1).toArray := hT.at fun o e => F.keep ta o e
  obtain ⟨ot, hot, _⟩ := id hT
  have hlt : ta < g.objs.size := Heap.lt_size hot
  have hlt2 : ta < s.heap.objs.size := Heap.lt_size (F.keep _ _ hot)
  refine wpAny_pyIter_tuple hTs ?_
  have W := Walks.tuple (prog := prog) (w := w) hh s.heap.objs.size ta (Nat.ne_of_lt hlt2) (ps.map fun p => Value.ref p.1).toArray
  have hnew : g.get? s.heap.objs.size = none := next_is_new F
  have hLI : env.locals ≠ s.heap.objs.size := Nat.ne_of_lt F.ns.lt
  have hsz : (ps.map fun p => Value.ref p.1).toArray.size = ps.length := by simp
  rw [hsz] at W
  generalize hI : s.heap.objs.size = I at *
  have keepW : ∀ (h h' : Heap) (m₁ : Str → Option Value) (news₁ : List (Addr × Obj)), Fr g env.locals h m₁ → News g env.locals h news₁ → (∀ p ∈ news₁, p.1 ≠ I) → (∀ b o, b ∉ [I] → h.get? b = some o → h'.get? b = some o) → Fr g env.locals h' m₁ ∧ News g env.locals h' news₁ := by
    intro h h' m₁ news₁ F₁ N₁ hoff hk
    refine ⟨⟨F₁.ns.at' fun o e => hk _ o (fun q => hLI (List.mem_singleton.mp q)) e, fun b o e => hk b o (fun q => ?_) (F₁.keep b o e), F₁.above⟩, fun p hp => ⟨hk _ _ (fun q => hoff p hp (List.mem_singleton.mp q)) (N₁ p hp).1, (N₁ p hp).2⟩⟩
    rw [List.mem_singleton.mp q, hnew] at e; cases e
  refine codeAny_forLoop_any
    (fun k s' => ∃ h' tk m' news' i, s' = { s with heap := h', toks := tk } ∧ (h'.IsTupleIter I ta i ∧ h'.IsTuple ta (ps.map fun p => Value.ref p.1).toArray) ∧ Fr g env.locals h' m' ∧ News g env.locals h' news' ∧ (∀ p ∈ news', p.1 ≠ I) ∧ J i m' news' ∧ i ≤ ps.length ∧ k = ps.length + 1 - i) ?_ (ps.length + 1)
    ⟨_, s.toks, m, news, 0, rfl, ⟨⟨_, hI ▸ Heap.get?_push_size _ rfl, rfl, rfl⟩, hTs.at fun o e => Heap.get?_push_of_some _ e⟩, F.push _, (fun p hp => ⟨Heap.get?_push_of_some _ (N p hp).1, (N p hp).2⟩), (fun p hp q => absurd (Heap.lt_size (N p hp).1) (by rw [q, hI]; exact Nat.lt_irrefl _)), h0, Nat.zero_le _, rfl⟩
  rintro k s' ⟨H, tk, m', news', i, rfl, hst', F', N', hoff, hJ, hi, rfl⟩
  by_cases hlt : i < ps.length
  · refine W.item i _ _ _ hlt hst' fun v h₁ tk₁ hv hst₁ hk₁ => ?_
    obtain ⟨F₁, N₁⟩ := keepW H h₁ m' news' F' N' hoff hk₁
    have hps : ∃ q, ps[i]? = some q := ⟨ps[i], by simp [hlt]⟩
    obtain ⟨⟨a, v0, v1⟩, hq⟩ := hps
    have hv' : v = .ref a := by
      have : (ps.map fun p => Value.ref p.1).toArray[i]? = some v := hv
      simp [hq] at this; exact this.symm
    subst hv'
    have hIt := hst₁.1
    obtain ⟨oi, hoi, hci, hdi⟩ := id hIt
    refine letOwned_pass hoi hci (by decide) ?_
    have hta : h₁.IsTuple a #[v0, v1] := (hP _ (List.mem_of_getElem? hq)).at fun o e => F₁.keep a o e
    refine wpAny_assign_Tuple hh hta rfl rfl fun h₃ hx₃ => ?_
    have up₃ : ∀ b o, h₁.get? b = some o → h₃.get? b = some o := fun b o x => hx₃ b o (Nat.ne_of_lt (Heap.lt_size x)) x
    have F₃ : Fr g env.locals h₃ m' := ⟨F₁.ns.keeps up₃, fun b o e => up₃ b o (F₁.keep b o e), F₁.above⟩
    have N₃ : News g env.locals h₃ news' := fun p hp => ⟨up₃ _ _ (N₁ p hp).1, (N₁ p hp).2⟩
    show wpAny _ A (do holding [v1] (assign (.Name xi pk) env v0); do holding [] (assign (.Name xc pv) env v1); pure ()) _ _ _
    refine wpAny_bind (wpAny_holding (wpAny_assign_Name (wpAny_storeName_local hxi F₃.ns (fun h₄ hn₄ hs₄ => ?_) hp)))
    replace hs₄ : Heap.SameBut env.locals h₃ h₄ := hs₄
    have F₄ := F₃.set hn₄ hs₄
    refine wpAny_bind (wpAny_holding (wpAny_assign_Name (wpAny_storeName_local hxc F₄.ns (fun h₅ hn₅ hs₅ => wpAny_pure ?_) hp)))
    replace hs₅ : Heap.SameBut env.locals h₄ h₅ := hs₅
    have F₅ := F₄.set hn₅ hs₅
    have N₅ : News g env.locals h₅ news' := (N₃.set hs₄).set hs₅
    have up₅ : ∀ b o, b ≠ env.locals → h₁.get? b = some o → h₅.get? b = some o := fun b o hb e => hs₅.extBut b o hb (hs₄.extBut b o hb (up₃ b o e))
    have hoi₅ := up₅ I oi (Ne.symm hLI) hoi
    have N₆ : News g env.locals h₅ ((I, oi) :: news') := fun p hp => by
      rcases List.mem_cons.mp hp with rfl | hp
      · exact ⟨hoi₅, Ne.symm hLI, hnew⟩
      · exact N₅ p hp
    refine wpAny_mono (step i a v0 v1 m' news' h₅ _ I oi hq hJ hoff F₅ N₆) (fun f s₃ h₆ => ?_) fun _ _ e => e.elim
    have fin : TurnTo g env.locals s I oi (J (i + 1)) s₃ → ∃ m, m < ps.length + 1 - i ∧ ∃ h' tk m' news' i, s₃ = { s with heap := h', toks := tk } ∧ (h'.IsTupleIter I ta i ∧ h'.IsTuple ta (ps.map fun p => Value.ref p.1).toArray) ∧ Fr g env.locals h' m' ∧ News g env.locals h' news' ∧ (∀ p ∈ news', p.1 ≠ I) ∧ J i m' news' ∧ i ≤ ps.length ∧ m = ps.length + 1 - i := by
      rintro ⟨h', tk', m₂, news₂, e, F₂, N₂, ho, hj⟩
      exact ⟨ps.length + 1 - (i + 1), by omega, h', tk', m₂, news₂, i + 1, e, ⟨⟨oi, (N₂ _ (.head _)).1, hci, hdi⟩, hT.at fun o e => F₂.keep ta o e⟩, F₂, fun p hp => N₂ p (.tail _ hp), ho, hj, hlt, rfl⟩
    cases f with
    | ret v => exact h₆
    | brk => exact h₆
    | next => exact fin h₆
    | cont => exact fin h₆
  · have hin : i = ps.length := by omega
    subst hin
    refine W.done _ _ _ hst' fun h₁ tk₁ hk₁ => ?_
    obtain ⟨F₁, N₁⟩ := keepW H h₁ m' news' F' N' hoff hk₁
    exact wpAny_noRaise (done m' news' h₁ tk₁ hJ F₁ N₁)
end
end Mine
end PartT2

section PartOrd131
open PySem PySem.W PySem.Calls PyProof.Rows
namespace Mine
abbrev lt (a b : Str) : Prop := a.cps.toList < b.cps.toList
theorem lt_tr {a b c : Str} (h : lt a b) (k : lt b c) : lt a c := List.lt_trans h k
theorem lt_as {a b : Str} (h : lt a b) : ¬ lt b a := List.lt_asymm h
theorem lt_ir (a : Str) : ¬ lt a a := List.lt_irrefl _
theorem lt_tot {a b : Str} (h : ¬ lt a b) (k : ¬ lt b a) : a = b := by
  have := List.le_antisymm (List.not_lt.mp k) (List.not_lt.mp h)
  exact Str.ext' (Array.toList_inj.mp this)
theorem nlt_tr {a b c : Str} (h : ¬ lt b a) (k : ¬ lt c b) : ¬ lt c a := fun e => by
  by_cases q : lt b c
  · exact h (lt_tr q e)
  · have := lt_tot q k; subst this; exact h e
def Hp : List Str → Prop
  | [] => True
  | [_] => True
  | [a, b] => ¬ lt b a
  | [a, b, c] => ¬ lt b a ∧ ¬ lt c a
  | [a, b, c, d] => ¬ lt b a ∧ ¬ lt c a ∧ ¬ lt d b
  | _ => False
def PushPost (l : Addr) (ss : List Str) (x : Str) (v : Value) (more : List (Addr × Obj)) : Prop :=
  v = .none ∧ ∃ (vs' : List Value) (ss' : List Str) (e' : Nat), more = [(l, listOf vs'.toArray e')] ∧ StrsAre vs' ss' ∧ ss'.Perm (x :: ss) ∧ Hp ss'
def PopPost (l : Addr) (ss : List Str) (v : Value) (more : List (Addr × Obj)) : Prop :=
  ∃ (x : Str) (t : Tok) (vs' : List Value) (ss' : List Str) (e' : Nat), v = .str x t ∧ more = [(l, listOf vs'.toArray e')] ∧ StrsAre vs' ss' ∧ (x :: ss').Perm ss ∧ Hp ss' ∧ ∀ y ∈ ss', ¬ lt y x
theorem push_done {g h' : Heap} {L l : Addr} {s₁ : Shared} {x : Str} {ss : List Str} {vs' : List Value} {e' tk' : Nat} {m' : Str → Option Value} (F : Fr g L h' m') (N : News g L h' [(l, listOf vs'.toArray e')])
    (hS : ∀ v ∈ vs', ∃ x t, v = .str x t) (hp : (vs'.map strOf).Perm (x :: ss)) (hh : Hp (vs'.map strOf)) : Done g L s₁ (PushPost l ss x) .none { s₁ with heap := h', toks := tk' } := Done.intro F N ⟨rfl, vs', _, e', rfl, strsAre_map vs' hS, hp, hh⟩
theorem pop_done {g h' : Heap} {L l : Addr} {s₁ : Shared} {x : Str} {t : Tok} {ss : List Str} {vs' : List Value} {e' tk' : Nat} {m' : Str → Option Value} (F : Fr g L h' m') (N : News g L h' [(l, listOf vs'.toArray e')])
    (hS : ∀ v ∈ vs', ∃ x t, v = .str x t) (hp : (x :: vs'.map strOf).Perm ss) (hh : Hp (vs'.map strOf)) (hm : ∀ y ∈ vs'.map strOf, ¬ lt y x) : Done g L s₁ (PopPost l ss) (.str x t) { s₁ with heap := h', toks := tk' } := Done.intro F N ⟨x, t, vs', _, e', rfl, rfl, strsAre_map vs' hS, hp, hh, hm⟩
end Mine
end PartOrd131

section PartT3
open PySem PySem.W PySem.Calls PyProof.Rows
namespace Mine
section
variable {prog : Program} {w : World} {A : Around} {E : Value → Shared → Prop} {s : Shared} {env : Env} {h₀ : Heap} {x : Str} {body : List Stmt} {Q : Flow → Shared → Prop}
theorem Turn.unr {L I : Addr} {it : Obj} {h : Heap} {tk : Nat} {s₂ : Shared} {J J' : (Str → Option Value) → List (Addr × Obj) → Prop} {f : Flow} (q : Turn h₀ L s I it J Q f s₂) (k : ∀ m n, (∀ p ∈ n, p.1 ≠ I) → J m n → J' m n) : UnrPost h₀ L { s with heap := h, toks := tk } I it J' Q f s₂ := by
  cases f with
  | ret v => exact q
  | brk => exact q
  | next => obtain ⟨h', tk, m', n', e, F, N, o, j⟩ := q; exact ⟨h', tk, m', n', e, F, N, o, k _ _ o j⟩
  | cont => obtain ⟨h', tk, m', n', e, F, N, o, j⟩ := q; exact ⟨h', tk, m', n', e, F, N, o, k _ _ o j⟩
theorem range_rest {I : Addr} {a : Int} {n : Nat} {J : Nat → (Str → Option Value) → List (Addr × Obj) → Prop}
    (turn : ∀ i t h tk m₁ news₁, i < n → J i m₁ news₁ → (∀ p ∈ news₁, p.1 ≠ I) → Fr h₀ env.locals h (fun y => if y = x then some (.int (a + (i : Int)) t) else m₁ y) →
      News h₀ env.locals h ((I, itR (a + ((i + 1 : Nat) : Int)) ((n : Int) - ((i + 1 : Nat) : Int))) :: news₁) →
      wpAny (model prog w) A (execs body env) (Turn h₀ env.locals s I (itR (a + ((i + 1 : Nat) : Int)) ((n : Int) - ((i + 1 : Nat) : Int))) (J (i + 1)) Q) E { s with heap := h, toks := tk })
    (done : ∀ m₁ news₁ h tk, J n m₁ news₁ → Fr h₀ env.locals h m₁ → News h₀ env.locals h news₁ → Q .next { s with heap := h, toks := tk }) :
    ∀ k i m news, i + k = n → J i m news → (∀ p ∈ news, p.1 ≠ I) → RangeRest prog w A E h₀ env x body Q s I a n k i m news
  | 0, i, m, news, e, hJ, _ => RangeRest.zero fun h tk F N => done m news h tk (by rw [← e]; exact hJ) F N
  | k + 1, i, m, news, e, hJ, ho => RangeRest.succ fun t h tk F N =>
    wpAny_mono (turn i t h tk m news (by omega) hJ ho F N) (fun _ _ hp => Turn.unr hp fun m' n' o j => range_rest turn done k (i + 1) m' n' (by omega) j o) fun _ _ q => q
theorem iter_rangeJ {r : Addr} {a₀ b₀ : Int} {t₀ u₀ v₀ : Tok} {n : Nat} {m₀ : Str → Option Value} {news : List (Addr × Obj)} (J : Nat → (Str → Option Value) → List (Addr × Obj) → Prop)
    (hh : A.handled = none) (hr : IsRange s.heap r a₀ b₀ 1 t₀ u₀ v₀) (hsmall : Builtin.Range.small a₀ b₀ 1 = true) (hn : Builtin.Range.rangeSize a₀ b₀ 1 = (n : Int)) (F : Fr h₀ env.locals s.heap m₀) (N : News h₀ env.locals s.heap news) (h0 : J 0 m₀ news)
    (turn : ∀ I i t h tk m₁ news₁, i < n → J i m₁ news₁ → (∀ p ∈ news₁, p.1 ≠ I) → Fr h₀ env.locals h (fun y => if y = x then some (.int (a₀ + (i : Int)) t) else m₁ y) →
      News h₀ env.locals h ((I, itR (a₀ + ((i + 1 : Nat) : Int)) ((n : Int) - ((i + 1 : Nat) : Int))) :: news₁) →
      wpAny (model prog w) A (execs body env) (Turn h₀ env.locals s I (itR (a₀ + ((i + 1 : Nat) : Int)) ((n : Int) - ((i + 1 : Nat) : Int))) (J (i + 1)) Q) E { s with heap := h, toks := tk })
    (done : ∀ m₁ news₁ h tk, J n m₁ news₁ → Fr h₀ env.locals h m₁ → News h₀ env.locals h news₁ → Q .next { s with heap := h, toks := tk }) :
    wpAny (model prog w) A (pyIter (.ref r)) (fun it s₂ => LoopAtV prog w A h₀ env x body Q E it s₂) E s :=
  iter_rangeUnr hh hr hsmall hn F N fun I hlt => range_rest (turn I) done n 0 m₀ news (by omega) h0 fun p hp => Nat.ne_of_lt (hlt p hp)
theorem turn_sub {L I : Addr} {it : Obj} {J : (Str → Option Value) → List (Addr × Obj) → Prop} {h' : Heap} {tk : Nat} {m' : Str → Option Value} {led : List (Addr × Obj)} (F : Fr h₀ L h' m') (N : News h₀ L h' led) (news' : List (Addr × Obj))
    (sub : ∀ p ∈ (I, it) :: news', p ∈ led) (off : ∀ p ∈ news', p.1 ≠ I) (j : J m' news') : Turn h₀ L s I it J Q .next { s with heap := h', toks := tk } := ⟨h', tk, m', news', rfl, F, fun p hp => N p (sub p hp), off, j⟩
end
section
variable {prog : Program} {w : World} {A : Around} {E : Value → Shared → Prop} {s : Shared}
theorem item_at {value slice : Expr} {l : Addr} {vs : List Value} {k : Int} {u : Tok} {v : Value} {Q : Value → Shared → Prop} (hl : s.heap.IsList l vs.toArray) (h0 : 0 ≤ k) (hhi : k < 2 ^ 63) (hx : vs[k.toNat]? = some v) (h : Q v s)
    (hs : subscripted slice false (.ref l) (.int k u) = operate [.ref l, .int k u] (getItem (.ref l) (.int k u)) := by with_unfolding_all rfl) :
    wpAny (model prog w) A (subscriptTail value slice (.ref l) (.int k u)) Q E s :=
  tail_any hl.typeIs slot_list_getitem.lookup (wpAny_getItem_list hl h0 hhi (by simpa using hx) h) hs
end
theorem run_one {w : World} {mean : ExcName → Option Value} {mg mb : Str → Option Value} {d : Nat} {f l : Addr} {o : Obj} {vs : List Value} {Post : Value → List (Addr × Obj) → Prop}
    (R : Run w mean mg mb d f vs [(l, o)] (fun _ => True) Post) {dp un : Nat} {gd : Option (List Code)} {cn : Str} {cs : Scope} {a : Addr} {ccd : Value} {cl : List (Str × Addr)} {outer : List Env} {A₀ : Around} {base h₀ : Heap} {L : Addr} {m : Str → Option Value} {led : List (Addr × Obj)} {s : Shared} {Q E : Value → Shared → Prop}
    (B : Below A₀ base outer h₀) (F : Fr h₀ L s.heap m) (X : (Mine.hd.heap_39 w.params).In h₀) (N : News h₀ L s.heap led) (rest : List (Addr × Obj)) (hl : (l, o) ∈ led) (hr : ∀ q ∈ rest, q ∈ led) (hne : ∀ q ∈ rest, q.1 ≠ l)
    (T : Top Mine.hd.view_39 (looseW Mine.hd.view_39 [Str.ofString "_filemode_table"]) mean mg mb h₀) (hck : cs.kind = .function)
    (hdp : dp + d < recursionLimit) (hun : un + 8 * d + 16 < cLine)
    (hret : ∀ v more h' tk', Post v more → Fr h₀ L h' m → News h₀ L h' (more ++ rest) → Q v { s with heap := h', toks := tk' }) :
    wpAny (model PySem.Challenge.rw_oy0131_01.row.prog w) (ktrTop dp un gd cn cs L a ccd cl outer) (call (.ref f) vs) Q E s :=
  R dp un gd cn cs a ccd cl outer A₀ base h₀ L m rest s Q E B F X (fun p hp => by rw [List.mem_singleton.mp hp]; exact N _ hl) (fun q hq => N q (hr q hq)) (fun p hp q hq => by rw [List.mem_singleton.mp hp]; exact hne q hq) T hck hdp hun trivial
    fun v more h' tk' P F' N' NR' _ => hret v more h' tk' P F' (fun p hp => (List.mem_append.mp hp).elim (N' p) (NR' p))

inductive OptsAre : List Value → List (Option Int) → Prop
  | nil : OptsAre [] []
  | none {vs os} : OptsAre vs os → OptsAre (Value.none :: vs) (none :: os)
  | some {vs os} (x : Int) (t : Tok) : OptsAre vs os → OptsAre (Value.int x t :: vs) (some x :: os)
theorem OptsAre.len : ∀ {vs os}, OptsAre vs os → vs.length = os.length
  | _, _, .nil => rfl
  | _, _, .none h => by simp [h.len]
  | _, _, .some _ _ h => by simp [h.len]
theorem OptsAre.at : ∀ {vs os}, OptsAre vs os → ∀ (i : Nat) (o : Option Int), os[i]? = Option.some o → (o = Option.none ∧ vs[i]? = Option.some Value.none) ∨ ∃ x t, o = Option.some x ∧ vs[i]? = Option.some (Value.int x t)
  | _, _, .nil, i, o, e => by simp at e
  | _, _, .none h, 0, o, e => .inl ⟨by simpa using e.symm, rfl⟩
  | _, _, .none h, i + 1, o, e => by simpa using h.at i o (by simpa using e)
  | _, _, .some x t h, 0, o, e => .inr ⟨x, t, by simpa using e.symm, rfl⟩
  | _, _, .some x t h, i + 1, o, e => by simpa using h.at i o (by simpa using e)
def rowsO (f : Nat → Int → Str) (os : List (Option Int)) : List (Option Str) := os.mapIdx fun i o => o.map (f i)
def pres (f : Nat → Int → Str) (os : List (Option Int)) (i : Nat) : List Str := ((rowsO f os).take i).filterMap id
theorem pres_none {f : Nat → Int → Str} {os : List (Option Int)} {i : Nat} (h : os[i]? = some none) : pres f os (i + 1) = pres f os i := by
  unfold pres rowsO
  rw [List.take_add_one, List.getElem?_mapIdx, h]
  simp
theorem pres_some {f : Nat → Int → Str} {os : List (Option Int)} {i : Nat} {x : Int} (h : os[i]? = some (some x)) : pres f os (i + 1) = pres f os i ++ [f i x] := by
  unfold pres rowsO
  rw [List.take_add_one, List.getElem?_mapIdx, h]
  simp
theorem pres_len (f : Nat → Int → Str) (os : List (Option Int)) (i : Nat) : (pres f os i).length ≤ i := by
  unfold pres
  exact Nat.le_trans (List.length_filterMap_le _ _) (List.length_take_le _ _)
end Mine
end PartT3

section PartT4
open PySem PySem.W PySem.Calls PyProof.Rows PyProof.Rows.LCg
namespace Mine
section
variable {prog : Program} {w : World} {A : Around} {s : Shared} {h₀ : Heap} {L : Addr} {m : Str → Option Value} {env : Env}
/-- one item of a comprehension: its value and the ledger behind it -/
def Item (h₀ : Heap) (L : Addr) (m : Str → Option Value) (s₁ : Shared) (I : Addr) (oI : Obj) (C : Addr) (oC : Obj) (D : Addr) (oD : Obj) (S : List (Addr × Obj) → Prop) (rest : Value → List (Addr × Obj) → Prop) (y : Value) (s₂ : Shared) : Prop :=
  CompEnd h₀ L m s₁ I oI C oC D oD S rest y s₂
theorem item_to {I C D : Addr} {s₁ : Shared} {oI oC oD : Obj} {S : List (Addr × Obj) → Prop} {rest : Value → List (Addr × Obj) → Prop} {y : Value} {h' : Heap} {tk : Nat} {all : List (Addr × Obj)}
    (F : Fr h₀ L h' m) (N : News h₀ L h' all) (news' : List (Addr × Obj)) (sub : ∀ p ∈ (I, oI) :: (C, oC) :: (D, oD) :: news', p ∈ all) (off : Off3 I C D news') (hS : S news') (r : rest y news') :
    Item h₀ L m s₁ I oI C oC D oD S rest y { s₁ with heap := h', toks := tk } := CompEnd.intro F N news' sub off hS r
theorem comp_rest {elt : Expr} {x : Str} {scope : Scope} {cl : List (Str × Addr)} {S : List (Addr × Obj) → Prop} {P : Nat → Value → Prop} {Fin : List Value → List (Addr × Obj) → Prop} {n : Nat} {J : Nat → List Value → List (Addr × Obj) → Prop}
    (step : ∀ i ys news v I oI C oC D m₂ h tk (E' : Value → Shared → Prop), i < n → J i ys news → P i v → NsObj oC m₂ → m₂ x = some v → Fr h₀ L h m → News h₀ L h ((I, oI) :: (C, oC) :: (D, lst ys) :: news) → Off3 I C D news → ((@Ne Nat I C) ∧ (@Ne Nat I D) ∧ (@Ne Nat C D)) →
      wpAny (model prog w) A (eval elt (compEnvC scope cl C env)) (Item h₀ L m { s with heap := h, toks := tk } I oI C oC D (lst ys) S (fun y news' => J (i + 1) (ys ++ [y]) news')) E' { s with heap := h, toks := tk })
    (fin : ∀ ys news, J n ys news → Fin ys news) : ∀ k i ys news, i + k = n → J i ys news → CompRest prog w A h₀ L m env elt x scope cl s S P Fin k i ys news
  | 0, i, ys, news, e, hJ => CompRest.zero (fin ys news (by rw [← e]; exact hJ))
  | k + 1, i, ys, news, e, hJ => CompRest.succ fun v I oI C oC D m₂ h tk E' hP hN hx F N off hne =>
    wpAny_mono (step i ys news v I oI C oC D m₂ h tk E' (by omega) hJ hP hN hx F N off hne) (fun y s₂ hc => by
      obtain ⟨h', tk', news', e', F', N', off', hS, hj⟩ := hc
      exact ⟨h', tk', news', e', F', N', off', hS, comp_rest step fin k (i + 1) (ys ++ [y]) news' (by omega) hj⟩) fun _ _ q => q
end
end Mine
end PartT4

section PartT5
open PySem PySem.W PySem.Calls PyProof.Rows
namespace Mine
section
variable {prog : Program} {w : World} {A : Around} {E : Value → Shared → Prop} {s : Shared} {env : Env} {h₀ : Heap} {x : Str} {body : List Stmt} {Q : Flow → Shared → Prop}
def TurnN (h₀ : Heap) (L : Addr) (J : (Str → Option Value) → List (Addr × Obj) → Prop) (own : List (Addr × Obj)) (adr : List Addr) (s₁ : Shared) (Q : Flow → Shared → Prop) (f : Flow) (s₂ : Shared) : Prop := InvPostN h₀ L J own adr s₁ Q f s₂
theorem turnN_to {L : Addr} {J : (Str → Option Value) → List (Addr × Obj) → Prop} {own led : List (Addr × Obj)} {adr : List Addr} {s₁ : Shared} {h' : Heap} {tk : Nat} {m' : Str → Option Value} (F : Fr h₀ L h' m') (N : News h₀ L h' led) (nx : List (Addr × Obj))
    (h1 : ∀ p ∈ nx, p ∈ led) (h2 : ∀ p ∈ own, p ∈ led) (h3 : nx.map (·.1) = adr) (j : J m' nx) : TurnN h₀ L J own adr s₁ Q .next { s₁ with heap := h', toks := tk } := ⟨h', tk, m', led, nx, rfl, F, N, h1, h2, h3, j⟩
theorem iter_intsJ {l : Addr} {vs : List Value} {ns : List Int} {m₀ : Str → Option Value} {news : List (Addr × Obj)} (J : Nat → (Str → Option Value) → List (Addr × Obj) → Prop)
    (hh : A.handled = none) (hl : h₀.IsList l vs.toArray) (hi : IntsAre vs ns) (F : Fr h₀ env.locals s.heap m₀) (N : News h₀ env.locals s.heap news) (hj : J 0 m₀ news)
    (turn : ∀ i n t m₁ news₁ h tk own, ns[i]? = some n → news₁.map (·.1) = news.map (·.1) → OwnOff own (news.map (·.1)) → J i m₁ news₁ → Fr h₀ env.locals h (fun y => if y = x then some (.int n t) else m₁ y) → News h₀ env.locals h (news₁ ++ own) →
      wpAny (model prog w) A (execs body env) (TurnN h₀ env.locals (J (i + 1)) own (news.map (·.1)) { s with heap := h, toks := tk } Q) E { s with heap := h, toks := tk })
    (done : ∀ m₁ news₁ h tk, J ns.length m₁ news₁ → Fr h₀ env.locals h m₁ → News h₀ env.locals h news₁ → Q .next { s with heap := h, toks := tk }) :
    wpAny (model prog w) A (pyIter (.ref l)) (fun it s₂ => LoopAtV prog w A h₀ env x body Q E it s₂) E s := iter_invN J hh hl hi F N hj turn done
end
end Mine
end PartT5

section PartL1
open PySem PySem.W PySem.Calls PyProof.Rows
namespace Mine
theorem bitAnd_low : ∀ (k : Nat) (x y : Int), 0 ≤ y → y < 2 ^ k → 0 ≤ Builtin.bitAnd x y ∧ Builtin.bitAnd x y ≤ x % 2 ^ k ∧ x % 2 ^ k + y - Builtin.bitAnd x y < 2 ^ k
  | 0, x, y, h0, h1 => by
    have hy : y = 0 := by simp at h1; omega
    subst hy
    have e : Builtin.bitAnd x 0 = 0 := by
      have := kbt_mask x 0
      simpa using this
    rw [e]
    simp [Int.emod_one]
  | k + 1, x, y, h0, h1 => by
    have hp : (2 : Int) ^ (k + 1) = 2 * 2 ^ k := by rw [Int.pow_succ, Int.mul_comm]
    rw [hp] at h1 ⊢
    have ih := bitAnd_low k (x / 2) (y / 2) (by omega) (by omega)
    rw [kbt_halves x y]
    have hx : x % (2 * 2 ^ k) = 2 * (x / 2 % 2 ^ k) + x % 2 := by
      have hpos : (0 : Int) < 2 ^ k := kbt_pos k
      have h2 := (kbt_unique (a := x) (b := 2 * 2 ^ k) (q := x / 2 / 2 ^ k) (r := 2 * (x / 2 % 2 ^ k) + x % 2) (by omega) ?_ ?_ ?_).2
      · exact h2
      · have e1 := Int.emod_add_mul_ediv (x / 2) (2 ^ k)
        have e2 := Int.emod_add_mul_ediv x 2
        rw [Int.mul_assoc]
        omega
      · have := Int.emod_nonneg (x / 2) (Int.ne_of_gt hpos); omega
      · have := Int.emod_lt_of_pos (x / 2) hpos; omega
    rw [hx]
    generalize x / 2 % 2 ^ k = r at *
    generalize Builtin.bitAnd (x / 2) (y / 2) = c at *
    generalize (2 : Int) ^ k = M at *
    split <;> omega
theorem bitOr_and (x y : Int) : Builtin.bitOr x y = x + y - Builtin.bitAnd x y := by
  have h := bitXor_and x y
  unfold Builtin.bitXor at h
  omega
theorem fdv (a : Int) {b : Int} (hb : 0 ≤ b) : a.fdiv b = a / b := Int.fdiv_eq_ediv_of_nonneg a hb
theorem fmd (a : Int) {b : Int} (hb : 0 ≤ b) : a.fmod b = a % b := Int.fmod_eq_emod_of_nonneg a hb
theorem ty_or {w b : Int} (h0 : 0 ≤ b) (h1 : b < 4096) : (Builtin.bitOr w b).fdiv 4096 = w.fdiv 4096 := by
  have h := bitAnd_low 12 w b h0 (by simpa using h1)
  rw [bitOr_and, fdv _ (by decide), fdv _ (by decide)]
  simp only [Int.reducePow] at h
  omega
theorem ty_sub {w b : Int} (h0 : 0 ≤ b) (h1 : b < 4096) : (w - Builtin.bitAnd w b).fdiv 4096 = w.fdiv 4096 := by
  have h := bitAnd_low 12 w b h0 (by simpa using h1)
  rw [fdv _ (by decide), fdv _ (by decide)]
  simp only [Int.reducePow] at h
  omega
theorem ty_set {w b : Int} (h0 : 0 ≤ b) (h1 : b < 4096) : (w.fdiv 4096 * 4096 + b).fdiv 4096 = w.fdiv 4096 := by
  rw [fdv _ (by decide), fdv _ (by decide)]
  omega

def ty (i : Nat) : Int := if i % 2 = 0 then 8 else 4
def AftOk (vs : List Value) : Prop := vs.length = 4 ∧ ∀ (i : Nat) (v : Value), vs[i]? = some v → ∃ w t, v = .int w t ∧ w.fdiv 4096 = ty i
def ThOk (bs : List Value) : Prop := bs.length = 4 ∧ ∀ (i : Nat) (v : Value), bs[i]? = some v → ∃ b, v = .bool b
theorem AftOk.set {vs : List Value} (h : AftOk vs) {k : Nat} {w : Int} {t : Tok} (hw : w.fdiv 4096 = ty k) : AftOk (vs.set k (.int w t)) := by
  refine ⟨by rw [List.length_set]; exact h.1, fun i v e => ?_⟩
  rw [List.getElem?_set] at e
  split at e
  · rename_i hk
    subst hk
    split at e
    · cases e; exact ⟨w, t, rfl, hw⟩
    · cases e
  · exact h.2 i v e
theorem ThOk.set {bs : List Value} (h : ThOk bs) {k : Nat} {b : Bool} : ThOk (bs.set k (.bool b)) := by
  refine ⟨by rw [List.length_set]; exact h.1, fun i v e => ?_⟩
  rw [List.getElem?_set] at e
  split at e
  · split at e
    · cases e; exact ⟨b, rfl⟩
    · cases e
  · exact h.2 i v e
section
variable {prog : Program} {w : World} {A : Around} {E : Value → Shared → Prop} {s : Shared} {h₀ : Heap} {L D : Addr} {m : Str → Option Value} {news news' : List (Addr × Obj)} {vs : List Value} {n : Nat} {k : Int} {t : Tok} {v : Value}
theorem set_any {Q : Unit → Shared → Prop} (F : Fr h₀ L s.heap m) (N : News h₀ L s.heap news) (U : Upd D (listOf vs.toArray n) (listOf (vs.set k.toNat v).toArray n) news news') (h0 : 0 ≤ k) (h1 : k < vs.length) (hfit : k < 2 ^ 63)
    (h : ∀ h', Fr h₀ L h' m → News h₀ L h' news' → Q () { s with heap := h' }) :
    wpAny (model prog w) A (setItem (.ref D) (.int k t) v) Q E s := by
  obtain ⟨pre, post, rfl, rfl, a, b⟩ := U.split
  have z := N (D, listOf vs.toArray n) (List.mem_append.mpr (.inr (.head _)))
  have hs : vs.toArray.size = vs.length := List.size_toArray
  refine ki_setAt z.1 h0 hfit (by omega) (h _ (F.change (Heap.SameBut.update ..) z.2.1 z.2.2) (ki_turn _ N a b ?_ ?_))
  · show vs.toArray.setIfInBounds k.toNat v = (vs.set k.toNat v).toArray
    apply Array.toList_inj.mp
    simp
  · simp
end
end Mine
end PartL1

section PartC1
open PySem PySem.W PySem.Calls PyProof.Rows
namespace Mine
local macro_rules | `(tactic| k_steps) => `(tactic| repeat' (first | (k_unfold; (try dsimp only)) | (walk1 <;> (try dsimp only)) | fail "no step"))
local macro_rules | `(tactic| walk_at "binaryOp Mult int int") => `(tactic| (k_here; first | refine PyProof.Rows.mul_int ?_ (IntMulOk.of_left (by decide +kernel)) | refine PyProof.Rows.mul_int ?_ (IntMulOk.of_right (by decide +kernel))))
local macro_rules | `(tactic| walk_at "binaryOp Pow int int") => `(tactic| (k_here; refine pow_int_small (by decide) (by decide) (by decide) ?_))
theorem str_ret {x y : Str} {t : Tok} (h : y = x) : ∃ u, Value.str y t = Value.str x u := ⟨t, by rw [h]⟩
def tri (x d e : Int) (marks pre : Str) : Str :=
  pre ++ Txt.item (Str.ofString "-r") (((x.fdiv d).fmod 8).fdiv 4) ++ Txt.item (Str.ofString "-w") ((((x.fdiv d).fmod 8).fdiv 2).fmod 2) ++ Txt.item marks ((x.fdiv e).fmod 2 * 2 + ((x.fdiv d).fmod 8).fmod 2)
def sg (x : Int) : Str :=
  tri x (8 ^ Int.toNat 0) (512 * 2 ^ Int.toNat 0) (Str.ofString "-xTt") (tri x (8 ^ Int.toNat 1) (512 * 2 ^ Int.toNat 1) (Str.ofString "-xSs") (tri x (8 ^ Int.toNat 2) (512 * 2 ^ Int.toNat 2) (Str.ofString "-xSs") (if x.fdiv 4096 = 4 then Str.ofString "d" else Str.ofString "-")))
set_option maxRecDepth 100000 in
set_option maxHeartbeats 4000000 in
theorem signs_run (w : World) (mean mg mb) (x : Int) (t : Tok) : Run w mean mg mb 1 108 [.int x t] [] (fun _ => True) (fun v _ => ∃ t, v = .str (sg x) t) := by
  w_top off
  refine fillup ?_; k_fill; intro _ _
  k_dflt (refine' run_of ?k6 ?k7 ?k9 ?kB ?c2 ?c3 ?c4 ?c5 ?_; (case k6 => k_is); (case k7 => k_is); (case k9 => intro s; exact BindsTo.of_eq rfl); (case c5 => decide); (case kB => exact locs rfl); (case c2 => exact rfl); (case c3 => exact rfl); (case c4 => exact rfl); k_whole)
  intro dp un gd cn cs L a ccd cl outer base g L' s₁ E B' F' X' N' T' hdp hun hpre
  (try dsimp only)
  (try k_fold)
  k_steps
  all_goals (refine Done.intro (by k_asm) (by k_asm) (str_ret ?_); dsimp only [sg, tri]; first | rw [if_pos (by assumption)] | rw [if_neg (by assumption)])
end Mine
end PartC1

section PartC2
open PySem PySem.W PySem.Calls PyProof.Rows
namespace Mine
local macro_rules | `(tactic| k_steps) => `(tactic| repeat' (first | (k_unfold; (try dsimp only)) | (walk1 <;> (try dsimp only)) | fail "no step"))
local macro_rules | `(tactic| walk_at "binaryOp Mult int int") => `(tactic| (k_here; first | refine PyProof.Rows.mul_int ?_ (IntMulOk.of_left (by decide +kernel)) | refine PyProof.Rows.mul_int ?_ (IntMulOk.of_right (by decide +kernel))))
local macro_rules | `(tactic| walk_at "binaryOp Pow int int") => `(tactic| (k_here; refine pow_int_small (by decide) (by decide) (by decide) ?_))
abbrev Pr := Addr × Int × Tok × Nat × Tok
def prv (p : Pr) : Addr × Value × Value := (p.1, .int p.2.1 p.2.2.1, .str ⟨#[p.2.2.2.1]⟩ p.2.2.2.2)
def tabs : List (Addr × List Pr) :=
  [(64, [(57, 40960, 266, 108, 294), (58, 49152, 268, 115, 295), (59, 32768, 262, 45, 296), (60, 24576, 260, 98, 297), (61, 16384, 256, 100, 298), (62, 8192, 258, 99, 299), (63, 4096, 264, 112, 300)]),
  (66, [(65, 256, 276, 114, 301)]),
  (68, [(67, 128, 278, 119, 302)]),
  (72, [(69, 2112, 303, 115, 304), (70, 2048, 270, 83, 305), (71, 64, 280, 120, 306)]),
  (74, [(73, 32, 282, 114, 307)]),
  (76, [(75, 16, 284, 119, 308)]),
  (80, [(77, 1032, 309, 115, 310), (78, 1024, 272, 83, 311), (79, 8, 286, 120, 312)]),
  (82, [(81, 4, 288, 114, 313)]),
  (84, [(83, 2, 290, 119, 314)]),
  (88, [(85, 513, 315, 116, 316), (86, 512, 274, 84, 317), (87, 1, 292, 120, 318)])]
def pick (f : Int → Bool) (d : Str) : List Pr → Str
  | [] => d
  | p :: r => if f p.2.1 = true then ⟨#[p.2.2.2.1]⟩ else pick f d r
def fmAt (x : Int) : Nat → List Pr → Str
  | 0, t => pick (fun b => decide (Builtin.bitAnd x 61440 = b)) (Str.ofString "?") t
  | _ + 1, t => pick (fun b => decide (Builtin.bitAnd x b = b)) (Str.ofString "-") t
def fmC (x : Int) : List Str := tabs.zipIdx.map fun p => fmAt x p.2 p.1.2

theorem tab_in {w : World} {g : Heap} (X : (Mine.hd.heap_39 w.params).In g) : g.IsTuple 89 (tabs.map fun p => Value.ref p.1).toArray := ⟨_, X 89 _ (by with_unfolding_all rfl), rfl, 0, by with_unfolding_all rfl⟩
set_option maxRecDepth 100000 in
theorem tabs_in {w : World} {g : Heap} (X : (Mine.hd.heap_39 w.params).In g) : ∀ p ∈ tabs, g.IsTuple p.1 (p.2.map fun q => Value.ref (prv q).1).toArray ∧ ∀ q ∈ p.2, g.IsTuple (prv q).1 #[(prv q).2.1, (prv q).2.2] := by
  unfold tabs
  repeat' (first | exact List.forall_mem_nil _ | refine List.forall_mem_cons.mpr ⟨?_, ?_⟩ | (with_reducible refine And.intro ?_ ?_) | exact ⟨_, X _ _ (by with_unfolding_all rfl), rfl, 0, by with_unfolding_all rfl⟩)
theorem two {m : Str → Option Value} {a b : Str} {va vb : Value} (ha : m a = some va) (hb : m b = some vb) : ∃ u : Str → Option Value, m = fun y => if y = a then some va else if y = b then some vb else u y :=
  ⟨m, funext fun y => by
    by_cases h1 : y = a
    · subst h1; rw [if_pos rfl, ha]
    · rw [if_neg h1]
      by_cases h2 : y = b
      · subst h2; rw [if_pos rfl, hb]
      · rw [if_neg h2]⟩
theorem three {m : Str → Option Value} {a b c : Str} {va vb vc : Value} (ha : m a = some va) (hb : m b = some vb) (hc : m c = some vc) : ∃ u : Str → Option Value, m = fun y => if y = a then some va else if y = b then some vb else if y = c then some vc else u y :=
  ⟨m, funext fun y => by
    by_cases h1 : y = a
    · subst h1; rw [if_pos rfl, ha]
    · rw [if_neg h1]
      by_cases h2 : y = b
      · subst h2; rw [if_pos rfl, hb]
      · rw [if_neg h2]
        by_cases h3 : y = c
        · subst h3; rw [if_pos rfl, hc]
        · rw [if_neg h3]⟩
theorem fmC_at {x : Int} {i : Nat} {ta : Addr} {prs : List Pr} (h : tabs[i]? = some (ta, prs)) : (fmC x)[i]? = some (fmAt x i prs) := by
  unfold fmC
  rw [List.getElem?_map, List.getElem?_zipIdx, h]
  simp
theorem fm_next {x : Int} {i : Nat} {ta : Addr} {prs : List Pr} {its : Array Value} {c : Str} {t : Tok} (hS : StrsAre its.toList ((fmC x).take i)) (h : tabs[i]? = some (ta, prs)) (hc : fmAt x i prs = c) :
    StrsAre (its.push (.str c t)).toList ((fmC x).take (i + 1)) := by
  rw [Array.toList_push, List.take_add_one, fmC_at h, hc]
  exact hS.append' (.cons _ _ .nil)
theorem fm_step {g h' : Heap} {L l' : Addr} {own led : List (Addr × Obj)} {o o' : Obj} {Jn : (Str → Option Value) → List (Addr × Obj) → Prop} {s₁ : Shared} {tk : Nat} {m' : Str → Option Value} {Qr : Value → Shared → Prop} {Qb : Shared → Prop}
    (F : Fr g L h' m') (N : News g L h' led) (h1 : (l', o') ∈ led) (h2 : ∀ p ∈ own, p ∈ led) (J : Jn m' [(l', o')]) :
    LoopStep3 g L own [(l', o)] Jn s₁ Qr Qb .next { s₁ with heap := h', toks := tk } :=
  ⟨rfl, h', tk, m', [(l', o')], rfl, F, fun p hp => N p ((List.mem_append.mp hp).elim (h2 p) fun q => by rw [List.mem_singleton.mp q]; exact h1), rfl, J⟩
theorem turn_to {g h' : Heap} {L I : Addr} {it : Obj} {news' : List (Addr × Obj)} {J : (Str → Option Value) → List (Addr × Obj) → Prop} {s : Shared} {tk' : Nat} {m' : Str → Option Value} {Q : Flow → Shared → Prop}
    (F : Fr g L h' m') (N : News g L h' ((I, it) :: news')) (ho : ∀ p ∈ news', p.1 ≠ I) (hj : J m' news') : Turn g L s I it J Q .next { s with heap := h', toks := tk' } := ⟨h', tk', m', news', rfl, F, N, ho, hj⟩
theorem fm0_yes {x b : Int} {p0 : Addr} {tb tc : Tok} {c : Nat} {r : List Pr} (h : Builtin.bitAnd x 61440 = b) : fmAt x 0 ((p0, b, tb, c, tc) :: r) = ⟨#[c]⟩ := if_pos (decide_eq_true h)
theorem fm0_no {x b : Int} {p0 : Addr} {tb tc : Tok} {c : Nat} {r : List Pr} (h : Builtin.bitAnd x 61440 ≠ b) : fmAt x 0 ((p0, b, tb, c, tc) :: r) = fmAt x 0 r := if_neg (fun e => h (of_decide_eq_true e))
theorem fm1_yes {x b : Int} {i : Nat} {p0 : Addr} {tb tc : Tok} {c : Nat} {r : List Pr} (h : Builtin.bitAnd x b = b) : fmAt x (i + 1) ((p0, b, tb, c, tc) :: r) = ⟨#[c]⟩ := if_pos (decide_eq_true h)
theorem fm1_no {x b : Int} {i : Nat} {p0 : Addr} {tb tc : Tok} {c : Nat} {r : List Pr} (h : Builtin.bitAnd x b ≠ b) : fmAt x (i + 1) ((p0, b, tb, c, tc) :: r) = fmAt x (i + 1) r := if_neg (fun e => h (of_decide_eq_true e))
theorem pick_yes {f : Int → Bool} {d : Str} {p : Pr} {r : List Pr} (h : f p.2.1 = true) : pick f d (p :: r) = ⟨#[p.2.2.2.1]⟩ := if_pos h
theorem pick_no {f : Int → Bool} {d : Str} {p : Pr} {r : List Pr} (h : f p.2.1 = false) : pick f d (p :: r) = pick f d r := if_neg (by rw [h]; decide)
theorem pick_len {f : Int → Bool} {d : Str} (hd : d.length = 1) : ∀ l : List Pr, (pick f d l).length = 1
  | [] => hd
  | p :: r => by
    unfold pick
    split
    · rfl
    · exact pick_len hd r
theorem fmAt_len (x : Int) (i : Nat) (t : List Pr) : (fmAt x i t).length = 1 := by
  cases i
  · exact pick_len (by decide) t
  · exact pick_len (by decide) t
theorem fmC_len (x : Int) : ((fmC x).map (·.length)).sum + (fmC x).length * (Str.ofString "").length ≤ 16777216 := by
  have e : (fmC x).map (·.length) = List.replicate 10 1 := by
    refine List.eq_replicate_iff.mpr ⟨by rfl, fun b hb => ?_⟩
    obtain ⟨c, hc, rfl⟩ := List.mem_map.mp hb
    obtain ⟨p, _, rfl⟩ := List.mem_map.mp hc
    exact fmAt_len _ _ _
  rw [e, show (fmC x).length = 10 from rfl]; decide
def fmS (x : Int) : Str := Txt.join (Str.ofString "") (fmC x)
set_option maxRecDepth 100000 in
set_option maxHeartbeats 4000000 in
theorem ifmt_run (w : World) (mean mg mb) (x : Int) (t : Tok) : Run w mean mg mb 1 56 [.int x t] [] (fun _ => True) (fun v _ => ∃ t, v = .int (Builtin.bitAnd x 61440) t) := by
  w_top off
  refine fillup ?_; k_fill; intro _ _
  k_dflt (refine' run_of ?k6 ?k7 ?k9 ?kB ?c2 ?c3 ?c4 ?c5 ?_; (case k6 => k_is); (case k7 => k_is); (case k9 => intro s; exact BindsTo.of_eq rfl); (case c5 => decide); (case kB => exact locs rfl); (case c2 => exact rfl); (case c3 => exact rfl); (case c4 => exact rfl); k_whole)
  intro dp un gd cn cs L a ccd cl outer base g L' s₁ E B' F' X' N' T' hdp hun hpre
  (try dsimp only)
  (try k_fold)
  k_steps
  exact Done.intro (by k_asm) (by k_asm) ⟨_, rfl⟩
local macro_rules | `(tactic| walk_at "call ref") => `(tactic| (k_here; (with_reducible show wpAny _ _ (call (Value.ref 56) [Value.int _ _]) _ _ _); k_dflt (refine' run_pure (ifmt_run _ _ _ _ _ _) ?k1 ?k2 ?k3 ?k4 ?k5 ?k6 ?k7 ?k8 trivial ?_; (case k1 => k_asm); (case k2 => k_asm); (case k3 => k_asm); (case k4 => k_asm); (case k5 => k_asm); (case k6 => exact rfl); (case k7 => ktr_room); (case k8 => ktr_units); k_whole); intro v9 h9 tk9 hP9 F9 N9; obtain ⟨t9, e9⟩ := hP9; subst e9; (try dsimp only); (try k_sweep)))
local macro_rules | `(tactic| k_all) => `(tactic| assumption)
set_option maxRecDepth 100000 in
set_option maxHeartbeats 4000000 in
theorem fm_run (w : World) (mean mg mb) (x : Int) (t : Tok) : Run w mean mg mb 2 96 [.int x t] [] (fun _ => True) (fun v _ => ∃ t, v = .str (fmS x) t) := by
  w_top off
  refine fillup ?_; k_fill; intro _ _
  k_dflt (refine' run_of ?k6 ?k7 ?k9 ?kB ?c2 ?c3 ?c4 ?c5 ?_; (case k6 => k_is); (case k7 => k_is); (case k9 => intro s; exact BindsTo.of_eq rfl); (case c5 => decide); (case kB => exact locs rfl); (case c2 => exact rfl); (case c3 => exact rfl); (case c4 => exact rfl); k_whole)
  intro dp un gd cn cs L a ccd cl outer base g L' s₁ E B' F' X' N' T' hdp hun hpre
  (try dsimp only)
  (try k_fold)
  refine wpAny_noRaise ?_
  k_steps
  rename Fr _ _ _ _ => F1
  rename News _ _ _ _ => N1
  rename_i l' h1 hT h2
  refine call_enum_tup rfl (vs := tabs.map fun p => Value.ref p.1) (tab_in X') F1 N1 ?_
  intro h3 e3 F3 N3 S3
  refine S3.at _ rfl _ _ _ _ (fun i m₁ news₁ => (∃ its n, news₁ = [(l', listOf its n)] ∧ StrsAre its.toList ((fmC x).take i)) ∧ m₁ (Str.ofString "mode") = some (.int x t) ∧ m₁ (Str.ofString "perm") = some (.ref l')) ?h0 ?step ?done
  case h0 => exact ⟨⟨_, _, rfl, .nil⟩, rfl, rfl⟩
  case done =>
    rintro h4 tk4 m₁ news₁ F4 N4 - ⟨⟨its, n, rfl, hS⟩, hm1, hm2⟩
    obtain ⟨u, rfl⟩ := two hm2 hm1
    dsimp only at F4 N4 ⊢
    have hlen : (tabs.map fun p => Value.ref p.1).length = 10 := rfl
    rw [hlen, show (fmC x).take 10 = fmC x from rfl] at hS
    have hsz : its.size ≤ sizeLine := by
      have h1 := hS.length
      rw [sizeLine_eq, ← Array.length_toList, h1]
      show (fmC x).length ≤ _
      rw [show (fmC x).length = 10 from rfl]; decide
    clear hm1 hm2 N3 S3 F3 N1 F1
    k_steps
    refine join_list ⟨_, (N4 _ (.head _)).1, rfl, _, rfl⟩ hS (fmC_len x) fun t' k => ?_
    exact Done.intro F4 N4 ⟨_, rfl⟩
  case step =>
    rintro i tv ti v m₁ news₁ s₂ own ⟨h4, tk4, rfl⟩ hi hv ⟨⟨its, n, rfl, hS⟩, hm1, hm2⟩ - hoff F4 N4
    dsimp only at F4 N4 ⊢
    obtain ⟨⟨ta, prs⟩, htab, rfl⟩ : ∃ q, tabs[i]? = some q ∧ Value.ref q.1 = tv := by simpa [List.getElem?_map] using hi
    have hv' : v = Value.ref ta := hv
    subst hv'
    obtain ⟨u, rfl⟩ := two hm2 hm1
    have N5 : News g L' h4 ((l', listOf its n) :: own) := fun p hp => N4 p (by
      rcases List.mem_cons.mp hp with rfl | hp
      · exact List.mem_append_right _ (.head _)
      · exact List.mem_append_left _ hp)
    have hown : ∀ p ∈ own, p.1 ≠ l' := fun p hp => hoff p hp _ (.head _)
    have hil : i < 10 := by
      have := (List.getElem?_eq_some_iff.mp htab).1
      simpa [tabs] using this
    have hsz : its.size ≤ sizeLine := by
      have h1 := hS.length
      rw [List.length_take] at h1
      rw [sizeLine_eq, ← Array.length_toList]; omega
    have htin := tabs_in X' _ (List.mem_of_getElem? htab)
    clear N4 hoff hi hv hm1 hm2 N3 S3 F3 N1 F1
    walk1
    refine for_pairs (g := g) (ps := prs.map prv) (ta := ta) rfl rfl rfl rfl (fun Q' hq => ld F4 rfl hq) (by rw [List.map_map]; exact htin.1) (fun q hq => by obtain ⟨r, hr, rfl⟩ := List.mem_map.mp hq; exact htin.2 r hr) F4 N5
      (fun k m₂ news₂ => news₂ = (l', listOf its n) :: own ∧ (m₂ (Str.ofString "perm") = some (.ref l') ∧ m₂ (Str.ofString "mode") = some (.int x t)) ∧ m₂ (Str.ofString "index") = some (.int i ti) ∧ fmAt x i prs = fmAt x i (prs.drop k)) ⟨rfl, ⟨rfl, rfl⟩, rfl, rfl⟩ ?_ ?_
    · rintro k pa v0 v1 m₂ news₂ h5 tk5 I it hk ⟨rfl, ⟨hm1, hm2⟩, hm3, hpk⟩ hI F5 N5
      obtain ⟨p, hp, hpe⟩ : ∃ p, prs[k]? = some p ∧ prv p = (pa, v0, v1) := by simpa [List.getElem?_map] using hk
      obtain ⟨p0, b, tb, c, tc⟩ := p
      cases hpe
      obtain ⟨u2, rfl⟩ := three hm1 hm2 hm3
      have hdr : prs.drop k = (p0, b, tb, c, tc) :: prs.drop (k + 1) := by
        obtain ⟨hk1, hk2⟩ := List.getElem?_eq_some_iff.mp hp
        rw [List.drop_eq_getElem_cons hk1, hk2]
      rw [hdr] at hpk
      have hlI : @Ne Nat l' I := hI _ (.head _)
      have hoI : ∀ p ∈ own, p.1 ≠ I := fun p hp => hI p (.tail _ hp)
      clear F4 hk hm1 hm2 hm3
      rcases i with _ | i
      · k_steps
        all_goals first
          | exact wpAny_execs_nil (fm_step (by k_asm) (by k_asm) (.tail _ (.head _)) (fun p hp => .tail _ (.tail _ hp)) ⟨⟨_, _, rfl, fm_next hS htab (hpk.trans (fm0_yes (by assumption)))⟩, rfl, rfl⟩)
          | exact turn_to (by k_asm) (by k_asm) hI ⟨rfl, ⟨rfl, rfl⟩, rfl, hpk.trans (fm0_no (by assumption))⟩
      · have hi0 : (((i + 1 : Nat) : Int) == 0) = false := by rw [beq_eq_false_iff_ne]; omega
        k_steps
        all_goals first
          | exact wpAny_execs_nil (fm_step (by k_asm) (by k_asm) (.tail _ (.head _)) (fun p hp => .tail _ (.tail _ hp)) ⟨⟨_, _, rfl, fm_next hS htab (hpk.trans (fm1_yes (by assumption)))⟩, rfl, rfl⟩)
          | exact turn_to (by k_asm) (by k_asm) hI ⟨rfl, ⟨rfl, rfl⟩, rfl, hpk.trans (fm1_no (by assumption))⟩
    · rintro m₂ news₂ h5 tk5 ⟨rfl, ⟨hm1, hm2⟩, hm3, hpk⟩ F5 N5
      obtain ⟨u2, rfl⟩ := three hm1 hm2 hm3
      rw [List.length_map, List.drop_length] at hpk
      clear F4 hm1 hm2 hm3
      rcases i with _ | i
      · k_steps
        exact fm_step (by k_asm) (by k_asm) (.head _) (fun p hp => .tail _ hp) ⟨⟨_, _, rfl, fm_next hS htab hpk⟩, rfl, rfl⟩
      · have hi0 : (((i + 1 : Nat) : Int) == 0) = false := by rw [beq_eq_false_iff_ne]; omega
        k_steps
        exact fm_step (by k_asm) (by k_asm) (.head _) (fun p hp => .tail _ hp) ⟨⟨_, _, rfl, fm_next hS htab hpk⟩, rfl, rfl⟩
end Mine
end PartC2

section PartC3
open PySem PySem.W PySem.Calls PyProof.Rows
namespace Mine
local macro_rules | `(tactic| k_steps) => `(tactic| repeat' (first | (k_unfold; (try dsimp only)) | (walk1 <;> (try dsimp only)) | fail "no step"))
local macro_rules | `(tactic| walk_at "binaryOp Mult int int") => `(tactic| (k_here; first | refine PyProof.Rows.mul_int ?_ (IntMulOk.of_left (by decide +kernel)) | refine PyProof.Rows.mul_int ?_ (IntMulOk.of_right (by decide +kernel))))
local macro_rules | `(tactic| walk_at "binaryOp Pow int int") => `(tactic| (k_here; refine pow_int_small (by decide) (by decide) (by decide) ?_))
local macro_rules | `(tactic| walk_at "none: the count of the lines tells the parts apart") => `(tactic| fail)
local macro_rules | `(tactic| walk_at "subscriptTail Name Name ref int") => `(tactic| (k_here; (with_reducible show wpAny _ _ (subscriptTail _ _ (Value.ref _) (Value.int _ _)) _ _ _); (with_unfolding_all refine' item_at ?a ?b ?c ?d ?_; (case a => is_list); (case b => decide); (case c => decide); (case d => rfl); k_whole)))
local macro_rules | `(tactic| k_room) => `(tactic| ktr_room)
set_option maxRecDepth 100000 in
set_option maxHeartbeats 4000000 in
theorem push0 (w : World) (mean mg mb) (l : Addr) (e : Nat)  (x : Str) (t : Tok) (hh : Hp []) : Run w mean mg mb 2 28 [.ref l, .str x t] [(l, listOf ([] : List Value).toArray e)] (fun _ => True) (PushPost l [] x) := by
  w_top off
  refine fillup ?_; k_fill; intro _ _
  k_dflt (refine' run_of ?k6 ?k7 ?k9 ?kB ?c2 ?c3 ?c4 ?c5 ?_; (case k6 => k_is); (case k7 => k_is); (case k9 => intro s; exact BindsTo.of_eq rfl); (case c5 => decide); (case kB => exact locs rfl); (case c2 => exact rfl); (case c3 => exact rfl); (case c4 => exact rfl); k_whole)
  intro dp un gd cn cs L a ccd cl outer base g L' s₁ E B' F' X' N' T' hdp hun hpre
  (try dsimp only)
  (try k_fold)
  refine wpAny_noRaise ?_
  k_steps
  all_goals dsimp only [Hp] at hh
  all_goals (try obtain ⟨hh1, hh2⟩ := hh)
  all_goals (refine' push_done ?F ?N ?S ?P ?H; (case F => k_asm); (case N => k_asm); (case S => (repeat (first | exact List.forall_mem_nil _ | refine List.forall_mem_cons.mpr ⟨⟨_, _, rfl⟩, ?_⟩))); (case P => (show List.Perm _ _; simp only [List.map_cons, List.map_nil, strOf]; rw [List.perm_iff_count]; intro q; simp only [List.count_cons, List.count_nil]; try omega)); (case H => (simp only [List.map_cons, List.map_nil, strOf]; dsimp only [Hp]; (repeat' (with_reducible refine And.intro ?_ ?_)); all_goals (first | exact True.intro | assumption | exact lt_as (by assumption) | exact nlt_tr (b := x) (by first | assumption | exact lt_as (by assumption)) (by first | assumption | exact lt_as (by assumption))))))
set_option maxRecDepth 100000 in
set_option maxHeartbeats 4000000 in
theorem push1 (w : World) (mean mg mb) (l : Addr) (e : Nat) (xa : Str) (txa : Tok) (x : Str) (t : Tok) (hh : Hp [xa]) : Run w mean mg mb 2 28 [.ref l, .str x t] [(l, listOf ([.str xa txa] : List Value).toArray e)] (fun _ => True) (PushPost l [xa] x) := by
  w_top off
  refine fillup ?_; k_fill; intro _ _
  k_dflt (refine' run_of ?k6 ?k7 ?k9 ?kB ?c2 ?c3 ?c4 ?c5 ?_; (case k6 => k_is); (case k7 => k_is); (case k9 => intro s; exact BindsTo.of_eq rfl); (case c5 => decide); (case kB => exact locs rfl); (case c2 => exact rfl); (case c3 => exact rfl); (case c4 => exact rfl); k_whole)
  intro dp un gd cn cs L a ccd cl outer base g L' s₁ E B' F' X' N' T' hdp hun hpre
  (try dsimp only)
  (try k_fold)
  refine wpAny_noRaise ?_
  k_steps
  all_goals dsimp only [Hp] at hh
  all_goals (try obtain ⟨hh1, hh2⟩ := hh)
  all_goals (refine' push_done ?F ?N ?S ?P ?H; (case F => k_asm); (case N => k_asm); (case S => (repeat (first | exact List.forall_mem_nil _ | refine List.forall_mem_cons.mpr ⟨⟨_, _, rfl⟩, ?_⟩))); (case P => (show List.Perm _ _; simp only [List.map_cons, List.map_nil, strOf]; rw [List.perm_iff_count]; intro q; simp only [List.count_cons, List.count_nil]; try omega)); (case H => (simp only [List.map_cons, List.map_nil, strOf]; dsimp only [Hp]; (repeat' (with_reducible refine And.intro ?_ ?_)); all_goals (first | exact True.intro | assumption | exact lt_as (by assumption) | exact nlt_tr (b := xa) (by first | assumption | exact lt_as (by assumption)) (by first | assumption | exact lt_as (by assumption)) | exact nlt_tr (b := x) (by first | assumption | exact lt_as (by assumption)) (by first | assumption | exact lt_as (by assumption))))))
set_option maxRecDepth 100000 in
set_option maxHeartbeats 4000000 in
theorem push2 (w : World) (mean mg mb) (l : Addr) (e : Nat) (xa : Str) (txa : Tok) (xb : Str) (txb : Tok) (x : Str) (t : Tok) (hh : Hp [xa, xb]) : Run w mean mg mb 2 28 [.ref l, .str x t] [(l, listOf ([.str xa txa, .str xb txb] : List Value).toArray e)] (fun _ => True) (PushPost l [xa, xb] x) := by
  w_top off
  refine fillup ?_; k_fill; intro _ _
  k_dflt (refine' run_of ?k6 ?k7 ?k9 ?kB ?c2 ?c3 ?c4 ?c5 ?_; (case k6 => k_is); (case k7 => k_is); (case k9 => intro s; exact BindsTo.of_eq rfl); (case c5 => decide); (case kB => exact locs rfl); (case c2 => exact rfl); (case c3 => exact rfl); (case c4 => exact rfl); k_whole)
  intro dp un gd cn cs L a ccd cl outer base g L' s₁ E B' F' X' N' T' hdp hun hpre
  (try dsimp only)
  (try k_fold)
  refine wpAny_noRaise ?_
  k_steps
  all_goals dsimp only [Hp] at hh
  all_goals (try obtain ⟨hh1, hh2⟩ := hh)
  all_goals (refine' push_done ?F ?N ?S ?P ?H; (case F => k_asm); (case N => k_asm); (case S => (repeat (first | exact List.forall_mem_nil _ | refine List.forall_mem_cons.mpr ⟨⟨_, _, rfl⟩, ?_⟩))); (case P => (show List.Perm _ _; simp only [List.map_cons, List.map_nil, strOf]; rw [List.perm_iff_count]; intro q; simp only [List.count_cons, List.count_nil]; try omega)); (case H => (simp only [List.map_cons, List.map_nil, strOf]; dsimp only [Hp]; (repeat' (with_reducible refine And.intro ?_ ?_)); all_goals (first | exact True.intro | assumption | exact lt_as (by assumption) | exact nlt_tr (b := xa) (by first | assumption | exact lt_as (by assumption)) (by first | assumption | exact lt_as (by assumption)) | exact nlt_tr (b := xb) (by first | assumption | exact lt_as (by assumption)) (by first | assumption | exact lt_as (by assumption)) | exact nlt_tr (b := x) (by first | assumption | exact lt_as (by assumption)) (by first | assumption | exact lt_as (by assumption))))))
set_option maxRecDepth 100000 in
set_option maxHeartbeats 4000000 in
theorem push3 (w : World) (mean mg mb) (l : Addr) (e : Nat) (xa : Str) (txa : Tok) (xb : Str) (txb : Tok) (xc : Str) (txc : Tok) (x : Str) (t : Tok) (hh : Hp [xa, xb, xc]) : Run w mean mg mb 2 28 [.ref l, .str x t] [(l, listOf ([.str xa txa, .str xb txb, .str xc txc] : List Value).toArray e)] (fun _ => True) (PushPost l [xa, xb, xc] x) := by
  w_top off
  refine fillup ?_; k_fill; intro _ _
  k_dflt (refine' run_of ?k6 ?k7 ?k9 ?kB ?c2 ?c3 ?c4 ?c5 ?_; (case k6 => k_is); (case k7 => k_is); (case k9 => intro s; exact BindsTo.of_eq rfl); (case c5 => decide); (case kB => exact locs rfl); (case c2 => exact rfl); (case c3 => exact rfl); (case c4 => exact rfl); k_whole)
  intro dp un gd cn cs L a ccd cl outer base g L' s₁ E B' F' X' N' T' hdp hun hpre
  (try dsimp only)
  (try k_fold)
  refine wpAny_noRaise ?_
  k_steps
  all_goals dsimp only [Hp] at hh
  all_goals (try obtain ⟨hh1, hh2⟩ := hh)
  all_goals (refine' push_done ?F ?N ?S ?P ?H; (case F => k_asm); (case N => k_asm); (case S => (repeat (first | exact List.forall_mem_nil _ | refine List.forall_mem_cons.mpr ⟨⟨_, _, rfl⟩, ?_⟩))); (case P => (show List.Perm _ _; simp only [List.map_cons, List.map_nil, strOf]; rw [List.perm_iff_count]; intro q; simp only [List.count_cons, List.count_nil]; try omega)); (case H => (simp only [List.map_cons, List.map_nil, strOf]; dsimp only [Hp]; (repeat' (with_reducible refine And.intro ?_ ?_)); all_goals (first | exact True.intro | assumption | exact lt_as (by assumption) | exact nlt_tr (b := xa) (by first | assumption | exact lt_as (by assumption)) (by first | assumption | exact lt_as (by assumption)) | exact nlt_tr (b := xb) (by first | assumption | exact lt_as (by assumption)) (by first | assumption | exact lt_as (by assumption)) | exact nlt_tr (b := xc) (by first | assumption | exact lt_as (by assumption)) (by first | assumption | exact lt_as (by assumption)) | exact nlt_tr (b := x) (by first | assumption | exact lt_as (by assumption)) (by first | assumption | exact lt_as (by assumption))))))
end Mine
end PartC3

section PartC4
open PySem PySem.W PySem.Calls PyProof.Rows
namespace Mine
local macro_rules | `(tactic| k_steps) => `(tactic| repeat' (first | (k_unfold; (try dsimp only)) | (walk1 <;> (try dsimp only)) | fail "no step"))
local macro_rules | `(tactic| walk_at "binaryOp Mult int int") => `(tactic| (k_here; first | refine PyProof.Rows.mul_int ?_ (IntMulOk.of_left (by decide +kernel)) | refine PyProof.Rows.mul_int ?_ (IntMulOk.of_right (by decide +kernel))))
local macro_rules | `(tactic| walk_at "binaryOp Pow int int") => `(tactic| (k_here; refine pow_int_small (by decide) (by decide) (by decide) ?_))
local macro_rules | `(tactic| walk_at "subscriptTail Name Name ref int") => `(tactic| (k_here; (with_reducible show wpAny _ _ (subscriptTail _ _ (Value.ref _) (Value.int _ _)) _ _ _); (with_unfolding_all refine' item_at ?a ?b ?c ?d ?_; (case a => is_list); (case b => decide); (case c => decide); (case d => rfl); k_whole)))
local macro_rules | `(tactic| k_room) => `(tactic| ktr_room)
set_option maxRecDepth 100000 in
set_option maxHeartbeats 4000000 in
theorem pop1 (w : World) (mean mg mb) (l : Addr) (e : Nat) (xa : Str) (txa : Tok) (hh : Hp [xa]) : Run w mean mg mb 3 35 [.ref l] [(l, listOf ([.str xa txa] : List Value).toArray e)] (fun _ => True) (PopPost l [xa]) := by
  w_top off
  refine fillup ?_; k_fill; intro _ _
  k_dflt (refine' run_of ?k6 ?k7 ?k9 ?kB ?c2 ?c3 ?c4 ?c5 ?_; (case k6 => k_is); (case k7 => k_is); (case k9 => intro s; exact BindsTo.of_eq rfl); (case c5 => decide); (case kB => exact locs rfl); (case c2 => exact rfl); (case c3 => exact rfl); (case c4 => exact rfl); k_whole)
  intro dp un gd cn cs L a ccd cl outer base g L' s₁ E B' F' X' N' T' hdp hun hpre
  (try dsimp only)
  (try k_fold)
  refine wpAny_noRaise ?_
  k_steps
  all_goals dsimp only [Hp] at hh
  all_goals (try obtain ⟨hh1, hh2⟩ := hh)
  all_goals (try obtain ⟨hh2, hh3⟩ := hh2)
  all_goals (refine' pop_done ?F ?N ?S ?P ?H ?M; (case F => k_asm); (case N => k_asm); (case S => (repeat (first | exact List.forall_mem_nil _ | refine List.forall_mem_cons.mpr ⟨⟨_, _, rfl⟩, ?_⟩))); (case P => (show List.Perm _ _; simp only [List.map_cons, List.map_nil, strOf]; rw [List.perm_iff_count]; intro q; simp only [List.count_cons, List.count_nil]; try omega)); (case H => (simp only [List.map_cons, List.map_nil, strOf]; dsimp only [Hp]; (repeat' (with_reducible refine And.intro ?_ ?_)); all_goals (first | exact True.intro | assumption | exact lt_as (by assumption) | exact nlt_tr (b := xa) (by first | assumption | exact lt_as (by assumption)) (by first | assumption | exact lt_as (by assumption))))); (case M => (simp only [List.map_cons, List.map_nil, strOf]; (repeat' (first | exact List.forall_mem_nil _ | refine List.forall_mem_cons.mpr ⟨?_, ?_⟩)); all_goals (first | exact True.intro | assumption | exact lt_as (by assumption) | exact nlt_tr (b := xa) (by first | assumption | exact lt_as (by assumption)) (by first | assumption | exact lt_as (by assumption))))))
set_option maxRecDepth 100000 in
set_option maxHeartbeats 4000000 in
theorem pop2 (w : World) (mean mg mb) (l : Addr) (e : Nat) (xa : Str) (txa : Tok) (xb : Str) (txb : Tok) (hh : Hp [xa, xb]) : Run w mean mg mb 3 35 [.ref l] [(l, listOf ([.str xa txa, .str xb txb] : List Value).toArray e)] (fun _ => True) (PopPost l [xa, xb]) := by
  w_top off
  refine fillup ?_; k_fill; intro _ _
  k_dflt (refine' run_of ?k6 ?k7 ?k9 ?kB ?c2 ?c3 ?c4 ?c5 ?_; (case k6 => k_is); (case k7 => k_is); (case k9 => intro s; exact BindsTo.of_eq rfl); (case c5 => decide); (case kB => exact locs rfl); (case c2 => exact rfl); (case c3 => exact rfl); (case c4 => exact rfl); k_whole)
  intro dp un gd cn cs L a ccd cl outer base g L' s₁ E B' F' X' N' T' hdp hun hpre
  (try dsimp only)
  (try k_fold)
  refine wpAny_noRaise ?_
  k_steps
  all_goals dsimp only [Hp] at hh
  all_goals (try obtain ⟨hh1, hh2⟩ := hh)
  all_goals (try obtain ⟨hh2, hh3⟩ := hh2)
  all_goals (refine' pop_done ?F ?N ?S ?P ?H ?M; (case F => k_asm); (case N => k_asm); (case S => (repeat (first | exact List.forall_mem_nil _ | refine List.forall_mem_cons.mpr ⟨⟨_, _, rfl⟩, ?_⟩))); (case P => (show List.Perm _ _; simp only [List.map_cons, List.map_nil, strOf]; rw [List.perm_iff_count]; intro q; simp only [List.count_cons, List.count_nil]; try omega)); (case H => (simp only [List.map_cons, List.map_nil, strOf]; dsimp only [Hp]; (repeat' (with_reducible refine And.intro ?_ ?_)); all_goals (first | exact True.intro | assumption | exact lt_as (by assumption) | exact nlt_tr (b := xa) (by first | assumption | exact lt_as (by assumption)) (by first | assumption | exact lt_as (by assumption)) | exact nlt_tr (b := xb) (by first | assumption | exact lt_as (by assumption)) (by first | assumption | exact lt_as (by assumption))))); (case M => (simp only [List.map_cons, List.map_nil, strOf]; (repeat' (first | exact List.forall_mem_nil _ | refine List.forall_mem_cons.mpr ⟨?_, ?_⟩)); all_goals (first | exact True.intro | assumption | exact lt_as (by assumption) | exact nlt_tr (b := xa) (by first | assumption | exact lt_as (by assumption)) (by first | assumption | exact lt_as (by assumption)) | exact nlt_tr (b := xb) (by first | assumption | exact lt_as (by assumption)) (by first | assumption | exact lt_as (by assumption))))))
set_option maxRecDepth 100000 in
set_option maxHeartbeats 4000000 in
theorem pop3 (w : World) (mean mg mb) (l : Addr) (e : Nat) (xa : Str) (txa : Tok) (xb : Str) (txb : Tok) (xc : Str) (txc : Tok) (hh : Hp [xa, xb, xc]) : Run w mean mg mb 3 35 [.ref l] [(l, listOf ([.str xa txa, .str xb txb, .str xc txc] : List Value).toArray e)] (fun _ => True) (PopPost l [xa, xb, xc]) := by
  w_top off
  refine fillup ?_; k_fill; intro _ _
  k_dflt (refine' run_of ?k6 ?k7 ?k9 ?kB ?c2 ?c3 ?c4 ?c5 ?_; (case k6 => k_is); (case k7 => k_is); (case k9 => intro s; exact BindsTo.of_eq rfl); (case c5 => decide); (case kB => exact locs rfl); (case c2 => exact rfl); (case c3 => exact rfl); (case c4 => exact rfl); k_whole)
  intro dp un gd cn cs L a ccd cl outer base g L' s₁ E B' F' X' N' T' hdp hun hpre
  (try dsimp only)
  (try k_fold)
  refine wpAny_noRaise ?_
  k_steps
  all_goals dsimp only [Hp] at hh
  all_goals (try obtain ⟨hh1, hh2⟩ := hh)
  all_goals (try obtain ⟨hh2, hh3⟩ := hh2)
  all_goals (refine' pop_done ?F ?N ?S ?P ?H ?M; (case F => k_asm); (case N => k_asm); (case S => (repeat (first | exact List.forall_mem_nil _ | refine List.forall_mem_cons.mpr ⟨⟨_, _, rfl⟩, ?_⟩))); (case P => (show List.Perm _ _; simp only [List.map_cons, List.map_nil, strOf]; rw [List.perm_iff_count]; intro q; simp only [List.count_cons, List.count_nil]; try omega)); (case H => (simp only [List.map_cons, List.map_nil, strOf]; dsimp only [Hp]; (repeat' (with_reducible refine And.intro ?_ ?_)); all_goals (first | exact True.intro | assumption | exact lt_as (by assumption) | exact nlt_tr (b := xa) (by first | assumption | exact lt_as (by assumption)) (by first | assumption | exact lt_as (by assumption)) | exact nlt_tr (b := xb) (by first | assumption | exact lt_as (by assumption)) (by first | assumption | exact lt_as (by assumption)) | exact nlt_tr (b := xc) (by first | assumption | exact lt_as (by assumption)) (by first | assumption | exact lt_as (by assumption))))); (case M => (simp only [List.map_cons, List.map_nil, strOf]; (repeat' (first | exact List.forall_mem_nil _ | refine List.forall_mem_cons.mpr ⟨?_, ?_⟩)); all_goals (first | exact True.intro | assumption | exact lt_as (by assumption) | exact nlt_tr (b := xa) (by first | assumption | exact lt_as (by assumption)) (by first | assumption | exact lt_as (by assumption)) | exact nlt_tr (b := xb) (by first | assumption | exact lt_as (by assumption)) (by first | assumption | exact lt_as (by assumption)) | exact nlt_tr (b := xc) (by first | assumption | exact lt_as (by assumption)) (by first | assumption | exact lt_as (by assumption))))))
set_option maxRecDepth 100000 in
set_option maxHeartbeats 4000000 in
theorem pop4 (w : World) (mean mg mb) (l : Addr) (e : Nat) (xa : Str) (txa : Tok) (xb : Str) (txb : Tok) (xc : Str) (txc : Tok) (xd : Str) (txd : Tok) (hh : Hp [xa, xb, xc, xd]) : Run w mean mg mb 3 35 [.ref l] [(l, listOf ([.str xa txa, .str xb txb, .str xc txc, .str xd txd] : List Value).toArray e)] (fun _ => True) (PopPost l [xa, xb, xc, xd]) := by
  w_top off
  refine fillup ?_; k_fill; intro _ _
  k_dflt (refine' run_of ?k6 ?k7 ?k9 ?kB ?c2 ?c3 ?c4 ?c5 ?_; (case k6 => k_is); (case k7 => k_is); (case k9 => intro s; exact BindsTo.of_eq rfl); (case c5 => decide); (case kB => exact locs rfl); (case c2 => exact rfl); (case c3 => exact rfl); (case c4 => exact rfl); k_whole)
  intro dp un gd cn cs L a ccd cl outer base g L' s₁ E B' F' X' N' T' hdp hun hpre
  (try dsimp only)
  (try k_fold)
  refine wpAny_noRaise ?_
  k_steps
  all_goals dsimp only [Hp] at hh
  all_goals (try obtain ⟨hh1, hh2⟩ := hh)
  all_goals (try obtain ⟨hh2, hh3⟩ := hh2)
  all_goals (refine' pop_done ?F ?N ?S ?P ?H ?M; (case F => k_asm); (case N => k_asm); (case S => (repeat (first | exact List.forall_mem_nil _ | refine List.forall_mem_cons.mpr ⟨⟨_, _, rfl⟩, ?_⟩))); (case P => (show List.Perm _ _; simp only [List.map_cons, List.map_nil, strOf]; rw [List.perm_iff_count]; intro q; simp only [List.count_cons, List.count_nil]; try omega)); (case H => (simp only [List.map_cons, List.map_nil, strOf]; dsimp only [Hp]; (repeat' (with_reducible refine And.intro ?_ ?_)); all_goals (first | exact True.intro | assumption | exact lt_as (by assumption) | exact nlt_tr (b := xa) (by first | assumption | exact lt_as (by assumption)) (by first | assumption | exact lt_as (by assumption)) | exact nlt_tr (b := xb) (by first | assumption | exact lt_as (by assumption)) (by first | assumption | exact lt_as (by assumption)) | exact nlt_tr (b := xc) (by first | assumption | exact lt_as (by assumption)) (by first | assumption | exact lt_as (by assumption)) | exact nlt_tr (b := xd) (by first | assumption | exact lt_as (by assumption)) (by first | assumption | exact lt_as (by assumption))))); (case M => (simp only [List.map_cons, List.map_nil, strOf]; (repeat' (first | exact List.forall_mem_nil _ | refine List.forall_mem_cons.mpr ⟨?_, ?_⟩)); all_goals (first | exact True.intro | assumption | exact lt_as (by assumption) | exact nlt_tr (b := xa) (by first | assumption | exact lt_as (by assumption)) (by first | assumption | exact lt_as (by assumption)) | exact nlt_tr (b := xb) (by first | assumption | exact lt_as (by assumption)) (by first | assumption | exact lt_as (by assumption)) | exact nlt_tr (b := xc) (by first | assumption | exact lt_as (by assumption)) (by first | assumption | exact lt_as (by assumption)) | exact nlt_tr (b := xd) (by first | assumption | exact lt_as (by assumption)) (by first | assumption | exact lt_as (by assumption))))))
end Mine
end PartC4

section PartPP131
open PySem PySem.W PySem.Calls PyProof.Rows
namespace Mine
theorem push_run (w : World) (mean mg mb) (l : Addr) (e : Nat) (x : Str) (t : Tok) {vs : List Value} {ss : List Str} (hS : StrsAre vs ss) (hh : Hp ss) (hl : ss.length ≤ 3) :
    Run w mean mg mb 2 28 [.ref l, .str x t] [(l, listOf vs.toArray e)] (fun _ => True) (PushPost l ss x) := by
  cases hS with
  | nil => exact push0 w mean mg mb l e x t hh
  | cons a ta q1 => cases q1 with
    | nil => exact push1 w mean mg mb l e a ta x t hh
    | cons b tb h2 => cases h2 with
      | nil => exact push2 w mean mg mb l e a ta b tb x t hh
      | cons c tc h3 => cases h3 with
        | nil => exact push3 w mean mg mb l e a ta b tb c tc x t hh
        | cons d td h4 => simp at hl
theorem pop_run (w : World) (mean mg mb) (l : Addr) (e : Nat) {vs : List Value} {ss : List Str} (hS : StrsAre vs ss) (hh : Hp ss) (h1 : 1 ≤ ss.length) (hl : ss.length ≤ 4) :
    Run w mean mg mb 3 35 [.ref l] [(l, listOf vs.toArray e)] (fun _ => True) (PopPost l ss) := by
  cases hS with
  | nil => simp at h1
  | cons a ta q1 => cases q1 with
    | nil => exact pop1 w mean mg mb l e a ta hh
    | cons b tb h2 => cases h2 with
      | nil => exact pop2 w mean mg mb l e a ta b tb hh
      | cons c tc h3 => cases h3 with
        | nil => exact pop3 w mean mg mb l e a ta b tb c tc hh
        | cons d td h4 => cases h4 with
          | nil => exact pop4 w mean mg mb l e a ta b tb c tc d td hh
          | cons f tf h5 => simp at hl
end Mine
end PartPP131

section PartB1
open PySem PySem.W PySem.Calls PyProof.Rows
namespace Mine
theorem bit_even (x y : Int) : Builtin.bitAnd x (2 * y) = 2 * Builtin.bitAnd (x / 2) y := by
  rw [kbt_halves x (2 * y)]
  have h1 : 2 * y / 2 = y := by omega
  have h2 : ¬ (x % 2 = 1 ∧ 2 * y % 2 = 1) := by omega
  rw [h1, if_neg h2]; omega
theorem bit_odd (x y : Int) : Builtin.bitAnd x (2 * y + 1) = 2 * Builtin.bitAnd (x / 2) y + x % 2 := by
  rw [kbt_halves x (2 * y + 1)]
  have h1 : (2 * y + 1) / 2 = y := by omega
  rw [h1]
  split <;> omega
theorem bit_shift (x y : Int) : ∀ k : Nat, Builtin.bitAnd x (2 ^ k * y) = 2 ^ k * Builtin.bitAnd (x / 2 ^ k) y
  | 0 => by simp
  | k + 1 => by
    have e1 : (2 : Int) ^ (k + 1) = 2 * 2 ^ k := by rw [Int.pow_succ, Int.mul_comm]
    have e2 : x / (2 * 2 ^ k) = x / 2 / 2 ^ k := (Int.ediv_ediv_of_nonneg (by decide)).symm
    rw [e1, Int.mul_assoc, bit_even, bit_shift (x / 2) y k, e2, Int.mul_assoc]
theorem bit_one (x : Int) (k : Nat) : Builtin.bitAnd x (2 ^ k) = 2 ^ k ↔ x / 2 ^ k % 2 = 1 := by
  rw [kbt_bit]
  have hp := kbt_pos k
  have hr : x / 2 ^ k % 2 = 0 ∨ x / 2 ^ k % 2 = 1 := by omega
  rcases hr with h | h <;> rw [h]
  · constructor
    · intro q; rw [Int.zero_mul] at q; omega
    · intro q; omega
  · simp
/-- two bits that lie five apart -/
theorem bit_two5 (x : Int) (k : Nat) : Builtin.bitAnd x (2 ^ k * 33) = 2 ^ k * 33 ↔ (x / 2 ^ k % 2 = 1 ∧ x / 2 ^ k / 32 % 2 = 1) := by
  rw [bit_shift]
  generalize x / 2 ^ k = z
  have hp := kbt_pos k
  have e : Builtin.bitAnd z 33 = 2 * (z / 2 / 16 % 2 * 16) + z % 2 := by
    have h1 := bit_odd z 16
    have h2 := kbt_bit (z / 2) 4
    simp only [Int.reducePow, Int.reduceMul, Int.reduceAdd] at h1 h2
    rw [h1, h2]
  constructor
  · intro h
    have h3 : Builtin.bitAnd z 33 = 33 := Int.eq_of_mul_eq_mul_left (Int.ne_of_gt hp) h
    rw [e] at h3
    omega
  · intro h
    rw [e, show 2 * (z / 2 / 16 % 2 * 16) + z % 2 = 33 by omega]
theorem bit_two7 (x : Int) (k : Nat) : Builtin.bitAnd x (2 ^ k * 129) = 2 ^ k * 129 ↔ (x / 2 ^ k % 2 = 1 ∧ x / 2 ^ k / 128 % 2 = 1) := by
  rw [bit_shift]
  generalize x / 2 ^ k = z
  have hp := kbt_pos k
  have e : Builtin.bitAnd z 129 = 2 * (z / 2 / 64 % 2 * 64) + z % 2 := by
    have h1 := bit_odd z 64
    have h2 := kbt_bit (z / 2) 6
    simp only [Int.reducePow, Int.reduceMul, Int.reduceAdd] at h1 h2
    rw [h1, h2]
  constructor
  · intro h
    have h3 : Builtin.bitAnd z 129 = 129 := Int.eq_of_mul_eq_mul_left (Int.ne_of_gt hp) h
    rw [e] at h3
    omega
  · intro h
    rw [e, show 2 * (z / 2 / 64 % 2 * 64) + z % 2 = 129 by omega]
theorem bit_two9 (x : Int) (k : Nat) : Builtin.bitAnd x (2 ^ k * 513) = 2 ^ k * 513 ↔ (x / 2 ^ k % 2 = 1 ∧ x / 2 ^ k / 512 % 2 = 1) := by
  rw [bit_shift]
  generalize x / 2 ^ k = z
  have hp := kbt_pos k
  have e : Builtin.bitAnd z 513 = 2 * (z / 2 / 256 % 2 * 256) + z % 2 := by
    have h1 := bit_odd z 256
    have h2 := kbt_bit (z / 2) 8
    simp only [Int.reducePow, Int.reduceMul, Int.reduceAdd] at h1 h2
    rw [h1, h2]
  constructor
  · intro h
    have h3 : Builtin.bitAnd z 513 = 513 := Int.eq_of_mul_eq_mul_left (Int.ne_of_gt hp) h
    rw [e] at h3
    omega
  · intro h
    rw [e, show 2 * (z / 2 / 256 % 2 * 256) + z % 2 = 513 by omega]
theorem bit_type (x : Int) : Builtin.bitAnd x 61440 = 4096 * (x / 4096 % 16) := by
  have h := bit_shift x 15 12
  have h2 := kbt_mask (x / 4096) 4
  simp only [Int.reducePow, Int.reduceMul, Int.reduceSub] at h h2
  rw [h, h2]
theorem item_len (x : Str) (i : Int) : (Txt.item x i).length = 1 := rfl
theorem tri_len (x d e : Int) (m p : Str) : (tri x d e m p).length = p.length + 3 := by
  unfold tri
  rw [Str.length_append, Str.length_append, Str.length_append, item_len, item_len, item_len]
theorem sg_len (x : Int) : (sg x).length = 10 := by
  unfold sg
  rw [tri_len, tri_len, tri_len]
  split <;> rfl
theorem fmS_len (x : Int) : (fmS x).length = 10 := by
  unfold fmS
  rw [PySem.W.KT.join_ones]
  · rfl
  · intro c hc
    obtain ⟨p, _, rfl⟩ := List.mem_map.mp hc
    exact fmAt_len _ _ _
/-- one bit's sign -/
theorem sign1 (x b q : Int) (i : Nat) (a : Addr) (tb tc : Tok) (c : Nat) (m : Str) (h : Builtin.bitAnd x b = b ↔ q = 1) (hq : q = 0 ∨ q = 1) (h0 : Txt.item m 0 = Str.ofString "-") (h1 : Txt.item m 1 = ⟨#[c]⟩) :
    fmAt x (i + 1) [(a, b, tb, c, tc)] = Txt.item m q := by
  rcases hq with rfl | rfl
  · rw [fm1_no (fun e => absurd (h.mp e) (by decide)), h0]; rfl
  · rw [fm1_yes (h.mpr rfl), h1]
/-- the sign of an x bit with its mark -/
theorem sign3 (x b1 b2 b3 p q : Int) (i : Nat) (a1 a2 a3 : Addr) (t1 t2 t3 u1 u2 u3 : Tok) (c1 c2 c3 : Nat) (m : Str) (h1 : Builtin.bitAnd x b1 = b1 ↔ (p = 1 ∧ q = 1)) (h2 : Builtin.bitAnd x b2 = b2 ↔ q = 1) (h3 : Builtin.bitAnd x b3 = b3 ↔ p = 1)
    (hp : p = 0 ∨ p = 1) (hq : q = 0 ∨ q = 1) (k0 : Txt.item m 0 = Str.ofString "-") (k1 : Txt.item m 1 = ⟨#[c3]⟩) (k2 : Txt.item m 2 = ⟨#[c2]⟩) (k3 : Txt.item m 3 = ⟨#[c1]⟩) :
    fmAt x (i + 1) [(a1, b1, t1, c1, u1), (a2, b2, t2, c2, u2), (a3, b3, t3, c3, u3)] = Txt.item m (q * 2 + p) := by
  rcases hp with rfl | rfl <;> rcases hq with rfl | rfl
  · rw [fm1_no (fun e => absurd (h1.mp e).1 (by decide)), fm1_no (fun e => absurd (h2.mp e) (by decide)), fm1_no (fun e => absurd (h3.mp e) (by decide))]
    exact k0.symm
  · rw [fm1_no (fun e => absurd (h1.mp e).1 (by decide)), fm1_yes (h2.mpr rfl)]
    exact k2.symm
  · rw [fm1_no (fun e => absurd (h1.mp e).2 (by decide)), fm1_no (fun e => absurd (h2.mp e) (by decide)), fm1_yes (h3.mpr rfl)]
    exact k1.symm
  · rw [fm1_yes (h1.mpr ⟨rfl, rfl⟩)]
    exact k3.symm
theorem glue10 (a b c d e f g h i j : Str) : Txt.join (Str.ofString "") [a, b, c, d, e, f, g, h, i, j] = a ++ b ++ c ++ d ++ e ++ f ++ g ++ h ++ i ++ j := by
  apply Str.ext'
  show List.foldl (fun (acc : Array Nat) (p : Str) => acc ++ (Str.ofString "").cps ++ p.cps) a.cps [b, c, d, e, f, g, h, i, j] = _
  have z : (Str.ofString "").cps = #[] := by decide
  rw [z]
  simp only [List.foldl_cons, List.foldl_nil, Array.append_empty]
  rfl
theorem fm_type (x : Int) (h : x.fdiv 4096 = 8 ∨ x.fdiv 4096 = 4) (t : List Pr) (ht : t = [(57, 40960, 266, 108, 294), (58, 49152, 268, 115, 295), (59, 32768, 262, 45, 296), (60, 24576, 260, 98, 297), (61, 16384, 256, 100, 298), (62, 8192, 258, 99, 299), (63, 4096, 264, 112, 300)]) :
    fmAt x 0 t = if x.fdiv 4096 = 4 then Str.ofString "d" else Str.ofString "-" := by
  subst ht
  have hb := bit_type x
  rw [fdv x (by decide)] at h ⊢
  rcases h with h | h
  · have e : Builtin.bitAnd x 61440 = 32768 := by rw [hb]; omega
    rw [fm0_no (by rw [e]; decide), fm0_no (by rw [e]; decide), fm0_yes e, h, if_neg (by decide)]
    decide
  · have e : Builtin.bitAnd x 61440 = 16384 := by rw [hb]; omega
    rw [fm0_no (by rw [e]; decide), fm0_no (by rw [e]; decide), fm0_no (by rw [e]; decide), fm0_no (by rw [e]; decide), fm0_yes e, h, if_pos rfl]
    decide
theorem fm_sg (x : Int) (h : x.fdiv 4096 = 8 ∨ x.fdiv 4096 = 4) : fmS x = sg x := by
  have e0 := fm_type x h _ rfl
  have r2 := sign1 x 256 (x / 256 % 2) 0 65 276 301 114 (Str.ofString "-r") (by have := bit_one x 8; simpa using this) (by omega) (by decide) (by decide)
  have w2 := sign1 x 128 (x / 128 % 2) 1 67 278 302 119 (Str.ofString "-w") (by have := bit_one x 7; simpa using this) (by omega) (by decide) (by decide)
  have m2 := sign3 x 2112 2048 64 (x / 64 % 2) (x / 2048 % 2) 2 69 70 71 303 270 280 304 305 306 115 83 120 (Str.ofString "-xSs") (by have := bit_two5 x 6; simp only [Int.reducePow, Int.reduceMul] at this; rw [this]; omega) (by have := bit_one x 11; simpa using this) (by have := bit_one x 6; simpa using this) (by omega) (by omega) (by decide) (by decide) (by decide) (by decide)
  have r1 := sign1 x 32 (x / 32 % 2) 3 73 282 307 114 (Str.ofString "-r") (by have := bit_one x 5; simpa using this) (by omega) (by decide) (by decide)
  have w1 := sign1 x 16 (x / 16 % 2) 4 75 284 308 119 (Str.ofString "-w") (by have := bit_one x 4; simpa using this) (by omega) (by decide) (by decide)
  have m1 := sign3 x 1032 1024 8 (x / 8 % 2) (x / 1024 % 2) 5 77 78 79 309 272 286 310 311 312 115 83 120 (Str.ofString "-xSs") (by have := bit_two7 x 3; simp only [Int.reducePow, Int.reduceMul] at this; rw [this]; omega) (by have := bit_one x 10; simpa using this) (by have := bit_one x 3; simpa using this) (by omega) (by omega) (by decide) (by decide) (by decide) (by decide)
  have r0 := sign1 x 4 (x / 4 % 2) 6 81 288 313 114 (Str.ofString "-r") (by have := bit_one x 2; simpa using this) (by omega) (by decide) (by decide)
  have w0 := sign1 x 2 (x / 2 % 2) 7 83 290 314 119 (Str.ofString "-w") (by have := bit_one x 1; simpa using this) (by omega) (by decide) (by decide)
  have m0 := sign3 x 513 512 1 (x % 2) (x / 512 % 2) 8 85 86 87 315 274 292 316 317 318 116 84 120 (Str.ofString "-xTt") (by have := bit_two9 x 0; simp only [Int.reducePow, Int.reduceMul, Int.ediv_one] at this; exact this) (by have := bit_one x 9; simpa using this) (by have := bit_one x 0; simpa using this) (by omega) (by omega) (by decide) (by decide) (by decide) (by decide)
  unfold fmS
  show Txt.join (Str.ofString "") [fmAt x 0 _, fmAt x 1 _, fmAt x 2 _, fmAt x 3 _, fmAt x 4 _, fmAt x 5 _, fmAt x 6 _, fmAt x 7 _, fmAt x 8 _, fmAt x 9 _] = _
  rw [e0, r2, w2, m2, r1, w1, m1, r0, w0, m0, glue10]
  unfold sg tri
  have p0 : (8 : Int) ^ Int.toNat 0 = 1 := by decide
  have p1 : (8 : Int) ^ Int.toNat 1 = 8 := by decide
  have p2 : (8 : Int) ^ Int.toNat 2 = 64 := by decide
  have q0 : (512 : Int) * 2 ^ Int.toNat 0 = 512 := by decide
  have q1 : (512 : Int) * 2 ^ Int.toNat 1 = 1024 := by decide
  have q2 : (512 : Int) * 2 ^ Int.toNat 2 = 2048 := by decide
  rw [p0, p1, p2, q0, q1, q2]
  simp only [fdv _ (show (0 : Int) ≤ 1 by decide), fdv _ (show (0 : Int) ≤ 2 by decide), fdv _ (show (0 : Int) ≤ 4 by decide), fdv _ (show (0 : Int) ≤ 8 by decide), fdv _ (show (0 : Int) ≤ 64 by decide), fdv _ (show (0 : Int) ≤ 512 by decide), fdv _ (show (0 : Int) ≤ 1024 by decide), fdv _ (show (0 : Int) ≤ 2048 by decide), fmd _ (show (0 : Int) ≤ 2 by decide), fmd _ (show (0 : Int) ≤ 8 by decide)]
  have a2 : x / 64 % 8 / 4 = x / 256 % 2 := by omega
  have b2 : x / 64 % 8 / 2 % 2 = x / 128 % 2 := by omega
  have c2 : x / 64 % 8 % 2 = x / 64 % 2 := by omega
  have a1 : x / 8 % 8 / 4 = x / 32 % 2 := by omega
  have b1 : x / 8 % 8 / 2 % 2 = x / 16 % 2 := by omega
  have c1 : x / 8 % 8 % 2 = x / 8 % 2 := by omega
  have a0 : x / 1 % 8 / 4 = x / 4 % 2 := by omega
  have b0 : x / 1 % 8 / 2 % 2 = x / 2 % 2 := by omega
  have c0 : x / 1 % 8 % 2 = x % 2 := by omega
  rw [a2, b2, c2, a1, b1, c1, a0, b0, c0]
end Mine
end PartB1

section PartC5
open PySem PySem.W PySem.Calls PyProof.Rows
namespace Mine
local macro_rules | `(tactic| k_steps) => `(tactic| repeat' (first | (k_unfold; (try dsimp only)) | (walk1 <;> (try dsimp only)) | fail "no step"))
local macro_rules | `(tactic| walk_at "binaryOp Mult int int") => `(tactic| (k_here; first | refine PyProof.Rows.mul_int ?_ (IntMulOk.of_left (by decide +kernel)) | refine PyProof.Rows.mul_int ?_ (IntMulOk.of_right (by decide +kernel))))
local macro_rules | `(tactic| walk_at "binaryOp Pow int int") => `(tactic| (k_here; refine pow_int_small (by decide) (by decide) (by decide) ?_))
def rowF (i : Nat) (x : Int) : Str := fmS x ++ Str.ofString " " ++ Txt.item (Str.ofString "abcd") (i : Int)
local macro_rules | `(tactic| walk_at "call ref") => `(tactic| (k_here; (with_reducible show wpAny _ _ (call (Value.ref 96) [Value.int _ _]) _ _ _); k_dflt (refine' run_pure (fm_run _ _ _ _ _ _) ?k1 ?k2 ?k3 ?k4 ?k5 ?k6 ?k7 ?k8 trivial ?_; (case k1 => k_asm); (case k2 => k_asm); (case k3 => k_asm); (case k4 => k_asm); (case k5 => k_asm); (case k6 => exact rfl); (case k7 => ktr_room); (case k8 => ktr_units); k_whole); intro v9 h9 tk9 hP9 F9 N9; obtain ⟨t9, e9⟩ := hP9; subst e9; (try dsimp only); (try k_sweep)))
local macro_rules | `(tactic| walk_at "subscriptTail") => `(tactic| (k_here; (with_reducible show wpAny _ _ (subscriptTail _ _ (Value.ref _) (Value.int _ _)) _ _ _); k_dflt (refine' item_at ?a ?b ?c ?d ?_; (case a => exact stays_list (Fr.keep (by k_asm)) (by assumption)); (case d => assumption); (case b => omega); (case c => omega); k_whole)))
def ListPost (rows : List Str) (v : Value) (more : List (Addr × Obj)) : Prop :=
  ∃ D ys yss, v = .ref D ∧ more = [(D, LCg.lst ys)] ∧ StrsAre ys yss ∧ yss.Perm rows ∧ yss.Pairwise (fun a b => ¬ lt b a)
set_option maxRecDepth 100000 in
set_option maxHeartbeats 4000000 in
theorem listing_run (w : World) (mean mg mb) (lm : Addr) (vals : List Value) (os : List (Option Int)) (hO : OptsAre vals os) (h4 : os.length = 4) : Run w mean mg mb 5 113 [.ref lm] [] (fun g => g.IsList lm vals.toArray) (ListPost (pres rowF os 4)) := by
  w_top off
  refine fillup ?_; k_fill; intro _ _
  k_dflt (refine' run_ofC ?k6 ?k7 ?k9 ?kB ?kD ?c2 ?c3 ?c4 ?_; (case k6 => k_is); (case k7 => k_is); (case k9 => intro s; exact BindsTo.of_eq rfl); (case kB => exact rfl); (case kD => decide +kernel); (case c2 => exact rfl); (case c3 => exact rfl); (case c4 => exact rfl); k_whole)
  intro dp un gd cn cs L a ccd cl outer base g L' cells s₁ E B' F' X' N' Y' T' hdp hun hpre
  (try dsimp only)
  (try k_fold)
  refine wpAny_noRaise ?_
  obtain ⟨oc, hE, hc1⟩ := CellsAre.one Y'
  subst hE
  iterate 15 (first | (k_unfold; (try dsimp only)) | (walk1 <;> (try dsimp only)))
  rename Fr _ _ _ _ => F1
  rename News _ _ _ _ => N1
  rename IsRange _ _ _ _ _ _ _ _ => R1
  rename_i l' hA hlt1 hB oc2 Fo No hd2 hC tkC tt1 tt2 tt3 hr9
  clear Fo No hr9
  refine iter_rangeJ (n := 4) (fun i m₁ news₁ => (∃ vs ss e, news₁ = [(l', listOf vs.toArray e), (L' + 1, oc2)] ∧ StrsAre vs ss ∧ Hp ss ∧ ss.Perm (pres rowF os i)) ∧ m₁ (Str.ofString "modes") = some (.ref lm)) rfl R1 (by decide) (by decide) F1 N1 ?h0 ?turn ?done
  case h0 => exact ⟨⟨[], [], 0, rfl, .nil, trivial, .nil⟩, rfl⟩
  case turn =>
    rintro I i t h tk m₁ news₁ hi ⟨⟨vs, ss, e, rfl, hS, hh, hp⟩, hm⟩ hoff F2 N2
    obtain ⟨o, ho⟩ : ∃ o, os[i]? = some o := ⟨os[i]'(by omega), by simp⟩
    obtain ⟨u, rfl⟩ : ∃ u : Str → Option Value, m₁ = fun y => if y = Str.ofString "modes" then some (.ref lm) else u y := ⟨m₁, funext fun y => by
      by_cases h1 : y = Str.ofString "modes"
      · subst h1; rw [if_pos rfl, hm]
      · rw [if_neg h1]⟩
    rw [Int.zero_add] at F2
    have hlI : @Ne Nat l' I := hoff _ (.head _)
    have hcI : @Ne Nat (L' + 1) I := hoff _ (.tail _ (.head _))
    have hoff' : ∀ {o : Obj}, ∀ p ∈ [(l', o), (L' + 1, oc2)], p.1 ≠ I := by
      intro o p hp
      rcases List.mem_cons.mp hp with rfl | hp
      · exact hlI
      · rw [List.mem_singleton.mp hp]; exact hcI
    have hlen : ss.length ≤ 3 := by rw [hp.length_eq]; exact Nat.le_trans (pres_len _ _ _) (by omega)
    clear F1 N1 R1 hm
    rcases hO.at i o ho with ⟨rfl, hv⟩ | ⟨x, tx, rfl, hv⟩
    · have hv' : vals[((i : Nat) : Int).toNat]? = some Value.none := hv
      k_steps
      exact turn_sub (by k_asm) (by k_asm) _ (fun p hp => hp) hoff ⟨⟨vs, ss, e, rfl, hS, hh, by rw [pres_none ho]; exact hp⟩, rfl⟩
    · have hv' : vals[((i : Nat) : Int).toNat]? = some (Value.int x tx) := hv
      have hfl := fmS_len x
      k_steps
      refine run_one (push_run w mean mg mb l' e _ _ hS hh hlen) B' (by k_asm) X' (by k_asm) [(I, itR (0 + ((i + 1 : Nat) : Int)) (((4 : Nat) : Int) - ((i + 1 : Nat) : Int))), (L' + 1, oc2)] (.tail _ (.head _)) ?_ ?_ T' rfl (by ktr_room) (by ktr_units) ?_
      · intro q hq
        rcases List.mem_cons.mp hq with rfl | hq
        · exact .head _
        · exact .tail _ (.tail _ hq)
      · intro q hq
        rcases List.mem_cons.mp hq with rfl | hq
        · exact fun e => hlI e.symm
        · rw [List.mem_singleton.mp hq]
          show @Ne Nat (L' + 1) l'
          omega
      · rintro v9 more9 h9 tk9 ⟨rfl, vs', ss', e', rfl, hS', hp', hh'⟩ F9 N9
        dsimp only [List.cons_append, List.nil_append] at N9
        dsimp only
        clear F2 N2
        k_steps
        refine turn_sub (by k_asm) N9 [(l', listOf vs'.toArray e'), (L' + 1, oc2)] ?_ hoff' ⟨⟨vs', ss', e', rfl, hS', hh', ?_⟩, rfl⟩
        · intro p hp
          simp only [List.mem_cons, List.not_mem_nil, or_false] at hp ⊢
          rcases hp with h | h | h
          · exact .inr (.inl h)
          · exact .inl h
          · exact .inr (.inr h)
        · rw [pres_some ho]
          exact hp'.trans ((List.Perm.cons _ hp).trans (List.perm_append_singleton _ _).symm)
  case done =>
    rintro m₁ news₁ h tk ⟨⟨vs, ss, e, rfl, hS, hh, hp⟩, hm⟩ F2 N2
    obtain ⟨u, rfl⟩ : ∃ u : Str → Option Value, m₁ = fun y => if y = Str.ofString "modes" then some (.ref lm) else u y := ⟨m₁, funext fun y => by
      by_cases h1 : y = Str.ofString "modes"
      · subst h1; rw [if_pos rfl, hm]
      · rw [if_neg h1]⟩
    have hlen : ss.length ≤ 4 := by rw [hp.length_eq]; exact pres_len _ _ _
    have hvl := hS.length
    have hsz : vs.toArray.size ≤ sizeLine := by rw [List.size_toArray, sizeLine_eq]; omega
    clear F1 N1 R1 hm
    iterate 16 (first | (k_unfold; (try dsimp only)) | (walk1 <;> (try dsimp only)))
    rename Fr _ _ _ _ => F3
    rename News _ _ _ _ => N3
    rename IsRange _ _ _ _ _ _ _ _ => R3
    refine LCg.CompSrc.range (n := ss.length) rfl F3 N3 R3 (small_one (by decide) (by decide) (by omega) (by omega)) (by rw [rangeSize_nat]; simp) (by rw [sizeLine_eq]; omega) fun g' => comp_rest (n := ss.length) (J := fun i ys news => ∃ vs' ss' e' yss, news = [(l', listOf vs'.toArray e'), (L' + 1, oc2)] ∧ StrsAre vs' ss' ∧ Hp ss' ∧ StrsAre ys yss ∧ (yss ++ ss').Perm ss ∧ yss.length = i ∧ yss.Pairwise (fun a b => ¬ lt b a) ∧ ∀ a ∈ yss, ∀ b ∈ ss', ¬ lt b a) ?step ?fin ss.length 0 [] _ (Nat.zero_add _) ⟨vs, ss, e, [], rfl, (by assumption), hh, .nil, .refl _, rfl, .nil, fun _ h => nomatch h⟩
    case fin =>
      rintro ys news ⟨vs', ss', e', yss, rfl, hS', hh', hY, hP', hl', hsrt, -⟩ D h5 tk5 F5 N5 -
      have hnil : ss' = [] := by
        have := hP'.length_eq
        rw [List.length_append] at this
        exact List.length_eq_zero_iff.mp (by omega)
      subst hnil
      rw [List.append_nil] at hP'
      exact Done.intro F5 (fun p hp => N5 p (by rw [List.mem_singleton.mp hp]; exact .head _)) ⟨D, ys, yss, rfl, rfl, hY, hP'.trans hp, hsrt⟩
    case step =>
      rintro i ys news v I oI C oC D m₂ h5 tk5 E' hi ⟨vs', ss', e', yss, rfl, hS', hh', hY, hP', hl', hsrt, hle⟩ hv hN hx F5 N5 hoff hne
      have hlen' : (yss ++ ss').length = ss.length := hP'.length_eq
      rw [List.length_append] at hlen'
      obtain ⟨⟨⟨o1, o2, o3⟩, ⟨o4, o5, o6⟩, -⟩⟩ : LCg.Off3 I C D [(l', listOf vs'.toArray e'), (L' + 1, oc2)] ∧ True := ⟨hoff, trivial⟩
      clear F3 N3 R3
      k_steps
      refine run_one (pop_run w mean mg mb l' e' hS' hh' (by omega) (by omega)) B' (by k_asm) X' (by k_asm) [(I, oI), (C, oC), (D, LCg.lst ys), (L' + 1, oc2)] (.tail _ (.tail _ (.tail _ (.head _)))) ?_ ?_ T' rfl (by ktr_room) (by ktr_units) ?_
      · intro q hq
        simp only [List.mem_cons, List.not_mem_nil, or_false] at hq ⊢
        rcases hq with h | h | h | h
        · exact .inl h
        · exact .inr (.inl h)
        · exact .inr (.inr (.inl h))
        · exact .inr (.inr (.inr (.inr h)))
      · intro q hq
        simp only [List.mem_cons, List.not_mem_nil, or_false] at hq
        rcases hq with rfl | rfl | rfl | rfl
        · exact fun e => o1 e.symm
        · exact fun e => o2 e.symm
        · exact fun e => o3 e.symm
        · show @Ne Nat (L' + 1) l'
          omega
      · rintro v9 more9 h9 tk9 ⟨x9, t9, vs9, ss9, e9, rfl, rfl, hS9, hP9, hh9, hmin⟩ F9 N9
        refine item_to F9 N9 [(l', listOf vs9.toArray e9), (L' + 1, oc2)] ?_ ⟨⟨o1, o2, o3⟩, ⟨o4, o5, o6⟩, trivial⟩ trivial ⟨vs9, ss9, e9, yss ++ [x9], rfl, hS9, hh9, hY.append' (.cons _ _ .nil), ?_, ?_, ?_, ?_⟩
        · intro p hp
          simp only [List.mem_cons, List.not_mem_nil, or_false, List.cons_append, List.nil_append] at hp ⊢
          rcases hp with h | h | h | h | h
          · exact .inr (.inl h)
          · exact .inr (.inr (.inl h))
          · exact .inr (.inr (.inr (.inl h)))
          · exact .inl h
          · exact .inr (.inr (.inr (.inr h)))
        · rw [List.append_assoc]
          exact (List.Perm.append_left yss hP9).trans hP'
        · rw [List.length_append, hl']; rfl
        · rw [List.pairwise_append]
          refine ⟨hsrt, List.pairwise_singleton _ _, fun a ha b hb => ?_⟩
          rw [List.mem_singleton.mp hb]
          exact hle a ha x9 (hP9.mem_iff.mp (.head _))
        · intro a ha b hb
          rcases List.mem_append.mp ha with ha | ha
          · exact hle a ha b (hP9.mem_iff.mp (.tail _ hb))
          · rw [List.mem_singleton.mp ha]; exact hmin b hb
end Mine
end PartC5

section PartC6
open PySem PySem.W PySem.Calls PyProof.Rows
namespace Mine
local macro_rules | `(tactic| k_steps) => `(tactic| repeat' (first | (k_unfold; (try dsimp only)) | (walk1 <;> (try dsimp only)) | fail "no step"))
local macro_rules | `(tactic| walk_at "binaryOp Mult int int") => `(tactic| (k_here; first | refine PyProof.Rows.mul_int ?_ (IntMulOk.of_left (by decide +kernel)) | refine PyProof.Rows.mul_int ?_ (IntMulOk.of_right (by decide +kernel))))
local macro_rules | `(tactic| walk_at "binaryOp Pow int int") => `(tactic| (k_here; refine pow_int_small (by decide) (by decide) (by decide) ?_))
local macro_rules | `(tactic| walk_at "none: the count of the lines tells the parts apart") => `(tactic| fail)
def rowG (i : Nat) (x : Int) : Str := sg x ++ Str.ofString " " ++ Txt.item (Str.ofString "abcd") (i : Int)
def rowsS (os : List (Option Int)) : List Str := os.mapIdx fun i o => match o with | none => Str.ofString "" | some x => rowG i x
theorem rowsS_none {os : List (Option Int)} {i : Nat} (h : os[i]? = some none) : (rowsS os).take (i + 1) = (rowsS os).take i ++ [Str.ofString ""] := by
  unfold rowsS
  rw [List.take_add_one, List.getElem?_mapIdx, h]
  rfl
theorem rowsS_some {os : List (Option Int)} {i : Nat} {x : Int} (h : os[i]? = some (some x)) : (rowsS os).take (i + 1) = (rowsS os).take i ++ [rowG i x] := by
  unfold rowsS
  rw [List.take_add_one, List.getElem?_mapIdx, h]
  rfl
local macro_rules | `(tactic| walk_at "call ref") => `(tactic| (k_here; (with_reducible show wpAny _ _ (call (Value.ref 108) [Value.int _ _]) _ _ _); k_dflt (refine' run_pure (signs_run _ _ _ _ _ _) ?k1 ?k2 ?k3 ?k4 ?k5 ?k6 ?k7 ?k8 trivial ?_; (case k1 => k_asm); (case k2 => k_asm); (case k3 => k_asm); (case k4 => k_asm); (case k5 => k_asm); (case k6 => exact rfl); (case k7 => ktr_room); (case k8 => ktr_units); k_whole); intro v9 h9 tk9 hP9 F9 N9; obtain ⟨t9, e9⟩ := hP9; subst e9; (try dsimp only); (try k_sweep)))
local macro_rules | `(tactic| walk_at "subscriptTail") => `(tactic| (k_here; (with_reducible show wpAny _ _ (subscriptTail _ _ (Value.ref _) (Value.int _ _)) _ _ _); k_dflt (refine' item_at ?a ?b ?c ?d ?_; (case a => exact stays_list (Fr.keep (by k_asm)) (by assumption)); (case d => assumption); (case b => omega); (case c => omega); k_whole)))
set_option maxRecDepth 100000 in
set_option maxHeartbeats 4000000 in
theorem rows_run (w : World) (mean mg mb) (lm : Addr) (vals : List Value) (os : List (Option Int)) (hO : OptsAre vals os) (h4 : os.length = 4) : Run w mean mg mb 3 118 [.ref lm] [] (fun g => g.IsList lm vals.toArray) (fun v more => ∃ D ys, v = .ref D ∧ more = [(D, LCg.lst ys)] ∧ StrsAre ys (rowsS os)) := by
  w_top off
  refine fillup ?_; k_fill; intro _ _
  k_dflt (refine' run_ofC ?k6 ?k7 ?k9 ?kB ?kD ?c2 ?c3 ?c4 ?_; (case k6 => k_is); (case k7 => k_is); (case k9 => intro s; exact BindsTo.of_eq rfl); (case kB => exact rfl); (case kD => decide +kernel); (case c2 => exact rfl); (case c3 => exact rfl); (case c4 => exact rfl); k_whole)
  intro dp un gd cn cs L a ccd cl outer base g L' cells s₁ E B' F' X' N' Y' T' hdp hun hpre
  (try dsimp only)
  (try k_fold)
  refine wpAny_noRaise ?_
  obtain ⟨oc, hE, hc1⟩ := CellsAre.one Y'
  subst hE
  have hc2 : oc.data = .cell (some (.ref lm)) := hc1
  clear hc1
  iterate 10 (first | (k_unfold; (try dsimp only)) | (walk1 <;> (try dsimp only)))
  rename Fr _ _ _ _ => F3
  rename News _ _ _ _ => N3
  rename IsRange _ _ _ _ _ _ _ _ => R3
  refine LCg.CompSrc.range (n := 4) rfl F3 N3 R3 (by decide) (by decide) (by rw [sizeLine_eq]; omega) fun g' => comp_rest (n := 4) (J := fun i ys news => news = [(L' + 1, oc)] ∧ StrsAre ys ((rowsS os).take i)) ?step ?fin 4 0 [] _ (Nat.zero_add _) ⟨rfl, .nil⟩
  case fin =>
    rintro ys news ⟨rfl, hY⟩ D h5 tk5 F5 N5 -
    have hl : (rowsS os).take 4 = rowsS os := List.take_of_length_le (by unfold rowsS; rw [List.length_mapIdx, h4]; exact Nat.le_refl _)
    rw [hl] at hY
    exact Done.intro F5 (fun p hp => N5 p (by rw [List.mem_singleton.mp hp]; exact .head _)) ⟨D, ys, rfl, rfl, hY⟩
  case step =>
    rintro i ys news v I oI C oC D m₂ h5 tk5 E' hi ⟨rfl, hY⟩ ⟨ti, rfl⟩ hN hx F5 N5 hoff hne
    rw [Int.zero_add] at hx
    obtain ⟨o, ho⟩ : ∃ o, os[i]? = some o := ⟨os[i]'(by omega), by simp⟩
    clear F3 N3 R3
    rcases hO.at i o ho with ⟨rfl, hv⟩ | ⟨x, tx, rfl, hv⟩
    · have hv' : vals[((i : Nat) : Int).toNat]? = some Value.none := hv
      k_steps
      exact item_to (by k_asm) (by k_asm) _ (fun p hp => hp) hoff trivial ⟨rfl, by rw [rowsS_none ho]; exact hY.append' (.cons _ _ .nil)⟩
    · have hv' : vals[((i : Nat) : Int).toNat]? = some (Value.int x tx) := hv
      have hfl := sg_len x
      k_steps
      exact item_to (by k_asm) (by k_asm) _ (fun p hp => hp) hoff trivial ⟨rfl, by rw [rowsS_some ho]; exact hY.append' (.cons _ _ .nil)⟩
end Mine
end PartC6

section PartC7
open PySem PySem.W PySem.Calls PyProof.Rows
namespace Mine
local macro_rules | `(tactic| k_steps) => `(tactic| repeat' (first | (k_unfold; (try dsimp only)) | (walk1 <;> (try dsimp only)) | fail "no step"))
local macro_rules | `(tactic| walk_at "binaryOp Mult int int") => `(tactic| (k_here; first | refine PyProof.Rows.mul_int ?_ (IntMulOk.of_left (by decide +kernel)) | refine PyProof.Rows.mul_int ?_ (IntMulOk.of_right (by decide +kernel))))
local macro_rules | `(tactic| walk_at "binaryOp Pow int int") => `(tactic| (k_here; refine pow_int_small (by decide) (by decide) (by decide) ?_))
local macro_rules | `(tactic| k_all) => `(tactic| assumption)
local macro_rules | `(tactic| walk_at "subscriptTail") => `(tactic| (k_here; (with_reducible show wpAny _ _ (subscriptTail _ _ (Value.ref _) (Value.int _ _)) _ _ _); k_dflt (refine' item_at ?a ?b ?c ?d ?_; (case a => exact ⟨_, News.get (by k_asm) (by k_mem), rfl, _, rfl⟩); (case d => first | assumption | ((rename (Int.fmod (Int.fdiv _ _) _ = _) => hk9); rw [hk9]; rfl)); (case b => omega); (case c => omega); k_whole)))
local macro_rules | `(tactic| walk_at "setItem ref int") => `(tactic| (k_here; k_dflt (refine' set_any ?k1 ?k2 ?k3 ?k4 ?k5 ?k6 ?_; (case k1 => k_asm); (case k2 => k_asm); (case k3 => k_upd); (case k4 => omega); (case k5 => omega); (case k6 => omega); k_whole); intro h' F' N'; (try k_sweep)))
section
variable {h₀ : Heap} {Q : Flow → Shared → Prop}
theorem turnN_6 {L : Addr} {J : (Str → Option Value) → List (Addr × Obj) → Prop} {own : List (Addr × Obj)} {x1 x2 a b c d : Addr × Obj} {adr : List Addr} {s₁ : Shared} {h' : Heap} {tk : Nat} {m' : Str → Option Value} (F : Fr h₀ L h' m') (N : News h₀ L h' (x1 :: x2 :: a :: b :: c :: d :: own)) (hadr : [a.1, b.1, c.1, d.1] = adr) (j : J m' [a, b, c, d]) :
    TurnN h₀ L J own adr s₁ Q .next { s₁ with heap := h', toks := tk } := turnN_to F N [a, b, c, d] (fun p hp => .tail _ (.tail _ (List.mem_append_left own hp))) (fun p hp => .tail _ (.tail _ (List.mem_append_right [a, b, c, d] hp))) hadr j
theorem turnN_5 {L : Addr} {J : (Str → Option Value) → List (Addr × Obj) → Prop} {own : List (Addr × Obj)} {x1 a b c d : Addr × Obj} {adr : List Addr} {s₁ : Shared} {h' : Heap} {tk : Nat} {m' : Str → Option Value} (F : Fr h₀ L h' m') (N : News h₀ L h' (x1 :: a :: b :: c :: d :: own)) (hadr : [a.1, b.1, c.1, d.1] = adr) (j : J m' [a, b, c, d]) :
    TurnN h₀ L J own adr s₁ Q .next { s₁ with heap := h', toks := tk } := turnN_to F N [a, b, c, d] (fun p hp => .tail _ (List.mem_append_left own hp)) (fun p hp => .tail _ (List.mem_append_right [a, b, c, d] hp)) hadr j
end
def DonePost (v : Value) (more : List (Addr × Obj)) : Prop := ∃ D ys os, v = .ref D ∧ more = [(D, LCg.lst ys)] ∧ OptsAre ys os ∧ os.length = 4 ∧ ∀ (j : Nat) (x : Int), os[j]? = some (some x) → x.fdiv 4096 = ty j
theorem OptsAre.add : ∀ {vs os}, OptsAre vs os → ∀ {v o}, OptsAre [v] [o] → OptsAre (vs ++ [v]) (os ++ [o])
  | _, _, .nil, _, _, h => h
  | _, _, .none h, _, _, k => .none (h.add k)
  | _, _, .some x t h, _, _, k => .some x t (h.add k)
set_option maxRecDepth 100000 in
set_option maxHeartbeats 4000000 in
theorem done_run (w : World) (mean mg mb) (lm ln : Addr) (w0 w1 w2 w3 : Int) (t0 t1 t2 t3 : Tok) (nv : List Value) (ns : List Int) (hI : IntsAre nv ns) (hw0 : w0.fdiv 4096 = 8) (hw1 : w1.fdiv 4096 = 4) (hw2 : w2.fdiv 4096 = 8) (hw3 : w3.fdiv 4096 = 4) : Run w mean mg mb 2 101 [.ref lm, .ref ln] [] (fun g => g.IsList lm [Value.int w0 t0, .int w1 t1, .int w2 t2, .int w3 t3].toArray ∧ g.IsList ln nv.toArray) DonePost := by
  w_top off
  refine fillup ?_; k_fill; intro _ _
  k_dflt (refine' run_ofC ?k6 ?k7 ?k9 ?kB ?kD ?c2 ?c3 ?c4 ?_; (case k6 => k_is); (case k7 => k_is); (case k9 => intro s; exact BindsTo.of_eq rfl); (case kB => exact rfl); (case kD => decide +kernel); (case c2 => exact rfl); (case c3 => exact rfl); (case c4 => exact rfl); k_whole)
  intro dp un gd cn cs L a ccd cl outer base g L' cells s₁ E B' F' X' N' Y' T' hdp hun hpre
  (try dsimp only)
  (try k_fold)
  refine wpAny_noRaise ?_
  obtain ⟨oc, od, hE, hc1, hd1⟩ := CellsAre.two Y'
  subst hE
  have hc2 : oc.data = .cell none := hc1
  have hd2 : od.data = .cell none := hd1
  clear hc1 hd1 Y'
  obtain ⟨hp1, hp2⟩ := hpre
  iterate 32 (first | (k_unfold; (try dsimp only)) | (walk1 <;> (try dsimp only)))
  rename Fr _ _ _ _ => F1
  (with_unfolding_all refine' For_invVF F1 ?k1 ?k2 ?_; (case k1 => exact rfl); (case k2 => exact rfl); k_whole)
  walk1
  rename_i la ce q1 hq1 lx q2 hq2 lb q3 hq3 lt q4 hq4 q5 q6 oa da q7 ob NN db
  obtain ⟨a1, a2⟩ := hq1
  have hab : @LT.lt Nat _ la lb := hq3.2.1
  have hb1 : @LT.lt Nat _ (L' + 1 + 1) lb := hq3.2.2.1
  have hb2 : @LT.lt Nat _ (L' + 1) lb := hq3.2.2.2
  have NN2 : News g L' q7 [(la, listOf [Value.int w0 t0, .int w1 t1, .int w2 t2, .int w3 t3].toArray ce), (lb, listOf [Value.bool true, .bool true, .bool true, .bool true].toArray 0), (L' + 1 + 1, ob), (L' + 1, oa)] := by
    intro p hp
    refine NN p ?_
    simp only [List.mem_cons, List.not_mem_nil, or_false] at hp ⊢
    rcases hp with h | h | h | h
    · exact .inr (.inr (.inr (.inl h)))
    · exact .inr (.inl h)
    · exact .inr (.inr (.inr (.inr (.inl h))))
    · exact .inr (.inr (.inr (.inr (.inr h))))
  clear NN hq2 hq3 hq4
  refine iter_intsJ (fun i m₁ news₁ => ∃ vs e1 bs e2, news₁ = [(la, listOf vs.toArray e1), (lb, listOf bs.toArray e2), (L' + 1 + 1, ob), (L' + 1, oa)] ∧ AftOk vs ∧ ThOk bs) rfl hp2 hI F1 NN2 ?h0 ?turn ?done
  case h0 =>
    refine ⟨_, _, _, _, rfl, ⟨rfl, fun i v e => ?_⟩, ⟨rfl, fun i v e => ?_⟩⟩
    · rcases i with _ | _ | _ | _ | i
      · cases e; exact ⟨_, _, rfl, hw0⟩
      · cases e; exact ⟨_, _, rfl, hw1⟩
      · cases e; exact ⟨_, _, rfl, hw2⟩
      · cases e; exact ⟨_, _, rfl, hw3⟩
      · simp at e
    · rcases i with _ | _ | _ | _ | i
      · cases e; exact ⟨_, rfl⟩
      · cases e; exact ⟨_, rfl⟩
      · cases e; exact ⟨_, rfl⟩
      · cases e; exact ⟨_, rfl⟩
      · simp at e
  case turn =>
    rintro i n tn m₁ news₁ h tk own hn - hoff ⟨vs, e1, bs, e2, rfl, hA, hB⟩ F2 N2
    have hp0 : 0 ≤ n.fmod 4 := by rw [fmd _ (by decide)]; omega
    have hp4 : n.fmod 4 < 4 := by rw [fmd _ (by decide)]; omega
    have hlv := hA.1
    have hlb := hB.1
    obtain ⟨v, hv⟩ : ∃ v, vs[(n.fmod 4).toNat]? = some v := ⟨vs[(n.fmod 4).toNat]'(by omega), by simp⟩
    obtain ⟨wd, tw, rfl, hty⟩ := hA.2 _ _ hv
    obtain ⟨v, hb⟩ : ∃ v, bs[(n.fmod 4).toNat]? = some v := ⟨bs[(n.fmod 4).toNat]'(by omega), by simp⟩
    obtain ⟨b, rfl⟩ := hB.2 _ _ hb
    have hd0 : 0 ≤ (n.fdiv 16).fmod 4096 := by rw [fmd _ (by decide)]; omega
    have hd1 : (n.fdiv 16).fmod 4096 < 4096 := by rw [fmd _ (by decide)]; omega
    have hown : ∀ c, c ∈ [la, lb, L' + 1 + 1, L' + 1] → ∀ p ∈ own, p.1 ≠ c := fun c hc p hp => hoff p hp c hc
    have ho1 : ∀ p ∈ own, p.1 ≠ la := hown _ (by simp)
    have ho2 : ∀ p ∈ own, p.1 ≠ lb := hown _ (by simp)
    dsimp only [List.cons_append, List.nil_append] at N2
    clear F1 NN2
    have hk4 : (n.fdiv 4).fmod 4 = 0 ∨ (n.fdiv 4).fmod 4 = 1 ∨ (n.fdiv 4).fmod 4 = 2 ∨ (n.fdiv 4).fmod 4 = 3 := by rw [fmd _ (by decide)]; omega
    rcases hk4 with hk | hk | hk | hk
    · have hk3 : ((n.fdiv 4).fmod 4 == 3) = false := by rw [hk]; rfl
      k_steps
      refine turnN_6 (by k_asm) (by k_asm) (by exact rfl) ?_
      exact ⟨_, _, _, _, rfl, hA.set ((ty_or hd0 hd1).trans hty), hB⟩
    · have hk3 : ((n.fdiv 4).fmod 4 == 3) = false := by rw [hk]; rfl
      k_steps
      refine turnN_6 (by k_asm) (by k_asm) (by exact rfl) ?_
      exact ⟨_, _, _, _, rfl, hA.set ((ty_sub hd0 hd1).trans hty), hB⟩
    · have hk3 : ((n.fdiv 4).fmod 4 == 3) = false := by rw [hk]; rfl
      k_steps
      refine turnN_6 (by k_asm) (by k_asm) (by exact rfl) ?_
      exact ⟨_, _, _, _, rfl, hA.set ((ty_set hd0 hd1).trans hty), hB⟩
    · have hk3 : ((n.fdiv 4).fmod 4 == 3) = true := by rw [hk]; rfl
      k_steps
      refine turnN_5 (by k_asm) (by k_asm) (by exact rfl) ?_
      exact ⟨_, _, _, _, rfl, hA, hB.set⟩
  case done =>
    rintro m₁ news₁ h tk ⟨vs, e1, bs, e2, rfl, hA, hB⟩ F2 N2
    clear F1 NN2
    iterate 10 (first | (k_unfold; (try dsimp only)) | (walk1 <;> (try dsimp only)))
    rename Fr _ _ _ _ => F3
    rename News _ _ _ _ => N3
    rename IsRange _ _ _ _ _ _ _ _ => R3
    refine LCg.CompSrc.range (n := 4) rfl F3 N3 R3 (by decide) (by decide) (by rw [sizeLine_eq]; omega) fun g' => comp_rest (n := 4) (J := fun i ys news => news = [(la, listOf vs.toArray e1), (lb, listOf bs.toArray e2), (L' + 1 + 1, ob), (L' + 1, oa)] ∧ ∃ os, OptsAre ys os ∧ os.length = i ∧ ∀ (j : Nat) (x : Int), os[j]? = some (some x) → x.fdiv 4096 = ty j) ?step ?fin 4 0 [] _ (Nat.zero_add _) ⟨rfl, [], .nil, rfl, fun j x h => by simp at h⟩
    case fin =>
      rintro ys news ⟨rfl, os, hO, hl, ht⟩ D h5 tk5 F5 N5 -
      exact Done.intro F5 (fun p hp => N5 p (by rw [List.mem_singleton.mp hp]; exact .head _)) ⟨D, ys, os, rfl, rfl, hO, hl, ht⟩
    case step =>
      rintro i ys news v I oI C oC D m₂ h5 tk5 E' hi ⟨rfl, os, hO, hl, ht⟩ ⟨ti, rfl⟩ hN hx F5 N5 hoff hne
      rw [Int.zero_add] at hx
      have hlv := hA.1
      have hlb := hB.1
      obtain ⟨v, hv⟩ : ∃ v, vs[((i : Nat) : Int).toNat]? = some v := ⟨vs[((i : Nat) : Int).toNat]'(by omega), by simp⟩
      obtain ⟨wd, tw, rfl, hty⟩ := hA.2 _ _ hv
      obtain ⟨v, hb⟩ : ∃ v, bs[((i : Nat) : Int).toNat]? = some v := ⟨bs[((i : Nat) : Int).toNat]'(by omega), by simp⟩
      obtain ⟨b, rfl⟩ := hB.2 _ _ hb
      clear F3 N3 R3
      cases b
      · k_steps
        refine item_to (by k_asm) (by k_asm) _ (fun p hp => hp) hoff trivial ⟨rfl, os ++ [none], hO.add (.none .nil), by simp [hl], fun j x hj => ?_⟩
        rw [List.getElem?_append] at hj
        split at hj
        · exact ht j x hj
        · rcases hq : j - os.length with _ | q
          · rw [hq] at hj; simp at hj
          · rw [hq] at hj; simp at hj
      · k_steps
        refine item_to (by k_asm) (by k_asm) _ (fun p hp => hp) hoff trivial ⟨rfl, os ++ [some wd], hO.add (.some _ _ .nil), by simp [hl], fun j x hj => ?_⟩
        rw [List.getElem?_append] at hj
        split at hj
        · exact ht j x hj
        · rename_i hjl
          rcases hq : j - os.length with _ | q
          · rw [hq] at hj
            simp at hj
            have hji : j = i := by omega
            subst hji
            rw [← hj]
            exact hty
          · rw [hq] at hj; simp at hj
end Mine
end PartC7

section PartX1
open PySem PySem.W PySem.Calls PyProof.Rows
namespace Mine
section
variable {M : Model} {A : Around} {E : Value → Shared → Prop} {s : Shared} {g h : Heap} {L L' a e T : Addr} {m : Str → Option Value} {name : Str} {scope : Scope} {cd : Value} {env : Env} {oL oe oT : Obj} {vs ts : Array Value} {new rest : List (Addr × Obj)} {Q : Unit → Shared → Prop}

/-- the first note of a new exception in a frame whose caller is env: both frames turn in their slots alone, the exception and its entry stand on the ledger -/
theorem note1 (hfr : A.frames = some [envOf name scope L' a cd, env]) (hk : scope.kind = .function) (hke : env.scope.kind ≠ .module) (hef : env.frame = some L) (hLd : ∃ es ep, oL.data = .dict es ep)
    (keeps : ∀ b o, h.get? b = some o → s.heap.get? b = some o) (hnew : h.get? e = none) (he : s.heap.get? e = some oe) (hd : oe.data = .fields vs) (h1 : vs[1]? = some .none)
    (F : Fr g L' h m) (N : News g L' h (new ++ [(L, oL)])) (hne : ∀ p ∈ new, p.1 ≠ L)
    (k : ∀ h' sl T oT ts, Fr g L' h' m → News g L' h' ((e, oe.mapFields (·.setIfInBounds 1 (.ref T))) :: (T, oT) :: (new ++ [(L, { oL with slots := sl })])) → oT.data = .fields ts → ts[3]? = some (rawInt L') → @Ne Nat T e → @Ne Nat T L → @Ne Nat e L → (∀ p ∈ new, p.1 ≠ T ∧ p.1 ≠ e) → Q () { s with heap := h' }) :
    wpAny M A (noteFrame (.ref e) (envOf name scope L' a cd)) Q E s := by
  have hL0 := N (L, oL) (List.mem_append_right _ (.head _))
  obtain ⟨es, ep, hLd⟩ := hLd
  obtain ⟨o', es', ep', ho', hd', r'⟩ := F.ns
  have heL' : e ≠ L' := fun q => by rw [q, ho'] at hnew; cases hnew
  have heL : e ≠ L := fun q => by rw [q, hL0.1] at hnew; cases hnew
  have gL' : g.get? L' = none := Heap.get?_none_of_le F.above
  have ge : g.get? e = none := by
    cases q : g.get? e with
    | none => rfl
    | some o => have := F.keep _ _ q; rw [hnew] at this; cases this
  have hkind : (envOf name scope L' a cd).scope.kind ≠ .module := by
    show scope.kind ≠ .module
    rw [hk]; decide
  have hl : s.heap.FunFrames g [envOf name scope L' a cd, env] :=
    ⟨hkind, ⟨L', o', rfl, gL', keeps _ _ ho', fun vs q => by rw [hd'] at q; cases q⟩, hke, ⟨L, oL, hef, hL0.2.2, keeps _ _ hL0.1, fun vs q => by rw [hLd] at q; cases q⟩, trivial⟩
  unfold noteFrame
  simp only [show (envOf name scope L' a cd).frame = some L' from rfl]
  refine wpAny_bind (wpAny_field he hd (x := .none) h1 ?_)
  rw [if_neg (by decide)]
  refine wpAny_bind (wpAny_frameOf_fun hfr hl rfl fun h₁ hs₁ => ?_)
  refine wpAny_bind (wpAny_entryPlaceOf fun pl hpl => ?_)
  unfold EntryCells.newEntry newFields
  refine wpAny_bind (wpAny_newObj_type ?_ (hpl.sizeOk5 _ _ _ _ _))
  have hin : ([envOf name scope L' a cd, env].filterMap (·.frame)) = [L', L] := by simp [List.filterMap, hef, envOf]
  rw [hin] at hs₁
  have he₁ : h₁.get? e = some oe := (hs₁.2.1 e (by simp [heL', heL])).trans he
  have hTe : h₁.objs.size ≠ e := Nat.ne_of_gt (Heap.lt_size he₁)
  have he₂ := Heap.get?_push_of_some (h := h₁) { cls := .type "traceback", dict := none, data := .fields ([Value.none, .ref L', .none, rawInt L', .none] ++ (if pl.isEmpty then List.replicate 6 Value.none else pl)).toArray } he₁
  refine wpAny_setField he₂ hd (Array.getElem?_eq_some_iff.mp h1).1 ?_
  have hd₃ := Obj.data_mapFields hd (·.setIfInBounds 1 (Value.ref h₁.objs.size))
  have he₃ := Heap.get?_update_self (Obj.mapFields (·.setIfInBounds 1 (Value.ref h₁.objs.size))) he₂ (Obj.isFreed_of_fields hd₃)
  have hT₃ := (Heap.get?_update_other (h₁.push { cls := .type "traceback", dict := none, data := .fields ([Value.none, .ref L', .none, rawInt L', .none] ++ (if pl.isEmpty then List.replicate 6 Value.none else pl)).toArray })
    (Obj.mapFields (·.setIfInBounds 1 (Value.ref h₁.objs.size))) (Ne.symm hTe)).trans (Heap.get?_push_size h₁ rfl)
  have keep : ∀ b o, b ≠ e → h₁.get? b = some o →
      ((h₁.push { cls := .type "traceback", dict := none, data := .fields ([Value.none, .ref L', .none, rawInt L', .none] ++ (if pl.isEmpty then List.replicate 6 Value.none else pl)).toArray }).update e (Obj.mapFields (·.setIfInBounds 1 (Value.ref h₁.objs.size)))).get? b = some o :=
    fun b o hbe hb => by
      rw [Heap.get?_update_other _ _ (Ne.symm hbe)]
      exact Heap.get?_push_of_some _ hb
  have hTn : ∀ b o, h.get? b = some o → b ≠ h₁.objs.size := fun b o q z => by
    have := Heap.lt_size (keeps b o q)
    rw [z, hs₁.1] at this
    exact Nat.lt_irrefl _ this
  obtain ⟨sl', hsl'⟩ := hs₁.2.2 _ _ (keeps _ _ ho')
  obtain ⟨sl, hsl⟩ := hs₁.2.2 _ _ (keeps _ _ hL0.1)
  have oth : ∀ b o, b ≠ L' → b ≠ L → b ≠ e → h.get? b = some o → _ := fun b o n1 n2 n3 q => keep b o n3 ((hs₁.2.1 b (by simp [n1, n2])).trans (keeps b o q))
  have gT : g.get? h₁.objs.size = none := by
    cases q : g.get? h₁.objs.size with
    | none => rfl
    | some o => exact absurd rfl (hTn _ _ (F.keep _ _ q))
  refine k _ sl h₁.objs.size ({ cls := .type "traceback", dict := none, data := .fields ([Value.none, .ref L', .none, rawInt L', .none] ++ (if pl.isEmpty then List.replicate 6 Value.none else pl)).toArray } : Obj) _ ⟨⟨_, es', ep', keep _ _ heL'.symm hsl', hd', r'⟩, fun b o q => ?_, F.above⟩ (fun p hp => ?_) rfl ?_ hTe (fun q => hTn _ _ hL0.1 q.symm) heL (fun p hp => ⟨hTn _ _ (N p (List.mem_append_left _ hp)).1, fun q => ?_⟩)
  · refine oth b o (fun z => ?_) (fun z => ?_) (fun z => ?_) (F.keep _ _ q)
    · rw [z, gL'] at q; cases q
    · rw [z, hL0.2.2] at q; cases q
    · rw [z, ge] at q; cases q
  · rcases List.mem_cons.mp hp with rfl | hp
    · exact ⟨he₃, heL', ge⟩
    rcases List.mem_cons.mp hp with rfl | hp
    · exact ⟨hT₃, fun q => hTn _ _ ho' q.symm, gT⟩
    rcases List.mem_append.mp hp with hp | hp
    · have hN := N p (List.mem_append_left _ hp)
      exact ⟨oth p.1 p.2 hN.2.1 (hne p hp) (fun z => by have := hN.1; rw [z, hnew] at this; cases this) hN.1, hN.2⟩
    · rw [List.mem_singleton.mp hp]
      exact ⟨keep _ _ heL.symm hsl, hL0.2⟩
  · first | (simp; done) | (rcases hpl with rfl | ⟨_, _, _, _, _, _, _, rfl⟩ <;> simp)
  · have := (N p (List.mem_append_left _ hp)).1
    rw [q, hnew] at this
    cases this

/-- the flight's mark is turned -/
theorem flight1 {fl : Option Addr} (F : Fr g L' s.heap m) (N : News g L' s.heap ((e, oe) :: (T, oT) :: rest)) (hd : oe.data = .fields vs) (h1 : vs[1]? = some (.ref T)) (hdT : oT.data = .fields ts) (h3 : 3 < ts.size) (hTe : @Ne Nat T e) (hr : ∀ p ∈ rest, p.1 ≠ T)
    (k : ∀ h' oT' ts', Fr g L' h' m → News g L' h' ((e, oe) :: (T, oT') :: rest) → oT'.data = .fields ts' → ts'[3]? = some (fl.elim Value.none fun f => rawInt f) → Q () { s with heap := h' }) :
    wpAny M A (setFlight (.ref e) fl) Q E s := by
  obtain ⟨he, heL', _⟩ := N (e, oe) (.head _)
  obtain ⟨hT, hTL', gT⟩ := N (T, oT) (.tail _ (.head _))
  have other : ∀ b, b ≠ T → (s.heap.update T (Obj.mapFields (·.setIfInBounds 3 (fl.elim Value.none fun f => rawInt f)))).get? b = s.heap.get? b :=
    fun b hb => Heap.get?_update_other _ _ (Ne.symm hb)
  unfold setFlight
  refine wpAny_bind (wpAny_field he hd h1 ?_)
  rw [if_pos (show (Value.ref T != Value.none) = true from by simp)]
  obtain ⟨o', es', ep', ho', r'⟩ := F.ns
  refine wpAny_setField hT hdT h3 (k _ (oT.mapFields (·.setIfInBounds 3 (fl.elim Value.none fun f => rawInt f))) (ts.setIfInBounds 3 (fl.elim Value.none fun f => rawInt f)) ⟨⟨o', es', ep', (other _ (Ne.symm hTL')).trans ho', r'⟩, fun b o q => (other b (fun z => by rw [z, gT] at q; cases q)).trans (F.keep b o q), F.above⟩ (fun p hp => ?_) (Obj.data_mapFields hdT _) ?_)
  rotate_left
  · simp [h3]
  rcases List.mem_cons.mp hp with rfl | hp
  · exact ⟨(other _ (Ne.symm hTe)).trans he, N _ (.head _) |>.2⟩
  rcases List.mem_cons.mp hp with rfl | hp
  · exact ⟨Heap.get?_update_self _ hT (Obj.isFreed_of_fields (Obj.data_mapFields hdT _)), hTL', gT⟩
  · have hN := N p (.tail _ (.tail _ hp))
    exact ⟨(other _ (hr p hp)).trans hN.1, hN.2⟩
theorem again1 (N : News g L' s.heap ((e, oe) :: (T, oT) :: rest)) (hd : oe.data = .fields vs) (h1 : vs[1]? = some (.ref T)) (hdT : oT.data = .fields ts) (h3 : ts[3]? = some (rawInt L')) (k : Q () s) :
    wpAny M A (noteFrame (.ref e) (envOf name scope L' a cd)) Q E s :=
  wpAny_noteFrame_inFlight rfl (N (e, oe) (.head _)).1 hd h1 (N (T, oT) (.tail _ (.head _))).1 hdT h3 k
theorem pass1 {α : Type} {what : String} {Q : α → Shared → Prop} (F : Fr g L' s.heap m) (N : News g L' s.heap ((e, oe) :: (T, oT) :: rest)) (hd : oe.data = .fields vs) (h1 : vs[1]? = some (.ref T)) (hdT : oT.data = .fields ts) (h3 : 3 < ts.size) (hTe : @Ne Nat T e) (hr : ∀ p ∈ rest, p.1 ≠ T)
    (k : ∀ h' oT' ts', Fr g L' h' m → News g L' h' ((e, oe) :: (T, oT') :: rest) → oT'.data = .fields ts' → ts'[3]? = some (rawInt L') → E (.ref e) { s with heap := h' }) :
    wpAny M A (PySem.passOn (α := α) what (.ref e) (envOf name scope L' a cd)) Q E s := by
  unfold PySem.passOn
  refine wpAny_bind (wpAny_field (N (e, oe) (.head _)).1 hd h1 ?_)
  rw [if_neg (show ¬ ((Value.ref T == Value.none) = true) from by simp)]
  first
    | exact wpAny_bind (wpAny_pure (wpAny_bind (flight1 F N hd h1 hdT h3 hTe hr fun h' oT' ts' F' N' a b => wpAny_throw (k h' oT' ts' F' N' a b))))
    | exact wpAny_bind (flight1 F N hd h1 hdT h3 hTe hr fun h' oT' ts' F' N' a b => wpAny_throw (k h' oT' ts' F' N' a b))
end
end Mine
end PartX1

section PartX2
open PySem PySem.W PySem.Calls PyProof.Rows
namespace Mine
theorem entry_unchain : entryFor table "proto.unchain" = some Builtin.«proto.unchain» := entryFor_of_fast (by kernel_rfl)
section
variable {prog : Program} {w : World} {A : Around} {E : Value → Shared → Prop} {s : Shared} {α : Type}
/-- an exception of two: e2 raised while e1, which stands alone, is handled -/
structure Exc2 (h h' : Heap) (e : Addr) (cls : String) (c : Value) : Prop where
  keeps : ∀ b o, h.get? b = some o → h'.get? b = some o
  new : h.get? e = none
  there : ∃ ob t, h'.get? e = some ob ∧ ob.cls = .type cls ∧ ob.data = .fields #[t, .none, c, .none, .bool false, .none]
theorem words2 {cls msg : String} {Q : α → Shared → Prop} {e1 : Addr} {o1 : Obj} {vs1 : Array Value} (hp : PlainExc cls) (hh : A.handled = some (.ref e1)) (he1 : s.heap.get? e1 = some o1) (hd1 : o1.data = .fields vs1) (h2 : vs1[2]? = some .none)
    (h : ∀ h' tk e, Exc2 s.heap h' e cls (.ref e1) → E (.ref e) { s with heap := h', toks := tk }) :
    wpAny (model prog w) A (raiseErrorWords cls msg : Sem α) Q E s := by
  unfold raiseErrorWords
  refine wpAny_bind (wpAny_mkText (wpAny_bind ?_))
  unfold newExc newTuple
  refine wpAny_bind (wpAny_newObj_type ?_)
  refine wpAny_bind (m := firstArgMember _ _) (wpAny_of_eq (a := Value.none) (by simp only [firstArgMember, hp.first]; rfl) ?_)
  rw [hp.own]
  refine wpAny_newObj_type ?_
  unfold raiseNew
  refine wpAny_bind (wpAny_handled ?_)
  rw [hh]
  dsimp only
  have hlt := Heap.lt_size he1
  have he1' := Heap.get?_push_of_some (h := s.heap.push { cls := Value.type "tuple", data := Data.seq #[Value.str (Str.ofString msg) s.toks] }) { cls := Value.type cls, data := Data.fields (#[Value.ref s.heap.objs.size, Value.none, Value.none, Value.none, Value.bool false, Value.none] ++ #[]) } (Heap.get?_push_of_some (h := s.heap) { cls := Value.type "tuple", data := Data.seq #[Value.str (Str.ofString msg) s.toks] } he1)
  have hne : (s.heap.push { cls := Value.type "tuple", data := Data.seq #[Value.str (Str.ofString msg) s.toks] }).objs.size ≠ e1 := fun q => by
    have := Heap.lt_size (Heap.get?_push_of_some (h := s.heap) { cls := Value.type "tuple", data := Data.seq #[Value.str (Str.ofString msg) s.toks] } he1)
    rw [q] at this
    exact Nat.lt_irrefl _ this
  rw [if_pos (by simp only [bne_iff_ne, ne_eq, Value.ref.injEq]; exact fun q => hne q.symm)]
  have hnew := Heap.get?_push_size (s.heap.push { cls := Value.type "tuple", data := Data.seq #[Value.str (Str.ofString msg) s.toks] }) (o := { cls := Value.type cls, data := Data.fields (#[Value.ref s.heap.objs.size, Value.none, Value.none, Value.none, Value.bool false, Value.none] ++ #[]) }) rfl
  refine wpAny_bind (wpAny_holding (wpAny_runValue (codeAny_builtin entry_unchain ?_)))
  unfold Builtin.«proto.unchain»
  dsimp only
  refine wpAny_bind (wpAny_field he1' hd1 h2 ?_)
  rw [if_pos (by rfl)]
  unfold ret
  refine wpAny_bind (wpAny_pure (wpAny_pure ?_))
  dsimp only
  refine wpAny_bind (m := updateField _ _ _) (wpAny_setField hnew rfl (by simp) (wpAny_throw ?_))
  refine h _ _ _ ⟨fun b o hb => ?_, Heap.get?_none_of_le (by simp), _, .ref s.heap.objs.size, Heap.get?_update_self _ hnew rfl, rfl, ?_⟩
  · rw [Heap.get?_update_other]
    · exact Heap.get?_push_of_some _ (Heap.get?_push_of_some _ hb)
    · intro q
      have := Heap.lt_size (Heap.get?_push_of_some (h := s.heap) { cls := Value.type "tuple", data := Data.seq #[Value.str (Str.ofString msg) s.toks] } hb)
      rw [q] at this
      exact Nat.lt_irrefl _ this
  · simp [Obj.mapFields]
theorem out2 {l : Addr} {items : Array Value} {k : Int} {t : Tok} {Q : Value → Shared → Prop} {e1 : Addr} {o1 : Obj} {vs1 : Array Value} (hA : A.handled = some (.ref e1)) (he1 : s.heap.get? e1 = some o1) (hd1 : o1.data = .fields vs1) (h2 : vs1[2]? = some .none) (hl : s.heap.IsList l items)
    (hout : (items.size : Int) ≤ k) (hhi : k < 2 ^ 63)
    (hE : ∀ h' tk e, Exc2 s.heap h' e "IndexError" (.ref e1) → E (.ref e) { s with heap := h', toks := tk }) :
    wpAny (model prog w) A (getItem (.ref l) (.int k t)) Q E s := by
  obtain ⟨o, ho, hc, ne, hd⟩ := id hl
  unfold getItem
  try with_reducible refine wpAny_holding ?_
  first | refine wpAny_bind (wpAny_pure ?_) | skip
  refine wpAny_bind (wpAny_sequenceKey hl.typeIs (by decide) ?_)
  refine wpAny_bind (wpAny_callSpecial?_slot (name := Str.ofString "__getitem__") hl.typeIs slot_list_getitem
    (wpAny_call_entry slot_list_getitem hl.typeIs entry_list_getitem ?_ (args_list_getitem _ _)))
  show wpAny _ _ (Builtin.List.listSubscript? (.int k t) >>= _) _ _ s
  refine wpAny_bind (wpAny_listSubscript_int (fitsIndex_both (by omega) hhi) ?_)
  clear hhi
  cases k with
  | negSucc j => exact absurd hout (by omega)
  | ofNat j =>
    have hx : items[j]? = none := Array.getElem?_eq_none (by have : (items.size : Int) ≤ (j : Int) := hout; omega)
    show wpAny _ _ ((seqItemAt l j >>= fun r => pure (r.map (j, ·))) >>= _) _ _ s
    refine wpAny_bind (wpAny_bind (wpAny_seqItemAt ho hd (wpAny_pure ?_)))
    rw [hx]
    have hA' : A.in1.handled = some (.ref e1) := hA
    first
      | exact wpAny_bind (wpAny_rule (words2 plainExc_IndexError hA' he1 hd1 h2 hE))
      | exact wpAny_bind (wpAny_rule (wpAny_bind (words2 plainExc_IndexError hA' he1 hd1 h2 hE)))
      | exact wpAny_bind (wpAny_bind (wpAny_rule (words2 plainExc_IndexError hA' he1 hd1 h2 hE)))
      | exact wpAny_rule (words2 plainExc_IndexError hA' he1 hd1 h2 hE)
end
end Mine
end PartX2

section PartX3
open PySem PySem.W PySem.Calls PyProof.Rows
namespace Mine
/-- behind the body of a def that may have caught exceptions: its caller's frame (L) has turned in its slots alone -/
def DoneS (g : Heap) (L' L : Addr) (oL : Obj) (s₁ : Shared) (Post : Value → List (Addr × Obj) → Prop) (v : Value) (s' : Shared) : Prop :=
  ∃ m' more sl h' tk', s' = { s₁ with heap := h', toks := tk' } ∧ Fr g L' h' m' ∧ News g L' h' (more ++ [(L, { oL with slots := sl })]) ∧ (∀ p ∈ more, p.1 ≠ L) ∧ Post v more
theorem DoneS.intro {g : Heap} {L' L : Addr} {oL : Obj} {s₁ : Shared} {Post : Value → List (Addr × Obj) → Prop} {v : Value} {m' : Str → Option Value} {more : List (Addr × Obj)} {sl : Array (Option Value)} {h' : Heap} {tk' : Nat}
    (F : Fr g L' h' m') (N : News g L' h' (more ++ [(L, { oL with slots := sl })])) (hne : ∀ p ∈ more, p.1 ≠ L) (P : Post v more) : DoneS g L' L oL s₁ Post v { s₁ with heap := h', toks := tk' } := ⟨m', more, sl, h', tk', rfl, F, N, hne, P⟩

/-- a call, right from the law, of a def that may catch exceptions and reads two lists -/
def RunS (w : World) (mean : ExcName → Option Value) (mg mb : Str → Option Value) (d : Nat) (f : Addr) (ex ac : Addr) (vx va : List Value) (Post : Value → List (Addr × Obj) → Prop) : Prop :=
  ∀ (dp un : Nat) (gd : Option (List Code)) (cn : Str) (cs : Scope) (a : Addr) (ccd : Value) (cl : List (Str × Addr)) (h₀ : Heap) (L : Addr) (m : Str → Option Value) (rest : List (Addr × Obj)) (s : Shared) (Q E : Value → Shared → Prop),
    Fr h₀ L s.heap m → (Mine.hd.heap_39 w.params).In h₀ → News h₀ L s.heap rest → Top Mine.hd.view_39 (looseW Mine.hd.view_39 [Str.ofString "_filemode_table"]) mean mg mb h₀ → cs.kind = .function →
    dp + d < recursionLimit → un + 8 * d + 16 < cLine → s.heap.IsList ex vx.toArray → s.heap.IsList ac va.toArray →
    (∀ v more h' tk', Post v more → Fr h₀ L h' m → News h₀ L h' (more ++ rest) → (∀ p ∈ more, ∀ q ∈ rest, q.1 ≠ p.1) → Q v { s with heap := h', toks := tk' }) →
      wpAny (model PySem.Challenge.rw_oy0131_01.row.prog w) (ktrTop dp un gd cn cs L a ccd cl []) (call (.ref f) [.ref ex, .ref ac]) Q E s

theorem isList_hide {h : Heap} {l b : Addr} {o : Obj} {vs : Array Value} (hl : h.IsList l vs) (ho : h.get? b = some o) (hd : ∃ es ep, o.data = .dict es ep) : (hideAll h [b]).IsList l vs := by
  obtain ⟨ol, h1, h2, n, h3⟩ := hl
  refine ⟨ol, hideAll_get _ h1 fun q => ?_, h2, n, h3⟩
  rw [List.mem_singleton.mp q, ho] at h1
  cases h1
  obtain ⟨es, ep, hd⟩ := hd
  rw [hd] at h3
  cases h3

theorem run_ofS {w : World} {mean : ExcName → Option Value} {mg mb : Str → Option Value} {d : Nat} {f ex ac : Addr} {vx va : List Value} {Post : Value → List (Addr × Obj) → Prop}
    {name qual : Str} {params : Arguments} {body : List Stmt} {scope : Scope} {dV kV doc pm cdv ct oc : Value} {an od : Option Addr} {osl : Array (Option Value)} {binds : List (Str × Value)}
    (ho : (Mine.hd.heap_39 w.params).lookup f = some ⟨oc, od, .func (fnOf name qual params body scope dV kV doc pm an cdv ct), osl⟩) (hcd : codeIn (Mine.hd.heap_39 w.params) cdv qual = true)
    (hbind : ∀ s, BindsTo s (fnOf name qual params body scope dV kV doc pm an cdv ct) ⟨[.ref ex, .ref ac], []⟩ binds) (hloc : ∀ y ∈ binds, scope.names.lookup y.1 = some .local)
    (hco : scope.isCoroutine = false) (hgen : scope.isGenerator = false) (hk : scope.kind = .function) (hcell : ∀ x ∈ scope.names, x.2 ≠ .cell)
    (h : ∀ (dp un : Nat) (gd : Option (List Code)) (cn : Str) (cs : Scope) (L a : Addr) (ccd : Value) (cl : List (Str × Addr)) (g : Heap) (L' : Addr) (oL : Obj) (s₁ : Shared) (E : Value → Shared → Prop), cs.kind = .function →
      Fr g L' s₁.heap (fun y => binds.reverse.lookup y) → (Mine.hd.heap_39 w.params).In g → News g L' s₁.heap [(L, oL)] → (∃ es ep, oL.data = .dict es ep) →
      Top Mine.hd.view_39 (looseW Mine.hd.view_39 [Str.ofString "_filemode_table"]) mean mg mb g → dp + d < recursionLimit → un + 8 * d + 16 < cLine → g.IsList ex vx.toArray → g.IsList ac va.toArray →
      wpAny (model PySem.Challenge.rw_oy0131_01.row.prog w) ((ktrTop dp un gd cn cs L a ccd cl []).deeper (envOf qual scope L' f cdv)) (execs body (envOf qual scope L' f cdv))
        (fun fl s' => DoneS g L' L oL s₁ Post (match fl with | .ret v => v | _ => .none) s') (fun e s' => wpAny (model PySem.Challenge.rw_oy0131_01.row.prog w) ((ktrTop dp un gd cn cs L a ccd cl []).deeper (envOf qual scope L' f cdv)) (leaving (envOf qual scope L' f cdv) e) (fun _ s'' => E e s'') (fun e' s'' => E e' s'') s') s₁) :
    RunS w mean mg mb d f ex ac vx va Post := by
  intro dp un gd cn cs a ccd cl h₀ L m rest s Q E F X N T hck hdp hun hx ha hret
  refine wpAny_call ?_
  obtain ⟨oL, es, ep, hL, hLd, hLk, hLf⟩ := F.ns
  have h0L : h₀.get? L = none := Heap.get?_none_of_le F.above
  have st : ∀ b o, h₀.get? b = some o → (hideAll s.heap [L]).get? b = some o := fun b o e => hideAll_get _ (F.keep b o e) fun q => by
    rw [List.mem_singleton.mp q, h0L] at e; cases e
  refine codeAny_call_def (fd := fnOf name qual params body scope dV kV doc pm an cdv ct) (body := body) (binds := binds) (by show dp < recursionLimit; omega) ((X.keeps F.keep) _ _ ho) rfl (T.nolimit.keeps F.keep) (codeRec_of (X.keeps F.keep) hcd) rfl (hbind s) hcell hloc (fun h₁ hns hk₁ => ?_) hco hgen hk
  have key := h dp un gd cn cs L a ccd cl (hideAll s.heap [L]) s.heap.objs.size oL { s with heap := h₁, toks := s.toks + binds.length } E hck
    ⟨hns, fun b o e => hk₁ b o (of_hideAll _ e), Nat.le_of_eq (hideAll_size _ _)⟩ (X.keeps st)
    (fun p hp => by
      rw [List.mem_singleton.mp hp]
      exact ⟨hk₁ _ _ hL, Nat.ne_of_lt (Heap.lt_size hL), hideAll_none _ (.head _)⟩) ⟨es, ep, hLd⟩ (T.keeps st) hdp hun (isList_hide hx hL ⟨es, ep, hLd⟩) (isList_hide ha hL ⟨es, ep, hLd⟩)
  refine wpAny_mono key (fun fl s' hd => ?_) fun _ _ y => y
  obtain ⟨m', more, sl, h', tk', rfl, F', N', hne, P'⟩ := hd
  have gr : ∀ q ∈ rest, (hideAll s.heap [L]).get? q.1 = some q.2 := fun q hq => hideAll_get _ (N q hq).1 fun hm => (N q hq).2.1 (List.mem_singleton.mp hm)
  refine hret _ more h' tk' P' ⟨⟨_, es, ep, (N' _ (List.mem_append_right _ (.head _))).1, hLd, hLk, hLf⟩, fun b o e => F'.keep b o (st b o e), F.above⟩ (fun p hp => ?_) (fun p hp q hq e => ?_)
  · rcases List.mem_append.mp hp with hp | hp
    · have hN := N' p (List.mem_append_left _ hp)
      refine ⟨hN.1, hne p hp, ?_⟩
      cases q : h₀.get? p.1 with
      | none => rfl
      | some o => have := hN.2.2; rw [st _ _ q] at this; cases this
    · exact ⟨F'.keep _ _ (gr p hp), (N p hp).2⟩
  · have := (N' p (List.mem_append_left _ hp)).2.2; rw [← e, gr q hq] at this; cases this
theorem ktr_frames {dp un : Nat} {gd : Option (List Code)} {cn : Str} {cs : Scope} {L a : Addr} {ccd : Value} {cl : List (Str × Addr)} {env : Env} : ((ktrTop dp un gd cn cs L a ccd cl []).deeper env).frames = some [env, envX cn cs L a ccd cl] := rfl
theorem ktr_framesM {dp un : Nat} {gd : Option (List Code)} {cn : Str} {cs : Scope} {L a : Addr} {ccd : Value} {cl : List (Str × Addr)} {env : Env} {o : Option Value} : (((ktrTop dp un gd cn cs L a ccd cl []).deeper env).mark o).frames = some [env, envX cn cs L a ccd cl] := rfl
theorem canon {m : Str → Option Value} {k : Str} {v : Option Value} (h : m k = v) : m = fun y => if y = k then v else m y := by
  funext y
  by_cases q : y = k
  · rw [if_pos q, q, h]
  · rw [if_neg q]
end Mine
end PartX3

section PartX4
open PySem PySem.W PySem.Calls PyProof.Rows
namespace Mine
/-- what the merge of two sorted lists computes -/
def sld : List Str → List Str → List Str × List Str
  | [], ys => ([], ys)
  | x :: xs, [] => (x :: xs, [])
  | x :: xs, y :: ys => if lt x y then (x :: (sld xs (y :: ys)).1, (sld xs (y :: ys)).2) else if lt y x then ((sld (x :: xs) ys).1, y :: (sld (x :: xs) ys).2) else sld xs ys
termination_by xs ys => xs.length + ys.length
section
variable {prog : Program} {w : World} {A : Around} {E : Value → Shared → Prop} {s : Shared}
theorem item_out {value slice : Expr} {l : Addr} {vs : List Value} {k : Int} {u : Tok} {Q : Value → Shared → Prop} (hA : A.handled = none) (hl : s.heap.IsList l vs.toArray) (hout : (vs.length : Int) ≤ k) (hhi : k < 2 ^ 63)
    (h : ∀ h' tk e, Heap.NewExc s.heap h' e "IndexError" → E (.ref e) { s with heap := h', toks := tk })
    (hs : subscripted slice false (.ref l) (.int k u) = operate [.ref l, .int k u] (getItem (.ref l) (.int k u)) := by with_unfolding_all rfl) :
    wpAny (model prog w) A (subscriptTail value slice (.ref l) (.int k u)) Q E s :=
  tail_any hl.typeIs slot_list_getitem.lookup (wpAny_getItem_list_out hA hl (.inr (by simpa using hout)) (by omega) hhi h) hs
theorem item_out2 {value slice : Expr} {l : Addr} {vs : List Value} {k : Int} {u : Tok} {Q : Value → Shared → Prop} {e1 : Addr} {o1 : Obj} {vs1 : Array Value} (hA : A.handled = some (.ref e1)) (he1 : s.heap.get? e1 = some o1) (hd1 : o1.data = .fields vs1) (h2 : vs1[2]? = some .none) (hl : s.heap.IsList l vs.toArray) (hout : (vs.length : Int) ≤ k) (hhi : k < 2 ^ 63)
    (h : ∀ h' tk e, Exc2 s.heap h' e "IndexError" (.ref e1) → E (.ref e) { s with heap := h', toks := tk })
    (hs : subscripted slice false (.ref l) (.int k u) = operate [.ref l, .int k u] (getItem (.ref l) (.int k u)) := by with_unfolding_all rfl) :
    wpAny (model prog w) A (subscriptTail value slice (.ref l) (.int k u)) Q E s :=
  tail_any hl.typeIs slot_list_getitem.lookup (out2 hA he1 hd1 h2 hl (by simpa using hout) hhi h) hs
end
def OT (I : Nat → Shared → Prop) (n : Nat) (Q : Flow → Shared → Prop) (f : Flow) (s : Shared) : Prop := match f with
  | .next => ∃ m, m < n ∧ I m s
  | .cont => ∃ m, m < n ∧ I m s
  | .brk => Q .next s
  | .ret v => Q (.ret v) s
section
variable {prog : Program} {w : World} {A : Around} {s : Shared} {env : Env} {g h : Heap} {L L' a e T : Addr} {m : Str → Option Value} {name : Str} {scope : Scope} {cd : Value} {oL oe oT : Obj} {vs ts : Array Value} {new rest : List (Addr × Obj)} {Q : Flow → Shared → Prop}
abbrev NoE : Value → Shared → Prop := fun _ _ => False
theorem outer_loop {test : Expr} {body : List Stmt} {pos : Pos} {E : Value → Shared → Prop} (I : Nat → Shared → Prop) (hT : ∀ (s : Shared) (Q : Bool → Shared → Prop) (E : Value → Shared → Prop), Q true s → wpAny (model prog w) A (isTrue test env (eval test env)) Q E s)
    (turn : ∀ n s, I n s → wpAny (model prog w) A (execs body env) (OT I n Q) NoE s) (n : Nat) (h : I n s) : wpAny (model prog w) A (exec (.While test body [] pos) env) Q E s := by
  refine wpAny_While (codeAny_whileLoop I (fun n s hI => hT _ _ _ ?_) n h)
  rw [if_pos rfl]
  refine wpAny_mono (turn n s hI) (fun f s' hf => ?_) fun _ _ x => x.elim
  cases f <;> exact hf
theorem hand {t : Expr} {b₀ : Stmt} {suite : List Stmt} {pos : Pos} {hs : List ExceptHandler}
    (hN : ∀ (s' : Shared) (Q : Value → Shared → Prop) (E : Value → Shared → Prop), Fr g L' s'.heap m → Q (.type "IndexError") s' → wpAny (model prog w) (A.mark (some (.ref e))) (eval t (envOf name scope L' a cd)) Q E s')
    (F : Fr g L' s.heap m) (N : News g L' s.heap ((e, oe) :: (T, oT) :: rest)) (hc : oe.cls = .type "IndexError") (hd : oe.data = .fields vs) (h1 : vs[1]? = some (.ref T)) (hdT : oT.data = .fields ts) (h3 : 3 < ts.size) (hTe : @Ne Nat T e) (hr : ∀ p ∈ rest, p.1 ≠ T)
    (k : ∀ h', Fr g L' h' m → News g L' h' rest → wpAny (model prog w) (A.mark (some (.ref e))) (execs (b₀ :: suite) (envOf name scope L' a cd)) Q NoE { s with heap := h' }) :
    wpAny (model prog w) A (setFlight (.ref e) none) (fun _ s₃ => wpAny (model prog w) A (handleBy (.ref e) (envOf name scope L' a cd) (.ExceptHandler (some t) none (b₀ :: suite) pos :: hs)) Q NoE s₃) NoE s := by
  refine flight1 F N hd h1 hdT h3 hTe hr fun h₁ oT₁ ts₁ F₁ N₁ hdT₁ h3₁ => ?_
  refine wpAny_handleBy_builtin (X := "IndexError") (T := "IndexError") (b := true) (isSubtype_of_subB (by decide +kernel)) (isSubtype_of_subB (by decide +kernel)) (isSubtype_of_subB (by decide +kernel)) (hN _ _ _ F₁ ⟨rfl, ⟨oe, (N₁ _ (.head _)).1, hc⟩, ?_⟩)
  rw [if_pos rfl]
  refine flight1 F₁ N₁ hd h1 hdT₁ (Array.getElem?_eq_some_iff.mp h3₁).1 hTe hr fun h₂ oT₂ ts₂ F₂ N₂ _ _ => ?_
  exact wpAny_mono (k h₂ F₂ fun p hp => N₂ p (.tail _ (.tail _ hp))) (fun _ _ x => x) fun _ _ x => x.elim
theorem hand_new {t : Expr} {b₀ : Stmt} {suite : List Stmt} {pos : Pos} {hs : List ExceptHandler} {tt c : Value}
    (hN : ∀ (s' : Shared) (Q : Value → Shared → Prop) (E : Value → Shared → Prop), Fr g L' s'.heap m → Q (.type "IndexError") s' → wpAny (model prog w) (A.mark (some (.ref e))) (eval t (envOf name scope L' a cd)) Q E s')
    (hfr : A.frames = some [envOf name scope L' a cd, env]) (hk : scope.kind = .function) (hke : env.scope.kind ≠ .module) (hef : env.frame = some L) (hLd : ∃ es ep, oL.data = .dict es ep)
    (keeps : ∀ b o, h.get? b = some o → s.heap.get? b = some o) (hnew : h.get? e = none) (he : s.heap.get? e = some oe) (hc : oe.cls = .type "IndexError") (hd : oe.data = .fields #[tt, .none, c, .none, .bool false, .none])
    (F : Fr g L' h m) (N : News g L' h (new ++ [(L, oL)])) (hne : ∀ p ∈ new, p.1 ≠ L)
    (k : ∀ h' sl, Fr g L' h' m → News g L' h' (new ++ [(L, { oL with slots := sl })]) → wpAny (model prog w) (A.mark (some (.ref e))) (execs (b₀ :: suite) (envOf name scope L' a cd)) Q NoE { s with heap := h' }) :
    wpAny (model prog w) A (noteFrame (.ref e) (envOf name scope L' a cd)) (fun _ s₂ => wpAny (model prog w) A (setFlight (.ref e) none) (fun _ s₃ => wpAny (model prog w) A (handleBy (.ref e) (envOf name scope L' a cd) (.ExceptHandler (some t) none (b₀ :: suite) pos :: hs)) Q NoE s₃) NoE s₂) NoE s := by
  refine note1 hfr hk hke hef hLd keeps hnew he hd rfl F N hne fun h' sl T oT ts F' N' hdT h3 hTe hTL heL hp => ?_
  refine hand hN F' N' (by rw [Obj.cls_mapFields]; exact hc) (Obj.data_mapFields hd _) (by simp) hdT (Array.getElem?_eq_some_iff.mp h3).1 hTe (fun p hp' => ?_) (fun h₂ F₂ N₂ => k h₂ sl F₂ N₂)
  rcases List.mem_append.mp hp' with q | q
  · exact (hp p q).1
  · rw [List.mem_singleton.mp q]
    exact fun z => hTL z.symm
end
/-- the loop's state: at i and j, what is gathered so far -/
def SI (g : Heap) (L' : Addr) (s₁ : Shared) (M U ex ac L : Addr) (oL : Obj) (xs ys : List Str) (n : Nat) (s : Shared) : Prop :=
  ∃ (h : Heap) (tk : Nat) (m₁ : Str → Option Value) (i j : Nat) (ti tj : Tok) (vM : List Value) (ms : List Str) (eM : Nat) (vU : List Value) (us : List Str) (eU : Nat),
    s = { s₁ with heap := h, toks := tk } ∧ Fr g L' h m₁ ∧ News g L' h [(U, listOf vU.toArray eU), (M, listOf vM.toArray eM), (L, oL)] ∧
    (m₁ (Str.ofString "expected") = some (.ref ex) ∧ m₁ (Str.ofString "actual") = some (.ref ac) ∧ m₁ (Str.ofString "i") = some (.int (i : Int) ti) ∧ m₁ (Str.ofString "j") = some (.int (j : Int) tj) ∧ m₁ (Str.ofString "missing") = some (.ref M) ∧ m₁ (Str.ofString "unexpected") = some (.ref U)) ∧
    StrsAre vM ms ∧ StrsAre vU us ∧ (i ≤ xs.length ∧ j ≤ ys.length ∧ ms.length ≤ i ∧ us.length ≤ j) ∧ n = (xs.length - i) + (ys.length - j) ∧
    ms ++ (sld (xs.drop i) (ys.drop j)).1 = (sld xs ys).1 ∧ us ++ (sld (xs.drop i) (ys.drop j)).2 = (sld xs ys).2
def SPost (xs ys : List Str) (v : Value) (more : List (Addr × Obj)) : Prop :=
  ∃ T M U vM eM vU eU, v = .ref T ∧ more = [(T, { cls := .type "tuple", data := .seq [Value.ref M, .ref U].toArray }), (U, listOf vU.toArray eU), (M, listOf vM.toArray eM)] ∧ StrsAre vM (sld xs ys).1 ∧ StrsAre vU (sld xs ys).2
theorem strs_at : ∀ {vs : List Value} {ss : List Str}, StrsAre vs ss → ∀ {i : Nat} {x : Str}, ss[i]? = some x → ∃ t, vs[i]? = some (.str x t)
  | _, _, .nil, _, _, h => by simp at h
  | _, _, .cons x t hs, 0, _, h => by
    simp at h
    subst h
    exact ⟨t, rfl⟩
  | _, _, .cons x t hs, i + 1, _, h => by
    simp at h
    obtain ⟨u, hu⟩ := strs_at hs h
    exact ⟨u, by simpa using hu⟩
theorem strs_len : ∀ {vs : List Value} {ss : List Str}, StrsAre vs ss → vs.length = ss.length
  | _, _, .nil => rfl
  | _, _, .cons _ _ hs => congrArg (· + 1) (strs_len hs)
theorem strs_drop : ∀ {vs : List Value} {ss : List Str}, StrsAre vs ss → ∀ i, StrsAre (vs.drop i) (ss.drop i)
  | _, _, h, 0 => h
  | _, _, .nil, _ + 1 => .nil
  | _, _, .cons _ _ hs, i + 1 => strs_drop hs i
theorem strs_app : ∀ {vs : List Value} {ss : List Str}, StrsAre vs ss → ∀ {vs' ss'}, StrsAre vs' ss' → StrsAre (vs ++ vs') (ss ++ ss')
  | _, _, .nil, _, _, k => k
  | _, _, .cons x t hs, _, _, k => .cons x t (strs_app hs k)
/-- what happens to an exception that comes out of the tried lines -/
def CE (prog : Program) (w : World) (A : Around) (env : Env) (hs : List ExceptHandler) (Q : Flow → Shared → Prop) (e : Value) (s : Shared) : Prop :=
  wpAny (model prog w) A (noteFrame e env) (fun _ s₂ => wpAny (model prog w) A (setFlight e none) (fun _ s₃ => wpAny (model prog w) A (handleBy e env hs) Q NoE s₃) NoE s₂) NoE s
section
variable {prog : Program} {w : World} {A : Around} {s : Shared} {env : Env} {Q : Flow → Shared → Prop}
theorem ce_passes {hs : List ExceptHandler} : PassesOwn (model prog w) A env (CE prog w A env hs Q) := by
  unfold CE
  passes_own
theorem ce_passesM {hs : List ExceptHandler} {o : Option Value} : PassesOwn (model prog w) (A.mark o) env (CE prog w A env hs Q) := by
  unfold CE
  passes_own
theorem ce_passesAt {hs : List ExceptHandler} {o : Option Value} : PassesOwnAt (model prog w) (A.mark o) A env (CE prog w A env hs Q) := by
  unfold CE
  passes_own
theorem outer_try {test t : Expr} {tb suite : List Stmt} {b₀ : Stmt} {pos pos' hp : Pos} {E : Value → Shared → Prop} (I : Nat → Shared → Prop) (Tl : Shared → Prop) (hT : ∀ (s : Shared) (Q : Bool → Shared → Prop) (E : Value → Shared → Prop), Q true s → wpAny (model prog w) A (isTrue test env (eval test env)) Q E s)
    (tail : ∀ e s, Tl s → wpAny (model prog w) (A.mark (some (.ref e))) (execs (b₀ :: suite) env) (OT I 0 Q) NoE s)
    (hTl : ∀ n e s, wpAny (model prog w) (A.mark (some (.ref e))) (execs (b₀ :: suite) env) (OT I 0 Q) NoE s → wpAny (model prog w) (A.mark (some (.ref e))) (execs (b₀ :: suite) env) (OT I n Q) NoE s)
    (turn : ∀ n s, I n s → (∀ e s', Tl s' → wpAny (model prog w) (A.mark (some (.ref e))) (execs (b₀ :: suite) env) (OT I n Q) NoE s') →
      wpAny (model prog w) A (execs tb env) (OT I n Q) (CE prog w A env [.ExceptHandler (some t) none (b₀ :: suite) hp] (OT I n Q)) s) (n : Nat) (h : I n s) :
    wpAny (model prog w) A (exec (.While test [.Try tb [.ExceptHandler (some t) none (b₀ :: suite) hp] [] [] pos'] [] pos) env) Q E s := by
  refine outer_loop I hT (fun n s hI => ?_) n h
  refine wpAny_execs_cons (wpAny_mono (Q := OT I n Q) (E := NoE) (wpAny_Try_except (wpAny_mono (turn n s hI fun e s' h' => hTl n e s' (tail e s' h')) (fun f s' hf => ?_) fun _ _ x => x)) (fun f s' hf => ?_) fun _ _ x => x)
  · cases f <;> first | exact wpAny_execs_nil hf | exact hf
  · cases f <;> first | exact wpAny_execs_nil hf | exact hf
theorem ot_up {I : Nat → Shared → Prop} {n : Nat} {M : Model} {A : Around} {c : Sem Flow} {E : Value → Shared → Prop} (h : wpAny M A c (OT I 0 Q) E s) : wpAny M A c (OT I n Q) E s := by
  refine wpAny_mono h (fun f s' hf => ?_) fun _ _ x => x
  cases f with
  | next => obtain ⟨m, hm, _⟩ := hf; exact absurd hm (Nat.not_lt_zero _)
  | cont => obtain ⟨m, hm, _⟩ := hf; exact absurd hm (Nat.not_lt_zero _)
  | brk => exact hf
  | ret v => exact hf
end
/-- where the handler starts: what is left is to be taken over -/
def TL (g : Heap) (L' : Addr) (s₁ : Shared) (M U ex ac L : Addr) (oL : Obj) (xs ys : List Str) (s : Shared) : Prop :=
  ∃ (h : Heap) (tk : Nat) (m₁ : Str → Option Value) (i j : Nat) (ti tj : Tok) (vM : List Value) (ms : List Str) (eM : Nat) (vU : List Value) (us : List Str) (eU : Nat) (sl : Array (Option Value)),
    s = { s₁ with heap := h, toks := tk } ∧ Fr g L' h m₁ ∧ News g L' h [(U, listOf vU.toArray eU), (M, listOf vM.toArray eM), (L, { oL with slots := sl })] ∧
    (m₁ (Str.ofString "expected") = some (.ref ex) ∧ m₁ (Str.ofString "actual") = some (.ref ac) ∧ m₁ (Str.ofString "i") = some (.int (i : Int) ti) ∧ m₁ (Str.ofString "j") = some (.int (j : Int) tj) ∧ m₁ (Str.ofString "missing") = some (.ref M) ∧ m₁ (Str.ofString "unexpected") = some (.ref U)) ∧
    StrsAre vM ms ∧ StrsAre vU us ∧ (i ≤ xs.length ∧ j ≤ ys.length ∧ ms.length ≤ i ∧ us.length ≤ j) ∧
    ms ++ xs.drop i = (sld xs ys).1 ∧ us ++ ys.drop j = (sld xs ys).2
end Mine
end PartX4

section PartX5
open PySem PySem.W PySem.Calls PyProof.Rows
namespace Mine
section
variable {prog : Program} {w : World} {A : Around} {E : Value → Shared → Prop} {s : Shared} {h₀ h : Heap} {L D b l : Addr} {m : Str → Option Value} {news pre post : List (Addr × Obj)} {its its2 : Array Value} {n n2 : Nat} {vs : List Value}
theorem pick_from (vs : List Value) (i : Nat) : (slicePick vs.toArray (some (i : Int)) none none).toList = vs.drop i := by
  have e : sliceBounds (some (i : Int)) none none vs.toArray.size = (((min i vs.toArray.size : Nat) : Int), ((vs.toArray.size : Nat) : Int), 1) := by
    simp only [sliceBounds, Option.getD_none, show (1 : Int) > 0 by decide, if_true, if_neg (show ¬ ((i : Int) < 0) by omega)]
    congr 1
    omega
  rw [kmk_pick_nat _ e]
  show ((vs.drop (min i vs.toArray.size)).take (vs.toArray.size - min i vs.toArray.size)) = _
  rw [List.size_toArray, kmk_drop_min, List.take_of_length_le (by rw [List.length_drop]; omega)]
theorem slice_from {value slice : Expr} {i : Nat} {u : Tok} {Q : Value → Shared → Prop} (F : Fr h₀ L s.heap m) (N : News h₀ L s.heap news) (hl : s.heap.IsList l vs.toArray) (hz : vs.length ≤ 1000)
    (h : ∀ D h', Fr h₀ L h' m → News h₀ L h' ((D, listOf (vs.drop i).toArray 0) :: news) → (∀ p ∈ news, p.1 < D) → Q (.ref D) { s with heap := h' })
    (hs : subscripted slice false (.ref l) (.ref s.heap.objs.size) = operate [.ref s.heap.objs.size, .ref l] (getItem (.ref l) (.ref s.heap.objs.size))) (ht : ∀ r, letTemporaryGo value (.ref l) r = pure ()) :
    wpAny (model prog w) A (subscriptTail value slice (.ref l) (.ref s.heap.objs.size)) Q E { s with heap := s.heap.push { cls := .type "slice", data := .fields #[.int (i : Int) u, .none, .none] } } :=
  kmk_slice_lit F N hl (.int _ _) .none (pick_from vs i) h hs ht (by rw [sizeLine_eq, List.size_toArray]; omega)
theorem ext_any {Q : Value → Shared → Prop} (F : Fr h₀ L s.heap m) (N : News h₀ L s.heap (pre ++ (D, listOf its n) :: post)) (hb : (b, listOf its2 n2) ∈ pre) (a : ∀ p ∈ pre, p.1 ≠ D) (c : ∀ p ∈ post, p.1 ≠ D) (hz : its.size + its2.size ≤ 1000)
    (k : ∀ h' n', Fr h₀ L h' m → News h₀ L h' (pre ++ (D, listOf (its ++ its2) n') :: post) → Q .none { s with heap := h' }) : wpAny (model prog w) A (call (.builtin "list.extend") [.ref D, .ref b]) Q E s := by
  have z := N (D, listOf its n) (List.mem_append.mpr (.inr (.head _)))
  have hz1 : its.size ≤ sizeLine := by rw [sizeLine_eq]; omega
  have hz2 : its.size + its2.size ≤ sizeLine + 1 := by rw [sizeLine_eq]; omega
  have hd : ¬(!its.isEmpty && Builtin.List.listTooLong (its.size + its2.size)) = true := by
    simp only [Builtin.List.listTooLong, Bool.and_eq_true, decide_eq_true_eq, not_and, gt_iff_lt, Nat.not_lt]
    intro _
    rw [sizeLine_eq]
    omega
  refine call_meets PySem.F.slot_list_extend ⟨_, z.1, rfl⟩ PySem.F.entry_list_extend (PySem.F.args_list_extend_2 _ _) (PySem.AutoSeq1.list_extend_list_list_0 D its n b its2 n2 hd hz1 hz2) ⟨z.1, (N _ (List.mem_append_left _ hb)).1, ?_⟩
  by_cases e : its2.size = 0
  · exact k _ n (F.change (Heap.SameBut.update ..) z.2.1 z.2.2) (kl_turn0 (fun x => x ++ its2) N a c rfl (by simp [e]))
  · exact k _ (n + 1) (F.change (Heap.SameBut.update ..) z.2.1 z.2.2) (kl_turn (fun x => x ++ its2) N a c rfl (by rw [Array.size_append]; omega))
end
end Mine
end PartX5

section PartX6
open PySem PySem.W PySem.Calls PyProof.Rows
namespace Mine
theorem sld_nil (ys : List Str) : sld [] ys = ([], ys) := by rw [sld]
theorem sld_nil' : ∀ xs : List Str, sld xs [] = (xs, [])
  | [] => by rw [sld]
  | x :: xs => by rw [sld]
theorem drop_at {xs : List Str} {i : Nat} {x : Str} (h : xs[i]? = some x) : xs.drop i = x :: xs.drop (i + 1) := by
  obtain ⟨hi, e⟩ := List.getElem?_eq_some_iff.mp h
  rw [List.drop_eq_getElem_cons hi, e]
section
variable {xs ys ms us R1 R2 : List Str} {i j : Nat} {x y : Str}
theorem step1 (hx : xs[i]? = some x) (hy : ys[j]? = some y) (h : lt x y) (r1 : ms ++ (sld (xs.drop i) (ys.drop j)).1 = R1) (r2 : us ++ (sld (xs.drop i) (ys.drop j)).2 = R2) :
    (ms ++ [x]) ++ (sld (xs.drop (i + 1)) (ys.drop j)).1 = R1 ∧ us ++ (sld (xs.drop (i + 1)) (ys.drop j)).2 = R2 := by
  rw [drop_at hx, drop_at hy, sld, if_pos h] at r1 r2
  rw [drop_at hy]
  exact ⟨by simpa using r1, r2⟩
theorem step2 (hx : xs[i]? = some x) (hy : ys[j]? = some y) (h : ¬ lt x y) (h' : lt y x) (r1 : ms ++ (sld (xs.drop i) (ys.drop j)).1 = R1) (r2 : us ++ (sld (xs.drop i) (ys.drop j)).2 = R2) :
    ms ++ (sld (xs.drop i) (ys.drop (j + 1))).1 = R1 ∧ (us ++ [y]) ++ (sld (xs.drop i) (ys.drop (j + 1))).2 = R2 := by
  rw [drop_at hx, drop_at hy, sld, if_neg h, if_pos h'] at r1 r2
  rw [drop_at hx]
  exact ⟨r1, by simpa using r2⟩
theorem step3 (hx : xs[i]? = some x) (hy : ys[j]? = some y) (h : ¬ lt x y) (h' : ¬ lt y x) (r1 : ms ++ (sld (xs.drop i) (ys.drop j)).1 = R1) (r2 : us ++ (sld (xs.drop i) (ys.drop j)).2 = R2) :
    ms ++ (sld (xs.drop (i + 1)) (ys.drop (j + 1))).1 = R1 ∧ us ++ (sld (xs.drop (i + 1)) (ys.drop (j + 1))).2 = R2 := by
  rw [drop_at hx, drop_at hy, sld, if_neg h, if_neg h'] at r1 r2
  exact ⟨r1, r2⟩
theorem endA (h : xs.length ≤ i) (r1 : ms ++ (sld (xs.drop i) (ys.drop j)).1 = R1) (r2 : us ++ (sld (xs.drop i) (ys.drop j)).2 = R2) : ms ++ xs.drop i = R1 ∧ us ++ ys.drop j = R2 := by
  rw [List.drop_of_length_le h, sld_nil] at r1 r2
  rw [List.drop_of_length_le h]
  exact ⟨r1, r2⟩
theorem endB (h : ys.length ≤ j) (r1 : ms ++ (sld (xs.drop i) (ys.drop j)).1 = R1) (r2 : us ++ (sld (xs.drop i) (ys.drop j)).2 = R2) : ms ++ xs.drop i = R1 ∧ us ++ ys.drop j = R2 := by
  rw [List.drop_of_length_le h, sld_nil'] at r1 r2
  rw [List.drop_of_length_le h]
  exact ⟨r1, r2⟩
theorem next_ne (hs : xs.Pairwise lt) (hx : xs[i]? = some x) (hy : xs[i + 1]? = some y) : y ≠ x := by
  obtain ⟨hi, e⟩ := List.getElem?_eq_some_iff.mp hx
  obtain ⟨hi', e'⟩ := List.getElem?_eq_some_iff.mp hy
  have := List.pairwise_iff_getElem.mp hs i (i + 1) hi hi' (Nat.lt_succ_self i)
  rw [e, e'] at this
  intro q
  rw [q] at this
  exact lt_ir x this
end
theorem env_kind {cn : Str} {cs : Scope} {L a : Addr} {ccd : Value} {cl : List (Str × Addr)} (h : cs.kind = .function) : (envX cn cs L a ccd cl).scope.kind ≠ .module := by
  show cs.kind ≠ .module
  rw [h]
  decide
theorem two_ne {L M U : Addr} {o1 o2 : Obj} (h1 : @LT.lt Nat _ L M) (h2 : @LT.lt Nat _ L U) : ∀ p ∈ [(U, o1), (M, o2)], p.1 ≠ L := by
  intro p hp
  rcases List.mem_cons.mp hp with rfl | hp
  · exact Nat.ne_of_gt h2
  · rw [List.mem_singleton.mp hp]; exact Nat.ne_of_gt h1
end Mine
end PartX6

section PartX7
open PySem PySem.W PySem.Calls PyProof.Rows
namespace Mine
/-- the facts with which the handler starts -/
def Fcts (M U ex ac : Addr) (xs ys : List Str) (m₁ : Str → Option Value) (oU oM : Obj) : Prop :=
  ∃ (i j : Nat) (ti tj : Tok) (vM : List Value) (ms : List Str) (eM : Nat) (vU : List Value) (us : List Str) (eU : Nat),
    oU = listOf vU.toArray eU ∧ oM = listOf vM.toArray eM ∧
    (m₁ (Str.ofString "expected") = some (.ref ex) ∧ m₁ (Str.ofString "actual") = some (.ref ac) ∧ m₁ (Str.ofString "i") = some (.int (i : Int) ti) ∧ m₁ (Str.ofString "j") = some (.int (j : Int) tj) ∧ m₁ (Str.ofString "missing") = some (.ref M) ∧ m₁ (Str.ofString "unexpected") = some (.ref U)) ∧
    StrsAre vM ms ∧ StrsAre vU us ∧ (i ≤ xs.length ∧ j ≤ ys.length ∧ ms.length ≤ i ∧ us.length ≤ j) ∧
    ms ++ xs.drop i = (sld xs ys).1 ∧ us ++ ys.drop j = (sld xs ys).2
theorem Fcts.tl {g h : Heap} {L' M U ex ac L : Addr} {s₁ : Shared} {oL oU oM : Obj} {xs ys : List Str} {m₁ : Str → Option Value} {tk : Nat} {sl : Array (Option Value)} (X : Fcts M U ex ac xs ys m₁ oU oM) (F : Fr g L' h m₁) (N : News g L' h [(U, oU), (M, oM), (L, { oL with slots := sl })]) :
    TL g L' s₁ M U ex ac L oL xs ys { s₁ with heap := h, toks := tk } := by
  obtain ⟨i, j, ti, tj, vM, ms, eM, vU, us, eU, rfl, rfl, X⟩ := X
  exact ⟨h, tk, m₁, i, j, ti, tj, vM, ms, eM, vU, us, eU, sl, rfl, F, N, X⟩
/-- C takes an exception that is new -/
def TakesNew (g : Heap) (L' : Addr) (s₁ : Shared) (M U ex ac L : Addr) (oL : Obj) (xs ys : List Str) (C : Value → Shared → Prop) : Prop :=
  ∀ (h h' : Heap) (tk : Nat) (e : Addr) (oe : Obj) (tt c : Value) (m : Str → Option Value) (oU oM : Obj) (new : List (Addr × Obj)) (sl : Array (Option Value)),
    (∀ b o, h.get? b = some o → h'.get? b = some o) → h.get? e = none → h'.get? e = some oe → oe.cls = .type "IndexError" → oe.data = .fields #[tt, .none, c, .none, .bool false, .none] →
    Fr g L' h m → News g L' h (new ++ [(L, { oL with slots := sl })]) → (∀ p ∈ new, p.1 ≠ L) → (U, oU) ∈ new → (M, oM) ∈ new → Fcts M U ex ac xs ys m oU oM → C (.ref e) { s₁ with heap := h', toks := tk }
/-- C takes an exception that was noted in this frame -/
def TakesHeld (g : Heap) (L' : Addr) (s₁ : Shared) (M U ex ac L : Addr) (oL : Obj) (xs ys : List Str) (C : Value → Shared → Prop) : Prop :=
  ∀ (h : Heap) (tk : Nat) (e T : Addr) (oe oT : Obj) (vs ts : Array Value) (m : Str → Option Value) (oU oM : Obj) (rest : List (Addr × Obj)) (sl : Array (Option Value)),
    oe.cls = .type "IndexError" → oe.data = .fields vs → vs[1]? = some (.ref T) → oT.data = .fields ts → ts[3]? = some (rawInt L') → @Ne Nat T e → (∀ p ∈ rest, p.1 ≠ T) →
    Fr g L' h m → News g L' h ((e, oe) :: (T, oT) :: rest) → (U, oU) ∈ rest → (M, oM) ∈ rest → (L, ({ oL with slots := sl } : Obj)) ∈ rest → Fcts M U ex ac xs ys m oU oM → C (.ref e) { s₁ with heap := h, toks := tk }
section
variable {prog : Program} {w : World} {A : Around} {s₁ s : Shared} {env : Env} {g : Heap} {L L' a M U ex ac : Addr} {name : Str} {scope : Scope} {cd : Value} {oL : Obj} {xs ys : List Str} {Q : Flow → Shared → Prop} {t : Expr} {b₀ : Stmt} {suite : List Stmt} {pos : Pos} {hs : List ExceptHandler}
theorem takes_new (hN : ∀ (e : Addr) (m : Str → Option Value) (s' : Shared) (Q : Value → Shared → Prop) (E : Value → Shared → Prop), Fr g L' s'.heap m → Q (.type "IndexError") s' → wpAny (model prog w) (A.mark (some (.ref e))) (eval t (envOf name scope L' a cd)) Q E s')
    (hfr : A.frames = some [envOf name scope L' a cd, env]) (hk : scope.kind = .function) (hke : env.scope.kind ≠ .module) (hef : env.frame = some L) (hLd : ∃ es ep, oL.data = .dict es ep)
    (tail : ∀ e s', TL g L' s₁ M U ex ac L oL xs ys s' → wpAny (model prog w) (A.mark (some (.ref e))) (execs (b₀ :: suite) (envOf name scope L' a cd)) Q NoE s') :
    TakesNew g L' s₁ M U ex ac L oL xs ys (CE prog w A (envOf name scope L' a cd) (.ExceptHandler (some t) none (b₀ :: suite) pos :: hs) Q) := by
  intro h h' tk e oe tt c m oU oM new sl keeps hnew he hc hd F N hne hU hM X
  refine hand_new (s := { s₁ with heap := h', toks := tk }) (oL := { oL with slots := sl }) (hN e m) hfr hk hke hef hLd keeps hnew he hc hd F N hne fun h₂ sl₂ F₂ N₂ => tail e _ (X.tl (sl := sl₂) F₂ fun p hp => N₂ p ?_)
  rcases List.mem_cons.mp hp with rfl | hp
  · exact List.mem_append_left _ hU
  rcases List.mem_cons.mp hp with rfl | hp
  · exact List.mem_append_left _ hM
  · exact List.mem_append_right _ hp
theorem takes_held (hN : ∀ (e : Addr) (m : Str → Option Value) (s' : Shared) (Q : Value → Shared → Prop) (E : Value → Shared → Prop), Fr g L' s'.heap m → Q (.type "IndexError") s' → wpAny (model prog w) (A.mark (some (.ref e))) (eval t (envOf name scope L' a cd)) Q E s')
    (tail : ∀ e s', TL g L' s₁ M U ex ac L oL xs ys s' → wpAny (model prog w) (A.mark (some (.ref e))) (execs (b₀ :: suite) (envOf name scope L' a cd)) Q NoE s') :
    TakesHeld g L' s₁ M U ex ac L oL xs ys (CE prog w A (envOf name scope L' a cd) (.ExceptHandler (some t) none (b₀ :: suite) pos :: hs) Q) := by
  intro h tk e T oe oT vs ts m oU oM rest sl hc hd h1 hdT h3 hTe hr F N hU hM hL X
  refine again1 (s := { s₁ with heap := h, toks := tk }) N hd h1 hdT h3 ?_
  refine hand (s := { s₁ with heap := h, toks := tk }) (hN e m) F N hc hd h1 hdT (Array.getElem?_eq_some_iff.mp h3).1 hTe hr fun h₂ F₂ N₂ => tail e _ (X.tl (sl := sl) F₂ fun p hp => N₂ p ?_)
  rcases List.mem_cons.mp hp with rfl | hp
  · exact hU
  rcases List.mem_cons.mp hp with rfl | hp
  · exact hM
  · rw [List.mem_singleton.mp hp]; exact hL
theorem outer_try2 {test : Expr} {tb : List Stmt} {pos pos' hp : Pos} {E : Value → Shared → Prop} (hT : ∀ (s : Shared) (Q : Bool → Shared → Prop) (E : Value → Shared → Prop), Q true s → wpAny (model prog w) A (isTrue test (envOf name scope L' a cd) (eval test (envOf name scope L' a cd))) Q E s)
    (hN : ∀ (e : Addr) (m : Str → Option Value) (s' : Shared) (Q : Value → Shared → Prop) (E : Value → Shared → Prop), Fr g L' s'.heap m → Q (.type "IndexError") s' → wpAny (model prog w) (A.mark (some (.ref e))) (eval t (envOf name scope L' a cd)) Q E s')
    (hfr : A.frames = some [envOf name scope L' a cd, env]) (hk : scope.kind = .function) (hke : env.scope.kind ≠ .module) (hef : env.frame = some L) (hLd : ∃ es ep, oL.data = .dict es ep)
    (tail : ∀ e s, TL g L' s₁ M U ex ac L oL xs ys s → wpAny (model prog w) (A.mark (some (.ref e))) (execs (b₀ :: suite) (envOf name scope L' a cd)) (OT (SI g L' s₁ M U ex ac L oL xs ys) 0 Q) NoE s)
    (turn : ∀ n s C, SI g L' s₁ M U ex ac L oL xs ys n s → TakesNew g L' s₁ M U ex ac L oL xs ys C → TakesHeld g L' s₁ M U ex ac L oL xs ys C → PassesOwn (model prog w) A (envOf name scope L' a cd) C → (∀ o, PassesOwn (model prog w) (A.mark o) (envOf name scope L' a cd) C) → (∀ o, PassesOwnAt (model prog w) (A.mark o) A (envOf name scope L' a cd) C) →
      wpAny (model prog w) A (execs tb (envOf name scope L' a cd)) (OT (SI g L' s₁ M U ex ac L oL xs ys) n Q) C s) (n : Nat) (h : SI g L' s₁ M U ex ac L oL xs ys n s) :
    wpAny (model prog w) A (exec (.While test [.Try tb [.ExceptHandler (some t) none (b₀ :: suite) hp] [] [] pos'] [] pos) (envOf name scope L' a cd)) Q E s :=
  outer_try (SI g L' s₁ M U ex ac L oL xs ys) (TL g L' s₁ M U ex ac L oL xs ys) hT tail (fun _ _ _ => ot_up) (fun n s hI tl => turn n s _ hI (takes_new hN hfr hk hke hef hLd tl) (takes_held hN tl) ce_passes (fun _ => ce_passesM) (fun _ => ce_passesAt)) n h
end
end Mine
end PartX7

section PartX8
open PySem PySem.W PySem.Calls PyProof.Rows
namespace Mine
section
variable {prog : Program} {w : World} {A : Around} {s : Shared} {env : Env} {g h : Heap} {L L' a e : Addr} {m : Str → Option Value} {name : Str} {scope : Scope} {cd tt : Value} {oL oe : Obj} {new : List (Addr × Obj)} {C : Value → Shared → Prop} {Q : Flow → Shared → Prop} {fs : List Stmt}
theorem fin_raised {E' : Value → Shared → Prop} (hfr : A.frames = some [envOf name scope L' a cd, env]) (hk : scope.kind = .function) (hke : env.scope.kind ≠ .module) (hef : env.frame = some L) (hLd : ∃ es ep, oL.data = .dict es ep)
    (hx : Heap.NewExc h s.heap e "IndexError") (F : Fr g L' h m) (N : News g L' h (new ++ [(L, oL)])) (hne : ∀ p ∈ new, p.1 ≠ L) (p3 : ∀ o, PassesOwnAt (model prog w) (A.mark o) A (envOf name scope L' a cd) C)
    (k : ∀ h' sl T oT ts oe' vs', Fr g L' h' m → News g L' h' ((e, oe') :: (T, oT) :: (new ++ [(L, { oL with slots := sl })])) → oe'.cls = .type "IndexError" → oe'.data = .fields vs' → vs'[1]? = some (.ref T) → vs'[2]? = some .none → oT.data = .fields ts → 3 < ts.size →
      @Ne Nat T e → @Ne Nat T L → @Ne Nat e L → (∀ p ∈ new, p.1 ≠ T ∧ p.1 ≠ e) →
      wpAny (model prog w) (A.mark (some (.ref e))) (execs fs (envOf name scope L' a cd)) (fun g s₂ => match g with | .next => wpAny (model prog w) A (PySem.passOn "try.finally" (.ref e) (envOf name scope L' a cd)) Q C s₂ | g => wpAny (model prog w) A (setFlight (.ref e) none) (fun _ s₃ => Q g s₃) C s₂) C { s with heap := h' }) :
    wpAny (model prog w) A (noteFrame (.ref e) (envOf name scope L' a cd)) (fun _ s₂ => FinallyRaised prog w A C (envOf name scope L' a cd) fs Q (.ref e) s₂) E' s := by
  obtain ⟨oe, tt, he, hc, hd⟩ := hx.there
  refine note1 hfr hk hke hef hLd hx.keeps hx.new he hd rfl F N hne fun h' sl T oT ts F' N' hdT h3 hTe hTL heL hp => ?_
  have hd' := Obj.data_mapFields hd (·.setIfInBounds 1 (Value.ref T))
  have hc' : (oe.mapFields (·.setIfInBounds 1 (Value.ref T))).cls = .type "IndexError" := by rw [Obj.cls_mapFields]; exact hc
  have hr : ∀ p ∈ new ++ [(L, { oL with slots := sl })], p.1 ≠ T := fun p hp' => by
    rcases List.mem_append.mp hp' with q | q
    · exact (hp p q).1
    · rw [List.mem_singleton.mp q]
      exact fun z => hTL z.symm
  refine ⟨ref_ne_byPass _, again1 (s := { s with heap := h' }) N' hd' (by simp) hdT h3 ?_⟩
  refine flight1 (s := { s with heap := h' }) F' N' hd' (by simp) hdT (Array.getElem?_eq_some_iff.mp h3).1 hTe hr fun h₂ oT₂ ts₂ F₂ N₂ hdT₂ h3₂ => ?_
  exact wpAny_passesOwnAt (p3 _) (k h₂ sl T oT₂ ts₂ _ _ F₂ N₂ hc' hd' (by simp) (by simp) hdT₂ (Array.getElem?_eq_some_iff.mp h3₂).1 hTe hTL heL hp)
end
end Mine
end PartX8

section PartC8
open PySem PySem.W PySem.Calls PyProof.Rows
namespace Mine
local macro_rules | `(tactic| k_steps) => `(tactic| repeat' (first | (k_unfold; (try dsimp only)) | (walk1 <;> (try dsimp only)) | fail "no step"))
local macro_rules | `(tactic| walk_at "binaryOp Mult int int") => `(tactic| (k_here; first | refine PyProof.Rows.mul_int ?_ (IntMulOk.of_left (by decide +kernel)) | refine PyProof.Rows.mul_int ?_ (IntMulOk.of_right (by decide +kernel))))
local macro_rules | `(tactic| walk_at "binaryOp Pow int int") => `(tactic| (k_here; refine pow_int_small (by decide) (by decide) (by decide) ?_))
local macro_rules | `(tactic| walk_at "subscriptTail Name Name ref int") => `(tactic| (k_here; (with_reducible show wpAny _ _ (subscriptTail _ _ (Value.ref _) (Value.int _ _)) _ _ _); first
  | k_dflt (refine' item_at ?a ?b ?c ?d ?_; (case a => exact stays_list (Fr.keep (by k_asm)) (by assumption)); (case d => assumption); (case b => omega); (case c => omega); k_whole)
  | k_dflt (refine' item_out ?z ?a ?o ?c ?_; (case a => exact stays_list (Fr.keep (by k_asm)) (by assumption)); (case z => exact rfl); (case o => omega); (case c => omega); k_whole)
  | k_dflt (refine' item_out2 ?z ?e1 ?d1 ?d2 ?a ?o ?c ?_; (case a => exact stays_list (Fr.keep (by k_asm)) (by assumption)); (case z => exact rfl); (case e1 => exact News.get (by k_asm) (by k_mem)); (case d1 => assumption); (case d2 => assumption); (case o => omega); (case c => omega); k_whole)))
local macro_rules | `(tactic| walk_at "exec While Compare") => `(tactic| (k_here; k_dflt (refine whl_start 1 ?_)))
local macro_rules | `(tactic| passes_own) => `(tactic| first | assumption | solve_by_elim)
local macro_rules | `(tactic| walk_at "WhlIf") => `(tactic| (refine WhlIf.no (by assumption) ?_))
set_option maxRecDepth 100000 in
set_option maxHeartbeats 4000000 in
theorem sld_run (w : World) (mean mg mb) (ex ac : Addr) (vx va : List Value) (xs ys : List Str) (hxs : StrsAre vx xs) (hys : StrsAre va ys) (hlx : xs.length ≤ 4) (hly : ys.length ≤ 4) (hsx : xs.Pairwise lt) (hsy : ys.Pairwise lt) : RunS w mean mg mb 2 21 ex ac vx va (SPost xs ys) := by
  w_top off
  refine fillup ?_; k_fill; intro _ _
  k_dflt (refine' run_ofS ?k6 ?k7 ?k9 ?kB ?c2 ?c3 ?c4 ?c5 ?_; (case k6 => k_is); (case k7 => k_is); (case k9 => intro s; exact BindsTo.of_eq rfl); (case c5 => decide); (case kB => exact locs rfl); (case c2 => exact rfl); (case c3 => exact rfl); (case c4 => exact rfl); k_whole)
  intro dp un gd cn cs L a ccd cl g L' oL s₁ E hck F' X' N' hoL T' hdp hun hx ha
  (try dsimp only)
  (try k_fold)
  refine wpAny_noRaise ?_
  iterate 23 (first | (k_unfold; (try dsimp only)) | (walk1 <;> (try dsimp only)))
  rename Fr _ _ _ _ => F1
  rename News _ _ _ _ => N1
  rename_i M q3 lM q2 q1 U q0 lU hh
  have hLM : @LT.lt Nat _ L M := lM
  have hMU : @LT.lt Nat _ M U := lU.1
  have hLU : @LT.lt Nat _ L U := lU.2
  have hvx := strs_len hxs
  have hva := strs_len hys
  refine outer_try2 (env := envX cn cs L a ccd cl) (L := L) (M := M) (U := U) (ex := ex) (ac := ac) (xs := xs) (ys := ys) (g := g) (s₁ := s₁) (oL := oL) ?hT ?hN ktr_frames rfl (env_kind hck) rfl hoL ?tail ?turn (xs.length + ys.length) ?h0
  case hN =>
    intro e m s' Q E F h
    obtain ⟨hp, gg, d, tk, os⟩ := s'
    k_steps
    exact h
  case hT =>
    intro s Q E h
    obtain ⟨hp, gg, d, tk, os⟩ := s
    k_steps
    exact h
  case h0 =>
    exact ⟨hh, _, _, 0, 0, _, _, [], [], _, [], [], _, rfl, F1, N1, ⟨rfl, rfl, rfl, rfl, rfl, rfl⟩, .nil, .nil, by simp, by simp, by simp, by simp⟩
  case tail =>
    clear F1 N1
    rintro e s ⟨h, tk, m₁, i, j, ti, tj, vM, ms, eM, vU, us, eU, sl, rfl, F2, N2, ⟨hm1, hm2, hm3, hm4, hm5, hm6⟩, hM, hU, ⟨hi, hj, hmi, huj⟩, hr1, hr2⟩
    have hlM := strs_len hM
    have hlU := strs_len hU
    rw [canon hm1, canon hm2, canon hm3, canon hm4, canon hm5, canon hm6] at F2
    dsimp only at F2
    clear hm1 hm2 hm3 hm4 hm5 hm6
    iterate 14 (first | (k_unfold; (try dsimp only)) | (walk1 <;> (try dsimp only)))
    refine slice_from (s := ⟨h, _, _, _, _⟩) F2 N2 (stays_list F2.keep hx) (by omega) ?_ (by with_unfolding_all rfl) (by intro _; with_unfolding_all rfl)
    intro D1 h1 F3 N3 hl3
    have hD1M : @LT.lt Nat _ M D1 := hl3 (M, _) (.tail _ (.head _))
    have hD1U : @LT.lt Nat _ U D1 := hl3 (U, _) (.head _)
    have hD1L : @LT.lt Nat _ L D1 := hl3 (L, _) (.tail _ (.tail _ (.head _)))
    clear F2 N2
    iterate 1 (first | (k_unfold; (try dsimp only)) | (walk1 <;> (try dsimp only)))
    refine ext_any (pre := [(D1, _), (U, _)]) (post := [(L, _)]) F3 N3 (.head _) ?_ ?_ ?_ ?_
    · intro p hp
      rcases List.mem_cons.mp hp with rfl | hp
      · exact Nat.ne_of_gt hD1M
      · rw [List.mem_singleton.mp hp]; exact Nat.ne_of_gt hMU
    · intro p hp
      rw [List.mem_singleton.mp hp]; exact Nat.ne_of_lt hLM
    · simp only [List.size_toArray, List.length_drop]; omega
    intro h2 n2 F4 N4
    dsimp only [List.cons_append, List.nil_append] at N4
    clear F3 N3 hl3
    iterate 15 (first | (k_unfold; (try dsimp only)) | (walk1 <;> (try dsimp only)))
    refine slice_from (s := ⟨h2, _, _, _, _⟩) F4 N4 (stays_list F4.keep ha) (by omega) ?_ (by with_unfolding_all rfl) (by intro _; with_unfolding_all rfl)
    intro D2 h3 F5 N5 hl5
    have hD2U : @LT.lt Nat _ U D2 := hl5 (U, _) (.tail _ (.head _))
    have hD2L : @LT.lt Nat _ L D2 := hl5 (L, _) (.tail _ (.tail _ (.tail _ (.head _))))
    clear F4 N4
    iterate 1 (first | (k_unfold; (try dsimp only)) | (walk1 <;> (try dsimp only)))
    refine ext_any (pre := [(D2, _), (D1, _)]) (post := [(M, _), (L, _)]) F5 N5 (.head _) ?_ ?_ ?_ ?_
    · intro p hp
      rcases List.mem_cons.mp hp with rfl | hp
      · exact Nat.ne_of_gt hD2U
      · rw [List.mem_singleton.mp hp]; exact Nat.ne_of_gt hD1U
    · intro p hp
      rcases List.mem_cons.mp hp with rfl | hp
      · exact Nat.ne_of_lt hMU
      · rw [List.mem_singleton.mp hp]; exact Nat.ne_of_lt hLU
    · simp only [List.size_toArray, List.length_drop]; omega
    intro h4 n4 F6 N6
    dsimp only [List.cons_append, List.nil_append] at N6
    clear F5 N5 hl5
    k_steps
    dsimp only [OT]
    k_steps
    rename Fr _ _ _ _ => F7
    rename News _ _ _ _ => N7
    rename_i T h5 lT
    have hTL : @LT.lt Nat _ L T := lT.2.2.2.2
    show DoneS g L' L oL s₁ (SPost xs ys) (.ref T) _
    refine DoneS.intro (sl := sl) (more := [(T, { cls := .type "tuple", data := .seq #[Value.ref M, Value.ref U] }), (U, listOf (vU.toArray ++ (va.drop j).toArray) n4), (M, listOf (vM.toArray ++ (vx.drop i).toArray) n2)]) F7 (fun p hp => N7 p ?_) (fun p hp => ?_) ⟨T, M, U, vM ++ vx.drop i, n2, vU ++ va.drop j, n4, rfl, ?_, ?_, ?_⟩
    · dsimp only [List.cons_append, List.nil_append] at hp
      simp only [List.mem_cons, List.not_mem_nil, or_false] at hp ⊢
      rcases hp with h | h | h | h
      · exact .inl h
      · exact .inr (.inr (.inr (.inl h)))
      · exact .inr (.inr (.inr (.inr (.inl h))))
      · exact .inr (.inr (.inr (.inr (.inr h))))
    · simp only [List.mem_cons, List.not_mem_nil, or_false] at hp
      rcases hp with h | h | h
      · rw [h]; exact Nat.ne_of_gt hTL
      · rw [h]; exact Nat.ne_of_gt hLU
      · rw [h]; exact Nat.ne_of_gt hLM
    · simp
    · rw [← hr1]; exact strs_app hM (strs_drop hxs i)
    · rw [← hr2]; exact strs_app hU (strs_drop hys j)
  case turn =>
    clear F1 N1
    rintro n s C ⟨h, tk, m₁, i, j, ti, tj, vM, ms, eM, vU, us, eU, rfl, F2, N2, ⟨hm1, hm2, hm3, hm4, hm5, hm6⟩, hM, hU, ⟨hi, hj, hmi, huj⟩, hn, hr1, hr2⟩ tn th p1 p2 p3
    have hlM := strs_len hM
    have hlU := strs_len hU
    rw [canon hm1, canon hm2, canon hm3, canon hm4, canon hm5, canon hm6] at F2
    dsimp only at F2
    clear hm1 hm2 hm3 hm4 hm5 hm6
    have hSS : StrsAre vM ms ∧ StrsAre vU us := ⟨hM, hU⟩
    have hTT : StrsAre vx xs ∧ StrsAre va ys := ⟨hxs, hys⟩
    clear hM hU hxs hys
    by_cases hA : xs.length ≤ i
    · have ho1 : (vx.length : Int) ≤ (i : Int) := by omega
      k_steps
      rename_i h9 tk9 e9 hx9
      obtain ⟨oe, tt, he, hc, hd⟩ := hx9.there
      obtain ⟨r1, r2⟩ := endA hA hr1 hr2
      exact tn h h9 tk9 e9 oe tt _ _ _ _ [(U, _), (M, _)] oL.slots hx9.keeps hx9.new he hc hd F2 N2 (two_ne hLM hLU) (.head _) (.tail _ (.head _)) ⟨i, j, ti, tj, vM, ms, eM, vU, us, eU, rfl, rfl, ⟨rfl, rfl, rfl, rfl, rfl, rfl⟩, hSS.1, hSS.2, ⟨hi, hj, hmi, huj⟩, r1, r2⟩
    obtain ⟨x, hxi⟩ : ∃ x, xs[i]? = some x := ⟨xs[i]'(by omega), by simp⟩
    obtain ⟨tx, hvi'⟩ := strs_at hTT.1 hxi
    have hvi : vx[((i : Int)).toNat]? = some (.str x tx) := hvi'
    by_cases hB : ys.length ≤ j
    · have ho1 : (va.length : Int) ≤ (j : Int) := by omega
      k_steps
      rename_i h9 tk9 e9 hx9
      rename Fr _ _ _ _ => F3
      rename News _ _ _ _ => N3
      obtain ⟨oe, tt, he, hc, hd⟩ := hx9.there
      obtain ⟨r1, r2⟩ := endB hB hr1 hr2
      exact tn _ h9 tk9 e9 oe tt _ _ _ _ [(U, _), (M, _)] oL.slots hx9.keeps hx9.new he hc hd F3 N3 (two_ne hLM hLU) (.head _) (.tail _ (.head _)) ⟨i, j, ti, tj, vM, ms, eM, vU, us, eU, rfl, rfl, ⟨rfl, rfl, rfl, rfl, rfl, rfl⟩, hSS.1, hSS.2, ⟨hi, hj, hmi, huj⟩, r1, r2⟩
    obtain ⟨y, hyj⟩ : ∃ y, ys[j]? = some y := ⟨ys[j]'(by omega), by simp⟩
    obtain ⟨ty', hvj'⟩ := strs_at hTT.2 hyj
    have hvj : va[((j : Int)).toNat]? = some (.str y ty') := hvj'
    iterate 24 (first | (k_unfold; (try dsimp only)) | (walk1 <;> (try dsimp only)))
    · rename_i hlt0
      have hlt : lt x y := hlt0
      clear hlt0
      obtain ⟨r1, r2⟩ := step1 hxi hyj hlt hr1 hr2
      by_cases hC : xs.length ≤ i + 1
      · have ho1 : (vx.length : Int) ≤ (i : Int) + 1 := by omega
        iterate 25 (first | (k_unfold; (try dsimp only)) | (walk1 <;> (try dsimp only)))
        intro h9 tk9 e9 hx9
        rename Fr _ _ _ _ => F3
        rename News _ _ _ _ => N3
        obtain ⟨oe, tt, he, hc, hd⟩ := hx9.there
        obtain ⟨q1, q2⟩ := endA hC r1 r2
        exact tn _ h9 tk9 e9 oe tt _ _ _ _ [(U, _), (M, _)] oL.slots hx9.keeps hx9.new he hc hd F3 N3 (two_ne hLM hLU) (.head _) (.tail _ (.head _)) ⟨i + 1, j, _, tj, vM ++ [.str x tx], ms ++ [x], _, vU, us, eU, rfl, by rw [List.push_toArray], ⟨rfl, rfl, rfl, rfl, rfl, rfl⟩, strs_app hSS.1 (.cons x tx .nil), hSS.2, ⟨by omega, hj, by simp; omega, huj⟩, q1, q2⟩
      obtain ⟨x', hxi'⟩ : ∃ x', xs[i + 1]? = some x' := ⟨xs[i + 1]'(by omega), by simp⟩
      obtain ⟨tx', hvi1'⟩ := strs_at hTT.1 hxi'
      have hvi1 : vx[((i : Int) + 1).toNat]? = some (.str x' tx') := hvi1'
      have hne : (x' == x) = false := by simpa using next_ne hsx hxi hxi'
      iterate 28 (first | (k_unfold; (try dsimp only)) | (walk1 <;> (try dsimp only)))
      refine WhlIf.no hne ?_
      k_steps
      rename Fr _ _ _ _ => F3
      rename News _ _ _ _ => N3
      rw [List.push_toArray] at N3
      exact ⟨(xs.length - (i + 1)) + (ys.length - j), by omega, _, _, _, i + 1, j, _, tj, vM ++ [.str x tx], ms ++ [x], _, vU, us, eU, rfl, F3, N3, ⟨rfl, rfl, rfl, rfl, rfl, rfl⟩, strs_app hSS.1 (.cons x tx .nil), hSS.2, ⟨by omega, hj, by simp; omega, huj⟩, rfl, r1, r2⟩
    rename_i hnlt0
    have hnlt : ¬ lt x y := hnlt0
    clear hnlt0
    iterate 8 (first | (k_unfold; (try dsimp only)) | (walk1 <;> (try dsimp only)))
    · rename_i hgt0
      have hgt : lt y x := hgt0
      clear hgt0
      obtain ⟨r1, r2⟩ := step2 hxi hyj hnlt hgt hr1 hr2
      by_cases hC : ys.length ≤ j + 1
      · have ho1 : (va.length : Int) ≤ (j : Int) + 1 := by omega
        iterate 25 (first | (k_unfold; (try dsimp only)) | (walk1 <;> (try dsimp only)))
        intro h9 tk9 e9 hx9
        rename Fr _ _ _ _ => F3
        rename News _ _ _ _ => N3
        obtain ⟨oe, tt, he, hc, hd⟩ := hx9.there
        obtain ⟨q1, q2⟩ := endB hC r1 r2
        exact tn _ h9 tk9 e9 oe tt _ _ _ _ [(U, _), (M, _)] oL.slots hx9.keeps hx9.new he hc hd F3 N3 (two_ne hLM hLU) (.head _) (.tail _ (.head _)) ⟨i, j + 1, ti, _, vM, ms, eM, vU ++ [.str y ty'], us ++ [y], _, by rw [List.push_toArray], rfl, ⟨rfl, rfl, rfl, rfl, rfl, rfl⟩, hSS.1, strs_app hSS.2 (.cons y ty' .nil), ⟨hi, by omega, hmi, by simp; omega⟩, q1, q2⟩
      obtain ⟨y', hyj'⟩ : ∃ y', ys[j + 1]? = some y' := ⟨ys[j + 1]'(by omega), by simp⟩
      obtain ⟨ty1, hvj1'⟩ := strs_at hTT.2 hyj'
      have hvj1 : va[((j : Int) + 1).toNat]? = some (.str y' ty1) := hvj1'
      have hne : (y' == y) = false := by simpa using next_ne hsy hyj hyj'
      iterate 28 (first | (k_unfold; (try dsimp only)) | (walk1 <;> (try dsimp only)))
      refine WhlIf.no hne ?_
      k_steps
      rename Fr _ _ _ _ => F3
      rename News _ _ _ _ => N3
      rw [List.push_toArray] at N3
      exact ⟨(xs.length - i) + (ys.length - (j + 1)), by omega, _, _, _, i, j + 1, ti, _, vM, ms, eM, vU ++ [.str y ty'], us ++ [y], _, rfl, F3, N3, ⟨rfl, rfl, rfl, rfl, rfl, rfl⟩, hSS.1, strs_app hSS.2 (.cons y ty' .nil), ⟨hi, by omega, hmi, by simp; omega⟩, rfl, r1, r2⟩
    rename_i hngt0
    have hngt : ¬ lt y x := hngt0
    clear hngt0
    obtain ⟨r1, r2⟩ := step3 hxi hyj hnlt hngt hr1 hr2
    iterate 9 (first | (k_unfold; (try dsimp only)) | (walk1 <;> (try dsimp only)))
    by_cases hC : xs.length ≤ i + 1
    · have ho1 : (vx.length : Int) ≤ (i : Int) + 1 := by omega
      k_steps
      rename_i h9 tk9 e9 hx9
      rename Fr _ _ _ _ => F3
      rename News _ _ _ _ => N3
      refine fin_raised (s := ⟨h9, _, _, _, _⟩) (new := [(U, _), (M, _)]) (env := envX cn cs L a ccd cl) (L := L) (oL := oL) ktr_frames rfl (env_kind hck) rfl hoL hx9 F3 N3 (two_ne hLM hLU) p3 ?_
      intro h4 sl T oT ts oe vs F4 N4 hc hd h1 h2 hdT h3 hTe hTL heL hp
      clear F3 N3
      have hUT : @Ne Nat U T := (hp (U, _) (.head _)).1
      have hUe : @Ne Nat U e9 := (hp (U, _) (.head _)).2
      have hMT : @Ne Nat M T := (hp (M, _) (.tail _ (.head _))).1
      have hMe : @Ne Nat M e9 := (hp (M, _) (.tail _ (.head _))).2
      dsimp only [List.cons_append, List.nil_append] at N4
      by_cases hD : ys.length ≤ j + 1
      · have ho2 : (va.length : Int) ≤ (j : Int) + 1 := by omega
        k_steps
        rename_i h8 tk8 e8 hx8
        rename Fr _ _ _ _ => F5
        rename News _ _ _ _ => N5
        obtain ⟨oe8, tt8, he8, hc8, hd8⟩ := hx8.there
        obtain ⟨q1, q2⟩ := endA hC r1 r2
        refine tn _ h8 tk8 e8 oe8 tt8 _ _ _ _ [(e9, _), (T, _), (U, _), (M, _)] sl hx8.keeps hx8.new he8 hc8 hd8 F5 N5 (fun p hp' => ?_) (.tail _ (.tail _ (.head _))) (.tail _ (.tail _ (.tail _ (.head _)))) ⟨i + 1, j + 1, _, _, vM, ms, eM, vU, us, eU, rfl, rfl, ⟨rfl, rfl, rfl, rfl, rfl, rfl⟩, hSS.1, hSS.2, ⟨by omega, by omega, by omega, by omega⟩, q1, q2⟩
        rcases List.mem_cons.mp hp' with rfl | hp'
        · exact heL
        rcases List.mem_cons.mp hp' with rfl | hp'
        · exact hTL
        · exact two_ne hLM hLU p hp'
      obtain ⟨y', hyj'⟩ : ∃ y', ys[j + 1]? = some y' := ⟨ys[j + 1]'(by omega), by simp⟩
      obtain ⟨ty1, hvj1'⟩ := strs_at hTT.2 hyj'
      have hvj1 : va[((j : Int) + 1).toNat]? = some (.str y' ty1) := hvj1'
      have hne : (y' == y) = false := by simpa using next_ne hsy hyj hyj'
      k_steps
      rename Fr _ _ _ _ => F5
      rename News _ _ _ _ => N5
      have hrT : ∀ p ∈ [(U, listOf vU.toArray eU), (M, listOf vM.toArray eM), (L, ({ oL with slots := sl } : Obj))], p.1 ≠ T := fun p hp' => by
        rcases List.mem_cons.mp hp' with rfl | hp'
        · exact hUT
        rcases List.mem_cons.mp hp' with rfl | hp'
        · exact hMT
        · rw [List.mem_singleton.mp hp']; exact fun z => hTL z.symm
      refine pass1 F5 N5 hd h1 hdT h3 hTe hrT fun h6 oT6 ts6 F6 N6 hdT6 h36 => ?_
      obtain ⟨q1, q2⟩ := endA hC r1 r2
      exact th h6 _ e9 T oe oT6 vs ts6 _ _ _ _ sl hc hd h1 hdT6 h36 hTe hrT F6 N6 (.head _) (.tail _ (.head _)) (.tail _ (.tail _ (.head _))) ⟨i + 1, j + 1, _, _, vM, ms, eM, vU, us, eU, rfl, rfl, ⟨rfl, rfl, rfl, rfl, rfl, rfl⟩, hSS.1, hSS.2, ⟨by omega, by omega, by omega, by omega⟩, q1, q2⟩
    obtain ⟨x', hxi'⟩ : ∃ x', xs[i + 1]? = some x' := ⟨xs[i + 1]'(by omega), by simp⟩
    obtain ⟨tx', hvi1'⟩ := strs_at hTT.1 hxi'
    have hvi1 : vx[((i : Int) + 1).toNat]? = some (.str x' tx') := hvi1'
    have hnx : (x' == x) = false := by simpa using next_ne hsx hxi hxi'
    by_cases hD : ys.length ≤ j + 1
    · have ho2 : (va.length : Int) ≤ (j : Int) + 1 := by omega
      k_steps
      rename_i h8 tk8 e8 hx8
      rename Fr _ _ _ _ => F5
      rename News _ _ _ _ => N5
      obtain ⟨oe8, tt8, he8, hc8, hd8⟩ := hx8.there
      obtain ⟨q1, q2⟩ := endB hD r1 r2
      exact p1 _ _ (tn _ h8 tk8 e8 oe8 tt8 _ _ _ _ [(U, _), (M, _)] oL.slots hx8.keeps hx8.new he8 hc8 hd8 F5 N5 (two_ne hLM hLU) (.head _) (.tail _ (.head _)) ⟨i + 1, j + 1, _, _, vM, ms, eM, vU, us, eU, rfl, rfl, ⟨rfl, rfl, rfl, rfl, rfl, rfl⟩, hSS.1, hSS.2, ⟨by omega, by omega, by omega, by omega⟩, q1, q2⟩)
    obtain ⟨y', hyj'⟩ : ∃ y', ys[j + 1]? = some y' := ⟨ys[j + 1]'(by omega), by simp⟩
    obtain ⟨ty1, hvj1'⟩ := strs_at hTT.2 hyj'
    have hvj1 : va[((j : Int) + 1).toNat]? = some (.str y' ty1) := hvj1'
    have hne : (y' == y) = false := by simpa using next_ne hsy hyj hyj'
    k_steps
    rename Fr _ _ _ _ => F5
    rename News _ _ _ _ => N5
    exact ⟨(xs.length - (i + 1)) + (ys.length - (j + 1)), by omega, _, _, _, i + 1, j + 1, _, _, vM, ms, eM, vU, us, eU, rfl, F5, N5, ⟨rfl, rfl, rfl, rfl, rfl, rfl⟩, hSS.1, hSS.2, ⟨by omega, by omega, by omega, by omega⟩, rfl, r1, r2⟩
end Mine
end PartC8

section PartX9
open PySem PySem.W PySem.Calls PyProof.Rows
namespace Mine
section
variable {prog : Program} {w : World} {A : Around} {E : Value → Shared → Prop} {s : Shared} {h₀ h : Heap} {L D b l : Addr} {m : Str → Option Value} {news : List (Addr × Obj)} {vs : List Value}
theorem pick_to (vs : List Value) (i : Nat) : (slicePick vs.toArray none (some (i : Int)) none).toList = vs.take i := by
  have e : sliceBounds none (some (i : Int)) none vs.toArray.size = (((0 : Nat) : Int), ((min i vs.toArray.size : Nat) : Int), 1) := by
    simp only [sliceBounds, Option.getD_none, show (1 : Int) > 0 by decide, if_true, if_neg (show ¬ ((i : Int) < 0) by omega)]
    congr 2
    omega
  rw [kmk_pick_nat _ e]
  show ((vs.drop 0).take (min i vs.toArray.size - 0)) = _
  rw [List.size_toArray, Nat.sub_zero, List.drop_zero, kmk_take_min]
theorem slice_to {value slice : Expr} {i : Nat} {u : Tok} {Q : Value → Shared → Prop} (F : Fr h₀ L s.heap m) (N : News h₀ L s.heap news) (hl : s.heap.IsList l vs.toArray) (hz : vs.length ≤ 1000)
    (h : ∀ D h', Fr h₀ L h' m → News h₀ L h' ((D, listOf (vs.take i).toArray 0) :: news) → (∀ p ∈ news, p.1 < D) → Q (.ref D) { s with heap := h' })
    (hs : subscripted slice false (.ref l) (.ref s.heap.objs.size) = operate [.ref s.heap.objs.size, .ref l] (getItem (.ref l) (.ref s.heap.objs.size))) (ht : ∀ r, letTemporaryGo value (.ref l) r = pure ()) :
    wpAny (model prog w) A (subscriptTail value slice (.ref l) (.ref s.heap.objs.size)) Q E { s with heap := s.heap.push { cls := .type "slice", data := .fields #[.none, .int (i : Int) u, .none] } } :=
  kmk_slice_lit F N hl .none (.int _ _) (pick_to vs i) h hs ht (by rw [sizeLine_eq, List.size_toArray]; omega)
end
theorem ints_take : ∀ {vs : List Value} {ns : List Int}, IntsAre vs ns → ∀ i, IntsAre (vs.take i) (ns.take i)
  | _, _, _, 0 => .nil
  | _, _, .nil, _ + 1 => .nil
  | _, _, .cons x t hs, i + 1 => .cons x t (ints_take hs i)
end Mine
end PartX9

section PartT6
open PySem PySem.W PySem.Calls PyProof.Rows PyProof.Rows.LCg PyProof.Rows.LCt
namespace Mine
section
variable {prog : Program} {w : World} {A : Around} {s : Shared} {h₀ : Heap} {L : Addr} {m : Str → Option Value} {env : Env}
/-- one turn of a comprehension with a test: what the test's answer leads to -/
def TestTo (prog : Program) (w : World) (A : Around) (e : Env) (elt : Expr) (Y N : Value → Shared → Prop) (E' : Value → Shared → Prop) (ok : Bool) (s' : Shared) : Prop :=
  if ok = true then wpAny (model prog w) A (eval elt e) Y E' s' else N Value.none s'
theorem TestTo.yes {e : Env} {elt : Expr} {Y N : Value → Shared → Prop} {E' : Value → Shared → Prop} {ok : Bool} {s' : Shared} (hk : ok = true) (h : wpAny (model prog w) A (eval elt e) Y E' s') : TestTo prog w A e elt Y N E' ok s' := by
  unfold TestTo
  rw [if_pos hk]
  exact h
theorem TestTo.no {e : Env} {elt : Expr} {Y N : Value → Shared → Prop} {E' : Value → Shared → Prop} {ok : Bool} {s' : Shared} (hk : ok = false) (h : N Value.none s') : TestTo prog w A e elt Y N E' ok s' := by
  unfold TestTo
  rw [hk]
  exact h
theorem compT_rest {ct elt : Expr} {x : Str} {scope : Scope} {cl : List (Str × Addr)} {S : List (Addr × Obj) → Prop} {P : Nat → Value → Prop} {Fin : List Value → List (Addr × Obj) → Prop} {n : Nat} {J : Nat → List Value → List (Addr × Obj) → Prop}
    (step : ∀ i ys news v I oI C oC D m₂ h tk (E' : Value → Shared → Prop), i < n → J i ys news → P i v → NsObj oC m₂ → m₂ x = some v → Fr h₀ L h m → News h₀ L h ((I, oI) :: (C, oC) :: (D, lst ys) :: news) → Off3 I C D news → ((@Ne Nat I C) ∧ (@Ne Nat I D) ∧ (@Ne Nat C D)) →
      wpAny (model prog w) A (isTrue ct (compEnvC scope cl C env) (eval ct (compEnvC scope cl C env)))
        (TestTo prog w A (compEnvC scope cl C env) elt (Item h₀ L m { s with heap := h, toks := tk } I oI C oC D (lst ys) S (fun y news' => J (i + 1) (ys ++ [y]) news')) (Item h₀ L m { s with heap := h, toks := tk } I oI C oC D (lst ys) S (fun _ news' => J (i + 1) ys news')) E') E' { s with heap := h, toks := tk })
    (fin : ∀ ys news, J n ys news → Fin ys news) : ∀ k i ys news, i + k = n → J i ys news → CompRestT prog w A h₀ L m env ct elt x scope cl s S P Fin k i ys news
  | 0, i, ys, news, e, hJ => CompRestT.zero (fin ys news (by rw [← e]; exact hJ))
  | k + 1, i, ys, news, e, hJ => CompRestT.succ fun v I oI C oC D m₂ h tk E' hP hN hx F N off hne =>
    wpAny_mono (step i ys news v I oI C oC D m₂ h tk E' (by omega) hJ hP hN hx F N off hne) (fun ok s₂ hc => by
      unfold TestTo at hc
      split
      · rename_i hok
        rw [if_pos hok] at hc
        refine wpAny_mono hc (fun y s₃ hy => ?_) fun _ _ q => q
        obtain ⟨h', tk', news', e', F', N', off', hS, hj⟩ := hy
        exact ⟨h', tk', news', e', F', N', off', hS, compT_rest step fin k (i + 1) (ys ++ [y]) news' (by omega) hj⟩
      · rename_i hok
        rw [if_neg hok] at hc
        obtain ⟨h', tk', news', e', F', N', off', hS, hj⟩ := hc
        exact ⟨h', tk', news', e', F', N', off', hS, compT_rest step fin k (i + 1) ys news' (by omega) hj⟩) fun _ _ q => q
end
end Mine
end PartT6

section PartT7
open PySem PySem.W PySem.Calls PyProof.Rows PySem.Spec
namespace Mine
theorem eqvAll_strs : ∀ a : List Str, PyData.eqvAll (a.map .str) (a.map .str) = true
  | [] => rfl
  | x :: r => by simp only [List.map_cons, PyData.eqvAll, PyData.eqv, eqvAll_strs r, beq_self_eq_true, Bool.and_self]
def two2 (c : List PyData → PyData) (y1 y2 : List Str) : PyData := c [.list (y1.map .str), .list (y2.map .str)]
theorem shaped_strs2 {y1 y2 : List Str} (h1 : y1.all PyData.strOk = true) (h2 : y2.all PyData.strOk = true) : SeqAt.shaped (.list [.list (y1.map .str), .list (y2.map .str)]) = true := by
  simp only [SeqAt.shaped, PyData.canLay0, PyData.canLayAll0, canLayAll_strs', PyData.depth, PyData.depthAll, depthAll_strs', h1, h2]
  decide
theorem shaped_pairs {y1 y2 y3 y4 : List Str} (h1 : y1.all PyData.strOk = true) (h2 : y2.all PyData.strOk = true) (h3 : y3.all PyData.strOk = true) (h4 : y4.all PyData.strOk = true) :
    SeqAt.shaped (.list [.tuple [.list (y1.map .str), .list (y2.map .str)], .tuple [.list (y3.map .str), .list (y4.map .str)]]) = true := by
  simp only [SeqAt.shaped, PyData.canLay0, PyData.canLayAll0, canLayAll_strs', PyData.depth, PyData.depthAll, depthAll_strs', h1, h2, h3, h4]
  decide
section
variable {prog : Program} {w : World} {A : Around} {E : Value → Shared → Prop} {s : Shared} {a b : Addr} {Q : Value → Shared → Prop} {as bs : List Addr}
theorem ne_lists {y1 y2 y3 y4 : List Str} (ra : Reads s.heap (.ref a) (.list [.list (y1.map .str), .list (y2.map .str)]) as) (rb : Reads s.heap (.ref b) (.list [.list (y3.map .str), .list (y4.map .str)]) bs)
    (h1 : y1.all PyData.strOk = true) (h2 : y2.all PyData.strOk = true) (e1 : y1 = y3) (e2 : y2 = y4) (hu : A.units + 64 < cLine) (h : Q (.bool false) s) : wpAny (model prog w) A (compareOp .NotEq (.ref a) (.ref b)) Q E s := by
  subst e1 e2
  refine ne_dataH ra rb (shaped_strs2 h1 h2) (shaped_strs2 h1 h2) hu ?_
  simp only [PyData.eqvAll, PyData.eqv, eqvAll_strs, Bool.and_self, Bool.not_true]
  exact h
theorem eq_pairs {y1 y2 y3 y4 z1 z2 z3 z4 : List Str} (ra : Reads s.heap (.ref a) (.list [.tuple [.list (y1.map .str), .list (y2.map .str)], .tuple [.list (y3.map .str), .list (y4.map .str)]]) as) (rb : Reads s.heap (.ref b) (.list [.tuple [.list (z1.map .str), .list (z2.map .str)], .tuple [.list (z3.map .str), .list (z4.map .str)]]) bs)
    (h1 : y1.all PyData.strOk = true) (h2 : y2.all PyData.strOk = true) (h3 : y3.all PyData.strOk = true) (h4 : y4.all PyData.strOk = true) (e1 : y1 = z1) (e2 : y2 = z2) (e3 : y3 = z3) (e4 : y4 = z4) (hu : A.units + 64 < cLine) (h : Q (.bool true) s) : wpAny (model prog w) A (compareOp .Eq (.ref a) (.ref b)) Q E s := by
  subst e1 e2 e3 e4
  refine eq_dataH ra rb (shaped_pairs h1 h2 h3 h4) (shaped_pairs h1 h2 h3 h4) hu ?_
  simp only [PyData.eqvAll, PyData.eqv, eqvAll_strs, Bool.and_self]
  exact h
end
theorem reads_strs {h : Heap} {a : Addr} {o : Obj} {vs : List Value} {ss : List Str} {n : Nat} (ho : h.get? a = some o) (hc : o.cls = .type "list") (hd : o.data = .seq vs.toArray n) (hS : StrsAre vs ss) : Reads h (.ref a) (.list (ss.map .str)) [a] :=
  reads_list_at ho hc hd (hS.reads h)
theorem reads_two {h : Heap} {a b c : Addr} {o : Obj} {n : Nat} {d1 d2 : PyData} {as bs : List Addr} (ho : h.get? a = some o) (hc : o.cls = .type "list") (hd : o.data = .seq #[.ref b, .ref c] n) (hb : Reads h (.ref b) d1 as) (hc' : Reads h (.ref c) d2 bs) : Reads h (.ref a) (.list [d1, d2]) (a :: (as ++ (bs ++ []))) :=
  reads_list_at ho hc hd (.cons hb (.cons hc' .nil))
theorem reads_twoT {h : Heap} {a b c : Addr} {o : Obj} {n : Nat} {d1 d2 : PyData} {as bs : List Addr} (ho : h.get? a = some o) (hc : o.cls = .type "tuple") (hd : o.data = .seq #[.ref b, .ref c] n) (hb : Reads h (.ref b) d1 as) (hc' : Reads h (.ref c) d2 bs) : Reads h (.ref a) (.tuple [d1, d2]) (as ++ (bs ++ [])) :=
  reads_tuple_at ho hc hd (.cons hb (.cons hc' .nil))
end Mine
end PartT7

section PartB2
open PySem PySem.W PySem.Calls PyProof.Rows
namespace Mine
/-- the rows that are there -/
def flt (l : List Str) : List Str := l.filter fun r => !(r == Str.ofString "")
def lostT (A B : List Str) : Nat → List Str
  | 0 => []
  | i + 1 => match A[i]?, B[i]? with
    | some a, some b => if (a == b) = true then lostT A B i else lostT A B i ++ [a]
    | _, _ => lostT A B i
def overT (A B : List Str) : Nat → List Str
  | 0 => []
  | i + 1 => match A[i]?, B[i]? with
    | some a, some b => if (a == b) = true then overT A B i else if (b == Str.ofString "") = true then overT A B i else overT A B i ++ [b]
    | _, _ => overT A B i
def m4 : List (Option Int) := [some 33188, some 16877, some 35309, some 17407]
/-- a list that is there at most in order -/
abbrev Up (l : List Str) : Prop := l.Pairwise fun a b => ¬ lt b a
theorem up_eq {a b : List Str} (p : a.Perm b) (ha : Up a) (hb : Up b) : a = b :=
  List.Perm.eq_of_pairwise (fun _ _ _ _ h1 h2 => lt_tot h2 h1) ha hb p
theorem up_strict {a r : List Str} (p : a.Perm r) (hn : r.Nodup) (ha : Up a) : a.Pairwise lt := by
  have h : a.Nodup := p.nodup_iff.mpr hn
  refine List.Pairwise.imp (fun h => ?_) (List.Pairwise.and ha h)
  exact Decidable.byContradiction fun q => h.2 (lt_tot q h.1)
theorem lt_up {a : List Str} (h : a.Pairwise lt) : Up a := h.imp fun h => lt_as h
theorem rising_up : ∀ (p : Str) (l : List Str), risingS p l = true → Up (p :: l)
  | p, [], _ => List.pairwise_singleton _ _
  | p, x :: r, h => by
    unfold risingS at h
    rw [Bool.and_eq_true, Bool.not_eq_true', ltCps_eq, decide_eq_false_iff_not] at h
    have ih := rising_up x r h.2
    refine List.pairwise_cons.mpr ⟨fun y hy => ?_, ih⟩
    rcases List.mem_cons.mp hy with rfl | hy
    · exact h.1
    · exact nlt_tr (b := x) h.1 (List.rel_of_pairwise_cons ih hy)
theorem sorted_up : ∀ {l : List Str}, sortedS l = true → Up l
  | [], _ => .nil
  | p :: l, h => rising_up p l h
theorem ok_perm {a b : List Str} (p : a.Perm b) (h : b.all PyData.strOk = true) : a.all PyData.strOk = true := by rw [all_perm' p]; exact h
/-- the merge of two strictly rising lists parts them -/
theorem sld_filter : ∀ (n : Nat) (xs ys : List Str), xs.length + ys.length ≤ n → xs.Pairwise lt → ys.Pairwise lt →
    (sld xs ys).1 = xs.filter (fun x => decide (x ∉ ys)) ∧ (sld xs ys).2 = ys.filter (fun y => decide (y ∉ xs))
  | _, [], ys, _, _, _ => by
    rw [sld_nil]
    exact ⟨rfl, (List.filter_eq_self.mpr fun y _ => by simp).symm⟩
  | _, x :: xs, [], _, _, _ => by
    rw [sld_nil']
    exact ⟨(List.filter_eq_self.mpr fun y _ => by simp).symm, rfl⟩
  | 0, x :: xs, y :: ys, h, _, _ => by simp at h
  | n + 1, x :: xs, y :: ys, h, hx, hy => by
    simp only [List.length_cons] at h
    have hx1 := fun z (hz : z ∈ xs) => List.rel_of_pairwise_cons hx hz
    have hy1 := fun z (hz : z ∈ ys) => List.rel_of_pairwise_cons hy hz
    have hx2 := (List.pairwise_cons.mp hx).2
    have hy2 := (List.pairwise_cons.mp hy).2
    rw [sld]
    split
    · rename_i hlt
      obtain ⟨i1, i2⟩ := sld_filter n xs (y :: ys) (by simp only [List.length_cons]; omega) hx2 hy
      have hn : x ∉ y :: ys := fun hm => by
        rcases List.mem_cons.mp hm with e | hm
        · exact lt_ir x (e ▸ hlt)
        · exact lt_as hlt (hy1 x hm)
      refine ⟨?_, ?_⟩
      · rw [List.filter_cons, if_pos (decide_eq_true hn)]
        exact congrArg (x :: ·) i1
      · show (sld xs (y :: ys)).2 = _
        rw [i2]
        refine List.filter_congr fun z hz => ?_
        have : z ≠ x := fun e => hn (e ▸ hz)
        simp [this]
    · rename_i hnlt
      split
      · rename_i hgt
        obtain ⟨i1, i2⟩ := sld_filter n (x :: xs) ys (by simp only [List.length_cons]; omega) hx hy2
        have hn : y ∉ x :: xs := fun hm => by
          rcases List.mem_cons.mp hm with e | hm
          · exact lt_ir y (e ▸ hgt)
          · exact lt_as hgt (hx1 y hm)
        refine ⟨?_, ?_⟩
        · show (sld (x :: xs) ys).1 = _
          rw [i1]
          refine List.filter_congr fun z hz => ?_
          have : z ≠ y := fun e => hn (e ▸ hz)
          simp [this]
        · rw [List.filter_cons, if_pos (decide_eq_true hn)]
          exact congrArg (y :: ·) i2
      · rename_i hngt
        have e := lt_tot hnlt hngt
        subst e
        obtain ⟨i1, i2⟩ := sld_filter n xs ys (by omega) hx2 hy2
        refine ⟨?_, ?_⟩
        · rw [List.filter_cons, if_neg (by simp), i1]
          refine List.filter_congr fun z hz => ?_
          have : z ≠ x := fun e => lt_ir x (e ▸ hx1 z hz)
          simp [this]
        · rw [List.filter_cons, if_neg (by simp), i2]
          refine List.filter_congr fun z hz => ?_
          have : z ≠ x := fun e => lt_ir x (e ▸ hy1 z hz)
          simp [this]
theorem sld_swap {xs ys : List Str} (hx : xs.Pairwise lt) (hy : ys.Pairwise lt) : sld ys xs = ((sld xs ys).2, (sld xs ys).1) := by
  obtain ⟨a1, a2⟩ := sld_filter _ xs ys (Nat.le_refl _) hx hy
  obtain ⟨b1, b2⟩ := sld_filter _ ys xs (Nat.le_refl _) hy hx
  exact Prod.ext (b1.trans a2.symm) (b2.trans a1.symm)
/-- what the merge says of two lists, by what they are made of -/
theorem sld_says {xs ys A B l o : List Str} (hx : xs.Pairwise lt) (hy : ys.Pairwise lt) (pA : xs.Perm A) (pB : ys.Perm B) (ul : Up l) (uo : Up o)
    (pl : l.Perm (A.filter fun x => decide (x ∉ B))) (po : o.Perm (B.filter fun y => decide (y ∉ A))) : (sld xs ys).1 = l ∧ (sld xs ys).2 = o := by
  obtain ⟨a1, a2⟩ := sld_filter _ xs ys (Nat.le_refl _) hx hy
  have e1 : (fun x => decide (x ∉ ys)) = fun x => decide (x ∉ B) := funext fun x => by simp only [pB.mem_iff]
  have e2 : (fun x => decide (x ∉ xs)) = fun x => decide (x ∉ A) := funext fun x => by simp only [pA.mem_iff]
  refine ⟨?_, ?_⟩
  · rw [a1, e1]
    exact up_eq ((pA.filter _).trans pl.symm) ((lt_up hx).filter _) ul
  · rw [a2, e2]
    exact up_eq ((pB.filter _).trans po.symm) ((lt_up hy).filter _) uo
end Mine
end PartB2

section PartB3
open PySem PySem.W PySem.Calls PyProof.Rows
namespace Mine
theorem memF {p : Str → Bool} {a : Str} {l : List Str} (h : a ∈ l.filter p) : a ∈ l := (List.mem_filter.mp h).1
theorem ok_app {a b : Str} (ha : PyData.strOk a = true) (hb : PyData.strOk b = true) : PyData.strOk (a ++ b) = true := by
  unfold PyData.strOk at *
  rw [Str.cps_append, Array.all_append, ha, hb]
  rfl
theorem ok_item {m : Str} (h : PyData.strOk m = true) (i : Int) : PyData.strOk (Txt.item m i) = true := by
  have key : (Txt.charAt m i).getD 0 < 0x110000 := by
    unfold Txt.charAt
    cases seqIndex? i m.length with
    | none => exact (by decide : (0 : Nat) < 0x110000)
    | some k =>
      show ((m.cps[k]?).getD 0) < 0x110000
      cases hk : m.cps[k]? with
      | none => exact (by decide : (0 : Nat) < 0x110000)
      | some c =>
        unfold PyData.strOk at h
        rw [Array.all_eq_true'] at h
        exact of_decide_eq_true (h c (Array.mem_of_getElem? hk))
  show (#[(Txt.charAt m i).getD 0]).all (· < 0x110000) = true
  simpa using key
theorem ok_tri {x d e : Int} {m p : Str} (hm : PyData.strOk m = true) (hp : PyData.strOk p = true) : PyData.strOk (tri x d e m p) = true := by
  unfold tri
  exact ok_app (ok_app (ok_app hp (ok_item (by decide +kernel) _)) (ok_item (by decide +kernel) _)) (ok_item hm _)
theorem ok_sg (x : Int) : PyData.strOk (sg x) = true := by
  unfold sg
  refine ok_tri (by decide +kernel) (ok_tri (by decide +kernel) (ok_tri (by decide +kernel) ?_))
  split <;> decide +kernel
theorem ok_rowG (i : Nat) (x : Int) : PyData.strOk (rowG i x) = true := ok_app (ok_app (ok_sg x) (by decide +kernel)) (ok_item (by decide +kernel) _)
theorem rowG_len (i : Nat) (x : Int) : (rowG i x).length = 12 := by
  unfold rowG
  rw [Str.length_append, Str.length_append, sg_len, item_len]
  rfl
theorem rowG_ne (i : Nat) (x : Int) : rowG i x ≠ Str.ofString "" := fun e => by
  have h := rowG_len i x
  rw [e] at h
  exact absurd h (by decide)
theorem name_of (i : Nat) (h : i < 4) : Txt.item (Str.ofString "abcd") (i : Int) = ⟨#[97 + i]⟩ := by
  rcases i with _ | _ | _ | _ | i
  · decide
  · decide
  · decide
  · decide
  · omega
theorem rowG_name {i j : Nat} {x y : Int} (hi : i < 4) (hj : j < 4) (h : rowG i x = rowG j y) : i = j := by
  unfold rowG at h
  rw [name_of i hi, name_of j hj] at h
  have h2 := congrArg (fun s : Str => s.cps.toList) h
  simp only [Str.cps_append, Array.toList_append] at h2
  have h3 := (List.append_inj' h2 rfl).2
  simp at h3
  exact h3
/-- the deeds leave the kinds of the files -/
def OkOs (os : List (Option Int)) : Prop := os.length = 4 ∧ ∀ (j : Nat) (x : Int), os[j]? = some (some x) → x.fdiv 4096 = ty j
theorem ty_is (j : Nat) : ty j = 8 ∨ ty j = 4 := by
  unfold ty
  split
  · exact .inl rfl
  · exact .inr rfl
theorem rowF_G {os : List (Option Int)} (h : OkOs os) {i : Nat} {x : Int} (hx : os[i]? = some (some x)) : rowF i x = rowG i x := by
  unfold rowF rowG
  rw [fm_sg x (by rw [h.2 i x hx]; exact ty_is i)]
theorem okM : OkOs m4 := ⟨rfl, fun j x h => by
  rcases j with _ | _ | _ | _ | j
  · cases h; decide
  · cases h; decide
  · cases h; decide
  · cases h; decide
  · simp [m4] at h⟩
section
variable {os : List (Option Int)}
theorem rowsS_at {i : Nat} {a : Str} (h : (rowsS os)[i]? = some a) : (os[i]? = some none ∧ a = Str.ofString "") ∨ ∃ x, os[i]? = some (some x) ∧ a = rowG i x := by
  unfold rowsS at h
  rw [List.getElem?_mapIdx] at h
  cases ho : os[i]? with
  | none => rw [ho] at h; cases h
  | some o =>
    rw [ho] at h
    cases o with
    | none => exact .inl ⟨rfl, by simpa using h.symm⟩
    | some x => exact .inr ⟨x, rfl, by simpa using h.symm⟩
theorem rowsS_len : (rowsS os).length = os.length := by unfold rowsS; rw [List.length_mapIdx]
theorem lt4 (h : os.length = 4) {i : Nat} {o : Option Int} (hx : os[i]? = some o) : i < 4 := by
  have := (List.getElem?_eq_some_iff.mp hx).1
  omega
theorem flt_yes {l : List Str} {i : Nat} {x : Str} (h : l[i]? = some x) (hx : (x == Str.ofString "") = false) : flt (l.take (i + 1)) = flt (l.take i) ++ [x] := by
  unfold flt
  rw [List.take_add_one, h, List.filter_append]
  simp [hx]
theorem flt_no {l : List Str} {i : Nat} {x : Str} (h : l[i]? = some x) (hx : (x == Str.ofString "") = true) : flt (l.take (i + 1)) = flt (l.take i) := by
  unfold flt
  rw [List.take_add_one, h, List.filter_append]
  simp [hx]
theorem pres_flt (h : OkOs os) : ∀ i, i ≤ 4 → pres rowF os i = flt ((rowsS os).take i)
  | 0, _ => rfl
  | i + 1, hi => by
    have ih := pres_flt h i (by omega)
    have hl := h.1
    obtain ⟨o, ho⟩ : ∃ o, os[i]? = some o := ⟨os[i]'(by omega), by simp⟩
    cases o with
    | none =>
      rw [pres_none ho, rowsS_none ho, ih]
      unfold flt
      rw [List.filter_append]
      simp
    | some x =>
      rw [pres_some ho, rowsS_some ho, ih, rowF_G h ho]
      unfold flt
      rw [List.filter_append]
      simp [rowG_ne]
theorem pres_all (h : OkOs os) : pres rowF os 4 = flt (rowsS os) := by
  rw [pres_flt h 4 (Nat.le_refl _), List.take_of_length_le (by rw [rowsS_len, h.1]; exact Nat.le_refl _)]
theorem ok_rows (os : List (Option Int)) : (rowsS os).all PyData.strOk = true := by
  rw [List.all_eq_true]
  intro a ha
  obtain ⟨i, hi⟩ := List.getElem?_of_mem ha
  rcases rowsS_at hi with ⟨_, rfl⟩ | ⟨x, _, rfl⟩
  · decide +kernel
  · exact ok_rowG i x
theorem ok_flt (os : List (Option Int)) : (flt (rowsS os)).all PyData.strOk = true := by
  rw [List.all_eq_true]
  intro a ha
  exact List.all_eq_true.mp (ok_rows os) a (memF ha)
theorem flt_M : flt (rowsS m4) = rowsS m4 := by
  unfold flt
  refine List.filter_eq_self.mpr fun a ha => ?_
  obtain ⟨i, hi⟩ := List.getElem?_of_mem ha
  rcases rowsS_at hi with ⟨h, rfl⟩ | ⟨x, _, rfl⟩
  · rcases i with _ | _ | _ | _ | i <;> simp [m4] at h
  · simp [rowG_ne]
theorem nodup_flt (h : os.length = 4) : (flt (rowsS os)).Nodup := by
  have hp : (rowsS os).Pairwise (fun a b => a ≠ Str.ofString "" → a ≠ b) := by
    rw [List.pairwise_iff_getElem]
    intro i j hi hj hij hne e
    have h1 : (rowsS os)[i]? = some (rowsS os)[i] := by simp
    have h2 : (rowsS os)[j]? = some (rowsS os)[i] := by rw [e]; simp
    rcases rowsS_at h1 with ⟨_, e1⟩ | ⟨x, hx, e1⟩
    · exact hne e1
    · rcases rowsS_at h2 with ⟨_, e2⟩ | ⟨y, hy, e2⟩
      · exact hne e2
      · have := rowG_name (lt4 h hx) (lt4 h hy) (e1.symm.trans e2)
        omega
  refine List.Pairwise.imp_of_mem (fun {a b} ha hb hr => hr ?_) (hp.filter _)
  simpa using (List.mem_filter.mp ha).2
end
theorem lost_filter {A B : List Str} {p : Str → Bool} (hl : A.length = B.length) (h : ∀ (i : Nat) (a b : Str), A[i]? = some a → B[i]? = some b → p a = !(a == b)) : ∀ n, n ≤ A.length → lostT A B n = (A.take n).filter p
  | 0, _ => rfl
  | i + 1, hi => by
    have ih := lost_filter hl h i (by omega)
    obtain ⟨a, ha⟩ : ∃ a, A[i]? = some a := ⟨A[i]'(by omega), by simp⟩
    obtain ⟨b, hb⟩ : ∃ b, B[i]? = some b := ⟨B[i]'(by omega), by simp⟩
    have hp := h i a b ha hb
    rw [List.take_add_one, ha, List.filter_append, ← ih]
    simp only [lostT, ha, hb]
    cases e : (a == b)
    · rw [e] at hp; simp [hp]
    · rw [e] at hp; simp [hp]
theorem over_filter {A B : List Str} {p : Str → Bool} (hl : A.length = B.length) (h : ∀ (i : Nat) (a b : Str), A[i]? = some a → B[i]? = some b → p b = (!(a == b) && !(b == Str.ofString ""))) : ∀ n, n ≤ A.length → overT A B n = (B.take n).filter p
  | 0, _ => rfl
  | i + 1, hi => by
    have ih := over_filter hl h i (by omega)
    obtain ⟨a, ha⟩ : ∃ a, A[i]? = some a := ⟨A[i]'(by omega), by simp⟩
    obtain ⟨b, hb⟩ : ∃ b, B[i]? = some b := ⟨B[i]'(by omega), by simp⟩
    have hp := h i a b ha hb
    rw [List.take_add_one, hb, List.filter_append, ← ih]
    simp only [overT, ha, hb]
    cases e : (a == b)
    · rw [e] at hp
      cases e' : (b == Str.ofString "")
      · rw [e'] at hp; simp [hp]
      · rw [e'] at hp; simp [hp]
    · rw [e] at hp; simp [hp]
section
variable {os : List (Option Int)}
theorem at_M {i : Nat} {a : Str} (h : (rowsS m4)[i]? = some a) : ∃ x, a = rowG i x ∧ i < 4 := by
  rcases rowsS_at h with ⟨h1, rfl⟩ | ⟨x, hx, rfl⟩
  · rcases i with _ | _ | _ | _ | i <;> simp [m4] at h1
  · exact ⟨x, rfl, lt4 rfl hx⟩
/-- a row of the old listing and one of the new can be the same at one place alone -/
theorem same_place (h : os.length = 4) {i j : Nat} {a : Str} (ha : (rowsS m4)[i]? = some a) (hb : (rowsS os)[j]? = some a) : i = j := by
  obtain ⟨x, rfl, hi⟩ := at_M ha
  rcases rowsS_at hb with ⟨_, e⟩ | ⟨y, hy, e⟩
  · exact absurd e (rowG_ne i x)
  · exact rowG_name hi (lt4 h hy) e
theorem lost_is (h : os.length = 4) : lostT (rowsS m4) (rowsS os) 4 = (rowsS m4).filter fun x => decide (x ∉ flt (rowsS os)) := by
  have hA : (rowsS m4).length = 4 := rfl
  have hB : (rowsS os).length = 4 := by rw [rowsS_len, h]
  rw [lost_filter (p := fun x => decide (x ∉ flt (rowsS os))) (by omega) ?_ 4 (by omega), List.take_of_length_le (by omega)]
  intro i a b ha hb
  by_cases e : a = b
  · subst e
    have hm : a ∈ flt (rowsS os) := List.mem_filter.mpr ⟨List.mem_of_getElem? hb, by obtain ⟨x, rfl, _⟩ := at_M ha; simp [rowG_ne]⟩
    simp [hm]
  · have hm : a ∉ flt (rowsS os) := fun hm => by
      obtain ⟨j, hj⟩ := List.getElem?_of_mem (memF hm)
      have hij := same_place h ha hj
      subst hij
      rw [hb] at hj
      exact e (Option.some.inj hj).symm
    simp [hm, e]
theorem over_is (h : os.length = 4) : overT (rowsS m4) (rowsS os) 4 = (flt (rowsS os)).filter fun y => decide (y ∉ rowsS m4) := by
  have hA : (rowsS m4).length = 4 := rfl
  have hB : (rowsS os).length = 4 := by rw [rowsS_len, h]
  unfold flt
  rw [List.filter_filter]
  rw [over_filter (p := fun y => decide (y ∉ rowsS m4) && !(y == Str.ofString "")) (by omega) ?_ 4 (by omega), List.take_of_length_le (by omega)]
  intro i a b ha hb
  by_cases e : a = b
  · subst e
    have hm : a ∈ rowsS m4 := List.mem_of_getElem? ha
    simp [hm]
  · have hm : b ∉ rowsS m4 := fun hm => by
      obtain ⟨j, hj⟩ := List.getElem?_of_mem hm
      have hij := same_place h hj hb
      subst hij
      rw [ha] at hj
      exact e (Option.some.inj hj)
    simp [hm, e]
end
end Mine
end PartB3

section PartW2
open PySem PySem.W PySem.Calls PyProof.Rows
namespace Mine
local macro_rules | `(tactic| k_steps) => `(tactic| repeat' (first | (k_unfold; (try dsimp only)) | (walk1 <;> (try dsimp only)) | fail "no step"))
local macro_rules | `(tactic| walk_at "binaryOp Mult int int") => `(tactic| (k_here; first | refine PyProof.Rows.mul_int ?_ (IntMulOk.of_left (by decide +kernel)) | refine PyProof.Rows.mul_int ?_ (IntMulOk.of_right (by decide +kernel))))
local macro_rules | `(tactic| walk_at "binaryOp Pow int int") => `(tactic| (k_here; refine pow_int_small (by decide) (by decide) (by decide) ?_))
/-- the end of the law: it gives True back and has changed nothing that stood before -/
def Good (g : Heap) (s₁ : Shared) (fl : Flow) (s' : Shared) : Prop := fl = .ret (.bool true) ∧ ∃ h' tk', s' = { s₁ with heap := h', toks := tk' } ∧ ∀ b o, g.get? b = some o → h'.get? b = some o
theorem lost_len (A B : List Str) : ∀ i, (lostT A B i).length ≤ i
  | 0 => Nat.le_refl _
  | i + 1 => by
    have := lost_len A B i
    simp only [lostT]
    split
    · split
      · omega
      · rw [List.length_append]
        simp
        omega
    · omega
theorem over_len (A B : List Str) : ∀ i, (overT A B i).length ≤ i
  | 0 => Nat.le_refl _
  | i + 1 => by
    have := over_len A B i
    simp only [overT]
    split
    · split
      · omega
      · split
        · omega
        · rw [List.length_append]
          simp
          omega
    · omega
section
variable {A B : List Str} {i : Nat} {a b : Str}
theorem lost_no (h : A[i]? = some a) (k : B[i]? = some b) (e : (a == b) = true) : lostT A B (i + 1) = lostT A B i := by simp only [lostT, h, k]; rw [if_pos e]
theorem lost_yes (h : A[i]? = some a) (k : B[i]? = some b) (e : (a == b) = false) : lostT A B (i + 1) = lostT A B i ++ [a] := by simp only [lostT, h, k]; rw [if_neg (by rw [e]; decide)]
theorem over_no (h : A[i]? = some a) (k : B[i]? = some b) (e : (a == b) = true) : overT A B (i + 1) = overT A B i := by simp only [overT, h, k]; rw [if_pos e]
theorem over_no' (h : A[i]? = some a) (k : B[i]? = some b) (e : (a == b) = false) (e' : (b == Str.ofString "") = true) : overT A B (i + 1) = overT A B i := by simp only [overT, h, k]; rw [if_neg (by rw [e]; decide), if_pos e']
theorem over_yes (h : A[i]? = some a) (k : B[i]? = some b) (e : (a == b) = false) (e' : (b == Str.ofString "") = false) : overT A B (i + 1) = overT A B i ++ [b] := by simp only [overT, h, k]; rw [if_neg (by rw [e]; decide), if_neg (by rw [e']; decide)]
end
theorem ok_filter {l : List Str} {q : Str → Bool} (h : l.all PyData.strOk = true) : (l.filter q).all PyData.strOk = true := List.all_eq_true.mpr fun a ha => List.all_eq_true.mp h a (memF ha)
theorem off1 {a : Addr} {o : Obj} {rest : List (Addr × Obj)} (h : ∀ p ∈ [(a, o)], ∀ q ∈ rest, q.1 ≠ p.1) : ∀ q ∈ rest, @Ne Nat a q.1 := fun q hq e => h _ (.head _) q hq e.symm
theorem optsM (t0 t1 t2 t3 : Tok) : OptsAre [Value.int 33188 t0, .int 16877 t1, .int 35309 t2, .int 17407 t3] m4 := .some _ _ (.some _ _ (.some _ _ (.some _ _ .nil)))
set_option maxRecDepth 100000 in
set_option maxHeartbeats 40000000 in
theorem law_holds : PySem.Challenge.rw_oy0131_01.Holds := by
  refine Mine.hd ?_
  k_go0
  rename_i w s0 s1 mg mb G Y fa o pm doc ho hg KX X V GL T B TE TW w11 w10 M w9 w8 hcd ns hs hlay0 hL1 hr1 hl2 w6 w5 sc vs w2 hsc ra w1 r0 hI hr hcond1 hcond K0 hD h1 tk1 F1 oc1 oc2 left right N1 X0
  refine wpAny_mono (Q := Good s1.heap { s1 with heap := h1, toks := tk1 }) (E := fun _ _ => False) ?_ (fun fl s' h => ?_) (fun _ _ h => h.elim)
  · have hc1 : oc1.data = .cell none := left
    have hc2 : oc2.data = .cell none := right
    have hlen := hI.length
    have hlen2 : ns.length ≤ 63 := by omega
    have B1 : Below callerA s1.heap [] s1.heap := below_caller _
    clear G Y X V GL TE TW w11 w10 M hcd hs hlay0 hL1 hr1 hl2 ra w1 r0 hr hcond1 hcond K0 hD left right X0 B
    have F0 : Fr s1.heap s1.heap.objs.size h1 (fun y => if y = Str.ofString "script" then some (Value.ref sc) else none) := by
      with_unfolding_all exact F1
    clear F1
    dsimp only
    clear ho hg pm doc o
    iterate 40 (first | (k_unfold; (try dsimp only)) | (walk1 <;> (try dsimp only)))
    rename Fr _ _ _ _ => F2
    rename News _ _ _ _ => N2
    rename_i lm q1 lt1 q2 l3 q3 lt2
    refine slice_to (s := ⟨_, _, _, _, _⟩) (i := 6) F2 N2 (stays_list F2.keep hsc) (by omega) ?_ (by with_unfolding_all rfl) (by intro _; with_unfolding_all rfl)
    intro D1 h3 F3 N3 hl3
    clear F2 N2
    have hI6 := ints_take hI 6
    iterate 2 (first | (k_unfold; (try dsimp only)) | (walk1 <;> (try dsimp only)))
    rename Fr _ _ _ _ => F4
    rename News _ _ _ _ => N4
    rename IntsAre _ (_ ++ _) => hI4
    rename_i ln nv h4 lt4
    have N4' : News s1.heap s1.heap.objs.size h4 [(lm, listOf [Value.int 33188 tk1, Value.int 16877 (tk1 + 1), Value.int 35309 (tk1 + 1 + 1), Value.int 17407 (tk1 + 1 + 1 + 1)].toArray 0), (s1.heap.objs.size + 1 + 1, oc1), (s1.heap.objs.size + 1, oc2)] := fun p hp => N4 p (.tail _ (.tail _ (.tail _ hp)))
    refine ⟨KX.keeps F4.keep, ?_⟩
    refine run_use (done_run _ _ _ _ _ _ 33188 16877 35309 17407 tk1 (tk1 + 1) (tk1 + 1 + 1) (tk1 + 1 + 1 + 1) _ _ hI4 (by decide) (by decide) (by decide) (by decide)) B1 F4 KX N4' T rfl (by ktr_room) (by ktr_units) ⟨⟨_, (N4' _ (.head _)).1, rfl, _, rfl⟩, ⟨_, (N4 _ (.head _)).1, rfl, _, rfl⟩⟩ ?_
    rintro v more h5 tk5 ⟨la, av, os, rfl, rfl, hO, ho4, hty⟩ F5 N5 hoff5
    dsimp only [List.cons_append, List.nil_append] at N5
    clear F4 N4 N4' hI4 lt4 hl3 lt2 hI6
    iterate 12 (first | (k_unfold; (try dsimp only)) | (walk1 <;> (try dsimp only)))
    rename Fr _ _ _ _ => F6
    rename News _ _ _ _ => N6
    have n1 := off1 hoff5
    have n1a : @Ne Nat la lm := n1 _ (.head _)
    have n1b : @Ne Nat la (s1.heap.objs.size + 1 + 1) := n1 _ (.tail _ (.head _))
    have n1c : @Ne Nat la (s1.heap.objs.size + 1) := n1 _ (.tail _ (.tail _ (.head _)))
    clear n1 hoff5 hI hsc
    refine ⟨KX.keeps F6.keep, ?_⟩
    refine run_use (rows_run _ _ _ _ lm _ _ (optsM _ _ _ _) rfl) B1 F6 KX N6 T rfl (by ktr_room) (by ktr_units) ⟨_, (N6 _ (.tail _ (.head _))).1, rfl, _, rfl⟩ ?_
    rintro v more h7 tk7 ⟨lo, vo, rfl, rfl, hSo⟩ F7 N7 hoff7
    dsimp only [List.cons_append, List.nil_append] at N7
    have n2 := off1 hoff7
    have n2a : @Ne Nat lo la := n2 _ (.head _)
    have n2b : @Ne Nat lo (s1.heap.objs.size + 1 + 1) := n2 _ (.tail _ (.tail _ (.head _)))
    have n2c : @Ne Nat lo (s1.heap.objs.size + 1) := n2 _ (.tail _ (.tail _ (.tail _ (.head _))))
    clear F6 N6 n2 hoff7
    iterate 7 (first | (k_unfold; (try dsimp only)) | (walk1 <;> (try dsimp only)))
    refine ⟨KX.keeps F7.keep, ?_⟩
    refine run_use (rows_run _ _ _ _ la _ _ hO ho4) B1 F7 KX N7 T rfl (by ktr_room) (by ktr_units) ⟨_, (N7 _ (.tail _ (.head _))).1, rfl, _, rfl⟩ ?_
    rintro v more h8 tk8 ⟨ln', vn, rfl, rfl, hSn⟩ F8 N8 hoff8
    dsimp only [List.cons_append, List.nil_append] at N8
    have n3 := off1 hoff8
    have n3a : @Ne Nat ln' lo := n3 _ (.head _)
    have n3b : @Ne Nat ln' (s1.heap.objs.size + 1 + 1) := n3 _ (.tail _ (.tail _ (.tail _ (.head _))))
    have n3c : @Ne Nat ln' (s1.heap.objs.size + 1) := n3 _ (.tail _ (.tail _ (.tail _ (.tail _ (.head _)))))
    clear F7 N7 n3 hoff8
    iterate 16 (first | (k_unfold; (try dsimp only)) | (walk1 <;> (try dsimp only)))
    rename Fr _ _ _ _ => F9
    rename News _ _ _ _ => N9
    rename_i T9 h9 l9 h9a h9b oc3 hc3 h9c oc4 hc4
    have N10 : News s1.heap s1.heap.objs.size h9c _ := fun p hp => N9 p (.tail _ hp)
    clear N9 l9 hc1 hc2
    iterate 5 (first | (k_unfold; (try dsimp only)) | (walk1 <;> (try dsimp only)))
    refine ⟨KX.keeps F9.keep, ?_⟩
    refine run_use (listing_run _ _ _ _ lm _ _ (optsM _ _ _ _) rfl) B1 F9 KX N10 T rfl (by ktr_room) (by ktr_units) ⟨_, (N10 _ (.tail _ (.tail _ (.tail _ (.head _))))).1, rfl, _, rfl⟩ ?_
    rintro v more h11 tk11 ⟨p1, v1, y1, rfl, rfl, hS1, hP1, hW1⟩ F11 N11 hoff11
    dsimp only [List.cons_append, List.nil_append] at N11
    have n4 := off1 hoff11
    clear F9 N10 hoff11
    iterate 7 (first | (k_unfold; (try dsimp only)) | (walk1 <;> (try dsimp only)))
    refine ⟨KX.keeps F11.keep, ?_⟩
    refine run_use (listing_run _ _ _ _ la _ _ hO ho4) B1 F11 KX N11 T rfl (by ktr_room) (by ktr_units) ⟨_, (N11 _ (.tail _ (.tail _ (.tail _ (.head _))))).1, rfl, _, rfl⟩ ?_
    rintro v more h12 tk12 ⟨p2, v2, y2, rfl, rfl, hS2, hP2, hW2⟩ F12 N12 hoff12
    dsimp only [List.cons_append, List.nil_append] at N12
    have n5 := off1 hoff12
    clear F11 N11 hoff12
    iterate 10 (first | (k_unfold; (try dsimp only)) | (walk1 <;> (try dsimp only)))
    rename Fr _ _ _ _ => F13
    rename News _ _ _ _ => N13
    rename_i l13 h13 lt13
    have hzo : vo.length = 4 := by rw [strs_len hSo]; rfl
    refine sorted_N_str (s := ⟨_, _, _, _, _⟩) F13 N13 ⟨_, (N13 _ (.tail _ (.tail _ (.tail _ (.tail _ (.head _)))))).1, rfl, _, rfl⟩ hSo (by omega) ?_
    intro h14 v3 y3 e3 F14 N14 hS3 hP3 hW3
    dsimp only at N14 ⊢
    generalize h13.objs.size + 1 = p3 at N14 ⊢
    clear F13 N13 lt13
    iterate 5 (first | (k_unfold; (try dsimp only)) | (walk1 <;> (try dsimp only)))
    have hzn : vn.length = 4 := by rw [strs_len hSn]; unfold rowsS; rw [List.length_mapIdx, ho4]
    refine LCt.ListComp_T (F₀ := F14) (by with_unfolding_all rfl) (by decide) (by rfl) (by decide) (by rfl) ?_
    walk1
    refine LCt.CompSrcT.ledger rfl F14 N14 (.tail _ (.tail _ (.tail _ (.tail _ (.head _))))) (by rw [List.size_toArray, hzn, sizeLine_eq]; omega) fun g' => compT_rest (n := vn.toArray.size) (J := fun i ys news => news = _ ∧ StrsAre ys (flt ((rowsS os).take i))) ?cstep ?cfin vn.toArray.size 0 [] _ (Nat.zero_add _) ⟨rfl, .nil⟩
    case cstep =>
      rintro i ys news v I oI C oC D m₂ h5 tk5 E' hi ⟨rfl, hY⟩ hv hN hx F5 N5 hoff hne
      obtain ⟨x, hxi⟩ : ∃ x, (rowsS os)[i]? = some x := ⟨(rowsS os)[i]'(by rw [← strs_len hSn]; simpa using hi), by simp⟩
      obtain ⟨tx, hvx⟩ := strs_at hSn hxi
      have hv' : v = .str x tx := by
        have hq : vn[i]? = some v := by simpa using hv
        rw [hvx] at hq
        exact (Option.some.inj hq).symm
      subst hv'
      clear F14 N14
      have hsrc := hoff
      cases hb : (x == Str.ofString "")
      · k_steps
        refine TestTo.yes (by rw [bne, hb]; rfl) ?_
        k_steps
        exact item_to (by k_asm) (by k_asm) _ (fun p hp => hp) hoff (.inr ⟨_, .tail _ (.tail _ (.tail _ (.tail _ (.head _)))), rfl, _, rfl⟩) ⟨rfl, by rw [flt_yes hxi hb]; exact hY.append' (.cons _ _ .nil)⟩
      · k_steps
        refine TestTo.no (by rw [bne, hb]; rfl) ?_
        exact item_to (by k_asm) (by k_asm) _ (fun p hp => hp) hoff (.inr ⟨_, .tail _ (.tail _ (.tail _ (.tail _ (.head _)))), rfl, _, rfl⟩) ⟨rfl, by rw [flt_no hxi hb]; exact hY⟩
    case cfin =>
      rintro ys news ⟨rfl, hY⟩ D h15 tk15 F15 N15 -
      rw [List.take_of_length_le (by rw [← strs_len hSn, List.size_toArray]; exact Nat.le_refl _)] at hY
      clear F14 N14
      iterate 1 (first | (k_unfold; (try dsimp only)) | (walk1 <;> (try dsimp only)))
      refine sorted_N_str (s := ⟨_, _, _, _, _⟩) F15 N15 ⟨_, (N15 _ (.head _)).1, rfl, _, rfl⟩ hY (by have := strs_len hY; have h2 : (flt (rowsS os)).length ≤ (rowsS os).length := List.length_filter_le _ _; have h3 := strs_len hSn; omega) ?_
      intro h16 v4 y4 e4 F16 N16 hS4 hP4 hW4
      dsimp only at N16 ⊢
      generalize h15.objs.size + 1 = p4 at N16 ⊢
      clear F15 N15
      iterate 2 (first | (k_unfold; (try dsimp only)) | (walk1 <;> (try dsimp only)))
      rename Fr _ _ _ _ => F17
      rename News _ _ _ _ => N17
      rename_i l17 h17 lt17
      have hos : OkOs os := ⟨ho4, hty⟩
      have ok1 : y1.all PyData.strOk = true := ok_perm hP1 (by rw [pres_all okM]; exact ok_flt _)
      have ok2 : y2.all PyData.strOk = true := ok_perm hP2 (by rw [pres_all hos]; exact ok_flt _)
      have e13 : y1 = y3 := up_eq (hP1.trans (by rw [pres_all okM, flt_M]; exact hP3.symm)) hW1 (sorted_up hW3)
      have e24 : y2 = y4 := up_eq (hP2.trans (by rw [pres_all hos]; exact hP4.symm)) hW2 (sorted_up hW4)
      refine ne_lists (s := ⟨_, _, _, _, _⟩) (reads_two (N17 _ (.tail _ (.tail _ (.tail _ (.tail _ (.head _)))))).1 rfl rfl (reads_strs (N17 _ (.tail _ (.tail _ (.tail _ (.tail _ (.tail _ (.tail _ (.head _)))))))).1 rfl rfl hS1) (reads_strs (N17 _ (.tail _ (.tail _ (.tail _ (.tail _ (.tail _ (.head _))))))).1 rfl rfl hS2)) (reads_two (N17 _ (.head _)).1 rfl rfl (reads_strs (N17 _ (.tail _ (.tail _ (.tail _ (.head _))))).1 rfl rfl hS3) (reads_strs (N17 _ (.tail _ (.head _))).1 rfl rfl hS4)) ok1 ok2 e13 e24 (by ke_room) ?_
      have N18 : News s1.heap s1.heap.objs.size h17 _ := fun p hp => N17 p (.tail _ (.tail _ (.tail _ (.tail _ (.tail _ (.tail _ (.tail _ hp)))))))
      clear N17 lt17 hS3 hS4 hP4 hP3 hW3 hW4 e13 e24 hS1 hS2 hzo
      subst_vars
      iterate 9 (first | (k_unfold; (try dsimp only)) | (walk1 <;> (try dsimp only)))
      have F18 : Fr s1.heap s1.heap.objs.size h17 _ := F17
      have hlo4 : (rowsS m4).length = 4 := rfl
      have hln4 : (rowsS os).length = 4 := by rw [← strs_len hSn, hzn]
      refine LCt.ListComp_T (F₀ := F18) (by with_unfolding_all rfl) (by decide) (by rfl) (by decide) (by rfl) ?_
      clear F18
      iterate 7 (first | (k_unfold; (try dsimp only)) | (walk1 <;> (try dsimp only)))
      rename Fr _ _ _ _ => F19
      rename News _ _ _ _ => N19
      rename IsRange _ _ _ _ _ _ _ _ => R19
      refine LCt.CompSrcT.range (n := 4) rfl F19 N19 R19 (by decide) (by decide) (by rw [sizeLine_eq]; omega) fun g' => compT_rest (n := 4) (J := fun i ys news => news = _ ∧ StrsAre ys (lostT (rowsS m4) (rowsS os) i)) ?lstep ?lfin 4 0 [] _ (Nat.zero_add _) ⟨rfl, .nil⟩
      case lstep =>
        rintro i zs news v I oI C oC D2 m₂ h5 tk5 E' hi ⟨rfl, hY2⟩ ⟨ti, rfl⟩ hN hx F5 N5 hoff hne
        rw [Int.zero_add] at hx
        obtain ⟨x, hxi⟩ : ∃ x, (rowsS m4)[i]? = some x := ⟨(rowsS m4)[i]'(by omega), by simp⟩
        obtain ⟨y, hyi⟩ : ∃ y, (rowsS os)[i]? = some y := ⟨(rowsS os)[i]'(by omega), by simp⟩
        obtain ⟨tx, hvx⟩ := strs_at hSo hxi
        obtain ⟨ty', hvy⟩ := strs_at hSn hyi
        have hvx' : vo[((i : Nat) : Int).toNat]? = some (Value.str x tx) := hvx
        have hvy' : vn[((i : Nat) : Int).toNat]? = some (Value.str y ty') := hvy
        clear F19 N19 R19
        iterate 4 (first | (k_unfold; (try dsimp only)) | (walk1 <;> (try dsimp only)))
        refine item_at (s := ⟨_, _, _, _, _⟩) ⟨_, (N5 _ (.tail _ (.tail _ (.tail _ (.tail _ (.head _)))))).1, rfl, _, rfl⟩ (by omega) (by omega) hvx' ?_
        iterate 3 (first | (k_unfold; (try dsimp only)) | (walk1 <;> (try dsimp only)))
        refine item_at (s := ⟨_, _, _, _, _⟩) ⟨_, (N5 _ (.tail _ (.tail _ (.tail _ (.head _))))).1, rfl, _, rfl⟩ (by omega) (by omega) hvy' ?_
        iterate 2 (first | (k_unfold; (try dsimp only)) | (walk1 <;> (try dsimp only)))
        cases hb : (x == y)
        · refine TestTo.yes (by rw [bne, hb]; rfl) ?_
          iterate 3 (first | (k_unfold; (try dsimp only)) | (walk1 <;> (try dsimp only)))
          refine item_at (s := ⟨_, _, _, _, _⟩) ⟨_, (N5 _ (.tail _ (.tail _ (.tail _ (.tail _ (.head _)))))).1, rfl, _, rfl⟩ (by omega) (by omega) hvx' ?_
          exact item_to F5 N5 _ (fun p hp => hp) hoff trivial ⟨rfl, by rw [lost_yes hxi hyi hb]; exact hY2.append' (.cons _ _ .nil)⟩
        · refine TestTo.no (by rw [bne, hb]; rfl) ?_
          exact item_to F5 N5 _ (fun p hp => hp) hoff trivial ⟨rfl, by rw [lost_no hxi hyi hb]; exact hY2⟩
      case lfin =>
        rintro ys2 news ⟨rfl, hY2⟩ D2 h20 tk20 F20 N20 -
        clear F19 N19 R19
        iterate 1 (first | (k_unfold; (try dsimp only)) | (walk1 <;> (try dsimp only)))
        refine sorted_N_str (s := ⟨_, _, _, _, _⟩) F20 N20 ⟨_, (N20 _ (.head _)).1, rfl, _, rfl⟩ hY2 (by have := strs_len hY2; have h2 := lost_len (rowsS m4) (rowsS os) 4; omega) ?_
        intro h21 v5 y5 e5 F21 N21 hS5 hP5 hW5
        dsimp only at N21 ⊢
        generalize h20.objs.size + 1 = p5 at N21 ⊢
        have N22 : News s1.heap s1.heap.objs.size h21 ((p5, seqObj "list" v5.toArray e5) :: _) := fun p hp => N21 p ((List.mem_cons.mp hp).elim (fun e => e ▸ .head _) fun q => .tail _ (.tail _ q))
        clear F20 N20 N21
        iterate 8 (first | (k_unfold; (try dsimp only)) | (walk1 <;> (try dsimp only)))
        rename Fr _ _ _ _ => F23
        rename News _ _ _ _ => N23
        refine LCt.ListComp_T (F₀ := F23) (by with_unfolding_all rfl) (by decide) (by rfl) (by decide) (by rfl) ?_
        iterate 7 (first | (k_unfold; (try dsimp only)) | (walk1 <;> (try dsimp only)))
        rename Fr _ _ _ _ => F24
        rename News _ _ _ _ => N24
        rename IsRange _ _ _ _ _ _ _ _ => R24
        refine LCt.CompSrcT.range (n := 4) rfl F24 N24 R24 (by decide) (by decide) (by rw [sizeLine_eq]; omega) fun g' => compT_rest (n := 4) (J := fun i ys news => news = _ ∧ StrsAre ys (overT (rowsS m4) (rowsS os) i)) ?ostep ?ofin 4 0 [] _ (Nat.zero_add _) ⟨rfl, .nil⟩
        case ostep =>
          rintro i zs news v I oI C oC D2 m₂ h5 tk5 E' hi ⟨rfl, hY3⟩ ⟨ti, rfl⟩ hN hx F5 N5 hoff hne
          rw [Int.zero_add] at hx
          obtain ⟨x, hxi⟩ : ∃ x, (rowsS m4)[i]? = some x := ⟨(rowsS m4)[i]'(by omega), by simp⟩
          obtain ⟨y, hyi⟩ : ∃ y, (rowsS os)[i]? = some y := ⟨(rowsS os)[i]'(by omega), by simp⟩
          obtain ⟨tx, hvx⟩ := strs_at hSo hxi
          obtain ⟨ty', hvy⟩ := strs_at hSn hyi
          have hvx' : vo[((i : Nat) : Int).toNat]? = some (Value.str x tx) := hvx
          have hvy' : vn[((i : Nat) : Int).toNat]? = some (Value.str y ty') := hvy
          clear F24 N24 R24
          iterate 5 (first | (k_unfold; (try dsimp only)) | (walk1 <;> (try dsimp only)))
          refine item_at (s := ⟨_, _, _, _, _⟩) ⟨_, (N5 _ (.tail _ (.tail _ (.tail _ (.tail _ (.tail _ (.head _))))))).1, rfl, _, rfl⟩ (by omega) (by omega) hvx' ?_
          iterate 3 (first | (k_unfold; (try dsimp only)) | (walk1 <;> (try dsimp only)))
          refine item_at (s := ⟨_, _, _, _, _⟩) ⟨_, (N5 _ (.tail _ (.tail _ (.tail _ (.tail _ (.head _)))))).1, rfl, _, rfl⟩ (by omega) (by omega) hvy' ?_
          iterate 2 (first | (k_unfold; (try dsimp only)) | (walk1 <;> (try dsimp only)))
          cases hb : (x == y)
          · rw [if_pos (show (x != y) = true by rw [bne, hb]; rfl)]
            iterate 5 (first | (k_unfold; (try dsimp only)) | (walk1 <;> (try dsimp only)))
            refine item_at (s := ⟨_, _, _, _, _⟩) ⟨_, (N5 _ (.tail _ (.tail _ (.tail _ (.tail _ (.head _)))))).1, rfl, _, rfl⟩ (by omega) (by omega) hvy' ?_
            iterate 3 (first | (k_unfold; (try dsimp only)) | (walk1 <;> (try dsimp only)))
            cases hb2 : (y == Str.ofString "")
            · rw [if_pos (show (y != Str.ofString "") = true by rw [bne, hb2]; rfl)]
              iterate 1 (first | (k_unfold; (try dsimp only)) | (walk1 <;> (try dsimp only)))
              refine TestTo.yes rfl ?_
              iterate 3 (first | (k_unfold; (try dsimp only)) | (walk1 <;> (try dsimp only)))
              refine item_at (s := ⟨_, _, _, _, _⟩) ⟨_, (N5 _ (.tail _ (.tail _ (.tail _ (.tail _ (.head _)))))).1, rfl, _, rfl⟩ (by omega) (by omega) hvy' ?_
              exact item_to F5 N5 _ (fun p hp => hp) hoff trivial ⟨rfl, by rw [over_yes hxi hyi hb hb2]; exact hY3.append' (.cons _ _ .nil)⟩
            · rw [if_neg (show ¬ (y != Str.ofString "") = true by rw [bne, hb2]; decide)]
              refine TestTo.no rfl ?_
              exact item_to F5 N5 _ (fun p hp => hp) hoff trivial ⟨rfl, by rw [over_no' hxi hyi hb hb2]; exact hY3⟩
          · rw [if_neg (show ¬ (x != y) = true by rw [bne, hb]; decide)]
            refine TestTo.no rfl ?_
            exact item_to F5 N5 _ (fun p hp => hp) hoff trivial ⟨rfl, by rw [over_no hxi hyi hb]; exact hY3⟩
        case ofin =>
          rintro ys3 news ⟨rfl, hY3⟩ D3 h25 tk25 F25 N25 -
          clear F24 N24 R24
          iterate 1 (first | (k_unfold; (try dsimp only)) | (walk1 <;> (try dsimp only)))
          refine sorted_N_str (s := ⟨_, _, _, _, _⟩) F25 N25 ⟨_, (N25 _ (.head _)).1, rfl, _, rfl⟩ hY3 (by have := strs_len hY3; have h2 := over_len (rowsS m4) (rowsS os) 4; omega) ?_
          intro h26 v6 y6 e6 F26 N26 hS6 hP6 hW6
          dsimp only at N26 ⊢
          generalize h25.objs.size + 1 = p6 at N26 ⊢
          have N27 : News s1.heap s1.heap.objs.size h26 ((p6, seqObj "list" v6.toArray e6) :: _) := fun p hp => N26 p ((List.mem_cons.mp hp).elim (fun e => e ▸ .head _) fun q => .tail _ (.tail _ q))
          clear F25 N25 N26
          iterate 10 (first | (k_unfold; (try dsimp only)) | (walk1 <;> (try dsimp only)))
          rename Fr _ _ _ _ => F28
          rename News _ _ _ _ => N28
          iterate 6 (first | (k_unfold; (try dsimp only)) | (walk1 <;> (try dsimp only)))
          refine ⟨KX.keeps F28.keep, ?_⟩
          refine run_use (listing_run _ _ _ _ lm _ _ (optsM _ _ _ _) rfl) B1 F28 KX N28 T rfl (by ktr_room) (by ktr_units) ⟨_, (N28 _ (.tail _ (.tail _ (.tail _ (.tail _ (.tail _ (.head _))))))).1, rfl, _, rfl⟩ ?_
          rintro v more h29 tk29 ⟨p7, v7, y7, rfl, rfl, hS7, hP7, hW7⟩ F29 N29 hoff29
          dsimp only [List.cons_append, List.nil_append] at N29
          clear F28 N28 hoff29
          iterate 7 (first | (k_unfold; (try dsimp only)) | (walk1 <;> (try dsimp only)))
          refine ⟨KX.keeps F29.keep, ?_⟩
          refine run_use (listing_run _ _ _ _ la _ _ hO ho4) B1 F29 KX N29 T rfl (by ktr_room) (by ktr_units) ⟨_, (N29 _ (.tail _ (.tail _ (.tail _ (.tail _ (.tail _ (.head _))))))).1, rfl, _, rfl⟩ ?_
          rintro v more h30 tk30 ⟨p8, v8, y8, rfl, rfl, hS8, hP8, hW8⟩ F30 N30 hoff30
          dsimp only [List.cons_append, List.nil_append] at N30
          clear F29 N29 hoff30
          have x7 : y7.Pairwise lt := up_strict hP7 (by rw [pres_all okM]; exact nodup_flt rfl) hW7
          have x8 : y8.Pairwise lt := up_strict hP8 (by rw [pres_all hos]; exact nodup_flt ho4) hW8
          have l7 : y7.length ≤ 4 := hP7.length_eq ▸ pres_len _ _ _
          have l8 : y8.length ≤ 4 := hP8.length_eq ▸ pres_len _ _ _
          iterate 1 (first | (k_unfold; (try dsimp only)) | (walk1 <;> (try dsimp only)))
          refine ⟨KX.keeps F30.keep, ?_⟩
          refine sld_run _ _ _ _ p7 p8 _ _ _ _ hS7 hS8 l7 l8 x7 x8 _ _ _ _ _ _ _ _ _ _ _ _ _ _ _ F30 KX N30 T rfl (by ktr_room) (by ktr_units) ⟨_, (N30 _ (.tail _ (.head _))).1, rfl, _, rfl⟩ ⟨_, (N30 _ (.head _)).1, rfl, _, rfl⟩ ?_
          rintro v more h31 tk31 ⟨t1, M1, U1, vM1, eM1, vU1, eU1, rfl, rfl, hM1, hU1⟩ F31 N31 hoff31
          dsimp only [List.cons_append, List.nil_append] at N31
          clear F30 N30 hoff31
          iterate 11 (first | (k_unfold; (try dsimp only)) | (walk1 <;> (try dsimp only)))
          refine ⟨KX.keeps F31.keep, ?_⟩
          refine run_use (listing_run _ _ _ _ la _ _ hO ho4) B1 F31 KX N31 T rfl (by ktr_room) (by ktr_units) ⟨_, (N31 _ (.tail _ (.tail _ (.tail _ (.tail _ (.tail _ (.tail _ (.tail _ (.tail _ (.tail _ (.head _))))))))))).1, rfl, _, rfl⟩ ?_
          rintro v more h32 tk32 ⟨p9, v9, y9, rfl, rfl, hS9, hP9, hW9⟩ F32 N32 hoff32
          dsimp only [List.cons_append, List.nil_append] at N32
          clear F31 N31 hoff32
          iterate 7 (first | (k_unfold; (try dsimp only)) | (walk1 <;> (try dsimp only)))
          refine ⟨KX.keeps F32.keep, ?_⟩
          refine run_use (listing_run _ _ _ _ lm _ _ (optsM _ _ _ _) rfl) B1 F32 KX N32 T rfl (by ktr_room) (by ktr_units) ⟨_, (N32 _ (.tail _ (.tail _ (.tail _ (.tail _ (.tail _ (.tail _ (.tail _ (.tail _ (.tail _ (.tail _ (.tail _ (.head _))))))))))))).1, rfl, _, rfl⟩ ?_
          rintro v more h33 tk33 ⟨p10, v10, y10, rfl, rfl, hS10, hP10, hW10⟩ F33 N33 hoff33
          dsimp only [List.cons_append, List.nil_append] at N33
          clear F32 N32 hoff33
          have x9 : y9.Pairwise lt := up_strict hP9 (by rw [pres_all hos]; exact nodup_flt ho4) hW9
          have x10 : y10.Pairwise lt := up_strict hP10 (by rw [pres_all okM]; exact nodup_flt rfl) hW10
          have l9 : y9.length ≤ 4 := hP9.length_eq ▸ pres_len _ _ _
          have l10 : y10.length ≤ 4 := hP10.length_eq ▸ pres_len _ _ _
          iterate 1 (first | (k_unfold; (try dsimp only)) | (walk1 <;> (try dsimp only)))
          refine ⟨KX.keeps F33.keep, ?_⟩
          refine sld_run _ _ _ _ p9 p10 _ _ _ _ hS9 hS10 l9 l10 x9 x10 _ _ _ _ _ _ _ _ _ _ _ _ _ _ _ F33 KX N33 T rfl (by ktr_room) (by ktr_units) ⟨_, (N33 _ (.tail _ (.head _))).1, rfl, _, rfl⟩ ⟨_, (N33 _ (.head _)).1, rfl, _, rfl⟩ ?_
          rintro v more h34 tk34 ⟨t2, M2, U2, vM2, eM2, vU2, eU2, rfl, rfl, hM2, hU2⟩ F34 N34 hoff34
          dsimp only [List.cons_append, List.nil_append] at N34
          clear F33 N33 hoff34
          iterate 6 (first | (k_unfold; (try dsimp only)) | (walk1 <;> (try dsimp only)))
          clear n1a n1b n1c n2a n2b n2c n3a n3b n3c hS7 hS8 hS9 hS10 
          iterate 21 (first | (k_unfold; (try dsimp only)) | (walk1 <;> (try dsimp only)))
          rename Fr _ _ _ _ => F36
          rename News _ _ _ _ => N36
          have pM : pres rowF m4 4 = rowsS m4 := by rw [pres_all okM, flt_M]
          have pO : pres rowF os 4 = flt (rowsS os) := pres_all hos
          rw [pM] at hP7 hP10
          rw [pO] at hP8 hP9
          rw [lost_is ho4] at hP5
          rw [over_is ho4] at hP6
          obtain ⟨q1, q2⟩ := sld_says x7 x8 hP7 hP8 (sorted_up hW5) (sorted_up hW6) hP5 hP6
          obtain ⟨r1, r2⟩ := sld_says x10 x9 hP10 hP9 (sorted_up hW5) (sorted_up hW6) hP5 hP6
          have hsw := sld_swap x10 x9
          have q3 : (sld y9 y10).1 = y6 := by rw [hsw]; exact r2
          have q4 : (sld y9 y10).2 = y5 := by rw [hsw]; exact r1
          have k1 : y5.all PyData.strOk = true := ok_perm hP5 (ok_filter (ok_rows _))
          have k2 : y6.all PyData.strOk = true := ok_perm hP6 (ok_filter (ok_flt _))
          refine eq_pairs (s := ⟨_, _, _, _, _⟩) (reads_two (N36 _ (.tail _ (.tail _ (.tail _ (.head _))))).1 rfl rfl (reads_twoT (N36 _ (.tail _ (.tail _ (.tail _ (.tail _ (.tail _ (.tail _ (.tail _ (.tail _ (.tail _ (.head _))))))))))).1 rfl rfl (reads_strs (N36 _ (.tail _ (.tail _ (.tail _ (.tail _ (.tail _ (.tail _ (.tail _ (.tail _ (.tail _ (.tail _ (.tail _ (.head _))))))))))))).1 rfl rfl hM1) (reads_strs (N36 _ (.tail _ (.tail _ (.tail _ (.tail _ (.tail _ (.tail _ (.tail _ (.tail _ (.tail _ (.tail _ (.head _)))))))))))).1 rfl rfl hU1)) (reads_twoT (N36 _ (.tail _ (.tail _ (.tail _ (.tail _ (.head _)))))).1 rfl rfl (reads_strs (N36 _ (.tail _ (.tail _ (.tail _ (.tail _ (.tail _ (.tail _ (.head _)))))))).1 rfl rfl hM2) (reads_strs (N36 _ (.tail _ (.tail _ (.tail _ (.tail _ (.tail _ (.head _))))))).1 rfl rfl hU2)))
            (reads_two (N36 _ (.head _)).1 rfl rfl (reads_twoT (N36 _ (.tail _ (.tail _ (.head _)))).1 rfl rfl (reads_strs (N36 _ (.tail _ (.tail _ (.tail _ (.tail _ (.tail _ (.tail _ (.tail _ (.tail _ (.tail _ (.tail _ (.tail _ (.tail _ (.tail _ (.tail _ (.tail _ (.head _))))))))))))))))).1 rfl rfl hS5) (reads_strs (N36 _ (.tail _ (.tail _ (.tail _ (.tail _ (.tail _ (.tail _ (.tail _ (.tail _ (.tail _ (.tail _ (.tail _ (.tail _ (.tail _ (.tail _ (.head _)))))))))))))))).1 rfl rfl hS6)) (reads_twoT (N36 _ (.tail _ (.head _))).1 rfl rfl (reads_strs (N36 _ (.tail _ (.tail _ (.tail _ (.tail _ (.tail _ (.tail _ (.tail _ (.tail _ (.tail _ (.tail _ (.tail _ (.tail _ (.tail _ (.tail _ (.head _)))))))))))))))).1 rfl rfl hS6) (reads_strs (N36 _ (.tail _ (.tail _ (.tail _ (.tail _ (.tail _ (.tail _ (.tail _ (.tail _ (.tail _ (.tail _ (.tail _ (.tail _ (.tail _ (.tail _ (.tail _ (.head _))))))))))))))))).1 rfl rfl hS5))) (q1 ▸ k1) (q2 ▸ k2) (q3 ▸ k2) (q4 ▸ k1) q1 q2 q3 q4 (by ke_room) ?_
          exact ⟨rfl, _, _, rfl, F36.keep⟩
  · obtain ⟨rfl, h', tk', rfl, hk⟩ := h
    exact ⟨.inl ⟨.bool true, .bool true, [], rfl, fun _ => rfl, .bool _, by first | (with_unfolding_all rfl) | decide | (simp; trace_state; done), fun _ => ⟨.nil, fun _ h => nomatch h⟩⟩, hk, rfl, hg⟩
end Mine
end PartW2

theorem PySem.Challenge.cw_oy0131_01_holds : PySem.Challenge.rw_oy0131_01.Holds :=
  Mine.law_holds
